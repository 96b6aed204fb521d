/- Proved: functions of the program compute what the printed functions say, wherever these say something. -/
import Derived.Test.YtohpmbodfpjjmaaPSegD
import Derived.Test.YtohpmbodfpjjmaaVmDraw4
import Derived.Test.YtohpmbodfpjjmaaVmNaN
import Derived.Test.YtohpmbodfpjjmaaFltDy
import Derived.Test.YtohpmbodfpjjmaaFltMin
import Derived.Test.YtohpmbodfpjjmaaVmFin
import Derived.Test.YtohpmbodfpjjmaaProg
namespace Go.Proofs.Ytohpmbodfpjjmaa.Wk
open Go.Vm
set_option linter.unusedVariables false
set_option linter.unusedSimpArgs false
theorem agg106 : aggT Try.prog 106 = some false := by kernel_rfl
theorem agg22 : aggT Try.prog 22 = some false := by kernel_rfl
theorem agg24 : aggT Try.prog 24 = some true := by kernel_rfl
theorem agg28 : aggT Try.prog 28 = some false := by kernel_rfl
theorem agg3 : aggT Try.prog 3 = some false := by kernel_rfl
theorem agg30 : aggT Try.prog 30 = some true := by kernel_rfl
theorem agg32 : aggT Try.prog 32 = some true := by kernel_rfl
theorem agg37 : aggT Try.prog 37 = some true := by kernel_rfl
theorem agg4 : aggT Try.prog 4 = some false := by kernel_rfl
theorem el28 : elemT Try.prog 28 = some (106, 1) := by kernel_rfl
theorem el61 : elemT Try.prog 61 = some (22, 1) := by kernel_rfl
theorem el62 : elemT Try.prog 62 = some (24, 2) := by kernel_rfl
theorem el79 : elemT Try.prog 79 = some (22, 1) := by kernel_rfl
theorem fo24_0 : fieldOff Try.prog 24 0 = some 0 := by kernel_rfl
theorem fo24_1 : fieldOff Try.prog 24 1 = some 1 := by kernel_rfl
theorem fo30_0 : fieldOff Try.prog 30 0 = some 0 := by kernel_rfl
theorem fo30_1 : fieldOff Try.prog 30 1 = some 1 := by kernel_rfl
theorem fo32_0 : fieldOff Try.prog 32 0 = some 0 := by kernel_rfl
theorem fo32_1 : fieldOff Try.prog 32 1 = some 2 := by kernel_rfl
theorem fo34_0 : fieldOff Try.prog 34 0 = some 0 := by kernel_rfl
theorem fo34_1 : fieldOff Try.prog 34 1 = some 3 := by kernel_rfl
theorem fo37_0 : fieldOff Try.prog 37 0 = some 0 := by kernel_rfl
theorem fo37_1 : fieldOff Try.prog 37 1 = some 3 := by kernel_rfl
theorem info106 : (Try.prog.info? 106).map (fun i => (i.zero, i.size, i.bytes)) = some (some (.int .u32 0), 1, 4) := by kernel_rfl
theorem mixed : Try.prog.follows .mixedOrders = true := by kernel_rfl
def pl30 : Nat → Option (Nat × Nat) := fun i => ([(0, 1), (1, 1)] : List (Nat × Nat))[i]?
theorem places30 : placesT Try.prog 30 = some pl30 := by kernel_rfl
def pl32 : Nat → Option (Nat × Nat) := fun i => ([(0, 2), (2, 1)] : List (Nat × Nat))[i]?
theorem places32 : placesT Try.prog 32 = some pl32 := by kernel_rfl
def pl34 : Nat → Option (Nat × Nat) := fun i => ([(0, 3), (3, 3)] : List (Nat × Nat))[i]?
theorem places34 : placesT Try.prog 34 = some pl34 := by kernel_rfl
def pl37 : Nat → Option (Nat × Nat) := fun i => ([(0, 3), (3, 3)] : List (Nat × Nat))[i]?
theorem places37 : placesT Try.prog 37 = some pl37 := by kernel_rfl
theorem size106 : sizeT Try.prog 106 = some 1 := by kernel_rfl
theorem size24 : sizeT Try.prog 24 = some 2 := by kernel_rfl
theorem size30 : sizeT Try.prog 30 = some 2 := by kernel_rfl
theorem size32 : sizeT Try.prog 32 = some 3 := by kernel_rfl
theorem size34 : sizeT Try.prog 34 = some 6 := by kernel_rfl
theorem size37 : sizeT Try.prog 37 = some 6 := by kernel_rfl
theorem zero106 : (Try.prog.info? 106).map (·.zero) = some (some (.int .u32 0)) := by kernel_rfl
theorem zero22 : (Try.prog.info? 22).map (·.zero) = some (some (.float .f64 0)) := by kernel_rfl
theorem zero24 : (Try.prog.info? 24).map (·.zero) = some (some (.agg #[.float .f64 0, .float .f64 0])) := by kernel_rfl
theorem zero30 : (Try.prog.info? 30).map (·.zero) = some (some (.agg #[.bool false, .slice none 0 0])) := by kernel_rfl
theorem zero32 : (Try.prog.info? 32).map (·.zero) = some (some (.agg #[.bool false, .slice none 0 0, .int .i64 0])) := by kernel_rfl
theorem zero34 : (Try.prog.info? 34).map (·.zero) = some (some (.agg #[.bool false, .slice none 0 0, .int .i64 0, .bool false, .slice none 0 0, .int .i64 0])) := by kernel_rfl
theorem zero37 : (Try.prog.info? 37).map (·.zero) = some (some (.agg #[.bool false, .slice none 0 0, .int .i64 0, .bool false, .slice none 0 0, .int .i64 0])) := by kernel_rfl
open Flt (truncD okF inR K20)
def notNan (x : Nat) : Prop := (FloatKind.f64.decode x).isNaN = false
def truncS (x : Nat) (d : Ieee.Datum) : Sem Value :=
  match d with
  | .nan s t =>
    if FloatKind.f64.format.quiet t = t then pure (.float .f64 x) else do
      let kept ← choose (.extern "math.Floor,Ceil,Trunc,RoundToEven.signallingNaN kept" 2)
      pure (.float .f64 (if kept == 1 then x else FloatKind.f64.encode (.nan s (FloatKind.f64.format.quiet t))))
  | d => pure (.float .f64 (FloatKind.f64.encode (d.integral .zero)))
theorem run_trunc (P : Program) (x : Nat) (h : notNan x) (w : World) : (Extern.MathFloor.toIntegral "math.archTrunc" .zero #[.float .f64 x]).run P w = .ok (.float .f64 (truncD x)) w := by
  unfold notNan at h
  have e : Extern.MathFloor.toIntegral "math.archTrunc" .zero #[.float .f64 x] = truncS x (FloatKind.f64.decode x) := rfl
  have e2 : ∀ d : Ieee.Datum, d.isNaN = false → truncS x d = pure (.float .f64 (FloatKind.f64.encode (d.integral .zero))) := by
    intro d hd
    cases d with
    | nan s t => cases hd
    | number s m e => rfl
    | infinity s => rfl
  rw [e, e2 _ h]
  rfl

theorem callTrunc (x : Nat) (h : notNan x) (w : World) : (callFunc 87 #[.float .f64 x]).run Try.prog w = .ok (.value (.float .f64 (truncD x))) w := by
  rw [run_callFunc_extern Try.func87 (by kernel_rfl) (by kernel_rfl) (by kernel_rfl) (e := Extern.MathFloor.toIntegral "math.archTrunc" .zero) (by kernel_rfl), run_trunc Try.prog x h]
  rfl

theorem inR_nn (m x : Nat) (h : fle x m = true) : notNan x := by
  unfold fle at h
  unfold notNan
  unfold Ieee.Format.order at h
  show (Ieee.double.read x).isNaN = false
  generalize Ieee.double.read x = d at *
  cases d with
  | nan s t => simp [Ieee.Datum.order] at h
  | number s m e => rfl
  | infinity s => rfl

set_option maxRecDepth 100000 in
/-- math.Trunc -/
theorem trunc (x : Nat) (h : notNan x) : FnD Try.prog 70 [dfl x] (fun r => r = dfl (truncD x)) := by
  refine FnD.of (by kernel_rfl) Try.func70 rfl Try.ntmps70 rfl (leb rfl) fun W ok => ?_
  refine AC.seq ?_
  refine AC.region ?_
  refine AO.op rfl (AOp.assign rfl rfl (ltb rfl) rfl ?_)
  refine AO.nil ?_
  change AC _ _ _ _
  refine AC.seq ?_
  refine AC.condT rfl rfl ?_
  refine AC.seq ?_
  refine AC.region ?_
  refine AO.op rfl (AOp.move rfl rfl (ltb rfl) rfl ?_)
  refine AO.op rfl (AOp.callX [.float .f64 x] rfl rfl (ltb rfl) rfl (callTrunc x h) ?_)
  refine AO.op rfl (AOp.assign rfl rfl (ltb rfl) rfl ?_)
  refine AO.nil ?_
  change AC _ _ _ _
  refine AC.ret ?_
  change RetQ _ _ _ .ret _
  refine retq rfl ?_
  exact rfl

theorem notNan_of {x : Nat} (h : Flt.isNan x = false) : notNan x := h
theorem callTruncA (x : Nat) (h : Flt.isNan x = true) (w : World) : ∃ r w', (callFunc 87 #[.float .f64 x]).run Try.prog w = .ok (.value r) w' ∧ (w' = w ∨ w' = w.drew) ∧ ∃ z, r = .float .f64 z ∧ Flt.isNan z = true := by
  obtain ⟨r, w', h1, h2, h3⟩ := Flt.run_truncA Try.prog x h w
  refine ⟨r, w', ?_, h2, h3⟩
  rw [run_callFunc_extern Try.func87 (by kernel_rfl) (by kernel_rfl) (by kernel_rfl) (e := Extern.MathFloor.toIntegral "math.archTrunc" .zero) (by kernel_rfl), h1]
  rfl
set_option maxRecDepth 100000 in
theorem truncNN (x : Nat) (h : Flt.isNan x = true) : FnD Try.prog 70 [dfl x] (fun r => ∃ z, r = dfl z ∧ Flt.isNan z = true) := by
  refine FnD.of (by kernel_rfl) Try.func70 rfl Try.ntmps70 rfl (leb rfl) fun W ok => ?_
  refine AC.seq ?_
  refine AC.region ?_
  refine AO.op rfl (AOp.assign rfl rfl (ltb rfl) rfl ?_)
  refine AO.nil ?_
  change AC _ _ _ _
  refine AC.seq ?_
  refine AC.condT rfl rfl ?_
  refine AC.seq ?_
  refine AC.region ?_
  refine AO.op rfl (AOp.move rfl rfl (ltb rfl) rfl ?_)
  refine AO.op rfl (AOp.callXA [.float .f64 x] rfl rfl (ltb rfl) rfl (callTruncA x h) ?_)
  rintro _ ⟨z, rfl, hz⟩
  refine AO.op rfl (AOp.assign rfl rfl (ltb rfl) rfl ?_)
  refine AO.nil ?_
  change AC _ _ _ _
  refine AC.ret ?_
  change RetQ _ _ _ .ret _
  refine retq rfl ?_
  exact ⟨z, rfl, hz⟩

theorem truncA (x : Nat) : FnD Try.prog 70 [dfl x] (fun r => ∃ z, r = dfl z ∧ Flt.TruncR x z) := by
  cases h : Flt.isNan x with
  | false => exact (trunc x h).mono fun r hr => ⟨_, hr, fun _ => rfl, fun h2 => by rw [h] at h2; cases h2⟩
  | true => exact (truncNN x h).mono fun r ⟨z, h1, h2⟩ => ⟨z, h1, fun h3 => by (rw [h] at h3; cases h3), fun _ => h2⟩

theorem callBitsA (x : Nat) (w : World) : (callFunc 71 #[.float .f64 x]).run Try.prog w = .ok (.value (.int .u64 x)) w := by
  rw [run_callFunc_extern Try.func71 (by kernel_rfl) (by kernel_rfl) (by kernel_rfl) (e := Extern.MathFloatBits.float64bits) (by kernel_rfl), run_f64bits Try.prog x]
  rfl
theorem callFromBitsA (x : Nat) (w : World) : (callFunc 76 #[.int .u64 x]).run Try.prog w = .ok (.value (.float .f64 x)) w := by
  rw [run_callFunc_extern Try.func76 (by kernel_rfl) (by kernel_rfl) (by kernel_rfl) (e := Extern.MathFloatBits.float64frombits) (by kernel_rfl), run_f64frombits Try.prog x]
  rfl

set_option maxRecDepth 100000 in
/-- math.Abs -/
theorem mathAbs (x : Nat) : FnD Try.prog 47 [dfl x] (fun r => r = dfl (Flt.fabs x)) := by
  refine FnD.of (by kernel_rfl) Try.func47 rfl Try.ntmps47 rfl (leb rfl) fun W ok => ?_
  refine AC.seq ?_
  refine AC.region ?_
  refine AO.op rfl (AOp.assign rfl rfl (ltb rfl) rfl ?_)
  refine AO.nil ?_
  change AC _ _ _ _
  refine AC.seq ?_
  refine AC.region ?_
  refine AO.op rfl (AOp.move rfl rfl (ltb rfl) rfl ?_)
  refine AO.op rfl (AOp.callX [.float .f64 x] rfl rfl (ltb rfl) rfl (callBitsA x) ?_)
  refine AO.op rfl (AOp.ibits (by simp) rfl rfl (ltb rfl) rfl rfl (andNot_abs x) ?_)
  refine AO.op rfl (AOp.callX [.int .u64 ((Flt.fabs x : Nat) : Int)] rfl rfl (ltb rfl) rfl (callFromBitsA _) ?_)
  refine AO.op rfl (AOp.assign rfl rfl (ltb rfl) rfl ?_)
  refine AO.nil ?_
  change AC _ _ _ _
  refine AC.ret ?_
  change RetQ _ _ _ .ret _
  refine retq rfl ?_
  exact rfl

set_option maxRecDepth 100000 in
set_option maxHeartbeats 1000000 in
/-- pub-orthodrome/laws.wholeTo -/
theorem w_wholeTo (F : Nat) (a0 : Nat) (a1 : (List Nat)) (r0 : Bool) (h0 : p_wholeTo F a0 a1 = some r0) : FnD Try.prog 34 [dfl a0, eS1 a1] (fun r => r = dbool r0) := by
  refine FnD.of (by kernel_rfl) Try.func34 rfl Try.ntmps34 rfl (leb rfl) fun W ok => ?_
  unfold p_wholeTo at h0
  refine AC.seq ?_
  refine AC.region ?_
  refine AO.op rfl (AOp.assign rfl rfl (ltb rfl) rfl ?_)
  refine AO.nil ?_
  change AC _ _ _ _
  refine AC.seq ?_
  refine AC.seq ?_
  refine AC.region ?_
  refine AO.op rfl (AOp.move rfl rfl (ltb rfl) rfl ?_)
  refine AO.op rfl (AOp.lenDs (n := a1.length) (cells := (List.map keS1 a1)) rfl rfl (ltb rfl) rfl el61 (by decide) (len1 _ _) ?_)
  refine AO.op rfl (AOp.move rfl rfl (ltb rfl) rfl ?_)
  refine AO.nil ?_
  change AC _ _ _ _
  obtain ⟨o1, l2, h0⟩ := bind_elim h0
  refine AC.joinE (V := Unit) [] [] 0 (fun g3 => []) (fun g3 => []) (fun g3 => p_wholeTo_k1 g3 = some r0) rfl ?_ ?_
  · refine AC.block ?_
    refine AC.loopP (V := Int) (p_wholeTo_l2 a0 a1) o1 [0, 7, 8] [9] 0 (fun g4 => [(9, .d (di .i64 g4))]) (fun g4 => []) F (0 : Int) l2 rfl rfl (LeL.refl _) rfl rfl ?_
    intro n6 g4 h1
    unfold p_wholeTo_l2 at h1
    refine AC.seq ?_
    refine AC.region ?_
    refine AO.op rfl (AOp.ilss rfl rfl (ltb rfl) rfl rfl ?_)
    refine AO.nil ?_
    change AC _ _ _ _
    refine AC.seq ?_
    refine AC.cond rfl (fun q7 => ?_) (fun q7 => ?_)
    · replace h1 := cT h1 q7
      refine AC.skip ?_
      change AC _ _ _ _
      refine AC.seq ?_
      refine AC.block ?_
      refine AC.seq ?_
      refine AC.region ?_
      obtain ⟨x8, q9, h1⟩ := idx_elim h1
      refine AO.op rfl (AOp.indexDs (cells := (List.map keS1 a1)) rfl rfl (ltb rfl) rfl rfl el61 (by decide) q9.1 (lt1 q9.2) ?_)
      refine AO.op rfl (AOp.loadEp rfl rfl (ltb rfl) rfl agg22 (at1 q9.2) ?_)
      refine AO.op rfl (AOp.assign rfl rfl (ltb rfl) rfl ?_)
      refine AO.nil ?_
      change AC _ _ _ _
      refine AC.seq ?_
      refine AC.region ?_
      refine AO.op rfl (AOp.move rfl rfl (ltb rfl) rfl ?_)
      refine AO.op rfl (AOp.move rfl rfl (ltb rfl) rfl ?_)
      refine AO.op rfl (AOp.callD rfl rfl (ltb rfl) rfl rfl (truncA x8) ?_)
      rintro _ ⟨z10, rfl, hz11⟩
      refine AO.op rfl (AOp.fneq rfl rfl (ltb rfl) rfl rfl ?_)
      rw [hz11.feq]
      refine AO.op rfl (AOp.move rfl rfl (ltb rfl) rfl ?_)
      refine AO.dec (!feq x8 (Flt.truncN x8)) (fun q12 => ?_) (fun q12 => ?_)
      · replace h1 := cT h1 q12
        refine AO.guardN rfl rfl rfl (ltb rfl) rfl q12 ?_
        refine AO.guardN rfl rfl rfl (ltb rfl) rfl q12 ?_
        refine AO.guardN rfl rfl rfl (ltb rfl) rfl q12 ?_
        refine AO.guardN rfl rfl rfl (ltb rfl) rfl q12 ?_
        refine AO.op rfl (AOp.pick rfl rfl (ltb rfl) rfl q12 rfl ?_)
        refine AO.nil ?_
        change AC _ _ _ _
        refine AC.condT rfl rfl ?_
        refine AC.seq ?_
        refine AC.region ?_
        refine AO.op rfl (AOp.assign rfl rfl (ltb rfl) rfl ?_)
        refine AO.nil ?_
        change AC _ _ _ _
        refine AC.ret ?_
        change RetQ _ _ _ .ret _
        obtain rfl := Option.some.inj h1
        replace h0 := aftR h0
        obtain rfl := Option.some.inj h0
        refine retq rfl rfl
      · replace h1 := cF h1 q12
        refine AO.guardY rfl rfl rfl q12 (AOp.move rfl rfl (ltb rfl) rfl ?_)
        refine AO.guardY rfl rfl rfl q12 (AOp.callD rfl rfl (ltb rfl) rfl rfl (mathAbs x8) ?_)
        rintro _ rfl
        refine AO.guardY rfl rfl rfl q12 (AOp.move rfl rfl (ltb rfl) rfl ?_)
        refine AO.guardY rfl rfl rfl q12 (AOp.fgtr rfl rfl (ltb rfl) rfl rfl ?_)
        refine AO.op rfl (AOp.pickN rfl rfl (ltb rfl) rfl q12 rfl ?_)
        refine AO.nil ?_
        change AC _ _ _ _
        refine AC.cond rfl (fun q13 => ?_) (fun q13 => ?_)
        · replace h1 := cT h1 q13
          refine AC.seq ?_
          refine AC.region ?_
          refine AO.op rfl (AOp.assign rfl rfl (ltb rfl) rfl ?_)
          refine AO.nil ?_
          change AC _ _ _ _
          refine AC.ret ?_
          change RetQ _ _ _ .ret _
          obtain rfl := Option.some.inj h1
          replace h0 := aftR h0
          obtain rfl := Option.some.inj h0
          refine retq rfl rfl
        · replace h1 := cF h1 q13
          refine AC.skip ?_
          change AC _ _ _ _
          refine AC.region ?_
          obtain ⟨q14, h1⟩ := need_elim h1
          refine AO.op rfl (AOp.iadd rfl rfl (ltb rfl) rfl rfl rfl q14.1 q14.2 ?_)
          refine AO.op rfl (AOp.move rfl rfl (ltb rfl) rfl ?_)
          refine AO.nil ?_
          exact ⟨(g4 + (1 : Int)), _, rfl, (LeL.refl _), rfl, rfl, h1⟩
    · replace h1 := cF h1 q7
      refine AC.exit ?_
      obtain rfl := Option.some.inj h1
      exact ⟨(), _, rfl, (LeL.refl _), rfl, rfl, aftL h0⟩
  · intro g3 h0
    unfold p_wholeTo_k1 at h0
    change AC _ _ _ _
    refine AC.seq ?_
    refine AC.region ?_
    refine AO.op rfl (AOp.assign rfl rfl (ltb rfl) rfl ?_)
    refine AO.nil ?_
    change AC _ _ _ _
    refine AC.ret ?_
    change RetQ _ _ _ .ret _
    obtain rfl := Option.some.inj h0
    refine retq rfl rfl

set_option maxRecDepth 100000 in
set_option maxHeartbeats 1000000 in
/-- pub-orthodrome/laws.planeTo -/
theorem w_planeTo (F : Nat) (a0 : Nat) (a1 : (List TImpl_P2)) (r0 : Bool) (h0 : p_planeTo F a0 a1 = some r0) : FnD Try.prog 8 [dfl a0, eS0 a1] (fun r => r = dbool r0) := by
  refine FnD.of (by kernel_rfl) Try.func8 rfl Try.ntmps8 rfl (leb rfl) fun W ok => ?_
  unfold p_planeTo at h0
  refine AC.seq ?_
  refine AC.region ?_
  refine AO.op rfl (AOp.assign rfl rfl (ltb rfl) rfl ?_)
  refine AO.nil ?_
  change AC _ _ _ _
  refine AC.seq ?_
  refine AC.seq ?_
  refine AC.region ?_
  refine AO.op rfl (AOp.move rfl rfl (ltb rfl) rfl ?_)
  refine AO.op rfl (AOp.lenDs (n := a1.length) (cells := (List.flatMap c_TImpl_P2 a1)) rfl rfl (ltb rfl) rfl el62 (by decide) (lenN _ 2 (fun _ => rfl) _) ?_)
  refine AO.op rfl (AOp.move rfl rfl (ltb rfl) rfl ?_)
  refine AO.nil ?_
  change AC _ _ _ _
  obtain ⟨o1, l2, h0⟩ := bind_elim h0
  refine AC.joinE (V := Unit) [] [] 0 (fun g3 => []) (fun g3 => []) (fun g3 => p_planeTo_k1 g3 = some r0) rfl ?_ ?_
  · refine AC.block ?_
    refine AC.loopP (V := Int) (p_planeTo_l2 a0 a1 F) o1 [0, 7, 8] [9] 0 (fun g4 => [(9, .d (di .i64 g4))]) (fun g4 => []) F (0 : Int) l2 rfl rfl (LeL.refl _) rfl rfl ?_
    intro n6 g4 h1
    unfold p_planeTo_l2 at h1
    refine AC.seq ?_
    refine AC.region ?_
    refine AO.op rfl (AOp.ilss rfl rfl (ltb rfl) rfl rfl ?_)
    refine AO.nil ?_
    change AC _ _ _ _
    refine AC.seq ?_
    refine AC.cond rfl (fun q7 => ?_) (fun q7 => ?_)
    · replace h1 := cT h1 q7
      refine AC.skip ?_
      change AC _ _ _ _
      refine AC.seq ?_
      refine AC.block ?_
      refine AC.seq ?_
      refine AC.region ?_
      obtain ⟨x8, q9, h1⟩ := idx_elim h1
      refine AO.op rfl (AOp.indexDs (cells := (List.flatMap c_TImpl_P2 a1)) rfl rfl (ltb rfl) rfl rfl el62 (by decide) q9.1 (ltN 2 (fun _ => rfl) (by decide) q9.2) ?_)
      refine AO.op rfl (AOp.loadEpN rfl rfl (ltb rfl) rfl agg24 size24 (leN 2 (fun _ => rfl) q9.2) (atN 2 (fun _ => rfl) q9.2) ?_)
      refine AO.op rfl (AOp.alloc rfl rfl (ltb rfl) zero24 rfl ?_)
      refine AO.op rfl (AOp.store rfl rfl rfl rfl size24 rfl rfl rfl (leb rfl) ?_)
      refine AO.nil ?_
      change AC _ _ _ _
      refine AC.seq ?_
      refine AC.region ?_
      refine AO.op rfl (AOp.move rfl rfl (ltb rfl) rfl ?_)
      refine AO.op rfl (AOp.fieldAddr rfl rfl (ltb rfl) rfl fo24_0 ?_)
      refine AO.op rfl (AOp.load1 rfl rfl (ltb rfl) rfl agg22 rfl rfl ?_)
      refine AO.op rfl (AOp.fieldAddr rfl rfl (ltb rfl) rfl fo24_1 ?_)
      refine AO.op rfl (AOp.load1 rfl rfl (ltb rfl) rfl agg22 rfl rfl ?_)
      refine AO.op rfl (AOp.buildSliceD rfl rfl (ltb rfl) el61 zero22 rfl (leb rfl) rfl rfl rfl rfl ?_)
      obtain ⟨y10, q11, h1⟩ := bind_elim h1
      refine AO.op rfl (AOp.callD rfl rfl (ltb rfl) rfl rfl (w_wholeTo F a0 [x8.X, x8.Y] y10 q11) ?_)
      rintro _ rfl
      refine AO.op rfl (AOp.bnot rfl rfl (ltb rfl) rfl ?_)
      refine AO.nil ?_
      change AC _ _ _ _
      refine AC.cond rfl (fun q12 => ?_) (fun q12 => ?_)
      · replace h1 := cT h1 q12
        refine AC.seq ?_
        refine AC.region ?_
        refine AO.op rfl (AOp.assign rfl rfl (ltb rfl) rfl ?_)
        refine AO.nil ?_
        change AC _ _ _ _
        refine AC.ret ?_
        change RetQ _ _ _ .ret _
        obtain rfl := Option.some.inj h1
        replace h0 := aftR h0
        obtain rfl := Option.some.inj h0
        refine retq rfl rfl
      · replace h1 := cF h1 q12
        refine AC.skip ?_
        change AC _ _ _ _
        refine AC.region ?_
        obtain ⟨q13, h1⟩ := need_elim h1
        refine AO.op rfl (AOp.iadd rfl rfl (ltb rfl) rfl rfl rfl q13.1 q13.2 ?_)
        refine AO.op rfl (AOp.move rfl rfl (ltb rfl) rfl ?_)
        refine AO.nil ?_
        exact ⟨(g4 + (1 : Int)), _, rfl, (LeL.refl _), rfl, rfl, h1⟩
    · replace h1 := cF h1 q7
      refine AC.exit ?_
      obtain rfl := Option.some.inj h1
      exact ⟨(), _, rfl, (LeL.refl _), rfl, rfl, aftL h0⟩
  · intro g3 h0
    unfold p_planeTo_k1 at h0
    change AC _ _ _ _
    refine AC.seq ?_
    refine AC.region ?_
    refine AO.op rfl (AOp.assign rfl rfl (ltb rfl) rfl ?_)
    refine AO.nil ?_
    change AC _ _ _ _
    refine AC.ret ?_
    change RetQ _ _ _ .ret _
    obtain rfl := Option.some.inj h0
    refine retq rfl rfl

set_option maxRecDepth 100000 in
set_option maxHeartbeats 1000000 in
/-- pub-orthodrome/impl.coord -/
theorem w_coord (a0 : TImpl_P2) (r0 : (List Nat)) (h0 : p_coord a0 = some r0) : FnD Try.prog 42 [e_TImpl_P2 a0] (fun r => r = eS1 r0) := by
  refine FnD.of (by kernel_rfl) Try.func42 rfl Try.ntmps42 rfl (leb rfl) fun W ok => ?_
  unfold p_coord at h0
  refine AC.seq ?_
  refine AC.region ?_
  refine AO.op rfl (AOp.box rfl rfl (ltb rfl) rfl rfl ?_)
  refine AO.op rfl (AOp.assign rfl rfl (ltb rfl) rfl ?_)
  refine AO.nil ?_
  change AC _ _ _ _
  refine AC.seq ?_
  refine AC.region ?_
  refine AO.op rfl (AOp.fieldAddr rfl rfl (ltb rfl) rfl fo24_0 ?_)
  refine AO.op rfl (AOp.load1 rfl rfl (ltb rfl) rfl agg22 rfl rfl ?_)
  refine AO.op rfl (AOp.fieldAddr rfl rfl (ltb rfl) rfl fo24_1 ?_)
  refine AO.op rfl (AOp.load1 rfl rfl (ltb rfl) rfl agg22 rfl rfl ?_)
  refine AO.op rfl (AOp.buildSliceD rfl rfl (ltb rfl) el79 zero22 rfl (leb rfl) rfl rfl rfl rfl ?_)
  refine AO.op rfl (AOp.assign rfl rfl (ltb rfl) rfl ?_)
  refine AO.nil ?_
  change AC _ _ _ _
  refine AC.ret ?_
  change RetQ _ _ _ .ret _
  obtain rfl := Option.some.inj h0
  refine retq rfl rfl

set_option maxRecDepth 100000 in
set_option maxHeartbeats 1000000 in
/-- pub-orthodrome/pub/gogeom/xy.distanceFromSegmentSquared -/
theorem w_distanceFromSegmentSquared (a0 : (List Nat)) (a1 : (List Nat)) (a2 : (List Nat)) (r0 : Nat) (h0 : p_distanceFromSegmentSquared a0 a1 a2 = some r0) : FnD Try.prog 74 [eS1 a0, eS1 a1, eS1 a2] (fun r => r = dfl r0) := by
  refine FnD.of (by kernel_rfl) Try.func74 rfl Try.ntmps74 rfl (leb rfl) fun W ok => ?_
  unfold p_distanceFromSegmentSquared at h0
  refine AC.seq ?_
  refine AC.region ?_
  refine AO.op rfl (AOp.assign rfl rfl (ltb rfl) rfl ?_)
  refine AO.nil ?_
  change AC _ _ _ _
  refine AC.seq ?_
  refine AC.region ?_
  refine AO.op rfl (AOp.move rfl rfl (ltb rfl) rfl ?_)
  obtain ⟨x1, q2, h0⟩ := idx_elim h0
  refine AO.op rfl (AOp.indexDs (cells := (List.map keS1 a0)) rfl rfl (ltb rfl) rfl rfl el61 (by decide) q2.1 (lt1 q2.2) ?_)
  refine AO.op rfl (AOp.loadEp rfl rfl (ltb rfl) rfl agg22 (at1 q2.2) ?_)
  refine AO.op rfl (AOp.assign rfl rfl (ltb rfl) rfl ?_)
  refine AO.nil ?_
  change AC _ _ _ _
  refine AC.seq ?_
  refine AC.region ?_
  refine AO.op rfl (AOp.move rfl rfl (ltb rfl) rfl ?_)
  obtain ⟨x3, q4, h0⟩ := idx_elim h0
  refine AO.op rfl (AOp.indexDs (cells := (List.map keS1 a0)) rfl rfl (ltb rfl) rfl rfl el61 (by decide) q4.1 (lt1 q4.2) ?_)
  refine AO.op rfl (AOp.loadEp rfl rfl (ltb rfl) rfl agg22 (at1 q4.2) ?_)
  refine AO.op rfl (AOp.assign rfl rfl (ltb rfl) rfl ?_)
  refine AO.nil ?_
  change AC _ _ _ _
  refine AC.seq ?_
  refine AC.region ?_
  refine AO.op rfl (AOp.move rfl rfl (ltb rfl) rfl ?_)
  obtain ⟨x5, q6, h0⟩ := idx_elim h0
  refine AO.op rfl (AOp.indexDs (cells := (List.map keS1 a1)) rfl rfl (ltb rfl) rfl rfl el61 (by decide) q6.1 (lt1 q6.2) ?_)
  refine AO.op rfl (AOp.loadEp rfl rfl (ltb rfl) rfl agg22 (at1 q6.2) ?_)
  refine AO.op rfl (AOp.move rfl rfl (ltb rfl) rfl ?_)
  obtain ⟨z7, q8, h0⟩ := bind_elim h0
  refine AO.op rfl (AOp.farith rfl rfl (ltb rfl) rfl rfl q8 ?_)
  refine AO.op rfl (AOp.assign rfl rfl (ltb rfl) rfl ?_)
  refine AO.nil ?_
  change AC _ _ _ _
  refine AC.seq ?_
  refine AC.region ?_
  refine AO.op rfl (AOp.move rfl rfl (ltb rfl) rfl ?_)
  obtain ⟨x9, q10, h0⟩ := idx_elim h0
  refine AO.op rfl (AOp.indexDs (cells := (List.map keS1 a1)) rfl rfl (ltb rfl) rfl rfl el61 (by decide) q10.1 (lt1 q10.2) ?_)
  refine AO.op rfl (AOp.loadEp rfl rfl (ltb rfl) rfl agg22 (at1 q10.2) ?_)
  refine AO.op rfl (AOp.move rfl rfl (ltb rfl) rfl ?_)
  obtain ⟨z11, q12, h0⟩ := bind_elim h0
  refine AO.op rfl (AOp.farith rfl rfl (ltb rfl) rfl rfl q12 ?_)
  refine AO.op rfl (AOp.assign rfl rfl (ltb rfl) rfl ?_)
  refine AO.nil ?_
  change AC _ _ _ _
  refine AC.joinP (V := (Nat × Nat)) [2] [7, 8] 0 (fun g13 => [(7, .d (dfl g13.1)), (8, .d (dfl g13.2))]) (fun g13 => []) (fun g13 => (p_distanceFromSegmentSquared_k1 a2) g13 = some r0) rfl ?_ ?_
  · refine AC.joinP (V := Bool) [1, 2, 7, 8, 9, 10] [33] 0 (fun g28 => [(33, .d (dbool g28))]) (fun g28 => []) (fun g28 => (p_distanceFromSegmentSquared_k2 a1 a2 x1 x3 z7 z11) g28 = some r0) rfl ?_ ?_
    · refine AC.region ?_
      refine AO.op rfl (AOp.move rfl rfl (ltb rfl) rfl ?_)
      refine AO.op rfl (AOp.fneq rfl rfl (ltb rfl) rfl rfl ?_)
      refine AO.op rfl (AOp.move rfl rfl (ltb rfl) rfl ?_)
      refine AO.dec (!feq z7 (0 : Nat)) (fun q66 => ?_) (fun q66 => ?_)
      · replace h0 := cT h0 q66
        refine AO.guardN rfl rfl rfl (ltb rfl) rfl q66 ?_
        refine AO.guardN rfl rfl rfl (ltb rfl) rfl q66 ?_
        refine AO.op rfl (AOp.pick rfl rfl (ltb rfl) rfl q66 rfl ?_)
        refine AO.nil ?_
        exact ⟨true, _, rfl, (LeL.refl _), rfl, rfl, h0⟩
      · replace h0 := cF h0 q66
        refine AO.guardY rfl rfl rfl q66 (AOp.move rfl rfl (ltb rfl) rfl ?_)
        refine AO.guardY rfl rfl rfl q66 (AOp.fneq rfl rfl (ltb rfl) rfl rfl ?_)
        refine AO.op rfl (AOp.pickN rfl rfl (ltb rfl) rfl q66 rfl ?_)
        refine AO.nil ?_
        exact ⟨(!feq z11 (0 : Nat)), _, rfl, (LeL.refl _), rfl, rfl, h0⟩
    · intro g28 h0
      unfold p_distanceFromSegmentSquared_k2 at h0
      refine AC.cond rfl (fun q29 => ?_) (fun q29 => ?_)
      · replace h0 := cT h0 q29
        refine AC.seq ?_
        refine AC.draw 24 mixed (by kernel_rfl) ?_
        refine AD.op [2] rfl (by kernel_rfl) rfl rfl (fun _ _ h => AOp.move rfl rfl (ltb rfl) rfl h) ?_
        obtain ⟨x30, q31, h0⟩ := idx_elim h0
        refine AD.op [34] rfl (by kernel_rfl) rfl rfl (fun _ _ h => AOp.indexDs (cells := (List.map keS1 a2)) rfl rfl (ltb rfl) rfl rfl el61 (by decide) q31.1 (lt1 q31.2) h) ?_
        refine AD.op [35] rfl (by kernel_rfl) rfl rfl (fun _ _ h => AOp.loadEp rfl rfl (ltb rfl) rfl agg22 (at1 q31.2) h) ?_
        refine AD.op [7] rfl (by kernel_rfl) rfl rfl (fun _ _ h => AOp.move rfl rfl (ltb rfl) rfl h) ?_
        obtain ⟨z32, q33, h0⟩ := bind_elim h0
        refine AD.op [36, 37] rfl (by kernel_rfl) rfl rfl (fun _ _ h => AOp.farith rfl rfl (ltb rfl) rfl rfl q33 h) ?_
        refine AD.op [9] rfl (by kernel_rfl) rfl rfl (fun _ _ h => AOp.move rfl rfl (ltb rfl) rfl h) ?_
        obtain ⟨z34, q35, h0⟩ := bind_elim h0
        refine AD.op [38, 39] rfl (by kernel_rfl) rfl rfl (fun _ _ h => AOp.farith rfl rfl (ltb rfl) rfl rfl q35 h) ?_
        refine AD.op [2] rfl (by kernel_rfl) rfl rfl (fun _ _ h => AOp.move rfl rfl (ltb rfl) rfl h) ?_
        obtain ⟨x36, q37, h0⟩ := idx_elim h0
        refine AD.op [41] rfl (by kernel_rfl) rfl rfl (fun _ _ h => AOp.indexDs (cells := (List.map keS1 a2)) rfl rfl (ltb rfl) rfl rfl el61 (by decide) q37.1 (lt1 q37.2) h) ?_
        refine AD.op [42] rfl (by kernel_rfl) rfl rfl (fun _ _ h => AOp.loadEp rfl rfl (ltb rfl) rfl agg22 (at1 q37.2) h) ?_
        refine AD.op [8] rfl (by kernel_rfl) rfl rfl (fun _ _ h => AOp.move rfl rfl (ltb rfl) rfl h) ?_
        obtain ⟨z38, q39, h0⟩ := bind_elim h0
        refine AD.op [43, 44] rfl (by kernel_rfl) rfl rfl (fun _ _ h => AOp.farith rfl rfl (ltb rfl) rfl rfl q39 h) ?_
        refine AD.op [10] rfl (by kernel_rfl) rfl rfl (fun _ _ h => AOp.move rfl rfl (ltb rfl) rfl h) ?_
        obtain ⟨z40, q41, h0⟩ := bind_elim h0
        refine AD.op [45, 46] rfl (by kernel_rfl) rfl rfl (fun _ _ h => AOp.farith rfl rfl (ltb rfl) rfl rfl q41 h) ?_
        obtain ⟨z42, q43, h0⟩ := bind_elim h0
        refine AD.op [40, 47] rfl (by kernel_rfl) rfl rfl (fun _ _ h => AOp.farith rfl rfl (ltb rfl) rfl rfl q43 h) ?_
        refine AD.op [9] rfl (by kernel_rfl) rfl rfl (fun _ _ h => AOp.move rfl rfl (ltb rfl) rfl h) ?_
        refine AD.op [9] rfl (by kernel_rfl) rfl rfl (fun _ _ h => AOp.move rfl rfl (ltb rfl) rfl h) ?_
        obtain ⟨z44, q45, h0⟩ := bind_elim h0
        refine AD.op [49, 50] rfl (by kernel_rfl) rfl rfl (fun _ _ h => AOp.farith rfl rfl (ltb rfl) rfl rfl q45 h) ?_
        refine AD.op [10] rfl (by kernel_rfl) rfl rfl (fun _ _ h => AOp.move rfl rfl (ltb rfl) rfl h) ?_
        refine AD.op [10] rfl (by kernel_rfl) rfl rfl (fun _ _ h => AOp.move rfl rfl (ltb rfl) rfl h) ?_
        obtain ⟨z46, q47, h0⟩ := bind_elim h0
        refine AD.op [52, 53] rfl (by kernel_rfl) rfl rfl (fun _ _ h => AOp.farith rfl rfl (ltb rfl) rfl rfl q47 h) ?_
        obtain ⟨z48, q49, h0⟩ := bind_elim h0
        refine AD.op [51, 54] rfl (by kernel_rfl) rfl rfl (fun _ _ h => AOp.farith rfl rfl (ltb rfl) rfl rfl q49 h) ?_
        obtain ⟨z50, q51, h0⟩ := bind_elim h0
        refine AD.op [48, 55] rfl (by kernel_rfl) rfl rfl (fun _ _ h => AOp.farith rfl rfl (ltb rfl) rfl rfl q51 h) ?_
        refine AD.op [56] rfl (by kernel_rfl) rfl rfl (fun _ _ h => AOp.assign rfl rfl (ltb rfl) rfl h) ?_
        refine AD.done ?_
        refine AO.nil ?_
        change AC _ _ _ _
        refine AC.seq ?_
        refine AC.region ?_
        refine AO.op rfl (AOp.move rfl rfl (ltb rfl) rfl ?_)
        refine AO.op rfl (AOp.fgtr rfl rfl (ltb rfl) rfl rfl ?_)
        refine AO.nil ?_
        change AC _ _ _ _
        refine AC.cond rfl (fun q52 => ?_) (fun q52 => ?_)
        · replace h0 := cT h0 q52
          refine AC.seq ?_
          refine AC.region ?_
          refine AO.op rfl (AOp.move rfl rfl (ltb rfl) rfl ?_)
          obtain ⟨x53, q54, h0⟩ := idx_elim h0
          refine AO.op rfl (AOp.indexDs (cells := (List.map keS1 a1)) rfl rfl (ltb rfl) rfl rfl el61 (by decide) q54.1 (lt1 q54.2) ?_)
          refine AO.op rfl (AOp.loadEp rfl rfl (ltb rfl) rfl agg22 (at1 q54.2) ?_)
          refine AO.op rfl (AOp.assign rfl rfl (ltb rfl) rfl ?_)
          refine AO.nil ?_
          change AC _ _ _ _
          refine AC.region ?_
          refine AO.op rfl (AOp.move rfl rfl (ltb rfl) rfl ?_)
          obtain ⟨x55, q56, h0⟩ := idx_elim h0
          refine AO.op rfl (AOp.indexDs (cells := (List.map keS1 a1)) rfl rfl (ltb rfl) rfl rfl el61 (by decide) q56.1 (lt1 q56.2) ?_)
          refine AO.op rfl (AOp.loadEp rfl rfl (ltb rfl) rfl agg22 (at1 q56.2) ?_)
          refine AO.op rfl (AOp.assign rfl rfl (ltb rfl) rfl ?_)
          refine AO.nil ?_
          exact ⟨(x53, x55), _, rfl, (LeL.refl _), rfl, rfl, h0⟩
        · replace h0 := cF h0 q52
          refine AC.seq ?_
          refine AC.region ?_
          refine AO.op rfl (AOp.move rfl rfl (ltb rfl) rfl ?_)
          refine AO.op rfl (AOp.fgtr rfl rfl (ltb rfl) rfl rfl ?_)
          refine AO.nil ?_
          change AC _ _ _ _
          refine AC.cond rfl (fun q57 => ?_) (fun q57 => ?_)
          · replace h0 := cT h0 q57
            refine AC.seq ?_
            refine AC.region ?_
            refine AO.op rfl (AOp.move rfl rfl (ltb rfl) rfl ?_)
            refine AO.op rfl (AOp.move rfl rfl (ltb rfl) rfl ?_)
            refine AO.op rfl (AOp.move rfl rfl (ltb rfl) rfl ?_)
            obtain ⟨z58, q59, h0⟩ := bind_elim h0
            refine AO.op rfl (AOp.farith rfl rfl (ltb rfl) rfl rfl q59 ?_)
            obtain ⟨z60, q61, h0⟩ := bind_elim h0
            refine AO.op rfl (AOp.farith rfl rfl (ltb rfl) rfl rfl q61 ?_)
            refine AO.op rfl (AOp.assign rfl rfl (ltb rfl) rfl ?_)
            refine AO.nil ?_
            change AC _ _ _ _
            refine AC.region ?_
            refine AO.op rfl (AOp.move rfl rfl (ltb rfl) rfl ?_)
            refine AO.op rfl (AOp.move rfl rfl (ltb rfl) rfl ?_)
            refine AO.op rfl (AOp.move rfl rfl (ltb rfl) rfl ?_)
            obtain ⟨z62, q63, h0⟩ := bind_elim h0
            refine AO.op rfl (AOp.farith rfl rfl (ltb rfl) rfl rfl q63 ?_)
            obtain ⟨z64, q65, h0⟩ := bind_elim h0
            refine AO.op rfl (AOp.farith rfl rfl (ltb rfl) rfl rfl q65 ?_)
            refine AO.op rfl (AOp.assign rfl rfl (ltb rfl) rfl ?_)
            refine AO.nil ?_
            exact ⟨(z60, z64), _, rfl, (LeL.refl _), rfl, rfl, h0⟩
          · replace h0 := cF h0 q57
            refine AC.skip ?_
            exact ⟨(x1, x3), _, rfl, (LeL.refl _), rfl, rfl, h0⟩
      · replace h0 := cF h0 q29
        refine AC.skip ?_
        exact ⟨(x1, x3), _, rfl, (LeL.refl _), rfl, rfl, h0⟩
  · intro g13 h0
    unfold p_distanceFromSegmentSquared_k1 at h0
    refine AC.seq ?_
    refine AC.region ?_
    refine AO.op rfl (AOp.move rfl rfl (ltb rfl) rfl ?_)
    obtain ⟨x14, q15, h0⟩ := idx_elim h0
    refine AO.op rfl (AOp.indexDs (cells := (List.map keS1 a2)) rfl rfl (ltb rfl) rfl rfl el61 (by decide) q15.1 (lt1 q15.2) ?_)
    refine AO.op rfl (AOp.loadEp rfl rfl (ltb rfl) rfl agg22 (at1 q15.2) ?_)
    refine AO.op rfl (AOp.move rfl rfl (ltb rfl) rfl ?_)
    obtain ⟨z16, q17, h0⟩ := bind_elim h0
    refine AO.op rfl (AOp.farith rfl rfl (ltb rfl) rfl rfl q17 ?_)
    refine AO.op rfl (AOp.assign rfl rfl (ltb rfl) rfl ?_)
    refine AO.nil ?_
    change AC _ _ _ _
    refine AC.seq ?_
    refine AC.region ?_
    refine AO.op rfl (AOp.move rfl rfl (ltb rfl) rfl ?_)
    obtain ⟨x18, q19, h0⟩ := idx_elim h0
    refine AO.op rfl (AOp.indexDs (cells := (List.map keS1 a2)) rfl rfl (ltb rfl) rfl rfl el61 (by decide) q19.1 (lt1 q19.2) ?_)
    refine AO.op rfl (AOp.loadEp rfl rfl (ltb rfl) rfl agg22 (at1 q19.2) ?_)
    refine AO.op rfl (AOp.move rfl rfl (ltb rfl) rfl ?_)
    obtain ⟨z20, q21, h0⟩ := bind_elim h0
    refine AO.op rfl (AOp.farith rfl rfl (ltb rfl) rfl rfl q21 ?_)
    refine AO.op rfl (AOp.assign rfl rfl (ltb rfl) rfl ?_)
    refine AO.nil ?_
    change AC _ _ _ _
    refine AC.seq ?_
    refine AC.region ?_
    refine AO.op rfl (AOp.move rfl rfl (ltb rfl) rfl ?_)
    refine AO.op rfl (AOp.move rfl rfl (ltb rfl) rfl ?_)
    obtain ⟨z22, q23, h0⟩ := bind_elim h0
    refine AO.op rfl (AOp.farith rfl rfl (ltb rfl) rfl rfl q23 ?_)
    refine AO.op rfl (AOp.move rfl rfl (ltb rfl) rfl ?_)
    refine AO.op rfl (AOp.move rfl rfl (ltb rfl) rfl ?_)
    obtain ⟨z24, q25, h0⟩ := bind_elim h0
    refine AO.op rfl (AOp.farith rfl rfl (ltb rfl) rfl rfl q25 ?_)
    obtain ⟨z26, q27, h0⟩ := bind_elim h0
    refine AO.op rfl (AOp.farith rfl rfl (ltb rfl) rfl rfl q27 ?_)
    refine AO.op rfl (AOp.assign rfl rfl (ltb rfl) rfl ?_)
    refine AO.nil ?_
    change AC _ _ _ _
    refine AC.ret ?_
    change RetQ _ _ _ .ret _
    obtain rfl := Option.some.inj h0
    refine retq rfl rfl

set_option maxRecDepth 100000 in
set_option maxHeartbeats 1000000 in
/-- pub-orthodrome/pub/gogeom/xy.DoorSegmentDistance2 -/
theorem w_DoorSegmentDistance2 (a0 : (List Nat)) (a1 : (List Nat)) (a2 : (List Nat)) (r0 : Nat) (h0 : p_DoorSegmentDistance2 a0 a1 a2 = some r0) : FnD Try.prog 41 [eS1 a0, eS1 a1, eS1 a2] (fun r => r = dfl r0) := by
  refine FnD.of (by kernel_rfl) Try.func41 rfl Try.ntmps41 rfl (leb rfl) fun W ok => ?_
  unfold p_DoorSegmentDistance2 at h0
  refine AC.seq ?_
  refine AC.region ?_
  refine AO.op rfl (AOp.assign rfl rfl (ltb rfl) rfl ?_)
  refine AO.nil ?_
  change AC _ _ _ _
  refine AC.seq ?_
  refine AC.region ?_
  refine AO.op rfl (AOp.move rfl rfl (ltb rfl) rfl ?_)
  refine AO.op rfl (AOp.move rfl rfl (ltb rfl) rfl ?_)
  refine AO.op rfl (AOp.move rfl rfl (ltb rfl) rfl ?_)
  obtain ⟨y1, q2, h0⟩ := bind_elim h0
  refine AO.op rfl (AOp.callD rfl rfl (ltb rfl) rfl rfl (w_distanceFromSegmentSquared a0 a1 a2 y1 q2) ?_)
  rintro _ rfl
  refine AO.op rfl (AOp.assign rfl rfl (ltb rfl) rfl ?_)
  refine AO.nil ?_
  change AC _ _ _ _
  refine AC.ret ?_
  change RetQ _ _ _ .ret _
  obtain rfl := Option.some.inj h0
  refine retq rfl rfl

set_option maxRecDepth 100000 in
set_option maxHeartbeats 1000000 in
/-- pub-orthodrome/impl.SegmentDistance2 -/
theorem w_SegmentDistance2 (a0 : TImpl_P2) (a1 : TImpl_P2) (a2 : TImpl_P2) (r0 : Nat) (h0 : p_SegmentDistance2 a0 a1 a2 = some r0) : FnD Try.prog 10 [e_TImpl_P2 a0, e_TImpl_P2 a1, e_TImpl_P2 a2] (fun r => r = dfl r0) := by
  refine FnD.of (by kernel_rfl) Try.func10 rfl Try.ntmps10 rfl (leb rfl) fun W ok => ?_
  unfold p_SegmentDistance2 at h0
  refine AC.seq ?_
  refine AC.region ?_
  refine AO.op rfl (AOp.box rfl rfl (ltb rfl) rfl rfl ?_)
  refine AO.op rfl (AOp.box rfl rfl (ltb rfl) rfl rfl ?_)
  refine AO.op rfl (AOp.box rfl rfl (ltb rfl) rfl rfl ?_)
  refine AO.op rfl (AOp.assign rfl rfl (ltb rfl) rfl ?_)
  refine AO.nil ?_
  change AC _ _ _ _
  refine AC.seq ?_
  refine AC.draw 8 mixed (by kernel_rfl) ?_
  refine AD.op [3] rfl (by kernel_rfl) rfl rfl (fun _ _ h => AOp.loadN rfl rfl (ltb rfl) rfl agg24 size24 rfl (leb rfl) rfl h) ?_
  obtain ⟨y1, q2, h0⟩ := bind_elim h0
  refine AD.op [7] rfl (by kernel_rfl) rfl rfl (fun _ _ h => AOp.callD rfl rfl (ltb rfl) rfl rfl (w_coord a0 y1 q2) (by rintro _ rfl; exact h)) ?_
  refine AD.op [4] rfl (by kernel_rfl) rfl rfl (fun _ _ h => AOp.loadN rfl rfl (ltb rfl) rfl agg24 size24 rfl (leb rfl) rfl h) ?_
  obtain ⟨y3, q4, h0⟩ := bind_elim h0
  refine AD.op [9] rfl (by kernel_rfl) rfl rfl (fun _ _ h => AOp.callD rfl rfl (ltb rfl) rfl rfl (w_coord a1 y3 q4) (by rintro _ rfl; exact h)) ?_
  refine AD.op [5] rfl (by kernel_rfl) rfl rfl (fun _ _ h => AOp.loadN rfl rfl (ltb rfl) rfl agg24 size24 rfl (leb rfl) rfl h) ?_
  obtain ⟨y5, q6, h0⟩ := bind_elim h0
  refine AD.op [11] rfl (by kernel_rfl) rfl rfl (fun _ _ h => AOp.callD rfl rfl (ltb rfl) rfl rfl (w_coord a2 y5 q6) (by rintro _ rfl; exact h)) ?_
  obtain ⟨y7, q8, h0⟩ := bind_elim h0
  refine AD.op [8, 10, 12] rfl (by kernel_rfl) rfl rfl (fun _ _ h => AOp.callD rfl rfl (ltb rfl) rfl rfl (w_DoorSegmentDistance2 y1 y3 y5 y7 q8) (by rintro _ rfl; exact h)) ?_
  refine AD.op [13] rfl (by kernel_rfl) rfl rfl (fun _ _ h => AOp.assign rfl rfl (ltb rfl) rfl h) ?_
  refine AD.done ?_
  refine AO.nil ?_
  change AC _ _ _ _
  refine AC.ret ?_
  change RetQ _ _ _ .ret _
  obtain rfl := Option.some.inj h0
  refine retq rfl rfl

theorem callBits (x : Nat) (w : World) : (callFunc 71 #[.float .f64 x]).run Try.prog w = .ok (.value (.int .u64 x)) w := by
  rw [run_callFunc_extern Try.func71 (by kernel_rfl) (by kernel_rfl) (by kernel_rfl) (e := Extern.MathFloatBits.float64bits) (by kernel_rfl), run_f64bits Try.prog x]
  rfl

set_option maxRecDepth 100000 in
set_option maxHeartbeats 1000000 in
/-- pub-orthodrome/spec.trim -/
theorem w_trim (F : Nat) (a0 : (List Int)) (r0 : (List Int)) (h0 : p_trim F a0 = some r0) : FnD Try.prog 78 [eS2 a0] (fun r => r = eS2 r0) := by
  refine FnD.of (by kernel_rfl) Try.func78 rfl Try.ntmps78 rfl (leb rfl) fun W ok => ?_
  unfold p_trim at h0
  refine AC.seq ?_
  refine AC.region ?_
  refine AO.op rfl (AOp.assign rfl rfl (ltb rfl) rfl ?_)
  refine AO.nil ?_
  change AC _ _ _ _
  obtain ⟨o1, l2, h0⟩ := bind_elim h0
  refine AC.joinP (V := (List Int)) [] [0] 0 (fun g3 => [(0, .d (eS2 g3))]) (fun g3 => []) (fun g3 => p_trim_k1 g3 = some r0) rfl ?_ ?_
  · refine AC.block ?_
    refine AC.loopP (V := (List Int)) p_trim_l2 o1 [] [0] 0 (fun g4 => [(0, .d (eS2 g4))]) (fun g4 => []) F a0 l2 rfl rfl (LeL.refl _) rfl rfl ?_
    intro n6 g4 h1
    unfold p_trim_l2 at h1
    refine AC.seq ?_
    refine AC.seq ?_
    refine AC.region ?_
    refine AO.op rfl (AOp.move rfl rfl (ltb rfl) rfl ?_)
    refine AO.op rfl (AOp.lenDs (n := g4.length) (cells := (List.map keS2 g4)) rfl rfl (ltb rfl) rfl el28 (by decide) (len1 _ _) ?_)
    refine AO.op rfl (AOp.igtr rfl rfl (ltb rfl) rfl rfl ?_)
    refine AO.op rfl (AOp.move rfl rfl (ltb rfl) rfl ?_)
    refine AO.dec (decide ((0 : Int) < ((g4.length : Nat) : Int))) (fun q7 => ?_) (fun q7 => ?_)
    · replace h1 := cT h1 q7
      refine AO.guardY rfl rfl rfl q7 (AOp.move rfl rfl (ltb rfl) rfl ?_)
      refine AO.guardY rfl rfl rfl q7 (AOp.move rfl rfl (ltb rfl) rfl ?_)
      refine AO.guardY rfl rfl rfl q7 (AOp.lenDs (n := g4.length) (cells := (List.map keS2 g4)) rfl rfl (ltb rfl) rfl el28 (by decide) (len1 _ _) ?_)
      obtain ⟨q8, h1⟩ := need_elim h1
      refine AO.guardY rfl rfl rfl q7 (AOp.isub rfl rfl (ltb rfl) rfl rfl rfl q8.1 q8.2 ?_)
      obtain ⟨x9, q10, h1⟩ := idx_elim h1
      refine AO.guardY rfl rfl rfl q7 (AOp.indexDs (cells := (List.map keS2 g4)) rfl rfl (ltb rfl) rfl rfl el28 (by decide) q10.1 (lt1 q10.2) ?_)
      refine AO.guardY rfl rfl rfl q7 (AOp.loadEp rfl rfl (ltb rfl) rfl agg106 (at1 q10.2) ?_)
      refine AO.guardY rfl rfl rfl q7 (AOp.ieql rfl rfl (ltb rfl) rfl rfl ?_)
      refine AO.op rfl (AOp.pick rfl rfl (ltb rfl) rfl q7 rfl ?_)
      refine AO.nil ?_
      change AC _ _ _ _
      refine AC.cond rfl (fun q11 => ?_) (fun q11 => ?_)
      · replace h1 := cT h1 q11
        refine AC.skip ?_
        change AC _ _ _ _
        refine AC.block ?_
        refine AC.region ?_
        refine AO.op rfl (AOp.move rfl rfl (ltb rfl) rfl ?_)
        refine AO.op rfl (AOp.move rfl rfl (ltb rfl) rfl ?_)
        refine AO.op rfl (AOp.lenDs (n := g4.length) (cells := (List.map keS2 g4)) rfl rfl (ltb rfl) rfl el28 (by decide) (len1 _ _) ?_)
        obtain ⟨q12, h1⟩ := need_elim h1
        refine AO.op rfl (AOp.isub rfl rfl (ltb rfl) rfl rfl rfl q12.1 q12.2 ?_)
        obtain ⟨q13, h1⟩ := need_elim h1
        refine AO.op rfl (AOp.sliceD (cells := (List.map keS2 g4)) (n := g4.length) (l := 0) (hh := ((((g4.length : Nat) : Int) - (1 : Int))).toNat) rfl rfl (ltb rfl) rfl (.inl ⟨rfl, rfl⟩) (.inr ⟨_, _, _, rfl, rfl, q13.1.2, rfl⟩) el28 (by decide) (len1 _ _) q13.2.1 q13.2.2 (sub1 _ _ _ _) ?_)
        refine AO.op rfl (AOp.assign rfl rfl (ltb rfl) rfl ?_)
        refine AO.nil ?_
        exact ⟨((g4.drop 0).take (((((g4.length : Nat) : Int) - (1 : Int))).toNat - 0)), _, rfl, (LeL.refl _), rfl, rfl, h1⟩
      · replace h1 := cF h1 q11
        refine AC.exit ?_
        obtain rfl := Option.some.inj h1
        exact ⟨g4, _, rfl, (LeL.refl _), rfl, rfl, aftL h0⟩
    · replace h1 := cF h1 q7
      refine AO.guardN rfl rfl rfl (ltb rfl) rfl q7 ?_
      refine AO.guardN rfl rfl rfl (ltb rfl) rfl q7 ?_
      refine AO.guardN rfl rfl rfl (ltb rfl) rfl q7 ?_
      refine AO.guardN rfl rfl rfl (ltb rfl) rfl q7 ?_
      refine AO.guardN rfl rfl rfl (ltb rfl) rfl q7 ?_
      refine AO.guardN rfl rfl rfl (ltb rfl) rfl q7 ?_
      refine AO.guardN rfl rfl rfl (ltb rfl) rfl q7 ?_
      refine AO.op rfl (AOp.pickN rfl rfl (ltb rfl) rfl q7 rfl ?_)
      refine AO.nil ?_
      change AC _ _ _ _
      refine AC.condF rfl rfl ?_
      refine AC.exit ?_
      obtain rfl := Option.some.inj h1
      exact ⟨g4, _, rfl, (LeL.refl _), rfl, rfl, aftL h0⟩
  · intro g3 h0
    unfold p_trim_k1 at h0
    refine AC.seq ?_
    refine AC.region ?_
    refine AO.op rfl (AOp.move rfl rfl (ltb rfl) rfl ?_)
    refine AO.op rfl (AOp.assign rfl rfl (ltb rfl) rfl ?_)
    refine AO.nil ?_
    change AC _ _ _ _
    refine AC.ret ?_
    change RetQ _ _ _ .ret _
    obtain rfl := Option.some.inj h0
    refine retq rfl rfl

set_option maxRecDepth 100000 in
set_option maxHeartbeats 1000000 in
/-- pub-orthodrome/spec.WholeOf -/
theorem w_WholeOf (F : Nat) (a0 : Int) (r0 : TSpec_Whole) (h0 : p_WholeOf F a0 = some r0) : FnD Try.prog 72 [di .i64 a0] (fun r => r = e_TSpec_Whole r0) := by
  refine FnD.of (by kernel_rfl) Try.func72 rfl Try.ntmps72 rfl (leb rfl) fun W ok => ?_
  unfold p_WholeOf at h0
  refine AC.seq ?_
  refine AC.region ?_
  refine AO.op rfl (AOp.alloc rfl rfl (ltb rfl) zero30 rfl ?_)
  refine AO.nil ?_
  change AC _ _ _ _
  refine AC.seq ?_
  refine AC.region ?_
  refine AO.op rfl (AOp.move rfl rfl (ltb rfl) rfl ?_)
  refine AO.op rfl (AOp.i2i rfl rfl (ltb rfl) rfl Try.underlying2 Try.underlying91 rfl ?_)
  refine AO.op rfl (AOp.assign rfl rfl (ltb rfl) rfl ?_)
  refine AO.nil ?_
  change AC _ _ _ _
  refine AC.joinP (V := Int) [0, 2] [3] 1 (fun g1 => [(3, .d (di .u64 g1))]) (fun g1 => [.fix 30 [.d (dbool false), .d (.v (.slice none 0 0))]]) (fun g1 => (p_WholeOf_k1 a0 F) g1 = some r0) rfl ?_ ?_
  · refine AC.seq ?_
    refine AC.region ?_
    refine AO.op rfl (AOp.move rfl rfl (ltb rfl) rfl ?_)
    refine AO.op rfl (AOp.ilss rfl rfl (ltb rfl) rfl rfl ?_)
    refine AO.nil ?_
    change AC _ _ _ _
    refine AC.cond rfl (fun q5 => ?_) (fun q5 => ?_)
    · replace h0 := cT h0 q5
      refine AC.region ?_
      refine AO.op rfl (AOp.move rfl rfl (ltb rfl) rfl ?_)
      refine AO.op rfl (AOp.inegW rfl rfl (ltb rfl) rfl ?_)
      refine AO.op rfl (AOp.assign rfl rfl (ltb rfl) rfl ?_)
      refine AO.nil ?_
      exact ⟨(IntKind.u64.wrap (-(IntKind.u64.wrap a0))), _, rfl, (LeL.refl _), rfl, rfl, h0⟩
    · replace h0 := cF h0 q5
      refine AC.skip ?_
      exact ⟨(IntKind.u64.wrap a0), _, rfl, (LeL.refl _), rfl, rfl, h0⟩
  · intro g1 h0
    unfold p_WholeOf_k1 at h0
    refine AC.seq ?_
    refine AC.region ?_
    refine AO.op rfl (AOp.move rfl rfl (ltb rfl) rfl ?_)
    refine AO.op rfl (AOp.ilss rfl rfl (ltb rfl) rfl rfl ?_)
    refine AO.op rfl (AOp.move rfl rfl (ltb rfl) rfl ?_)
    refine AO.op rfl (AOp.i2i rfl rfl (ltb rfl) rfl Try.underlying91 Try.underlying106 rfl ?_)
    refine AO.op rfl (AOp.move rfl rfl (ltb rfl) rfl ?_)
    obtain ⟨q2, h0⟩ := need_elim h0
    refine AO.op rfl (AOp.ishr (n := 32) rfl rfl (ltb rfl) rfl rfl (by decide) q2 rfl ?_)
    refine AO.op rfl (AOp.i2i rfl rfl (ltb rfl) rfl Try.underlying91 Try.underlying106 rfl ?_)
    refine AO.op rfl (AOp.buildSliceD rfl rfl (ltb rfl) el28 zero106 rfl (leb rfl) rfl rfl rfl rfl ?_)
    obtain ⟨y3, q4, h0⟩ := bind_elim h0
    refine AO.op rfl (AOp.callD rfl rfl (ltb rfl) rfl rfl (w_trim F [(IntKind.u32.wrap g1), (IntKind.u32.wrap (g1 / 2 ^ 32))] y3 q4) ?_)
    rintro _ rfl
    refine AO.op rfl (AOp.build rfl rfl (ltb rfl) zero30 rfl places30 rfl rfl ?_)
    refine AO.op rfl (AOp.store rfl rfl rfl rfl size30 rfl rfl rfl (leb rfl) ?_)
    refine AO.nil ?_
    change AC _ _ _ _
    refine AC.ret ?_
    change RetQ _ _ _ .ret _
    obtain rfl := Option.some.inj h0
    refine retq rfl rfl

set_option maxRecDepth 100000 in
set_option maxHeartbeats 1000000 in
/-- pub-orthodrome/spec.DyadicOf -/
theorem w_DyadicOf (F : Nat) (a0 : Nat) (r0 : TSpec_Dyadic) (h0 : p_DyadicOf F a0 = some r0) : FnD Try.prog 36 [dfl a0] (fun r => r = e_TSpec_Dyadic r0) := by
  refine FnD.of (by kernel_rfl) Try.func36 rfl Try.ntmps36 rfl (leb rfl) fun W ok => ?_
  unfold p_DyadicOf at h0
  refine AC.seq ?_
  refine AC.region ?_
  refine AO.op rfl (AOp.alloc rfl rfl (ltb rfl) zero32 rfl ?_)
  refine AO.nil ?_
  change AC _ _ _ _
  refine AC.seq ?_
  refine AC.region ?_
  refine AO.op rfl (AOp.move rfl rfl (ltb rfl) rfl ?_)
  refine AO.op rfl (AOp.callX [.float .f64 a0] rfl rfl (ltb rfl) rfl (callBits a0) ?_)
  refine AO.op rfl (AOp.assign rfl rfl (ltb rfl) rfl ?_)
  refine AO.nil ?_
  change AC _ _ _ _
  refine AC.seq ?_
  refine AC.region ?_
  refine AO.op rfl (AOp.move rfl rfl (ltb rfl) rfl ?_)
  refine AO.op rfl (AOp.ibits (by simp) rfl rfl (ltb rfl) rfl rfl rfl ?_)
  refine AO.op rfl (AOp.i2i rfl rfl (ltb rfl) rfl Try.underlying91 Try.underlying2 rfl ?_)
  refine AO.op rfl (AOp.move rfl rfl (ltb rfl) rfl ?_)
  obtain ⟨q1, h0⟩ := need_elim h0
  refine AO.op rfl (AOp.ishr (n := 52) rfl rfl (ltb rfl) rfl rfl (by decide) q1 rfl ?_)
  refine AO.op rfl (AOp.ibits (by simp) rfl rfl (ltb rfl) rfl rfl rfl ?_)
  refine AO.op rfl (AOp.i2i rfl rfl (ltb rfl) rfl Try.underlying91 Try.underlying3 rfl ?_)
  refine AO.op rfl (AOp.assign rfl rfl (ltb rfl) rfl ?_)
  refine AO.op rfl (AOp.assign rfl rfl (ltb rfl) rfl ?_)
  refine AO.nil ?_
  change AC _ _ _ _
  refine AC.joinP (V := (Int × Int)) [2, 3] [4, 5] 1 (fun g2 => [(4, .d (di .i64 g2.1)), (5, .d (di .i64 g2.2))]) (fun g2 => [.fix 32 [.d (dbool false), .d (.v (.slice none 0 0)), .d (di .i64 (0 : Int))]]) (fun g2 => (p_DyadicOf_k1 a0 F) g2 = some r0) rfl ?_ ?_
  · refine AC.seq ?_
    refine AC.region ?_
    refine AO.op rfl (AOp.move rfl rfl (ltb rfl) rfl ?_)
    refine AO.nil ?_
    change AC _ _ _ _
    refine AC.block ?_
    refine AC.seq ?_
    refine AC.region ?_
    refine AO.op rfl (AOp.ieql rfl rfl (ltb rfl) rfl rfl ?_)
    refine AO.op rfl (AOp.assign rfl rfl (ltb rfl) rfl ?_)
    refine AO.nil ?_
    change AC _ _ _ _
    refine AC.cond rfl (fun q12 => ?_) (fun q12 => ?_)
    · replace h0 := cT h0 q12
      refine AC.seq ?_
      refine AC.region ?_
      refine AO.op rfl (AOp.build rfl rfl (ltb rfl) zero32 rfl places32 rfl rfl ?_)
      refine AO.op rfl (AOp.store rfl rfl rfl rfl size32 rfl rfl rfl (leb rfl) ?_)
      refine AO.nil ?_
      change AC _ _ _ _
      refine AC.subO 0 rfl (.cons (SVLe.refl _) (.cons (SVLe.nil 1) (.cons (SVLe.refl _) .nil))) ?_
      refine AC.ret ?_
      change RetQ _ _ _ .ret _
      obtain rfl := Option.some.inj h0
      refine retq rfl rfl
    · replace h0 := cF h0 q12
      refine AC.seq ?_
      refine AC.region ?_
      refine AO.op rfl (AOp.ieql rfl rfl (ltb rfl) rfl rfl ?_)
      refine AO.op rfl (AOp.assign rfl rfl (ltb rfl) rfl ?_)
      refine AO.nil ?_
      change AC _ _ _ _
      refine AC.cond rfl (fun q13 => ?_) (fun q13 => ?_)
      · replace h0 := cT h0 q13
        refine AC.region ?_
        refine AO.op rfl (AOp.assign rfl rfl (ltb rfl) rfl ?_)
        refine AO.nil ?_
        exact ⟨((IntKind.i64.wrap (bits .and .u64 ((a0 : Nat) : Int) (4503599627370495 : Int))), (1 : Int)), _, rfl, (LeL.refl _), rfl, rfl, h0⟩
      · replace h0 := cF h0 q13
        refine AC.region ?_
        refine AO.op rfl (AOp.move rfl rfl (ltb rfl) rfl ?_)
        obtain ⟨q14, h0⟩ := need_elim h0
        refine AO.op rfl (AOp.iadd rfl rfl (ltb rfl) rfl rfl rfl q14.1 q14.2 ?_)
        refine AO.op rfl (AOp.assign rfl rfl (ltb rfl) rfl ?_)
        refine AO.nil ?_
        exact ⟨(((IntKind.i64.wrap (bits .and .u64 ((a0 : Nat) : Int) (4503599627370495 : Int))) + (4503599627370496 : Int)), (IntKind.i64.wrap (bits .and .u64 (((a0 : Nat) : Int) / 2 ^ 52) (2047 : Int)))), _, rfl, (LeL.refl _), rfl, rfl, h0⟩
  · intro g2 h0
    unfold p_DyadicOf_k1 at h0
    refine AC.seq ?_
    refine AC.seq ?_
    refine AC.region ?_
    refine AO.op rfl (AOp.move rfl rfl (ltb rfl) rfl ?_)
    obtain ⟨q3, h0⟩ := need_elim h0
    refine AO.op rfl (AOp.ishr (n := 63) rfl rfl (ltb rfl) rfl rfl (by decide) q3 rfl ?_)
    refine AO.op rfl (AOp.ieql rfl rfl (ltb rfl) rfl rfl ?_)
    refine AO.nil ?_
    change AC _ _ _ _
    refine AC.cond rfl (fun q4 => ?_) (fun q4 => ?_)
    · replace h0 := cT h0 q4
      refine AC.region ?_
      refine AO.op rfl (AOp.move rfl rfl (ltb rfl) rfl ?_)
      obtain ⟨q5, h0⟩ := need_elim h0
      refine AO.op rfl (AOp.ineg rfl rfl (ltb rfl) rfl rfl q5.1 q5.2 ?_)
      refine AO.op rfl (AOp.assign rfl rfl (ltb rfl) rfl ?_)
      refine AO.nil ?_
      change AC _ _ _ _
      refine AC.seq ?_
      refine AC.region ?_
      refine AO.op rfl (AOp.move rfl rfl (ltb rfl) rfl ?_)
      obtain ⟨y6, q7, h0⟩ := bind_elim h0
      refine AO.op rfl (AOp.callD rfl rfl (ltb rfl) rfl rfl (w_WholeOf F (-g2.1) y6 q7) ?_)
      rintro _ rfl
      refine AO.op rfl (AOp.move rfl rfl (ltb rfl) rfl ?_)
      obtain ⟨q8, h0⟩ := need_elim h0
      refine AO.op rfl (AOp.isub rfl rfl (ltb rfl) rfl rfl rfl q8.1 q8.2 ?_)
      refine AO.op rfl (AOp.build rfl rfl (ltb rfl) zero32 rfl places32 rfl rfl ?_)
      refine AO.op rfl (AOp.store rfl rfl rfl rfl size32 rfl rfl rfl (leb rfl) ?_)
      refine AO.nil ?_
      change AC _ _ _ _
      refine AC.ret ?_
      change RetQ _ _ _ .ret _
      obtain rfl := Option.some.inj h0
      refine retq rfl rfl
    · replace h0 := cF h0 q4
      refine AC.skip ?_
      change AC _ _ _ _
      refine AC.seq ?_
      refine AC.region ?_
      refine AO.op rfl (AOp.move rfl rfl (ltb rfl) rfl ?_)
      obtain ⟨y9, q10, h0⟩ := bind_elim h0
      refine AO.op rfl (AOp.callD rfl rfl (ltb rfl) rfl rfl (w_WholeOf F g2.1 y9 q10) ?_)
      rintro _ rfl
      refine AO.op rfl (AOp.move rfl rfl (ltb rfl) rfl ?_)
      obtain ⟨q11, h0⟩ := need_elim h0
      refine AO.op rfl (AOp.isub rfl rfl (ltb rfl) rfl rfl rfl q11.1 q11.2 ?_)
      refine AO.op rfl (AOp.build rfl rfl (ltb rfl) zero32 rfl places32 rfl rfl ?_)
      refine AO.op rfl (AOp.store rfl rfl rfl rfl size32 rfl rfl rfl (leb rfl) ?_)
      refine AO.nil ?_
      change AC _ _ _ _
      refine AC.ret ?_
      change RetQ _ _ _ .ret _
      obtain rfl := Option.some.inj h0
      refine retq rfl rfl

set_option maxRecDepth 100000 in
set_option maxHeartbeats 1000000 in
/-- pub-orthodrome/spec.PointOf -/
theorem w_PointOf (F : Nat) (a0 : Nat) (a1 : Nat) (r0 : TSpec_Point) (h0 : p_PointOf F a0 a1 = some r0) : FnD Try.prog 46 [dfl a0, dfl a1] (fun r => r = e_TSpec_Point r0) := by
  refine FnD.of (by kernel_rfl) Try.func46 rfl Try.ntmps46 rfl (leb rfl) fun W ok => ?_
  unfold p_PointOf at h0
  refine AC.seq ?_
  refine AC.region ?_
  refine AO.op rfl (AOp.alloc rfl rfl (ltb rfl) zero37 rfl ?_)
  refine AO.nil ?_
  change AC _ _ _ _
  refine AC.seq ?_
  refine AC.region ?_
  refine AO.op rfl (AOp.move rfl rfl (ltb rfl) rfl ?_)
  obtain ⟨y1, q2, h0⟩ := bind_elim h0
  refine AO.op rfl (AOp.callD rfl rfl (ltb rfl) rfl rfl (w_DyadicOf F a0 y1 q2) ?_)
  rintro _ rfl
  refine AO.op rfl (AOp.move rfl rfl (ltb rfl) rfl ?_)
  obtain ⟨y3, q4, h0⟩ := bind_elim h0
  refine AO.op rfl (AOp.callD rfl rfl (ltb rfl) rfl rfl (w_DyadicOf F a1 y3 q4) ?_)
  rintro _ rfl
  refine AO.op rfl (AOp.build rfl rfl (ltb rfl) zero37 rfl places37 rfl rfl ?_)
  refine AO.op rfl (AOp.store rfl rfl rfl rfl size37 rfl rfl rfl (leb rfl) ?_)
  refine AO.nil ?_
  change AC _ _ _ _
  refine AC.ret ?_
  change RetQ _ _ _ .ret _
  obtain rfl := Option.some.inj h0
  refine retq rfl rfl

set_option maxRecDepth 100000 in
set_option maxHeartbeats 1000000 in
/-- pub-orthodrome/laws.exactly -/
theorem w_exactly (F : Nat) (a0 : TImpl_P2) (r0 : TSpec_Point) (h0 : p_exactly F a0 = some r0) : FnD Try.prog 12 [e_TImpl_P2 a0] (fun r => r = e_TSpec_Point r0) := by
  refine FnD.of (by kernel_rfl) Try.func12 rfl Try.ntmps12 rfl (leb rfl) fun W ok => ?_
  unfold p_exactly at h0
  refine AC.seq ?_
  refine AC.region ?_
  refine AO.op rfl (AOp.box rfl rfl (ltb rfl) rfl rfl ?_)
  refine AO.op rfl (AOp.alloc rfl rfl (ltb rfl) zero37 rfl ?_)
  refine AO.nil ?_
  change AC _ _ _ _
  refine AC.seq ?_
  refine AC.region ?_
  refine AO.op rfl (AOp.fieldAddr rfl rfl (ltb rfl) rfl fo24_0 ?_)
  refine AO.op rfl (AOp.load1 rfl rfl (ltb rfl) rfl agg22 rfl rfl ?_)
  refine AO.op rfl (AOp.fieldAddr rfl rfl (ltb rfl) rfl fo24_1 ?_)
  refine AO.op rfl (AOp.load1 rfl rfl (ltb rfl) rfl agg22 rfl rfl ?_)
  obtain ⟨y1, q2, h0⟩ := bind_elim h0
  refine AO.op rfl (AOp.callD rfl rfl (ltb rfl) rfl rfl (w_PointOf F a0.X a0.Y y1 q2) ?_)
  rintro _ rfl
  refine AO.op rfl (AOp.store rfl rfl rfl rfl size37 rfl rfl rfl (leb rfl) ?_)
  refine AO.nil ?_
  change AC _ _ _ _
  refine AC.ret ?_
  change RetQ _ _ _ .ret _
  obtain rfl := Option.some.inj h0
  refine retq rfl rfl

set_option maxRecDepth 100000 in
set_option maxHeartbeats 1000000 in
/-- (pub-orthodrome/spec.Whole).Minus -/
theorem w_Whole_Minus (a0 : TSpec_Whole) (r0 : TSpec_Whole) (h0 : p_Whole_Minus a0 = some r0) : FnD Try.prog 77 [e_TSpec_Whole a0] (fun r => r = e_TSpec_Whole r0) := by
  refine FnD.of (by kernel_rfl) Try.func77 rfl Try.ntmps77 rfl (leb rfl) fun W ok => ?_
  unfold p_Whole_Minus at h0
  refine AC.seq ?_
  refine AC.region ?_
  refine AO.op rfl (AOp.box rfl rfl (ltb rfl) rfl rfl ?_)
  refine AO.op rfl (AOp.alloc rfl rfl (ltb rfl) zero30 rfl ?_)
  refine AO.nil ?_
  change AC _ _ _ _
  refine AC.seq ?_
  refine AC.region ?_
  refine AO.op rfl (AOp.fieldAddr rfl rfl (ltb rfl) rfl fo30_0 ?_)
  refine AO.op rfl (AOp.load1 rfl rfl (ltb rfl) rfl agg4 rfl rfl ?_)
  refine AO.op rfl (AOp.bnot rfl rfl (ltb rfl) rfl ?_)
  refine AO.op rfl (AOp.move rfl rfl (ltb rfl) rfl ?_)
  refine AO.dec (!a0.Neg) (fun q1 => ?_) (fun q1 => ?_)
  · replace h0 := cT h0 q1
    refine AO.guardY rfl rfl rfl q1 (AOp.fieldAddr rfl rfl (ltb rfl) rfl fo30_1 ?_)
    refine AO.guardY rfl rfl rfl q1 (AOp.load1 rfl rfl (ltb rfl) rfl agg28 rfl rfl ?_)
    refine AO.guardY rfl rfl rfl q1 (AOp.lenDs (n := a0.L.length) (cells := (List.map keS2 a0.L)) rfl rfl (ltb rfl) rfl el28 (by decide) (len1 _ _) ?_)
    refine AO.guardY rfl rfl rfl q1 (AOp.igtr rfl rfl (ltb rfl) rfl rfl ?_)
    refine AO.op rfl (AOp.pick rfl rfl (ltb rfl) rfl q1 rfl ?_)
    refine AO.op rfl (AOp.fieldAddr rfl rfl (ltb rfl) rfl fo30_1 ?_)
    refine AO.op rfl (AOp.load1 rfl rfl (ltb rfl) rfl agg28 rfl rfl ?_)
    refine AO.op rfl (AOp.build rfl rfl (ltb rfl) zero30 rfl places30 rfl rfl ?_)
    refine AO.op rfl (AOp.store rfl rfl rfl rfl size30 rfl rfl rfl (leb rfl) ?_)
    refine AO.nil ?_
    change AC _ _ _ _
    refine AC.ret ?_
    change RetQ _ _ _ .ret _
    obtain rfl := Option.some.inj h0
    refine retq rfl rfl
  · replace h0 := cF h0 q1
    refine AO.guardN rfl rfl rfl (ltb rfl) rfl q1 ?_
    refine AO.guardN rfl rfl rfl (ltb rfl) rfl q1 ?_
    refine AO.guardN rfl rfl rfl (ltb rfl) rfl q1 ?_
    refine AO.guardN rfl rfl rfl (ltb rfl) rfl q1 ?_
    refine AO.op rfl (AOp.pickN rfl rfl (ltb rfl) rfl q1 rfl ?_)
    refine AO.op rfl (AOp.fieldAddr rfl rfl (ltb rfl) rfl fo30_1 ?_)
    refine AO.op rfl (AOp.load1 rfl rfl (ltb rfl) rfl agg28 rfl rfl ?_)
    refine AO.op rfl (AOp.build rfl rfl (ltb rfl) zero30 rfl places30 rfl rfl ?_)
    refine AO.op rfl (AOp.store rfl rfl rfl rfl size30 rfl rfl rfl (leb rfl) ?_)
    refine AO.nil ?_
    change AC _ _ _ _
    refine AC.ret ?_
    change RetQ _ _ _ .ret _
    obtain rfl := Option.some.inj h0
    refine retq rfl rfl

set_option maxRecDepth 100000 in
set_option maxHeartbeats 1000000 in
/-- (pub-orthodrome/spec.Dyadic).Minus -/
theorem w_Dyadic_Minus (a0 : TSpec_Dyadic) (r0 : TSpec_Dyadic) (h0 : p_Dyadic_Minus a0 = some r0) : FnD Try.prog 49 [e_TSpec_Dyadic a0] (fun r => r = e_TSpec_Dyadic r0) := by
  refine FnD.of (by kernel_rfl) Try.func49 rfl Try.ntmps49 rfl (leb rfl) fun W ok => ?_
  unfold p_Dyadic_Minus at h0
  refine AC.seq ?_
  refine AC.region ?_
  refine AO.op rfl (AOp.box rfl rfl (ltb rfl) rfl rfl ?_)
  refine AO.op rfl (AOp.alloc rfl rfl (ltb rfl) zero32 rfl ?_)
  refine AO.nil ?_
  change AC _ _ _ _
  refine AC.seq ?_
  refine AC.draw 6 mixed (by kernel_rfl) ?_
  refine AD.op [1] rfl (by kernel_rfl) rfl rfl (fun _ _ h => AOp.fieldAddr rfl rfl (ltb rfl) rfl fo32_0 h) ?_
  refine AD.op [3] rfl (by kernel_rfl) rfl rfl (fun _ _ h => AOp.loadN rfl rfl (ltb rfl) rfl agg30 size30 rfl (leb rfl) rfl h) ?_
  obtain ⟨y1, q2, h0⟩ := bind_elim h0
  refine AD.op [4] rfl (by kernel_rfl) rfl rfl (fun _ _ h => AOp.callD rfl rfl (ltb rfl) rfl rfl (w_Whole_Minus a0.N y1 q2) (by rintro _ rfl; exact h)) ?_
  refine AD.op [1] rfl (by kernel_rfl) rfl rfl (fun _ _ h => AOp.fieldAddr rfl rfl (ltb rfl) rfl fo32_1 h) ?_
  refine AD.op [6] rfl (by kernel_rfl) rfl rfl (fun _ _ h => AOp.load1 rfl rfl (ltb rfl) rfl agg3 rfl rfl h) ?_
  refine AD.op [5, 7] rfl (by kernel_rfl) rfl rfl (fun _ _ h => AOp.build rfl rfl (ltb rfl) zero32 rfl places32 rfl rfl h) ?_
  refine AD.done ?_
  refine AO.op rfl (AOp.store rfl rfl rfl rfl size32 rfl rfl rfl (leb rfl) ?_)
  refine AO.nil ?_
  change AC _ _ _ _
  refine AC.ret ?_
  change RetQ _ _ _ .ret _
  obtain rfl := Option.some.inj h0
  refine retq rfl rfl

set_option maxRecDepth 100000 in
set_option maxHeartbeats 1000000 in
/-- (pub-orthodrome/spec.Whole).Sign -/
theorem w_Whole_Sign (a0 : TSpec_Whole) (r0 : Int) (h0 : p_Whole_Sign a0 = some r0) : FnD Try.prog 75 [e_TSpec_Whole a0] (fun r => r = di .i64 r0) := by
  refine FnD.of (by kernel_rfl) Try.func75 rfl Try.ntmps75 rfl (leb rfl) fun W ok => ?_
  unfold p_Whole_Sign at h0
  refine AC.seq ?_
  refine AC.region ?_
  refine AO.op rfl (AOp.box rfl rfl (ltb rfl) rfl rfl ?_)
  refine AO.op rfl (AOp.assign rfl rfl (ltb rfl) rfl ?_)
  refine AO.nil ?_
  change AC _ _ _ _
  refine AC.seq ?_
  refine AC.block ?_
  refine AC.seq ?_
  refine AC.region ?_
  refine AO.op rfl (AOp.fieldAddr rfl rfl (ltb rfl) rfl fo30_1 ?_)
  refine AO.op rfl (AOp.load1 rfl rfl (ltb rfl) rfl agg28 rfl rfl ?_)
  refine AO.op rfl (AOp.lenDs (n := a0.L.length) (cells := (List.map keS2 a0.L)) rfl rfl (ltb rfl) rfl el28 (by decide) (len1 _ _) ?_)
  refine AO.op rfl (AOp.ieql rfl rfl (ltb rfl) rfl rfl ?_)
  refine AO.op rfl (AOp.assign rfl rfl (ltb rfl) rfl ?_)
  refine AO.nil ?_
  change AC _ _ _ _
  refine AC.cond rfl (fun q1 => ?_) (fun q1 => ?_)
  · replace h0 := cT h0 q1
    refine AC.seq ?_
    refine AC.region ?_
    refine AO.op rfl (AOp.assign rfl rfl (ltb rfl) rfl ?_)
    refine AO.nil ?_
    change AC _ _ _ _
    refine AC.ret ?_
    change RetQ _ _ _ .ret _
    obtain rfl := Option.some.inj h0
    refine retq rfl rfl
  · replace h0 := cF h0 q1
    refine AC.seq ?_
    refine AC.region ?_
    refine AO.op rfl (AOp.fieldAddr rfl rfl (ltb rfl) rfl fo30_0 ?_)
    refine AO.op rfl (AOp.load1 rfl rfl (ltb rfl) rfl agg4 rfl rfl ?_)
    refine AO.op rfl (AOp.assign rfl rfl (ltb rfl) rfl ?_)
    refine AO.nil ?_
    change AC _ _ _ _
    refine AC.cond rfl (fun q2 => ?_) (fun q2 => ?_)
    · replace h0 := cT h0 q2
      refine AC.seq ?_
      refine AC.region ?_
      refine AO.op rfl (AOp.assign rfl rfl (ltb rfl) rfl ?_)
      refine AO.nil ?_
      change AC _ _ _ _
      refine AC.ret ?_
      change RetQ _ _ _ .ret _
      obtain rfl := Option.some.inj h0
      refine retq rfl rfl
    · replace h0 := cF h0 q2
      refine AC.skip ?_
      change AC _ _ _ _
      refine AC.seq ?_
      refine AC.region ?_
      refine AO.op rfl (AOp.assign rfl rfl (ltb rfl) rfl ?_)
      refine AO.nil ?_
      change AC _ _ _ _
      refine AC.ret ?_
      change RetQ _ _ _ .ret _
      obtain rfl := Option.some.inj h0
      refine retq rfl rfl

set_option maxRecDepth 100000 in
set_option maxHeartbeats 1000000 in
/-- (pub-orthodrome/spec.Dyadic).Sign -/
theorem w_Dyadic_Sign (a0 : TSpec_Dyadic) (r0 : Int) (h0 : p_Dyadic_Sign a0 = some r0) : FnD Try.prog 45 [e_TSpec_Dyadic a0] (fun r => r = di .i64 r0) := by
  refine FnD.of (by kernel_rfl) Try.func45 rfl Try.ntmps45 rfl (leb rfl) fun W ok => ?_
  unfold p_Dyadic_Sign at h0
  refine AC.seq ?_
  refine AC.region ?_
  refine AO.op rfl (AOp.box rfl rfl (ltb rfl) rfl rfl ?_)
  refine AO.op rfl (AOp.assign rfl rfl (ltb rfl) rfl ?_)
  refine AO.nil ?_
  change AC _ _ _ _
  refine AC.seq ?_
  refine AC.region ?_
  refine AO.op rfl (AOp.fieldAddr rfl rfl (ltb rfl) rfl fo32_0 ?_)
  refine AO.op rfl (AOp.loadN rfl rfl (ltb rfl) rfl agg30 size30 rfl (leb rfl) rfl ?_)
  obtain ⟨y1, q2, h0⟩ := bind_elim h0
  refine AO.op rfl (AOp.callD rfl rfl (ltb rfl) rfl rfl (w_Whole_Sign a0.N y1 q2) ?_)
  rintro _ rfl
  refine AO.op rfl (AOp.assign rfl rfl (ltb rfl) rfl ?_)
  refine AO.nil ?_
  change AC _ _ _ _
  refine AC.ret ?_
  change RetQ _ _ _ .ret _
  obtain rfl := Option.some.inj h0
  refine retq rfl rfl

set_option maxRecDepth 100000 in
set_option maxHeartbeats 1000000 in
/-- (pub-orthodrome/spec.Whole).Up -/
theorem w_Whole_Up (F : Nat) (a0 : TSpec_Whole) (a1 : Int) (r0 : TSpec_Whole) (h0 : p_Whole_Up F a0 a1 = some r0) : FnD Try.prog 89 [e_TSpec_Whole a0, di .i64 a1] (fun r => r = e_TSpec_Whole r0) := by
  refine FnD.of (by kernel_rfl) Try.func89 rfl Try.ntmps89 rfl (leb rfl) fun W ok => ?_
  unfold p_Whole_Up at h0
  refine AC.seq ?_
  refine AC.region ?_
  refine AO.op rfl (AOp.box rfl rfl (ltb rfl) rfl rfl ?_)
  refine AO.op rfl (AOp.alloc rfl rfl (ltb rfl) zero30 rfl ?_)
  refine AO.nil ?_
  change AC _ _ _ _
  refine AC.seq ?_
  refine AC.seq ?_
  refine AC.region ?_
  refine AO.op rfl (AOp.fieldAddr rfl rfl (ltb rfl) rfl fo30_1 ?_)
  refine AO.op rfl (AOp.load1 rfl rfl (ltb rfl) rfl agg28 rfl rfl ?_)
  refine AO.op rfl (AOp.lenDs (n := a0.L.length) (cells := (List.map keS2 a0.L)) rfl rfl (ltb rfl) rfl el28 (by decide) (len1 _ _) ?_)
  refine AO.op rfl (AOp.ieql rfl rfl (ltb rfl) rfl rfl ?_)
  refine AO.nil ?_
  change AC _ _ _ _
  refine AC.cond rfl (fun q1 => ?_) (fun q1 => ?_)
  · replace h0 := cT h0 q1
    refine AC.seq ?_
    refine AC.region ?_
    refine AO.op rfl (AOp.loadN rfl rfl (ltb rfl) rfl agg30 size30 rfl (leb rfl) rfl ?_)
    refine AO.op rfl (AOp.store rfl rfl rfl rfl size30 rfl rfl rfl (leb rfl) ?_)
    refine AO.nil ?_
    change AC _ _ _ _
    refine AC.ret ?_
    change RetQ _ _ _ .ret _
    obtain rfl := Option.some.inj h0
    refine retq rfl rfl
  · replace h0 := cF h0 q1
    refine AC.skip ?_
    change AC _ _ _ _
    refine AC.seq ?_
    refine AC.region ?_
    refine AO.op rfl (AOp.move rfl rfl (ltb rfl) rfl ?_)
    obtain ⟨q2, h0⟩ := need_elim h0
    refine AO.op rfl (AOp.iquo rfl rfl (ltb rfl) rfl rfl q2.1 rfl q2.2.1 q2.2.2 ?_)
    refine AO.op rfl (AOp.move rfl rfl (ltb rfl) rfl ?_)
    obtain ⟨q3, h0⟩ := need_elim h0
    refine AO.op rfl (AOp.iquo rfl rfl (ltb rfl) rfl rfl q3.1 rfl q3.2.1 q3.2.2 ?_)
    refine AO.op rfl (AOp.fieldAddr rfl rfl (ltb rfl) rfl fo30_1 ?_)
    refine AO.op rfl (AOp.load1 rfl rfl (ltb rfl) rfl agg28 rfl rfl ?_)
    refine AO.op rfl (AOp.lenDs (n := a0.L.length) (cells := (List.map keS2 a0.L)) rfl rfl (ltb rfl) rfl el28 (by decide) (len1 _ _) ?_)
    obtain ⟨q4, h0⟩ := need_elim h0
    refine AO.op rfl (AOp.iadd rfl rfl (ltb rfl) rfl rfl rfl q4.1 q4.2 ?_)
    obtain ⟨q5, h0⟩ := need_elim h0
    refine AO.op rfl (AOp.iadd rfl rfl (ltb rfl) rfl rfl rfl q5.1 q5.2 ?_)
    obtain ⟨q6, h0⟩ := need_elim h0
    refine AO.op rfl (AOp.makeOwnN (f := keS2) (z0 := (0 : Int)) rfl rfl (ltb rfl) rfl rfl el28 info106 rfl rfl (by decide) q6 rfl ?_)
    refine AO.op rfl (AOp.assign rfl rfl (ltb rfl) rfl ?_)
    refine AO.nil ?_
    change AC _ _ _ _
    refine AC.seq ?_
    refine AC.region ?_
    refine AO.op rfl (AOp.assign rfl rfl (ltb rfl) rfl ?_)
    refine AO.nil ?_
    change AC _ _ _ _
    refine AC.seq ?_
    refine AC.seq ?_
    refine AC.region ?_
    refine AO.op rfl (AOp.fieldAddr rfl rfl (ltb rfl) rfl fo30_1 ?_)
    refine AO.op rfl (AOp.load1 rfl rfl (ltb rfl) rfl agg28 rfl rfl ?_)
    refine AO.op rfl (AOp.lenDs (n := a0.L.length) (cells := (List.map keS2 a0.L)) rfl rfl (ltb rfl) rfl el28 (by decide) (len1 _ _) ?_)
    refine AO.op rfl (AOp.move rfl rfl (ltb rfl) rfl ?_)
    refine AO.nil ?_
    change AC _ _ _ _
    obtain ⟨o7, l8, h0⟩ := bind_elim h0
    refine AC.joinE (V := (Int × (List Int))) [2, 4] [5, 6] 3 (fun g9 => [(5, .own 2), (6, .d (di .u32 g9.1))]) (fun g9 => [.fix 30 [.d (dbool a0.Neg), .d (eS2 a0.L)], .fix 30 [.d (dbool false), .d (.v (.slice none 0 0))], .grow 106 1 (List.map keS2 g9.2)]) (fun g9 => (p_Whole_Up_k1 a0 F) g9 = some r0) rfl ?_ ?_
    · refine AC.block ?_
      refine AC.loopP (V := (Int × Int × (List Int))) (p_Whole_Up_l2 a0 a1) o7 [1, 2, 4, 26, 27] [5, 6, 28] 3 (fun g13 => [(5, .own 2), (6, .d (di .u32 g13.1)), (28, .d (di .i64 g13.2.1))]) (fun g13 => [.fix 30 [.d (dbool a0.Neg), .d (eS2 a0.L)], .fix 30 [.d (dbool false), .d (.v (.slice none 0 0))], .grow 106 1 (List.map keS2 g13.2.2)]) F ((0 : Int), (0 : Int), (List.replicate ((Int.tdiv a1 (32 : Int))).toNat (0 : Int))) l8 rfl rfl (LeL.refl _) rfl rfl ?_
      intro n15 g13 h1
      unfold p_Whole_Up_l2 at h1
      refine AC.seq ?_
      refine AC.region ?_
      refine AO.op rfl (AOp.ilss rfl rfl (ltb rfl) rfl rfl ?_)
      refine AO.nil ?_
      change AC _ _ _ _
      refine AC.seq ?_
      refine AC.cond rfl (fun q16 => ?_) (fun q16 => ?_)
      · replace h1 := cT h1 q16
        refine AC.skip ?_
        change AC _ _ _ _
        refine AC.seq ?_
        refine AC.block ?_
        refine AC.seq ?_
        refine AC.region ?_
        obtain ⟨x17, q18, h1⟩ := idx_elim h1
        refine AO.op rfl (AOp.indexDs (cells := (List.map keS2 a0.L)) rfl rfl (ltb rfl) rfl rfl el28 (by decide) q18.1 (lt1 q18.2) ?_)
        refine AO.op rfl (AOp.loadEp rfl rfl (ltb rfl) rfl agg106 (at1 q18.2) ?_)
        refine AO.op rfl (AOp.assign rfl rfl (ltb rfl) rfl ?_)
        refine AO.nil ?_
        change AC _ _ _ _
        refine AC.seq ?_
        refine AC.region ?_
        refine AO.op rfl (AOp.move rfl rfl (ltb rfl) rfl ?_)
        refine AO.op rfl (AOp.i2i rfl rfl (ltb rfl) rfl Try.underlying106 Try.underlying91 rfl ?_)
        refine AO.op rfl (AOp.move rfl rfl (ltb rfl) rfl ?_)
        obtain ⟨q19, h1⟩ := need_elim h1
        refine AO.op rfl (AOp.irem rfl rfl (ltb rfl) rfl rfl q19 rfl ?_)
        obtain ⟨q20, h1⟩ := need_elim h1
        refine AO.op rfl (AOp.ishl' rfl rfl (ltb rfl) rfl rfl q20 ?_)
        refine AO.op rfl (AOp.assign rfl rfl (ltb rfl) rfl ?_)
        refine AO.nil ?_
        change AC _ _ _ _
        refine AC.seq ?_
        refine AC.region ?_
        refine AO.op rfl (AOp.move rfl rfl (ltb rfl) rfl ?_)
        refine AO.op rfl (AOp.move rfl rfl (ltb rfl) rfl ?_)
        refine AO.op rfl (AOp.i2i rfl rfl (ltb rfl) rfl Try.underlying91 Try.underlying106 rfl ?_)
        refine AO.op rfl (AOp.move rfl rfl (ltb rfl) rfl ?_)
        refine AO.op rfl (AOp.ibits (by simp) rfl rfl (ltb rfl) rfl rfl rfl ?_)
        refine AO.op rfl (AOp.buildSliceD rfl rfl (ltb rfl) el28 zero106 rfl (leb rfl) rfl rfl rfl rfl ?_)
        obtain ⟨q21, h1⟩ := need_elim h1
        refine AO.op rfl (AOp.appendOwn' (n := g13.2.2.length) (m := [(bits .or .u32 (IntKind.u32.wrap (IntKind.u64.wrap ((IntKind.u64.wrap x17) * 2 ^ ((Int.tmod a1 (32 : Int))).toNat))) g13.1)].length) (news := (List.map keS2 [(bits .or .u32 (IntKind.u32.wrap (IntKind.u64.wrap ((IntKind.u64.wrap x17) * 2 ^ ((Int.tmod a1 (32 : Int))).toNat))) g13.1)])) rfl rfl (ltb rfl) rfl rfl el28 info106 rfl (by decide) rfl (len1 _ _) (len1 _ _) (one1 _ (fun _ => rfl) _) q21 (by decide) rfl rfl (cat1 _ _ _) ?_)
        refine AO.op rfl (AOp.assign rfl rfl (ltb rfl) rfl ?_)
        refine AO.nil ?_
        change AC _ _ _ _
        refine AC.region ?_
        refine AO.op rfl (AOp.move rfl rfl (ltb rfl) rfl ?_)
        obtain ⟨q22, h1⟩ := need_elim h1
        refine AO.op rfl (AOp.ishr (n := 32) rfl rfl (ltb rfl) rfl rfl (by decide) q22 rfl ?_)
        refine AO.op rfl (AOp.i2i rfl rfl (ltb rfl) rfl Try.underlying91 Try.underlying106 rfl ?_)
        refine AO.op rfl (AOp.assign rfl rfl (ltb rfl) rfl ?_)
        refine AO.nil ?_
        change AC _ _ _ _
        refine AC.region ?_
        obtain ⟨q23, h1⟩ := need_elim h1
        refine AO.op rfl (AOp.iadd rfl rfl (ltb rfl) rfl rfl rfl q23.1 q23.2 ?_)
        refine AO.op rfl (AOp.move rfl rfl (ltb rfl) rfl ?_)
        refine AO.nil ?_
        exact ⟨((IntKind.u32.wrap ((IntKind.u64.wrap ((IntKind.u64.wrap x17) * 2 ^ ((Int.tmod a1 (32 : Int))).toNat)) / 2 ^ 32)), (g13.2.1 + (1 : Int)), (g13.2.2 ++ [(bits .or .u32 (IntKind.u32.wrap (IntKind.u64.wrap ((IntKind.u64.wrap x17) * 2 ^ ((Int.tmod a1 (32 : Int))).toNat))) g13.1)])), _, rfl, (LeL.refl _), rfl, rfl, h1⟩
      · replace h1 := cF h1 q16
        refine AC.exit ?_
        obtain rfl := Option.some.inj h1
        exact ⟨(g13.1, g13.2.2), _, rfl, (LeL.refl _), rfl, rfl, aftL h0⟩
    · intro g9 h0
      unfold p_Whole_Up_k1 at h0
      change AC _ _ _ _
      refine AC.seq ?_
      obtain ⟨q10, h0⟩ := need_elim h0
      obtain ⟨y11, q12, h0⟩ := bind_elim h0
      refine AC.drawS [0, 1, 2, 3, 4, 5, 6] [5, 6] [7, 8] (fun L => [.fix 30 [.d (dbool a0.Neg), .d (eS2 a0.L)], .fix 30 [.d (dbool false), .d (.v (.slice none 0 0))], bif L 6 then .dead else bif L 5 then .grow 106 1 (List.map keS2 (g9.2 ++ [g9.1])) else .grow 106 1 (List.map keS2 g9.2)]) [(5, SV.noO 2), (6, SV.noO 2)] mixed (by kernel_rfl) (fun L L' h => by simp only [h 5 (by decide), h 6 (by decide)]) rfl ?_
      refine AS.op [2] [] [] [5, 6] rfl rfl rfl (by kernel_rfl) (by kernel_rfl) rfl rfl (fun _ _ _ h => AOp.fieldAddr rfl rfl (ltb rfl) rfl fo30_0 h) (by kernel_rfl) ?_
      refine AS.op [48] [] [] [5, 6] rfl rfl rfl (by kernel_rfl) (by kernel_rfl) rfl rfl (fun _ _ _ h => AOp.load1 rfl rfl (ltb rfl) rfl agg4 rfl rfl h) (by kernel_rfl) ?_
      refine AS.op [5] [] [5, 6] [] rfl rfl rfl (by kernel_rfl) (by kernel_rfl) rfl rfl (fun _ _ _ h => AOp.move rfl rfl (ltb rfl) rfl h) (by kernel_rfl) ?_
      refine AS.op [6] [] [5, 6] [] rfl rfl rfl (by kernel_rfl) (by kernel_rfl) rfl rfl (fun _ _ _ h => AOp.move rfl rfl (ltb rfl) rfl h) (by kernel_rfl) ?_
      refine AS.op [51] [] [5, 6] [] rfl rfl rfl (by kernel_rfl) (by kernel_rfl) rfl rfl (fun _ _ _ h => AOp.buildSliceD rfl rfl (ltb rfl) el28 zero106 rfl (leb rfl) rfl rfl rfl rfl h) (by kernel_rfl) ?_
      refine AS.mid [50, 52] [] [6, 5] [] rfl rfl rfl rfl (by kernel_rfl) (by kernel_rfl) rfl rfl (fun _ _ _ h => AOp.appendOwn' (n := g9.2.length) (m := [g9.1].length) (news := (List.map keS2 [g9.1])) rfl rfl (ltb rfl) rfl rfl el28 info106 rfl (by decide) rfl (len1 _ _) (len1 _ _) (one1 _ (fun _ => rfl) _) q10 (by decide) (allNo (.cons rfl (.cons rfl (.cons rfl .nil)))) rfl (cat1 _ _ _) (AO.dropped h)) (by kernel_rfl) rfl ?_
      refine AS.mid [53] [5] [6] [] rfl rfl rfl rfl (by kernel_rfl) (by kernel_rfl) rfl rfl (fun _ _ _ h => AOp.freezeDrop 53 2 rfl rfl rfl (AOp.callD rfl rfl (ltb rfl) rfl rfl (w_trim F (g9.2 ++ [g9.1]) y11 q12) (by rintro _ rfl; exact AO.forget1 (.inr trivial) h (.inl (dropped_none rfl rfl))))) (by kernel_rfl) rfl ?_
      refine AS.done ?_
      refine AO.objs (obs' := [.fix 30 [.d (dbool a0.Neg), .d (eS2 a0.L)], .fix 30 [.d (dbool false), .d (.v (.slice none 0 0))], .dead]) rfl ?_
      refine AO.op rfl (AOp.build rfl rfl (ltb rfl) zero30 rfl places30 rfl rfl ?_)
      refine AO.op rfl (AOp.store rfl rfl rfl rfl size30 rfl rfl rfl (leb rfl) ?_)
      refine AO.nil ?_
      change AC _ _ _ _
      refine AC.ret ?_
      change RetQ _ _ _ .ret _
      obtain rfl := Option.some.inj h0
      refine retq rfl rfl

set_option maxRecDepth 100000 in
set_option maxHeartbeats 1000000 in
/-- pub-orthodrome/spec.addLimbs -/
theorem w_addLimbs (F : Nat) (a0 : (List Int)) (a1 : (List Int)) (r0 : (List Int)) (h0 : p_addLimbs F a0 a1 = some r0) : FnD Try.prog 97 [eS2 a0, eS2 a1] (fun r => r = eS2 r0) := by
  refine FnD.of (by kernel_rfl) Try.func97 rfl Try.ntmps97 rfl (leb rfl) fun W ok => ?_
  unfold p_addLimbs at h0
  refine AC.seq ?_
  refine AC.region ?_
  refine AO.op rfl (AOp.assign rfl rfl (ltb rfl) rfl ?_)
  refine AO.nil ?_
  change AC _ _ _ _
  refine AC.joinP (V := ((List Int) × (List Int))) [] [0, 1] 0 (fun g1 => [(0, .d (eS2 g1.1)), (1, .d (eS2 g1.2))]) (fun g1 => []) (fun g1 => (p_addLimbs_k1 F) g1 = some r0) rfl ?_ ?_
  · refine AC.seq ?_
    refine AC.region ?_
    refine AO.op rfl (AOp.move rfl rfl (ltb rfl) rfl ?_)
    refine AO.op rfl (AOp.lenDs (n := a0.length) (cells := (List.map keS2 a0)) rfl rfl (ltb rfl) rfl el28 (by decide) (len1 _ _) ?_)
    refine AO.op rfl (AOp.move rfl rfl (ltb rfl) rfl ?_)
    refine AO.op rfl (AOp.lenDs (n := a1.length) (cells := (List.map keS2 a1)) rfl rfl (ltb rfl) rfl el28 (by decide) (len1 _ _) ?_)
    refine AO.op rfl (AOp.ilss rfl rfl (ltb rfl) rfl rfl ?_)
    refine AO.nil ?_
    change AC _ _ _ _
    refine AC.cond rfl (fun q25 => ?_) (fun q25 => ?_)
    · replace h0 := cT h0 q25
      refine AC.region ?_
      refine AO.op rfl (AOp.move rfl rfl (ltb rfl) rfl ?_)
      refine AO.op rfl (AOp.move rfl rfl (ltb rfl) rfl ?_)
      refine AO.op rfl (AOp.assign rfl rfl (ltb rfl) rfl ?_)
      refine AO.op rfl (AOp.assign rfl rfl (ltb rfl) rfl ?_)
      refine AO.nil ?_
      exact ⟨(a1, a0), _, rfl, (LeL.refl _), rfl, rfl, h0⟩
    · replace h0 := cF h0 q25
      refine AC.skip ?_
      exact ⟨(a0, a1), _, rfl, (LeL.refl _), rfl, rfl, h0⟩
  · intro g1 h0
    unfold p_addLimbs_k1 at h0
    refine AC.seq ?_
    refine AC.region ?_
    refine AO.op rfl (AOp.move rfl rfl (ltb rfl) rfl ?_)
    refine AO.op rfl (AOp.lenDs (n := g1.1.length) (cells := (List.map keS2 g1.1)) rfl rfl (ltb rfl) rfl el28 (by decide) (len1 _ _) ?_)
    obtain ⟨q2, h0⟩ := need_elim h0
    refine AO.op rfl (AOp.iadd rfl rfl (ltb rfl) rfl rfl rfl q2.1 q2.2 ?_)
    obtain ⟨q3, h0⟩ := need_elim h0
    refine AO.op rfl (AOp.makeOwn0 rfl rfl (ltb rfl) rfl rfl el28 info106 (by decide) q3 ?_)
    refine AO.op rfl (AOp.assign rfl rfl (ltb rfl) rfl ?_)
    refine AO.nil ?_
    change AC _ _ _ _
    refine AC.seq ?_
    refine AC.region ?_
    refine AO.op rfl (AOp.assign rfl rfl (ltb rfl) rfl ?_)
    refine AO.nil ?_
    change AC _ _ _ _
    refine AC.seq ?_
    refine AC.seq ?_
    refine AC.region ?_
    refine AO.op rfl (AOp.move rfl rfl (ltb rfl) rfl ?_)
    refine AO.op rfl (AOp.lenDs (n := g1.1.length) (cells := (List.map keS2 g1.1)) rfl rfl (ltb rfl) rfl el28 (by decide) (len1 _ _) ?_)
    refine AO.op rfl (AOp.move rfl rfl (ltb rfl) rfl ?_)
    refine AO.nil ?_
    change AC _ _ _ _
    obtain ⟨o4, l5, h0⟩ := bind_elim h0
    refine AC.joinE (V := (Int × (List Int))) [] [5, 6] 1 (fun g6 => [(5, .own 0), (6, .d (di .u64 g6.1))]) (fun g6 => [.grow 106 1 (List.map keS2 g6.2)]) (fun g6 => (p_addLimbs_k2 F) g6 = some r0) rfl ?_ ?_
    · refine AC.block ?_
      refine AC.loopP (V := (Int × Int × (List Int))) (p_addLimbs_l3 g1) o4 [1, 21, 22] [5, 6, 23] 1 (fun g10 => [(5, .own 0), (6, .d (di .u64 g10.1)), (23, .d (di .i64 g10.2.1))]) (fun g10 => [.grow 106 1 (List.map keS2 g10.2.2)]) F ((0 : Int), (0 : Int), []) l5 rfl rfl (LeL.refl _) rfl rfl ?_
      intro n12 g10 h1
      unfold p_addLimbs_l3 at h1
      refine AC.seq ?_
      refine AC.region ?_
      refine AO.op rfl (AOp.ilss rfl rfl (ltb rfl) rfl rfl ?_)
      refine AO.nil ?_
      change AC _ _ _ _
      refine AC.seq ?_
      refine AC.cond rfl (fun q13 => ?_) (fun q13 => ?_)
      · replace h1 := cT h1 q13
        refine AC.skip ?_
        change AC _ _ _ _
        refine AC.seq ?_
        refine AC.block ?_
        refine AC.seq ?_
        refine AC.region ?_
        refine AO.op rfl (AOp.move rfl rfl (ltb rfl) rfl ?_)
        obtain ⟨x14, q15, h1⟩ := idx_elim h1
        refine AO.op rfl (AOp.indexDs (cells := (List.map keS2 g1.1)) rfl rfl (ltb rfl) rfl rfl el28 (by decide) q15.1 (lt1 q15.2) ?_)
        refine AO.op rfl (AOp.loadEp rfl rfl (ltb rfl) rfl agg106 (at1 q15.2) ?_)
        refine AO.op rfl (AOp.assign rfl rfl (ltb rfl) rfl ?_)
        refine AO.op rfl (AOp.assign rfl rfl (ltb rfl) rfl ?_)
        refine AO.nil ?_
        change AC _ _ _ _
        refine AC.seq ?_
        refine AC.region ?_
        refine AO.op rfl (AOp.move rfl rfl (ltb rfl) rfl ?_)
        refine AO.op rfl (AOp.i2i rfl rfl (ltb rfl) rfl Try.underlying106 Try.underlying91 rfl ?_)
        refine AO.op rfl (AOp.move rfl rfl (ltb rfl) rfl ?_)
        obtain ⟨q16, h1⟩ := need_elim h1
        refine AO.op rfl (AOp.iadd rfl rfl (ltb rfl) rfl rfl rfl q16.1 q16.2 ?_)
        refine AO.op rfl (AOp.assign rfl rfl (ltb rfl) rfl ?_)
        refine AO.nil ?_
        change AC _ _ _ _
        refine AC.joinP (V := Int) [1, 5, 21, 22, 23] [9] 1 (fun g17 => [(9, .d (di .u64 g17))]) (fun g17 => [.grow 106 1 (List.map keS2 g10.2.2)]) (fun g17 => (p_addLimbs_k4 g10 (iter (p_addLimbs_l3 g1) n12)) g17 = some o4) rfl ?_ ?_
        · refine AC.seq ?_
          refine AC.region ?_
          refine AO.op rfl (AOp.move rfl rfl (ltb rfl) rfl ?_)
          refine AO.op rfl (AOp.move rfl rfl (ltb rfl) rfl ?_)
          refine AO.op rfl (AOp.lenDs (n := g1.2.length) (cells := (List.map keS2 g1.2)) rfl rfl (ltb rfl) rfl el28 (by decide) (len1 _ _) ?_)
          refine AO.op rfl (AOp.ilss rfl rfl (ltb rfl) rfl rfl ?_)
          refine AO.nil ?_
          change AC _ _ _ _
          refine AC.cond rfl (fun q21 => ?_) (fun q21 => ?_)
          · replace h1 := cT h1 q21
            refine AC.region ?_
            refine AO.op rfl (AOp.move rfl rfl (ltb rfl) rfl ?_)
            refine AO.op rfl (AOp.move rfl rfl (ltb rfl) rfl ?_)
            refine AO.op rfl (AOp.move rfl rfl (ltb rfl) rfl ?_)
            obtain ⟨x22, q23, h1⟩ := idx_elim h1
            refine AO.op rfl (AOp.indexDs (cells := (List.map keS2 g1.2)) rfl rfl (ltb rfl) rfl rfl el28 (by decide) q23.1 (lt1 q23.2) ?_)
            refine AO.op rfl (AOp.loadEp rfl rfl (ltb rfl) rfl agg106 (at1 q23.2) ?_)
            refine AO.op rfl (AOp.i2i rfl rfl (ltb rfl) rfl Try.underlying106 Try.underlying91 rfl ?_)
            obtain ⟨q24, h1⟩ := need_elim h1
            refine AO.op rfl (AOp.iadd rfl rfl (ltb rfl) rfl rfl rfl q24.1 q24.2 ?_)
            refine AO.op rfl (AOp.assign rfl rfl (ltb rfl) rfl ?_)
            refine AO.nil ?_
            exact ⟨(((IntKind.u64.wrap x14) + g10.1) + (IntKind.u64.wrap x22)), _, rfl, (LeL.refl _), rfl, rfl, h1⟩
          · replace h1 := cF h1 q21
            refine AC.skip ?_
            exact ⟨((IntKind.u64.wrap x14) + g10.1), _, rfl, (LeL.refl _), rfl, rfl, h1⟩
        · intro g17 h1
          unfold p_addLimbs_k4 at h1
          refine AC.seq ?_
          refine AC.region ?_
          refine AO.op rfl (AOp.move rfl rfl (ltb rfl) rfl ?_)
          refine AO.op rfl (AOp.move rfl rfl (ltb rfl) rfl ?_)
          refine AO.op rfl (AOp.i2i rfl rfl (ltb rfl) rfl Try.underlying91 Try.underlying106 rfl ?_)
          refine AO.op rfl (AOp.buildSliceD rfl rfl (ltb rfl) el28 zero106 rfl (leb rfl) rfl rfl rfl rfl ?_)
          obtain ⟨q18, h1⟩ := need_elim h1
          refine AO.op rfl (AOp.appendOwn' (n := g10.2.2.length) (m := [(IntKind.u32.wrap g17)].length) (news := (List.map keS2 [(IntKind.u32.wrap g17)])) rfl rfl (ltb rfl) rfl rfl el28 info106 rfl (by decide) rfl (len1 _ _) (len1 _ _) (one1 _ (fun _ => rfl) _) q18 (by decide) rfl rfl (cat1 _ _ _) ?_)
          refine AO.op rfl (AOp.assign rfl rfl (ltb rfl) rfl ?_)
          refine AO.nil ?_
          change AC _ _ _ _
          refine AC.region ?_
          refine AO.op rfl (AOp.move rfl rfl (ltb rfl) rfl ?_)
          obtain ⟨q19, h1⟩ := need_elim h1
          refine AO.op rfl (AOp.ishr (n := 32) rfl rfl (ltb rfl) rfl rfl (by decide) q19 rfl ?_)
          refine AO.op rfl (AOp.assign rfl rfl (ltb rfl) rfl ?_)
          refine AO.nil ?_
          change AC _ _ _ _
          refine AC.region ?_
          obtain ⟨q20, h1⟩ := need_elim h1
          refine AO.op rfl (AOp.iadd rfl rfl (ltb rfl) rfl rfl rfl q20.1 q20.2 ?_)
          refine AO.op rfl (AOp.move rfl rfl (ltb rfl) rfl ?_)
          refine AO.nil ?_
          exact ⟨((g17 / 2 ^ 32), (g10.2.1 + (1 : Int)), (g10.2.2 ++ [(IntKind.u32.wrap g17)])), _, rfl, (LeL.refl _), rfl, rfl, h1⟩
      · replace h1 := cF h1 q13
        refine AC.exit ?_
        obtain rfl := Option.some.inj h1
        exact ⟨(g10.1, g10.2.2), _, rfl, (LeL.refl _), rfl, rfl, aftL h0⟩
    · intro g6 h0
      unfold p_addLimbs_k2 at h0
      change AC _ _ _ _
      refine AC.seq ?_
      refine AC.region ?_
      refine AO.op rfl (AOp.move rfl rfl (ltb rfl) rfl ?_)
      refine AO.op rfl (AOp.move rfl rfl (ltb rfl) rfl ?_)
      refine AO.op rfl (AOp.i2i rfl rfl (ltb rfl) rfl Try.underlying91 Try.underlying106 rfl ?_)
      refine AO.op rfl (AOp.buildSliceD rfl rfl (ltb rfl) el28 zero106 rfl (leb rfl) rfl rfl rfl rfl ?_)
      obtain ⟨q7, h0⟩ := need_elim h0
      refine AO.op rfl (AOp.appendOwn' (n := g6.2.length) (m := [(IntKind.u32.wrap g6.1)].length) (news := (List.map keS2 [(IntKind.u32.wrap g6.1)])) rfl rfl (ltb rfl) rfl rfl el28 info106 rfl (by decide) rfl (len1 _ _) (len1 _ _) (one1 _ (fun _ => rfl) _) q7 (by decide) rfl rfl (cat1 _ _ _) ?_)
      refine AO.freezeG 0 rfl rfl rfl ?_
      obtain ⟨y8, q9, h0⟩ := bind_elim h0
      refine AO.op rfl (AOp.callD rfl rfl (ltb rfl) rfl rfl (w_trim F (g6.2 ++ [(IntKind.u32.wrap g6.1)]) y8 q9) ?_)
      rintro _ rfl
      refine AO.op rfl (AOp.assign rfl rfl (ltb rfl) rfl ?_)
      refine AO.nil ?_
      change AC _ _ _ _
      refine AC.ret ?_
      change RetQ _ _ _ .ret _
      obtain rfl := Option.some.inj h0
      refine retq rfl rfl

set_option maxRecDepth 100000 in
set_option maxHeartbeats 1000000 in
/-- pub-orthodrome/spec.cmpLimbs -/
theorem w_cmpLimbs (F : Nat) (a0 : (List Int)) (a1 : (List Int)) (r0 : Int) (h0 : p_cmpLimbs F a0 a1 = some r0) : FnD Try.prog 98 [eS2 a0, eS2 a1] (fun r => r = di .i64 r0) := by
  refine FnD.of (by kernel_rfl) Try.func98 rfl Try.ntmps98 rfl (leb rfl) fun W ok => ?_
  unfold p_cmpLimbs at h0
  refine AC.seq ?_
  refine AC.region ?_
  refine AO.op rfl (AOp.assign rfl rfl (ltb rfl) rfl ?_)
  refine AO.nil ?_
  change AC _ _ _ _
  refine AC.seq ?_
  refine AC.seq ?_
  refine AC.region ?_
  refine AO.op rfl (AOp.move rfl rfl (ltb rfl) rfl ?_)
  refine AO.op rfl (AOp.lenDs (n := a0.length) (cells := (List.map keS2 a0)) rfl rfl (ltb rfl) rfl el28 (by decide) (len1 _ _) ?_)
  refine AO.op rfl (AOp.move rfl rfl (ltb rfl) rfl ?_)
  refine AO.op rfl (AOp.lenDs (n := a1.length) (cells := (List.map keS2 a1)) rfl rfl (ltb rfl) rfl el28 (by decide) (len1 _ _) ?_)
  refine AO.op rfl (AOp.ineq rfl rfl (ltb rfl) rfl rfl ?_)
  refine AO.nil ?_
  change AC _ _ _ _
  refine AC.cond rfl (fun q1 => ?_) (fun q1 => ?_)
  · replace h0 := cT h0 q1
    refine AC.seq ?_
    refine AC.seq ?_
    refine AC.region ?_
    refine AO.op rfl (AOp.move rfl rfl (ltb rfl) rfl ?_)
    refine AO.op rfl (AOp.lenDs (n := a0.length) (cells := (List.map keS2 a0)) rfl rfl (ltb rfl) rfl el28 (by decide) (len1 _ _) ?_)
    refine AO.op rfl (AOp.move rfl rfl (ltb rfl) rfl ?_)
    refine AO.op rfl (AOp.lenDs (n := a1.length) (cells := (List.map keS2 a1)) rfl rfl (ltb rfl) rfl el28 (by decide) (len1 _ _) ?_)
    refine AO.op rfl (AOp.ilss rfl rfl (ltb rfl) rfl rfl ?_)
    refine AO.nil ?_
    change AC _ _ _ _
    refine AC.cond rfl (fun q2 => ?_) (fun q2 => ?_)
    · replace h0 := cT h0 q2
      refine AC.seq ?_
      refine AC.region ?_
      refine AO.op rfl (AOp.assign rfl rfl (ltb rfl) rfl ?_)
      refine AO.nil ?_
      change AC _ _ _ _
      refine AC.ret ?_
      change RetQ _ _ _ .ret _
      obtain rfl := Option.some.inj h0
      refine retq rfl rfl
    · replace h0 := cF h0 q2
      refine AC.skip ?_
      change AC _ _ _ _
      refine AC.seq ?_
      refine AC.region ?_
      refine AO.op rfl (AOp.assign rfl rfl (ltb rfl) rfl ?_)
      refine AO.nil ?_
      change AC _ _ _ _
      refine AC.ret ?_
      change RetQ _ _ _ .ret _
      obtain rfl := Option.some.inj h0
      refine retq rfl rfl
  · replace h0 := cF h0 q1
    refine AC.skip ?_
    change AC _ _ _ _
    refine AC.seq ?_
    refine AC.seq ?_
    refine AC.region ?_
    refine AO.op rfl (AOp.move rfl rfl (ltb rfl) rfl ?_)
    refine AO.op rfl (AOp.lenDs (n := a0.length) (cells := (List.map keS2 a0)) rfl rfl (ltb rfl) rfl el28 (by decide) (len1 _ _) ?_)
    obtain ⟨q3, h0⟩ := need_elim h0
    refine AO.op rfl (AOp.isub rfl rfl (ltb rfl) rfl rfl rfl q3.1 q3.2 ?_)
    refine AO.op rfl (AOp.assign rfl rfl (ltb rfl) rfl ?_)
    refine AO.nil ?_
    change AC _ _ _ _
    obtain ⟨o4, l5, h0⟩ := bind_elim h0
    refine AC.joinE (V := Unit) [] [] 0 (fun g6 => []) (fun g6 => []) (fun g6 => p_cmpLimbs_k1 g6 = some r0) rfl ?_ ?_
    · refine AC.block ?_
      refine AC.loopP (V := Int) (p_cmpLimbs_l2 a0 a1) o4 [0, 1] [5] 0 (fun g7 => [(5, .d (di .i64 g7))]) (fun g7 => []) F (((a0.length : Nat) : Int) - (1 : Int)) l5 rfl rfl (LeL.refl _) rfl rfl ?_
      intro n9 g7 h1
      unfold p_cmpLimbs_l2 at h1
      refine AC.seq ?_
      refine AC.seq ?_
      refine AC.region ?_
      refine AO.op rfl (AOp.move rfl rfl (ltb rfl) rfl ?_)
      refine AO.op rfl (AOp.igeq rfl rfl (ltb rfl) rfl rfl ?_)
      refine AO.nil ?_
      change AC _ _ _ _
      refine AC.cond rfl (fun q10 => ?_) (fun q10 => ?_)
      · replace h1 := cT h1 q10
        refine AC.skip ?_
        change AC _ _ _ _
        refine AC.seq ?_
        refine AC.block ?_
        refine AC.seq ?_
        refine AC.draw 9 mixed (by kernel_rfl) ?_
        refine AD.op [0] rfl (by kernel_rfl) rfl rfl (fun _ _ h => AOp.move rfl rfl (ltb rfl) rfl h) ?_
        refine AD.op [5] rfl (by kernel_rfl) rfl rfl (fun _ _ h => AOp.move rfl rfl (ltb rfl) rfl h) ?_
        obtain ⟨x11, q12, h1⟩ := idx_elim h1
        refine AD.op [23, 24] rfl (by kernel_rfl) rfl rfl (fun _ _ h => AOp.indexDs (cells := (List.map keS2 a0)) rfl rfl (ltb rfl) rfl rfl el28 (by decide) q12.1 (lt1 q12.2) h) ?_
        refine AD.op [25] rfl (by kernel_rfl) rfl rfl (fun _ _ h => AOp.loadEp rfl rfl (ltb rfl) rfl agg106 (at1 q12.2) h) ?_
        refine AD.op [1] rfl (by kernel_rfl) rfl rfl (fun _ _ h => AOp.move rfl rfl (ltb rfl) rfl h) ?_
        refine AD.op [5] rfl (by kernel_rfl) rfl rfl (fun _ _ h => AOp.move rfl rfl (ltb rfl) rfl h) ?_
        obtain ⟨x13, q14, h1⟩ := idx_elim h1
        refine AD.op [27, 28] rfl (by kernel_rfl) rfl rfl (fun _ _ h => AOp.indexDs (cells := (List.map keS2 a1)) rfl rfl (ltb rfl) rfl rfl el28 (by decide) q14.1 (lt1 q14.2) h) ?_
        refine AD.op [29] rfl (by kernel_rfl) rfl rfl (fun _ _ h => AOp.loadEp rfl rfl (ltb rfl) rfl agg106 (at1 q14.2) h) ?_
        refine AD.op [26, 30] rfl (by kernel_rfl) rfl rfl (fun _ _ h => AOp.ineq rfl rfl (ltb rfl) rfl rfl h) ?_
        refine AD.done ?_
        refine AO.nil ?_
        change AC _ _ _ _
        refine AC.cond rfl (fun q15 => ?_) (fun q15 => ?_)
        · replace h1 := cT h1 q15
          refine AC.seq ?_
          refine AC.seq ?_
          refine AC.draw 9 mixed (by kernel_rfl) ?_
          refine AD.op [0] rfl (by kernel_rfl) rfl rfl (fun _ _ h => AOp.move rfl rfl (ltb rfl) rfl h) ?_
          refine AD.op [5] rfl (by kernel_rfl) rfl rfl (fun _ _ h => AOp.move rfl rfl (ltb rfl) rfl h) ?_
          obtain ⟨x16, q17, h1⟩ := idx_elim h1
          refine AD.op [32, 33] rfl (by kernel_rfl) rfl rfl (fun _ _ h => AOp.indexDs (cells := (List.map keS2 a0)) rfl rfl (ltb rfl) rfl rfl el28 (by decide) q17.1 (lt1 q17.2) h) ?_
          refine AD.op [34] rfl (by kernel_rfl) rfl rfl (fun _ _ h => AOp.loadEp rfl rfl (ltb rfl) rfl agg106 (at1 q17.2) h) ?_
          refine AD.op [1] rfl (by kernel_rfl) rfl rfl (fun _ _ h => AOp.move rfl rfl (ltb rfl) rfl h) ?_
          refine AD.op [5] rfl (by kernel_rfl) rfl rfl (fun _ _ h => AOp.move rfl rfl (ltb rfl) rfl h) ?_
          obtain ⟨x18, q19, h1⟩ := idx_elim h1
          refine AD.op [36, 37] rfl (by kernel_rfl) rfl rfl (fun _ _ h => AOp.indexDs (cells := (List.map keS2 a1)) rfl rfl (ltb rfl) rfl rfl el28 (by decide) q19.1 (lt1 q19.2) h) ?_
          refine AD.op [38] rfl (by kernel_rfl) rfl rfl (fun _ _ h => AOp.loadEp rfl rfl (ltb rfl) rfl agg106 (at1 q19.2) h) ?_
          refine AD.op [35, 39] rfl (by kernel_rfl) rfl rfl (fun _ _ h => AOp.ilss rfl rfl (ltb rfl) rfl rfl h) ?_
          refine AD.done ?_
          refine AO.nil ?_
          change AC _ _ _ _
          refine AC.cond rfl (fun q20 => ?_) (fun q20 => ?_)
          · replace h1 := cT h1 q20
            refine AC.seq ?_
            refine AC.region ?_
            refine AO.op rfl (AOp.assign rfl rfl (ltb rfl) rfl ?_)
            refine AO.nil ?_
            change AC _ _ _ _
            refine AC.ret ?_
            change RetQ _ _ _ .ret _
            obtain rfl := Option.some.inj h1
            replace h0 := aftR h0
            obtain rfl := Option.some.inj h0
            refine retq rfl rfl
          · replace h1 := cF h1 q20
            refine AC.skip ?_
            change AC _ _ _ _
            refine AC.seq ?_
            refine AC.region ?_
            refine AO.op rfl (AOp.assign rfl rfl (ltb rfl) rfl ?_)
            refine AO.nil ?_
            change AC _ _ _ _
            refine AC.ret ?_
            change RetQ _ _ _ .ret _
            obtain rfl := Option.some.inj h1
            replace h0 := aftR h0
            obtain rfl := Option.some.inj h0
            refine retq rfl rfl
        · replace h1 := cF h1 q15
          refine AC.skip ?_
          change AC _ _ _ _
          refine AC.region ?_
          refine AO.op rfl (AOp.move rfl rfl (ltb rfl) rfl ?_)
          obtain ⟨q21, h1⟩ := need_elim h1
          refine AO.op rfl (AOp.isub rfl rfl (ltb rfl) rfl rfl rfl q21.1 q21.2 ?_)
          refine AO.op rfl (AOp.assign rfl rfl (ltb rfl) rfl ?_)
          refine AO.nil ?_
          exact ⟨(g7 - (1 : Int)), _, rfl, (LeL.refl _), rfl, rfl, h1⟩
      · replace h1 := cF h1 q10
        refine AC.exit ?_
        obtain rfl := Option.some.inj h1
        exact ⟨(), _, rfl, (LeL.refl _), rfl, rfl, aftL h0⟩
    · intro g6 h0
      unfold p_cmpLimbs_k1 at h0
      change AC _ _ _ _
      refine AC.seq ?_
      refine AC.region ?_
      refine AO.op rfl (AOp.assign rfl rfl (ltb rfl) rfl ?_)
      refine AO.nil ?_
      change AC _ _ _ _
      refine AC.ret ?_
      change RetQ _ _ _ .ret _
      obtain rfl := Option.some.inj h0
      refine retq rfl rfl

set_option maxRecDepth 100000 in
set_option maxHeartbeats 1000000 in
/-- pub-orthodrome/spec.subLimbs -/
theorem w_subLimbs (F : Nat) (a0 : (List Int)) (a1 : (List Int)) (r0 : (List Int)) (h0 : p_subLimbs F a0 a1 = some r0) : FnD Try.prog 99 [eS2 a0, eS2 a1] (fun r => r = eS2 r0) := by
  refine FnD.of (by kernel_rfl) Try.func99 rfl Try.ntmps99 rfl (leb rfl) fun W ok => ?_
  unfold p_subLimbs at h0
  refine AC.seq ?_
  refine AC.region ?_
  refine AO.op rfl (AOp.assign rfl rfl (ltb rfl) rfl ?_)
  refine AO.nil ?_
  change AC _ _ _ _
  refine AC.seq ?_
  refine AC.region ?_
  refine AO.op rfl (AOp.move rfl rfl (ltb rfl) rfl ?_)
  refine AO.op rfl (AOp.lenDs (n := a0.length) (cells := (List.map keS2 a0)) rfl rfl (ltb rfl) rfl el28 (by decide) (len1 _ _) ?_)
  obtain ⟨q1, h0⟩ := need_elim h0
  refine AO.op rfl (AOp.makeOwn0 rfl rfl (ltb rfl) rfl rfl el28 info106 (by decide) q1 ?_)
  refine AO.op rfl (AOp.assign rfl rfl (ltb rfl) rfl ?_)
  refine AO.nil ?_
  change AC _ _ _ _
  refine AC.seq ?_
  refine AC.region ?_
  refine AO.op rfl (AOp.assign rfl rfl (ltb rfl) rfl ?_)
  refine AO.nil ?_
  change AC _ _ _ _
  refine AC.seq ?_
  refine AC.seq ?_
  refine AC.region ?_
  refine AO.op rfl (AOp.move rfl rfl (ltb rfl) rfl ?_)
  refine AO.op rfl (AOp.lenDs (n := a0.length) (cells := (List.map keS2 a0)) rfl rfl (ltb rfl) rfl el28 (by decide) (len1 _ _) ?_)
  refine AO.op rfl (AOp.move rfl rfl (ltb rfl) rfl ?_)
  refine AO.nil ?_
  change AC _ _ _ _
  obtain ⟨o2, l3, h0⟩ := bind_elim h0
  refine AC.joinE (V := (List Int)) [] [5] 1 (fun g4 => [(5, .own 0)]) (fun g4 => [.grow 106 1 (List.map keS2 g4)]) (fun g4 => (p_subLimbs_k1 F) g4 = some r0) rfl ?_ ?_
  · refine AC.block ?_
    refine AC.loopP (V := (Int × Int × (List Int))) (p_subLimbs_l2 a0 a1) o2 [1, 13, 14] [5, 6, 15] 1 (fun g7 => [(5, .own 0), (6, .d (di .u64 g7.1)), (15, .d (di .i64 g7.2.1))]) (fun g7 => [.grow 106 1 (List.map keS2 g7.2.2)]) F ((0 : Int), (0 : Int), []) l3 rfl rfl (LeL.refl _) rfl rfl ?_
    intro n9 g7 h1
    unfold p_subLimbs_l2 at h1
    refine AC.seq ?_
    refine AC.region ?_
    refine AO.op rfl (AOp.ilss rfl rfl (ltb rfl) rfl rfl ?_)
    refine AO.nil ?_
    change AC _ _ _ _
    refine AC.seq ?_
    refine AC.cond rfl (fun q10 => ?_) (fun q10 => ?_)
    · replace h1 := cT h1 q10
      refine AC.skip ?_
      change AC _ _ _ _
      refine AC.seq ?_
      refine AC.block ?_
      refine AC.seq ?_
      refine AC.region ?_
      refine AO.op rfl (AOp.move rfl rfl (ltb rfl) rfl ?_)
      obtain ⟨x11, q12, h1⟩ := idx_elim h1
      refine AO.op rfl (AOp.indexDs (cells := (List.map keS2 a0)) rfl rfl (ltb rfl) rfl rfl el28 (by decide) q12.1 (lt1 q12.2) ?_)
      refine AO.op rfl (AOp.loadEp rfl rfl (ltb rfl) rfl agg106 (at1 q12.2) ?_)
      refine AO.op rfl (AOp.assign rfl rfl (ltb rfl) rfl ?_)
      refine AO.op rfl (AOp.assign rfl rfl (ltb rfl) rfl ?_)
      refine AO.nil ?_
      change AC _ _ _ _
      refine AC.seq ?_
      refine AC.region ?_
      refine AO.op rfl (AOp.move rfl rfl (ltb rfl) rfl ?_)
      refine AO.op rfl (AOp.assign rfl rfl (ltb rfl) rfl ?_)
      refine AO.nil ?_
      change AC _ _ _ _
      refine AC.joinP (V := Int) [1, 5, 8, 13, 14, 15] [9] 1 (fun g13 => [(9, .d (di .u64 g13))]) (fun g13 => [.grow 106 1 (List.map keS2 g7.2.2)]) (fun g13 => (p_subLimbs_k3 g7 (iter (p_subLimbs_l2 a0 a1) n9) x11) g13 = some o2) rfl ?_ ?_
      · refine AC.seq ?_
        refine AC.region ?_
        refine AO.op rfl (AOp.move rfl rfl (ltb rfl) rfl ?_)
        refine AO.op rfl (AOp.move rfl rfl (ltb rfl) rfl ?_)
        refine AO.op rfl (AOp.lenDs (n := a1.length) (cells := (List.map keS2 a1)) rfl rfl (ltb rfl) rfl el28 (by decide) (len1 _ _) ?_)
        refine AO.op rfl (AOp.ilss rfl rfl (ltb rfl) rfl rfl ?_)
        refine AO.nil ?_
        change AC _ _ _ _
        refine AC.cond rfl (fun q20 => ?_) (fun q20 => ?_)
        · replace h1 := cT h1 q20
          refine AC.region ?_
          refine AO.op rfl (AOp.move rfl rfl (ltb rfl) rfl ?_)
          refine AO.op rfl (AOp.move rfl rfl (ltb rfl) rfl ?_)
          refine AO.op rfl (AOp.move rfl rfl (ltb rfl) rfl ?_)
          obtain ⟨x21, q22, h1⟩ := idx_elim h1
          refine AO.op rfl (AOp.indexDs (cells := (List.map keS2 a1)) rfl rfl (ltb rfl) rfl rfl el28 (by decide) q22.1 (lt1 q22.2) ?_)
          refine AO.op rfl (AOp.loadEp rfl rfl (ltb rfl) rfl agg106 (at1 q22.2) ?_)
          refine AO.op rfl (AOp.i2i rfl rfl (ltb rfl) rfl Try.underlying106 Try.underlying91 rfl ?_)
          obtain ⟨q23, h1⟩ := need_elim h1
          refine AO.op rfl (AOp.iadd rfl rfl (ltb rfl) rfl rfl rfl q23.1 q23.2 ?_)
          refine AO.op rfl (AOp.assign rfl rfl (ltb rfl) rfl ?_)
          refine AO.nil ?_
          exact ⟨(g7.1 + (IntKind.u64.wrap x21)), _, rfl, (LeL.refl _), rfl, rfl, h1⟩
        · replace h1 := cF h1 q20
          refine AC.skip ?_
          exact ⟨g7.1, _, rfl, (LeL.refl _), rfl, rfl, h1⟩
      · intro g13 h1
        unfold p_subLimbs_k3 at h1
        refine AC.seq ?_
        refine AC.region ?_
        refine AO.op rfl (AOp.assign rfl rfl (ltb rfl) rfl ?_)
        refine AO.nil ?_
        change AC _ _ _ _
        refine AC.joinP (V := Int) [1, 5, 8, 9, 13, 14, 15] [6] 1 (fun g14 => [(6, .d (di .u64 g14))]) (fun g14 => [.grow 106 1 (List.map keS2 g7.2.2)]) (fun g14 => (p_subLimbs_k4 g7 (iter (p_subLimbs_l2 a0 a1) n9) x11 g13) g14 = some o2) rfl ?_ ?_
        · refine AC.seq ?_
          refine AC.region ?_
          refine AO.op rfl (AOp.move rfl rfl (ltb rfl) rfl ?_)
          refine AO.op rfl (AOp.i2i rfl rfl (ltb rfl) rfl Try.underlying106 Try.underlying91 rfl ?_)
          refine AO.op rfl (AOp.move rfl rfl (ltb rfl) rfl ?_)
          refine AO.op rfl (AOp.ilss rfl rfl (ltb rfl) rfl rfl ?_)
          refine AO.nil ?_
          change AC _ _ _ _
          refine AC.cond rfl (fun q19 => ?_) (fun q19 => ?_)
          · replace h1 := cT h1 q19
            refine AC.region ?_
            refine AO.op rfl (AOp.assign rfl rfl (ltb rfl) rfl ?_)
            refine AO.nil ?_
            exact ⟨(1 : Int), _, rfl, (LeL.refl _), rfl, rfl, h1⟩
          · replace h1 := cF h1 q19
            refine AC.skip ?_
            exact ⟨(0 : Int), _, rfl, (LeL.refl _), rfl, rfl, h1⟩
        · intro g14 h1
          unfold p_subLimbs_k4 at h1
          refine AC.region ?_
          refine AO.op rfl (AOp.move rfl rfl (ltb rfl) rfl ?_)
          refine AO.op rfl (AOp.move rfl rfl (ltb rfl) rfl ?_)
          refine AO.op rfl (AOp.i2i rfl rfl (ltb rfl) rfl Try.underlying106 Try.underlying91 rfl ?_)
          refine AO.op rfl (AOp.move rfl rfl (ltb rfl) rfl ?_)
          refine AO.op rfl (AOp.ishl (n := 32) rfl rfl (ltb rfl) rfl rfl (by decide) rfl ?_)
          obtain ⟨q15, h1⟩ := need_elim h1
          refine AO.op rfl (AOp.iadd rfl rfl (ltb rfl) rfl rfl rfl q15.1 q15.2 ?_)
          refine AO.op rfl (AOp.move rfl rfl (ltb rfl) rfl ?_)
          obtain ⟨q16, h1⟩ := need_elim h1
          refine AO.op rfl (AOp.isub rfl rfl (ltb rfl) rfl rfl rfl q16.1 q16.2 ?_)
          refine AO.op rfl (AOp.i2i rfl rfl (ltb rfl) rfl Try.underlying91 Try.underlying106 rfl ?_)
          refine AO.op rfl (AOp.buildSliceD rfl rfl (ltb rfl) el28 zero106 rfl (leb rfl) rfl rfl rfl rfl ?_)
          obtain ⟨q17, h1⟩ := need_elim h1
          refine AO.op rfl (AOp.appendOwn' (n := g7.2.2.length) (m := [(IntKind.u32.wrap (((IntKind.u64.wrap x11) + (IntKind.u64.wrap (g14 * 2 ^ 32))) - g13))].length) (news := (List.map keS2 [(IntKind.u32.wrap (((IntKind.u64.wrap x11) + (IntKind.u64.wrap (g14 * 2 ^ 32))) - g13))])) rfl rfl (ltb rfl) rfl rfl el28 info106 rfl (by decide) rfl (len1 _ _) (len1 _ _) (one1 _ (fun _ => rfl) _) q17 (by decide) rfl rfl (cat1 _ _ _) ?_)
          refine AO.op rfl (AOp.assign rfl rfl (ltb rfl) rfl ?_)
          refine AO.nil ?_
          change AC _ _ _ _
          refine AC.region ?_
          obtain ⟨q18, h1⟩ := need_elim h1
          refine AO.op rfl (AOp.iadd rfl rfl (ltb rfl) rfl rfl rfl q18.1 q18.2 ?_)
          refine AO.op rfl (AOp.move rfl rfl (ltb rfl) rfl ?_)
          refine AO.nil ?_
          exact ⟨(g14, (g7.2.1 + (1 : Int)), (g7.2.2 ++ [(IntKind.u32.wrap (((IntKind.u64.wrap x11) + (IntKind.u64.wrap (g14 * 2 ^ 32))) - g13))])), _, rfl, (LeL.refl _), rfl, rfl, h1⟩
    · replace h1 := cF h1 q10
      refine AC.exit ?_
      obtain rfl := Option.some.inj h1
      exact ⟨g7.2.2, _, rfl, (LeL.refl _), rfl, rfl, aftL h0⟩
  · intro g4 h0
    unfold p_subLimbs_k1 at h0
    change AC _ _ _ _
    refine AC.seq ?_
    refine AC.region ?_
    refine AO.op rfl (AOp.move rfl rfl (ltb rfl) rfl ?_)
    refine AO.freezeG 0 rfl rfl rfl ?_
    obtain ⟨y5, q6, h0⟩ := bind_elim h0
    refine AO.op rfl (AOp.callD rfl rfl (ltb rfl) rfl rfl (w_trim F g4 y5 q6) ?_)
    rintro _ rfl
    refine AO.op rfl (AOp.assign rfl rfl (ltb rfl) rfl ?_)
    refine AO.nil ?_
    change AC _ _ _ _
    refine AC.ret ?_
    change RetQ _ _ _ .ret _
    obtain rfl := Option.some.inj h0
    refine retq rfl rfl

set_option maxRecDepth 100000 in
set_option maxHeartbeats 1000000 in
/-- (pub-orthodrome/spec.Whole).Add -/
theorem w_Whole_Add (F : Nat) (a0 : TSpec_Whole) (a1 : TSpec_Whole) (r0 : TSpec_Whole) (h0 : p_Whole_Add F a0 a1 = some r0) : FnD Try.prog 90 [e_TSpec_Whole a0, e_TSpec_Whole a1] (fun r => r = e_TSpec_Whole r0) := by
  refine FnD.of (by kernel_rfl) Try.func90 rfl Try.ntmps90 rfl (leb rfl) fun W ok => ?_
  unfold p_Whole_Add at h0
  refine AC.seq ?_
  refine AC.region ?_
  refine AO.op rfl (AOp.box rfl rfl (ltb rfl) rfl rfl ?_)
  refine AO.op rfl (AOp.box rfl rfl (ltb rfl) rfl rfl ?_)
  refine AO.op rfl (AOp.alloc rfl rfl (ltb rfl) zero30 rfl ?_)
  refine AO.nil ?_
  change AC _ _ _ _
  refine AC.seq ?_
  refine AC.seq ?_
  refine AC.region ?_
  refine AO.op rfl (AOp.fieldAddr rfl rfl (ltb rfl) rfl fo30_0 ?_)
  refine AO.op rfl (AOp.load1 rfl rfl (ltb rfl) rfl agg4 rfl rfl ?_)
  refine AO.op rfl (AOp.fieldAddr rfl rfl (ltb rfl) rfl fo30_0 ?_)
  refine AO.op rfl (AOp.load1 rfl rfl (ltb rfl) rfl agg4 rfl rfl ?_)
  refine AO.op rfl (AOp.beql Try.underlying4 rfl rfl (ltb rfl) rfl rfl ?_)
  refine AO.nil ?_
  change AC _ _ _ _
  refine AC.cond rfl (fun q1 => ?_) (fun q1 => ?_)
  · replace h0 := cT h0 q1
    refine AC.seq ?_
    refine AC.draw 8 mixed (by kernel_rfl) ?_
    refine AD.op [2] rfl (by kernel_rfl) rfl rfl (fun _ _ h => AOp.fieldAddr rfl rfl (ltb rfl) rfl fo30_0 h) ?_
    refine AD.op [10] rfl (by kernel_rfl) rfl rfl (fun _ _ h => AOp.load1 rfl rfl (ltb rfl) rfl agg4 rfl rfl h) ?_
    refine AD.op [2] rfl (by kernel_rfl) rfl rfl (fun _ _ h => AOp.fieldAddr rfl rfl (ltb rfl) rfl fo30_1 h) ?_
    refine AD.op [12] rfl (by kernel_rfl) rfl rfl (fun _ _ h => AOp.load1 rfl rfl (ltb rfl) rfl agg28 rfl rfl h) ?_
    refine AD.op [3] rfl (by kernel_rfl) rfl rfl (fun _ _ h => AOp.fieldAddr rfl rfl (ltb rfl) rfl fo30_1 h) ?_
    refine AD.op [14] rfl (by kernel_rfl) rfl rfl (fun _ _ h => AOp.load1 rfl rfl (ltb rfl) rfl agg28 rfl rfl h) ?_
    obtain ⟨y2, q3, h0⟩ := bind_elim h0
    refine AD.op [13, 15] rfl (by kernel_rfl) rfl rfl (fun _ _ h => AOp.callD rfl rfl (ltb rfl) rfl rfl (w_addLimbs F a0.L a1.L y2 q3) (by rintro _ rfl; exact h)) ?_
    refine AD.op [11, 16] rfl (by kernel_rfl) rfl rfl (fun _ _ h => AOp.build rfl rfl (ltb rfl) zero30 rfl places30 rfl rfl h) ?_
    refine AD.done ?_
    refine AO.op rfl (AOp.store rfl rfl rfl rfl size30 rfl rfl rfl (leb rfl) ?_)
    refine AO.nil ?_
    change AC _ _ _ _
    refine AC.ret ?_
    change RetQ _ _ _ .ret _
    obtain rfl := Option.some.inj h0
    refine retq rfl rfl
  · replace h0 := cF h0 q1
    refine AC.skip ?_
    change AC _ _ _ _
    refine AC.seq ?_
    refine AC.seq ?_
    refine AC.region ?_
    refine AO.op rfl (AOp.fieldAddr rfl rfl (ltb rfl) rfl fo30_1 ?_)
    refine AO.op rfl (AOp.load1 rfl rfl (ltb rfl) rfl agg28 rfl rfl ?_)
    refine AO.op rfl (AOp.fieldAddr rfl rfl (ltb rfl) rfl fo30_1 ?_)
    refine AO.op rfl (AOp.load1 rfl rfl (ltb rfl) rfl agg28 rfl rfl ?_)
    obtain ⟨y4, q5, h0⟩ := bind_elim h0
    refine AO.op rfl (AOp.callD rfl rfl (ltb rfl) rfl rfl (w_cmpLimbs F a0.L a1.L y4 q5) ?_)
    rintro _ rfl
    refine AO.nil ?_
    change AC _ _ _ _
    refine AC.block ?_
    refine AC.seq ?_
    refine AC.region ?_
    refine AO.op rfl (AOp.ieql rfl rfl (ltb rfl) rfl rfl ?_)
    refine AO.op rfl (AOp.assign rfl rfl (ltb rfl) rfl ?_)
    refine AO.nil ?_
    change AC _ _ _ _
    refine AC.cond rfl (fun q6 => ?_) (fun q6 => ?_)
    · replace h0 := cT h0 q6
      refine AC.seq ?_
      refine AC.region ?_
      refine AO.op rfl (AOp.build rfl rfl (ltb rfl) zero30 rfl places30 rfl rfl ?_)
      refine AO.op rfl (AOp.store rfl rfl rfl rfl size30 rfl rfl rfl (leb rfl) ?_)
      refine AO.nil ?_
      change AC _ _ _ _
      refine AC.subO 2 rfl (.cons (SVLe.refl _) (.cons (SVLe.nil 1) .nil)) ?_
      refine AC.ret ?_
      change RetQ _ _ _ .ret _
      obtain rfl := Option.some.inj h0
      refine retq rfl rfl
    · replace h0 := cF h0 q6
      refine AC.seq ?_
      refine AC.region ?_
      refine AO.op rfl (AOp.ieql rfl rfl (ltb rfl) rfl rfl ?_)
      refine AO.op rfl (AOp.assign rfl rfl (ltb rfl) rfl ?_)
      refine AO.nil ?_
      change AC _ _ _ _
      refine AC.cond rfl (fun q7 => ?_) (fun q7 => ?_)
      · replace h0 := cT h0 q7
        refine AC.seq ?_
        refine AC.draw 8 mixed (by kernel_rfl) ?_
        refine AD.op [2] rfl (by kernel_rfl) rfl rfl (fun _ _ h => AOp.fieldAddr rfl rfl (ltb rfl) rfl fo30_0 h) ?_
        refine AD.op [28] rfl (by kernel_rfl) rfl rfl (fun _ _ h => AOp.load1 rfl rfl (ltb rfl) rfl agg4 rfl rfl h) ?_
        refine AD.op [2] rfl (by kernel_rfl) rfl rfl (fun _ _ h => AOp.fieldAddr rfl rfl (ltb rfl) rfl fo30_1 h) ?_
        refine AD.op [30] rfl (by kernel_rfl) rfl rfl (fun _ _ h => AOp.load1 rfl rfl (ltb rfl) rfl agg28 rfl rfl h) ?_
        refine AD.op [3] rfl (by kernel_rfl) rfl rfl (fun _ _ h => AOp.fieldAddr rfl rfl (ltb rfl) rfl fo30_1 h) ?_
        refine AD.op [32] rfl (by kernel_rfl) rfl rfl (fun _ _ h => AOp.load1 rfl rfl (ltb rfl) rfl agg28 rfl rfl h) ?_
        obtain ⟨y8, q9, h0⟩ := bind_elim h0
        refine AD.op [31, 33] rfl (by kernel_rfl) rfl rfl (fun _ _ h => AOp.callD rfl rfl (ltb rfl) rfl rfl (w_subLimbs F a0.L a1.L y8 q9) (by rintro _ rfl; exact h)) ?_
        refine AD.op [29, 34] rfl (by kernel_rfl) rfl rfl (fun _ _ h => AOp.build rfl rfl (ltb rfl) zero30 rfl places30 rfl rfl h) ?_
        refine AD.done ?_
        refine AO.op rfl (AOp.store rfl rfl rfl rfl size30 rfl rfl rfl (leb rfl) ?_)
        refine AO.nil ?_
        change AC _ _ _ _
        refine AC.ret ?_
        change RetQ _ _ _ .ret _
        obtain rfl := Option.some.inj h0
        refine retq rfl rfl
      · replace h0 := cF h0 q7
        refine AC.skip ?_
        change AC _ _ _ _
        refine AC.seq ?_
        refine AC.draw 8 mixed (by kernel_rfl) ?_
        refine AD.op [3] rfl (by kernel_rfl) rfl rfl (fun _ _ h => AOp.fieldAddr rfl rfl (ltb rfl) rfl fo30_0 h) ?_
        refine AD.op [36] rfl (by kernel_rfl) rfl rfl (fun _ _ h => AOp.load1 rfl rfl (ltb rfl) rfl agg4 rfl rfl h) ?_
        refine AD.op [3] rfl (by kernel_rfl) rfl rfl (fun _ _ h => AOp.fieldAddr rfl rfl (ltb rfl) rfl fo30_1 h) ?_
        refine AD.op [38] rfl (by kernel_rfl) rfl rfl (fun _ _ h => AOp.load1 rfl rfl (ltb rfl) rfl agg28 rfl rfl h) ?_
        refine AD.op [2] rfl (by kernel_rfl) rfl rfl (fun _ _ h => AOp.fieldAddr rfl rfl (ltb rfl) rfl fo30_1 h) ?_
        refine AD.op [40] rfl (by kernel_rfl) rfl rfl (fun _ _ h => AOp.load1 rfl rfl (ltb rfl) rfl agg28 rfl rfl h) ?_
        obtain ⟨y10, q11, h0⟩ := bind_elim h0
        refine AD.op [39, 41] rfl (by kernel_rfl) rfl rfl (fun _ _ h => AOp.callD rfl rfl (ltb rfl) rfl rfl (w_subLimbs F a1.L a0.L y10 q11) (by rintro _ rfl; exact h)) ?_
        refine AD.op [37, 42] rfl (by kernel_rfl) rfl rfl (fun _ _ h => AOp.build rfl rfl (ltb rfl) zero30 rfl places30 rfl rfl h) ?_
        refine AD.done ?_
        refine AO.op rfl (AOp.store rfl rfl rfl rfl size30 rfl rfl rfl (leb rfl) ?_)
        refine AO.nil ?_
        change AC _ _ _ _
        refine AC.ret ?_
        change RetQ _ _ _ .ret _
        obtain rfl := Option.some.inj h0
        refine retq rfl rfl

set_option maxRecDepth 100000 in
set_option maxHeartbeats 1000000 in
/-- (pub-orthodrome/spec.Dyadic).Add -/
theorem w_Dyadic_Add (F : Nat) (a0 : TSpec_Dyadic) (a1 : TSpec_Dyadic) (r0 : TSpec_Dyadic) (h0 : p_Dyadic_Add F a0 a1 = some r0) : FnD Try.prog 73 [e_TSpec_Dyadic a0, e_TSpec_Dyadic a1] (fun r => r = e_TSpec_Dyadic r0) := by
  refine FnD.of (by kernel_rfl) Try.func73 rfl Try.ntmps73 rfl (leb rfl) fun W ok => ?_
  unfold p_Dyadic_Add at h0
  refine AC.seq ?_
  refine AC.region ?_
  refine AO.op rfl (AOp.box rfl rfl (ltb rfl) rfl rfl ?_)
  refine AO.op rfl (AOp.box rfl rfl (ltb rfl) rfl rfl ?_)
  refine AO.op rfl (AOp.alloc rfl rfl (ltb rfl) zero32 rfl ?_)
  refine AO.nil ?_
  change AC _ _ _ _
  refine AC.seq ?_
  refine AC.block ?_
  refine AC.seq ?_
  refine AC.region ?_
  refine AO.op rfl (AOp.loadN rfl rfl (ltb rfl) rfl agg32 size32 rfl (leb rfl) rfl ?_)
  obtain ⟨y1, q2, h0⟩ := bind_elim h0
  refine AO.op rfl (AOp.callD rfl rfl (ltb rfl) rfl rfl (w_Dyadic_Sign a0 y1 q2) ?_)
  rintro _ rfl
  refine AO.op rfl (AOp.ieql rfl rfl (ltb rfl) rfl rfl ?_)
  refine AO.op rfl (AOp.assign rfl rfl (ltb rfl) rfl ?_)
  refine AO.nil ?_
  change AC _ _ _ _
  refine AC.cond rfl (fun q3 => ?_) (fun q3 => ?_)
  · replace h0 := cT h0 q3
    refine AC.seq ?_
    refine AC.region ?_
    refine AO.op rfl (AOp.loadN rfl rfl (ltb rfl) rfl agg32 size32 rfl (leb rfl) rfl ?_)
    refine AO.op rfl (AOp.store rfl rfl rfl rfl size32 rfl rfl rfl (leb rfl) ?_)
    refine AO.nil ?_
    change AC _ _ _ _
    refine AC.ret ?_
    change RetQ _ _ _ .ret _
    obtain rfl := Option.some.inj h0
    refine retq rfl rfl
  · replace h0 := cF h0 q3
    refine AC.seq ?_
    refine AC.region ?_
    refine AO.op rfl (AOp.loadN rfl rfl (ltb rfl) rfl agg32 size32 rfl (leb rfl) rfl ?_)
    obtain ⟨y4, q5, h0⟩ := bind_elim h0
    refine AO.op rfl (AOp.callD rfl rfl (ltb rfl) rfl rfl (w_Dyadic_Sign a1 y4 q5) ?_)
    rintro _ rfl
    refine AO.op rfl (AOp.ieql rfl rfl (ltb rfl) rfl rfl ?_)
    refine AO.op rfl (AOp.assign rfl rfl (ltb rfl) rfl ?_)
    refine AO.nil ?_
    change AC _ _ _ _
    refine AC.cond rfl (fun q6 => ?_) (fun q6 => ?_)
    · replace h0 := cT h0 q6
      refine AC.seq ?_
      refine AC.region ?_
      refine AO.op rfl (AOp.loadN rfl rfl (ltb rfl) rfl agg32 size32 rfl (leb rfl) rfl ?_)
      refine AO.op rfl (AOp.store rfl rfl rfl rfl size32 rfl rfl rfl (leb rfl) ?_)
      refine AO.nil ?_
      change AC _ _ _ _
      refine AC.ret ?_
      change RetQ _ _ _ .ret _
      obtain rfl := Option.some.inj h0
      refine retq rfl rfl
    · replace h0 := cF h0 q6
      refine AC.seq ?_
      refine AC.region ?_
      refine AO.op rfl (AOp.fieldAddr rfl rfl (ltb rfl) rfl fo32_1 ?_)
      refine AO.op rfl (AOp.load1 rfl rfl (ltb rfl) rfl agg3 rfl rfl ?_)
      refine AO.op rfl (AOp.fieldAddr rfl rfl (ltb rfl) rfl fo32_1 ?_)
      refine AO.op rfl (AOp.load1 rfl rfl (ltb rfl) rfl agg3 rfl rfl ?_)
      refine AO.op rfl (AOp.igtr rfl rfl (ltb rfl) rfl rfl ?_)
      refine AO.op rfl (AOp.assign rfl rfl (ltb rfl) rfl ?_)
      refine AO.nil ?_
      change AC _ _ _ _
      refine AC.cond rfl (fun q7 => ?_) (fun q7 => ?_)
      · replace h0 := cT h0 q7
        refine AC.seq ?_
        refine AC.draw 14 mixed (by kernel_rfl) ?_
        refine AD.op [2] rfl (by kernel_rfl) rfl rfl (fun _ _ h => AOp.fieldAddr rfl rfl (ltb rfl) rfl fo32_0 h) ?_
        refine AD.op [21] rfl (by kernel_rfl) rfl rfl (fun _ _ h => AOp.loadN rfl rfl (ltb rfl) rfl agg30 size30 rfl (leb rfl) rfl h) ?_
        refine AD.op [2] rfl (by kernel_rfl) rfl rfl (fun _ _ h => AOp.fieldAddr rfl rfl (ltb rfl) rfl fo32_1 h) ?_
        refine AD.op [23] rfl (by kernel_rfl) rfl rfl (fun _ _ h => AOp.load1 rfl rfl (ltb rfl) rfl agg3 rfl rfl h) ?_
        refine AD.op [3] rfl (by kernel_rfl) rfl rfl (fun _ _ h => AOp.fieldAddr rfl rfl (ltb rfl) rfl fo32_1 h) ?_
        refine AD.op [25] rfl (by kernel_rfl) rfl rfl (fun _ _ h => AOp.load1 rfl rfl (ltb rfl) rfl agg3 rfl rfl h) ?_
        obtain ⟨q8, h0⟩ := need_elim h0
        refine AD.op [24, 26] rfl (by kernel_rfl) rfl rfl (fun _ _ h => AOp.isub rfl rfl (ltb rfl) rfl rfl rfl q8.1 q8.2 h) ?_
        obtain ⟨y9, q10, h0⟩ := bind_elim h0
        refine AD.op [22, 27] rfl (by kernel_rfl) rfl rfl (fun _ _ h => AOp.callD rfl rfl (ltb rfl) rfl rfl (w_Whole_Up F a0.N (a0.E - a1.E) y9 q10) (by rintro _ rfl; exact h)) ?_
        refine AD.op [3] rfl (by kernel_rfl) rfl rfl (fun _ _ h => AOp.fieldAddr rfl rfl (ltb rfl) rfl fo32_0 h) ?_
        refine AD.op [29] rfl (by kernel_rfl) rfl rfl (fun _ _ h => AOp.loadN rfl rfl (ltb rfl) rfl agg30 size30 rfl (leb rfl) rfl h) ?_
        obtain ⟨y11, q12, h0⟩ := bind_elim h0
        refine AD.op [28, 30] rfl (by kernel_rfl) rfl rfl (fun _ _ h => AOp.callD rfl rfl (ltb rfl) rfl rfl (w_Whole_Add F y9 a1.N y11 q12) (by rintro _ rfl; exact h)) ?_
        refine AD.op [3] rfl (by kernel_rfl) rfl rfl (fun _ _ h => AOp.fieldAddr rfl rfl (ltb rfl) rfl fo32_1 h) ?_
        refine AD.op [32] rfl (by kernel_rfl) rfl rfl (fun _ _ h => AOp.load1 rfl rfl (ltb rfl) rfl agg3 rfl rfl h) ?_
        refine AD.op [31, 33] rfl (by kernel_rfl) rfl rfl (fun _ _ h => AOp.build rfl rfl (ltb rfl) zero32 rfl places32 rfl rfl h) ?_
        refine AD.done ?_
        refine AO.op rfl (AOp.store rfl rfl rfl rfl size32 rfl rfl rfl (leb rfl) ?_)
        refine AO.nil ?_
        change AC _ _ _ _
        refine AC.ret ?_
        change RetQ _ _ _ .ret _
        obtain rfl := Option.some.inj h0
        refine retq rfl rfl
      · replace h0 := cF h0 q7
        refine AC.skip ?_
        change AC _ _ _ _
        refine AC.seq ?_
        refine AC.draw 14 mixed (by kernel_rfl) ?_
        refine AD.op [3] rfl (by kernel_rfl) rfl rfl (fun _ _ h => AOp.fieldAddr rfl rfl (ltb rfl) rfl fo32_0 h) ?_
        refine AD.op [35] rfl (by kernel_rfl) rfl rfl (fun _ _ h => AOp.loadN rfl rfl (ltb rfl) rfl agg30 size30 rfl (leb rfl) rfl h) ?_
        refine AD.op [3] rfl (by kernel_rfl) rfl rfl (fun _ _ h => AOp.fieldAddr rfl rfl (ltb rfl) rfl fo32_1 h) ?_
        refine AD.op [37] rfl (by kernel_rfl) rfl rfl (fun _ _ h => AOp.load1 rfl rfl (ltb rfl) rfl agg3 rfl rfl h) ?_
        refine AD.op [2] rfl (by kernel_rfl) rfl rfl (fun _ _ h => AOp.fieldAddr rfl rfl (ltb rfl) rfl fo32_1 h) ?_
        refine AD.op [39] rfl (by kernel_rfl) rfl rfl (fun _ _ h => AOp.load1 rfl rfl (ltb rfl) rfl agg3 rfl rfl h) ?_
        obtain ⟨q13, h0⟩ := need_elim h0
        refine AD.op [38, 40] rfl (by kernel_rfl) rfl rfl (fun _ _ h => AOp.isub rfl rfl (ltb rfl) rfl rfl rfl q13.1 q13.2 h) ?_
        obtain ⟨y14, q15, h0⟩ := bind_elim h0
        refine AD.op [36, 41] rfl (by kernel_rfl) rfl rfl (fun _ _ h => AOp.callD rfl rfl (ltb rfl) rfl rfl (w_Whole_Up F a1.N (a1.E - a0.E) y14 q15) (by rintro _ rfl; exact h)) ?_
        refine AD.op [2] rfl (by kernel_rfl) rfl rfl (fun _ _ h => AOp.fieldAddr rfl rfl (ltb rfl) rfl fo32_0 h) ?_
        refine AD.op [43] rfl (by kernel_rfl) rfl rfl (fun _ _ h => AOp.loadN rfl rfl (ltb rfl) rfl agg30 size30 rfl (leb rfl) rfl h) ?_
        obtain ⟨y16, q17, h0⟩ := bind_elim h0
        refine AD.op [42, 44] rfl (by kernel_rfl) rfl rfl (fun _ _ h => AOp.callD rfl rfl (ltb rfl) rfl rfl (w_Whole_Add F y14 a0.N y16 q17) (by rintro _ rfl; exact h)) ?_
        refine AD.op [2] rfl (by kernel_rfl) rfl rfl (fun _ _ h => AOp.fieldAddr rfl rfl (ltb rfl) rfl fo32_1 h) ?_
        refine AD.op [46] rfl (by kernel_rfl) rfl rfl (fun _ _ h => AOp.load1 rfl rfl (ltb rfl) rfl agg3 rfl rfl h) ?_
        refine AD.op [45, 47] rfl (by kernel_rfl) rfl rfl (fun _ _ h => AOp.build rfl rfl (ltb rfl) zero32 rfl places32 rfl rfl h) ?_
        refine AD.done ?_
        refine AO.op rfl (AOp.store rfl rfl rfl rfl size32 rfl rfl rfl (leb rfl) ?_)
        refine AO.nil ?_
        change AC _ _ _ _
        refine AC.ret ?_
        change RetQ _ _ _ .ret _
        obtain rfl := Option.some.inj h0
        refine retq rfl rfl

set_option maxRecDepth 100000 in
set_option maxHeartbeats 1000000 in
/-- (pub-orthodrome/spec.Dyadic).Sub -/
theorem w_Dyadic_Sub (F : Nat) (a0 : TSpec_Dyadic) (a1 : TSpec_Dyadic) (r0 : TSpec_Dyadic) (h0 : p_Dyadic_Sub F a0 a1 = some r0) : FnD Try.prog 37 [e_TSpec_Dyadic a0, e_TSpec_Dyadic a1] (fun r => r = e_TSpec_Dyadic r0) := by
  refine FnD.of (by kernel_rfl) Try.func37 rfl Try.ntmps37 rfl (leb rfl) fun W ok => ?_
  unfold p_Dyadic_Sub at h0
  refine AC.seq ?_
  refine AC.region ?_
  refine AO.op rfl (AOp.box rfl rfl (ltb rfl) rfl rfl ?_)
  refine AO.op rfl (AOp.box rfl rfl (ltb rfl) rfl rfl ?_)
  refine AO.op rfl (AOp.alloc rfl rfl (ltb rfl) zero32 rfl ?_)
  refine AO.nil ?_
  change AC _ _ _ _
  refine AC.seq ?_
  refine AC.draw 4 mixed (by kernel_rfl) ?_
  refine AD.op [2] rfl (by kernel_rfl) rfl rfl (fun _ _ h => AOp.loadN rfl rfl (ltb rfl) rfl agg32 size32 rfl (leb rfl) rfl h) ?_
  refine AD.op [3] rfl (by kernel_rfl) rfl rfl (fun _ _ h => AOp.loadN rfl rfl (ltb rfl) rfl agg32 size32 rfl (leb rfl) rfl h) ?_
  obtain ⟨y1, q2, h0⟩ := bind_elim h0
  refine AD.op [6] rfl (by kernel_rfl) rfl rfl (fun _ _ h => AOp.callD rfl rfl (ltb rfl) rfl rfl (w_Dyadic_Minus a1 y1 q2) (by rintro _ rfl; exact h)) ?_
  obtain ⟨y3, q4, h0⟩ := bind_elim h0
  refine AD.op [5, 7] rfl (by kernel_rfl) rfl rfl (fun _ _ h => AOp.callD rfl rfl (ltb rfl) rfl rfl (w_Dyadic_Add F a0 y1 y3 q4) (by rintro _ rfl; exact h)) ?_
  refine AD.done ?_
  refine AO.op rfl (AOp.store rfl rfl rfl rfl size32 rfl rfl rfl (leb rfl) ?_)
  refine AO.nil ?_
  change AC _ _ _ _
  refine AC.ret ?_
  change RetQ _ _ _ .ret _
  obtain rfl := Option.some.inj h0
  refine retq rfl rfl

set_option maxRecDepth 100000 in
set_option maxHeartbeats 1000000 in
/-- (pub-orthodrome/spec.Whole).Mul -/
theorem w_Whole_Mul (F : Nat) (a0 : TSpec_Whole) (a1 : TSpec_Whole) (r0 : TSpec_Whole) (h0 : p_Whole_Mul F a0 a1 = some r0) : FnD Try.prog 50 [e_TSpec_Whole a0, e_TSpec_Whole a1] (fun r => r = e_TSpec_Whole r0) := by
  refine FnD.of (by kernel_rfl) Try.func50 rfl Try.ntmps50 rfl (leb rfl) fun W ok => ?_
  unfold p_Whole_Mul at h0
  refine AC.seq ?_
  refine AC.region ?_
  refine AO.op rfl (AOp.box rfl rfl (ltb rfl) rfl rfl ?_)
  refine AO.op rfl (AOp.box rfl rfl (ltb rfl) rfl rfl ?_)
  refine AO.op rfl (AOp.alloc rfl rfl (ltb rfl) zero30 rfl ?_)
  refine AO.nil ?_
  change AC _ _ _ _
  refine AC.seq ?_
  refine AC.region ?_
  refine AO.op rfl (AOp.fieldAddr rfl rfl (ltb rfl) rfl fo30_1 ?_)
  refine AO.op rfl (AOp.load1 rfl rfl (ltb rfl) rfl agg28 rfl rfl ?_)
  refine AO.op rfl (AOp.lenDs (n := a0.L.length) (cells := (List.map keS2 a0.L)) rfl rfl (ltb rfl) rfl el28 (by decide) (len1 _ _) ?_)
  refine AO.op rfl (AOp.fieldAddr rfl rfl (ltb rfl) rfl fo30_1 ?_)
  refine AO.op rfl (AOp.load1 rfl rfl (ltb rfl) rfl agg28 rfl rfl ?_)
  refine AO.op rfl (AOp.lenDs (n := a1.L.length) (cells := (List.map keS2 a1.L)) rfl rfl (ltb rfl) rfl el28 (by decide) (len1 _ _) ?_)
  obtain ⟨q1, h0⟩ := need_elim h0
  refine AO.op rfl (AOp.iadd rfl rfl (ltb rfl) rfl rfl rfl q1.1 q1.2 ?_)
  obtain ⟨q2, h0⟩ := need_elim h0
  refine AO.op rfl (AOp.makeL (f := fun z => SV.d (keS2 z)) (z0 := (0 : Int)) rfl rfl (ltb rfl) rfl rfl el28 info106 rfl rfl (by decide) q2.1 q2.2 rfl ?_)
  refine AO.op rfl (AOp.assign rfl rfl (ltb rfl) rfl ?_)
  refine AO.nil ?_
  change AC _ _ _ _
  refine AC.seq ?_
  refine AC.seq ?_
  refine AC.region ?_
  refine AO.op rfl (AOp.fieldAddr rfl rfl (ltb rfl) rfl fo30_1 ?_)
  refine AO.op rfl (AOp.load1 rfl rfl (ltb rfl) rfl agg28 rfl rfl ?_)
  refine AO.op rfl (AOp.lenDs (n := a0.L.length) (cells := (List.map keS2 a0.L)) rfl rfl (ltb rfl) rfl el28 (by decide) (len1 _ _) ?_)
  refine AO.op rfl (AOp.move rfl rfl (ltb rfl) rfl ?_)
  refine AO.nil ?_
  change AC _ _ _ _
  obtain ⟨o3, l4, h0⟩ := bind_elim h0
  refine AC.joinE (V := (List Int)) [2, 3, 4, 5] [] 4 (fun g5 => []) (fun g5 => [.fix 30 [.d (dbool a0.Neg), .d (eS2 a0.L)], .fix 30 [.d (dbool a1.Neg), .d (eS2 a1.L)], .fix 30 [.d (dbool false), .d (.v (.slice none 0 0))], .fix 106 (List.map (fun z => SV.d (keS2 z)) g5)]) (fun g5 => (p_Whole_Mul_k1 a0 a1 F) g5 = some r0) rfl ?_ ?_
  · refine AC.block ?_
    refine AC.loopP (V := (Int × (List Int))) (p_Whole_Mul_l2 a0 a1 F) o3 [2, 3, 4, 5, 21, 22] [23] 4 (fun g10 => [(23, .d (di .i64 g10.1))]) (fun g10 => [.fix 30 [.d (dbool a0.Neg), .d (eS2 a0.L)], .fix 30 [.d (dbool a1.Neg), .d (eS2 a1.L)], .fix 30 [.d (dbool false), .d (.v (.slice none 0 0))], .fix 106 (List.map (fun z => SV.d (keS2 z)) g10.2)]) F ((0 : Int), (List.replicate ((((a0.L.length : Nat) : Int) + ((a1.L.length : Nat) : Int))).toNat (0 : Int))) l4 rfl rfl (LeL.refl _) rfl (okU_mk rfl (okU_cons rfl (okU_cons rfl (okU_cons rfl (okU_cons (okU_fixl (fun _ => rfl)) okU_nil))))) ?_
    intro n12 g10 h1
    unfold p_Whole_Mul_l2 at h1
    refine AC.seq ?_
    refine AC.region ?_
    refine AO.op rfl (AOp.ilss rfl rfl (ltb rfl) rfl rfl ?_)
    refine AO.nil ?_
    change AC _ _ _ _
    refine AC.seq ?_
    refine AC.cond rfl (fun q13 => ?_) (fun q13 => ?_)
    · replace h1 := cT h1 q13
      refine AC.skip ?_
      change AC _ _ _ _
      refine AC.seq ?_
      refine AC.block ?_
      refine AC.seq ?_
      refine AC.region ?_
      refine AO.op rfl (AOp.move rfl rfl (ltb rfl) rfl ?_)
      obtain ⟨x14, q15, h1⟩ := idx_elim h1
      refine AO.op rfl (AOp.indexDs (cells := (List.map keS2 a0.L)) rfl rfl (ltb rfl) rfl rfl el28 (by decide) q15.1 (lt1 q15.2) ?_)
      refine AO.op rfl (AOp.loadEp rfl rfl (ltb rfl) rfl agg106 (at1 q15.2) ?_)
      refine AO.op rfl (AOp.assign rfl rfl (ltb rfl) rfl ?_)
      refine AO.op rfl (AOp.assign rfl rfl (ltb rfl) rfl ?_)
      refine AO.nil ?_
      change AC _ _ _ _
      refine AC.seq ?_
      refine AC.region ?_
      refine AO.op rfl (AOp.assign rfl rfl (ltb rfl) rfl ?_)
      refine AO.nil ?_
      change AC _ _ _ _
      refine AC.seq ?_
      refine AC.seq ?_
      refine AC.region ?_
      refine AO.op rfl (AOp.fieldAddr rfl rfl (ltb rfl) rfl fo30_1 ?_)
      refine AO.op rfl (AOp.load1 rfl rfl (ltb rfl) rfl agg28 rfl rfl ?_)
      refine AO.op rfl (AOp.lenDs (n := a1.L.length) (cells := (List.map keS2 a1.L)) rfl rfl (ltb rfl) rfl el28 (by decide) (len1 _ _) ?_)
      refine AO.op rfl (AOp.move rfl rfl (ltb rfl) rfl ?_)
      refine AO.nil ?_
      change AC _ _ _ _
      obtain ⟨o16, l17, h1⟩ := bind_elim h1
      refine AC.joinE (V := (Int × (List Int))) [2, 3, 4, 5, 6, 21, 22, 23] [8] 4 (fun g18 => [(8, .d (di .u64 g18.1))]) (fun g18 => [.fix 30 [.d (dbool a0.Neg), .d (eS2 a0.L)], .fix 30 [.d (dbool a1.Neg), .d (eS2 a1.L)], .fix 30 [.d (dbool false), .d (.v (.slice none 0 0))], .fix 106 (List.map (fun z => SV.d (keS2 z)) g18.2)]) (fun g18 => (p_Whole_Mul_k3 a0 a1 g10 (iter (p_Whole_Mul_l2 a0 a1 F) n12)) g18 = some o3) rfl ?_ ?_
      · refine AC.block ?_
        refine AC.loopP (V := (Int × Int × (List Int))) (p_Whole_Mul_l4 a0 a1 g10 x14) o16 [2, 3, 4, 5, 6, 7, 21, 22, 23, 29, 30] [8, 31] 4 (fun g23 => [(8, .d (di .u64 g23.1)), (31, .d (di .i64 g23.2.1))]) (fun g23 => [.fix 30 [.d (dbool a0.Neg), .d (eS2 a0.L)], .fix 30 [.d (dbool a1.Neg), .d (eS2 a1.L)], .fix 30 [.d (dbool false), .d (.v (.slice none 0 0))], .fix 106 (List.map (fun z => SV.d (keS2 z)) g23.2.2)]) F ((0 : Int), (0 : Int), g10.2) l17 rfl rfl (LeL.refl _) rfl (okU_mk rfl (okU_cons rfl (okU_cons rfl (okU_cons rfl (okU_cons (okU_fixl (fun _ => rfl)) okU_nil))))) ?_
        intro n25 g23 h2
        unfold p_Whole_Mul_l4 at h2
        refine AC.seq ?_
        refine AC.region ?_
        refine AO.op rfl (AOp.ilss rfl rfl (ltb rfl) rfl rfl ?_)
        refine AO.nil ?_
        change AC _ _ _ _
        refine AC.seq ?_
        refine AC.cond rfl (fun q26 => ?_) (fun q26 => ?_)
        · replace h2 := cT h2 q26
          refine AC.skip ?_
          change AC _ _ _ _
          refine AC.seq ?_
          refine AC.block ?_
          refine AC.seq ?_
          refine AC.region ?_
          refine AO.op rfl (AOp.move rfl rfl (ltb rfl) rfl ?_)
          obtain ⟨x27, q28, h2⟩ := idx_elim h2
          refine AO.op rfl (AOp.indexDs (cells := (List.map keS2 a1.L)) rfl rfl (ltb rfl) rfl rfl el28 (by decide) q28.1 (lt1 q28.2) ?_)
          refine AO.op rfl (AOp.loadEp rfl rfl (ltb rfl) rfl agg106 (at1 q28.2) ?_)
          refine AO.op rfl (AOp.assign rfl rfl (ltb rfl) rfl ?_)
          refine AO.op rfl (AOp.assign rfl rfl (ltb rfl) rfl ?_)
          refine AO.nil ?_
          change AC _ _ _ _
          refine AC.seq ?_
          refine AC.region ?_
          refine AO.op rfl (AOp.move rfl rfl (ltb rfl) rfl ?_)
          refine AO.op rfl (AOp.i2i rfl rfl (ltb rfl) rfl Try.underlying106 Try.underlying91 rfl ?_)
          refine AO.op rfl (AOp.move rfl rfl (ltb rfl) rfl ?_)
          refine AO.op rfl (AOp.i2i rfl rfl (ltb rfl) rfl Try.underlying106 Try.underlying91 rfl ?_)
          obtain ⟨q29, h2⟩ := need_elim h2
          refine AO.op rfl (AOp.imul rfl rfl (ltb rfl) rfl rfl rfl q29.1 q29.2 ?_)
          refine AO.op rfl (AOp.move rfl rfl (ltb rfl) rfl ?_)
          refine AO.op rfl (AOp.move rfl rfl (ltb rfl) rfl ?_)
          refine AO.op rfl (AOp.move rfl rfl (ltb rfl) rfl ?_)
          obtain ⟨q30, h2⟩ := need_elim h2
          refine AO.op rfl (AOp.iadd rfl rfl (ltb rfl) rfl rfl rfl q30.1 q30.2 ?_)
          obtain ⟨q31, h2⟩ := need_elim h2
          refine AO.op rfl (AOp.indexSl rfl rfl (ltb rfl) rfl rfl el28 q31.1 q31.2 ?_)
          obtain ⟨x32, q33, h2⟩ := idx_elim h2
          refine AO.op rfl (AOp.load1 rfl rfl (ltb rfl) rfl agg106 rfl (atO q33.2) ?_)
          refine AO.op rfl (AOp.i2i rfl rfl (ltb rfl) rfl Try.underlying106 Try.underlying91 rfl ?_)
          obtain ⟨q34, h2⟩ := need_elim h2
          refine AO.op rfl (AOp.iadd rfl rfl (ltb rfl) rfl rfl rfl q34.1 q34.2 ?_)
          refine AO.op rfl (AOp.move rfl rfl (ltb rfl) rfl ?_)
          obtain ⟨q35, h2⟩ := need_elim h2
          refine AO.op rfl (AOp.iadd rfl rfl (ltb rfl) rfl rfl rfl q35.1 q35.2 ?_)
          refine AO.op rfl (AOp.assign rfl rfl (ltb rfl) rfl ?_)
          refine AO.nil ?_
          change AC _ _ _ _
          refine AC.seq ?_
          refine AC.region ?_
          refine AO.op rfl (AOp.move rfl rfl (ltb rfl) rfl ?_)
          refine AO.op rfl (AOp.move rfl rfl (ltb rfl) rfl ?_)
          refine AO.op rfl (AOp.move rfl rfl (ltb rfl) rfl ?_)
          obtain ⟨q36, h2⟩ := need_elim h2
          refine AO.op rfl (AOp.iadd rfl rfl (ltb rfl) rfl rfl rfl q36.1 q36.2 ?_)
          refine AO.op rfl (AOp.move rfl rfl (ltb rfl) rfl ?_)
          refine AO.op rfl (AOp.i2i rfl rfl (ltb rfl) rfl Try.underlying91 Try.underlying106 rfl ?_)
          obtain ⟨q37, h2⟩ := need_elim h2
          refine AO.op rfl (AOp.indexSl rfl rfl (ltb rfl) rfl rfl el28 q37.1 q37.2 ?_)
          obtain ⟨q38, h2⟩ := need_elim h2
          refine AO.op rfl (AOp.storeL (f := fun z => SV.d (keS2 z)) (l := g23.2.2) (i := ((g10.1 + g23.2.1)).toNat) (v := (IntKind.u32.wrap ((((IntKind.u64.wrap x14) * (IntKind.u64.wrap x27)) + (IntKind.u64.wrap x32)) + g23.1))) rfl rfl rfl rfl size106 rfl rfl rfl q38 ?_)
          refine AO.nil ?_
          change AC _ _ _ _
          refine AC.region ?_
          refine AO.op rfl (AOp.move rfl rfl (ltb rfl) rfl ?_)
          obtain ⟨q39, h2⟩ := need_elim h2
          refine AO.op rfl (AOp.ishr (n := 32) rfl rfl (ltb rfl) rfl rfl (by decide) q39 rfl ?_)
          refine AO.op rfl (AOp.assign rfl rfl (ltb rfl) rfl ?_)
          refine AO.nil ?_
          change AC _ _ _ _
          refine AC.region ?_
          obtain ⟨q40, h2⟩ := need_elim h2
          refine AO.op rfl (AOp.iadd rfl rfl (ltb rfl) rfl rfl rfl q40.1 q40.2 ?_)
          refine AO.op rfl (AOp.move rfl rfl (ltb rfl) rfl ?_)
          refine AO.nil ?_
          exact ⟨((((((IntKind.u64.wrap x14) * (IntKind.u64.wrap x27)) + (IntKind.u64.wrap x32)) + g23.1) / 2 ^ 32), (g23.2.1 + (1 : Int)), (g23.2.2.set ((g10.1 + g23.2.1)).toNat (IntKind.u32.wrap ((((IntKind.u64.wrap x14) * (IntKind.u64.wrap x27)) + (IntKind.u64.wrap x32)) + g23.1)))), _, rfl, (LeL.refl _), rfl, (okU_mk rfl (okU_cons rfl (okU_cons rfl (okU_cons rfl (okU_cons (okU_fixl (fun _ => rfl)) okU_nil))))), h2⟩
        · replace h2 := cF h2 q26
          refine AC.exit ?_
          obtain rfl := Option.some.inj h2
          exact ⟨(g23.1, g23.2.2), _, rfl, (LeL.refl _), rfl, (okU_mk rfl (okU_cons rfl (okU_cons rfl (okU_cons rfl (okU_cons (okU_fixl (fun _ => rfl)) okU_nil))))), aftL h1⟩
      · intro g18 h1
        unfold p_Whole_Mul_k3 at h1
        change AC _ _ _ _
        refine AC.region ?_
        refine AO.op rfl (AOp.move rfl rfl (ltb rfl) rfl ?_)
        refine AO.op rfl (AOp.move rfl rfl (ltb rfl) rfl ?_)
        refine AO.op rfl (AOp.fieldAddr rfl rfl (ltb rfl) rfl fo30_1 ?_)
        refine AO.op rfl (AOp.load1 rfl rfl (ltb rfl) rfl agg28 rfl rfl ?_)
        refine AO.op rfl (AOp.lenDs (n := a1.L.length) (cells := (List.map keS2 a1.L)) rfl rfl (ltb rfl) rfl el28 (by decide) (len1 _ _) ?_)
        obtain ⟨q19, h1⟩ := need_elim h1
        refine AO.op rfl (AOp.iadd rfl rfl (ltb rfl) rfl rfl rfl q19.1 q19.2 ?_)
        refine AO.op rfl (AOp.move rfl rfl (ltb rfl) rfl ?_)
        refine AO.op rfl (AOp.i2i rfl rfl (ltb rfl) rfl Try.underlying91 Try.underlying106 rfl ?_)
        obtain ⟨q20, h1⟩ := need_elim h1
        refine AO.op rfl (AOp.indexSl rfl rfl (ltb rfl) rfl rfl el28 q20.1 q20.2 ?_)
        obtain ⟨q21, h1⟩ := need_elim h1
        refine AO.op rfl (AOp.storeL (f := fun z => SV.d (keS2 z)) (l := g18.2) (i := ((g10.1 + ((a1.L.length : Nat) : Int))).toNat) (v := (IntKind.u32.wrap g18.1)) rfl rfl rfl rfl size106 rfl rfl rfl q21 ?_)
        refine AO.nil ?_
        change AC _ _ _ _
        refine AC.region ?_
        obtain ⟨q22, h1⟩ := need_elim h1
        refine AO.op rfl (AOp.iadd rfl rfl (ltb rfl) rfl rfl rfl q22.1 q22.2 ?_)
        refine AO.op rfl (AOp.move rfl rfl (ltb rfl) rfl ?_)
        refine AO.nil ?_
        exact ⟨((g10.1 + (1 : Int)), (g18.2.set ((g10.1 + ((a1.L.length : Nat) : Int))).toNat (IntKind.u32.wrap g18.1))), _, rfl, (LeL.refl _), rfl, (okU_mk rfl (okU_cons rfl (okU_cons rfl (okU_cons rfl (okU_cons (okU_fixl (fun _ => rfl)) okU_nil))))), h1⟩
    · replace h1 := cF h1 q13
      refine AC.exit ?_
      obtain rfl := Option.some.inj h1
      exact ⟨g10.2, _, rfl, (LeL.refl _), rfl, (okU_mk rfl (okU_cons rfl (okU_cons rfl (okU_cons rfl (okU_cons (okU_fixl (fun _ => rfl)) okU_nil))))), aftL h0⟩
  · intro g5 h0
    unfold p_Whole_Mul_k1 at h0
    change AC _ _ _ _
    refine AC.seq ?_
    refine AC.region ?_
    refine AO.op rfl (AOp.move rfl rfl (ltb rfl) rfl ?_)
    obtain ⟨q6, h0⟩ := need_elim h0
    refine AO.freezeF (ds := (List.map keS2 g5)) 71 3 rfl rfl rfl (by rw [List.map_map]; rfl) (by rw [q6]; exact len1 _ _) (Nat.le_refl _) ?_
    obtain ⟨y7, q8, h0⟩ := bind_elim h0
    refine AO.op rfl (AOp.callD rfl rfl (ltb rfl) rfl rfl (w_trim F g5 y7 q8) ?_)
    rintro _ rfl
    refine AO.op rfl (AOp.assign rfl rfl (ltb rfl) rfl ?_)
    refine AO.nil ?_
    change AC _ _ _ _
    refine AC.seq ?_
    refine AC.region ?_
    refine AO.op rfl (AOp.move rfl rfl (ltb rfl) rfl ?_)
    refine AO.op rfl (AOp.lenDs (n := y7.length) (cells := (List.map keS2 y7)) rfl rfl (ltb rfl) rfl el28 (by decide) (len1 _ _) ?_)
    refine AO.op rfl (AOp.igtr rfl rfl (ltb rfl) rfl rfl ?_)
    refine AO.op rfl (AOp.move rfl rfl (ltb rfl) rfl ?_)
    refine AO.dec (decide ((0 : Int) < ((y7.length : Nat) : Int))) (fun q9 => ?_) (fun q9 => ?_)
    · replace h0 := cT h0 q9
      refine AO.guardY rfl rfl rfl q9 (AOp.fieldAddr rfl rfl (ltb rfl) rfl fo30_0 ?_)
      refine AO.guardY rfl rfl rfl q9 (AOp.load1 rfl rfl (ltb rfl) rfl agg4 rfl rfl ?_)
      refine AO.guardY rfl rfl rfl q9 (AOp.fieldAddr rfl rfl (ltb rfl) rfl fo30_0 ?_)
      refine AO.guardY rfl rfl rfl q9 (AOp.load1 rfl rfl (ltb rfl) rfl agg4 rfl rfl ?_)
      refine AO.guardY rfl rfl rfl q9 (AOp.bneq Try.underlying4 rfl rfl (ltb rfl) rfl rfl ?_)
      refine AO.op rfl (AOp.pick rfl rfl (ltb rfl) rfl q9 rfl ?_)
      refine AO.op rfl (AOp.move rfl rfl (ltb rfl) rfl ?_)
      refine AO.op rfl (AOp.build rfl rfl (ltb rfl) zero30 rfl places30 rfl rfl ?_)
      refine AO.op rfl (AOp.store rfl rfl rfl rfl size30 rfl rfl rfl (leb rfl) ?_)
      refine AO.nil ?_
      change AC _ _ _ _
      refine AC.ret ?_
      change RetQ _ _ _ .ret _
      obtain rfl := Option.some.inj h0
      refine retq rfl rfl
    · replace h0 := cF h0 q9
      refine AO.guardN rfl rfl rfl (ltb rfl) rfl q9 ?_
      refine AO.guardN rfl rfl rfl (ltb rfl) rfl q9 ?_
      refine AO.guardN rfl rfl rfl (ltb rfl) rfl q9 ?_
      refine AO.guardN rfl rfl rfl (ltb rfl) rfl q9 ?_
      refine AO.guardN rfl rfl rfl (ltb rfl) rfl q9 ?_
      refine AO.op rfl (AOp.pickN rfl rfl (ltb rfl) rfl q9 rfl ?_)
      refine AO.op rfl (AOp.move rfl rfl (ltb rfl) rfl ?_)
      refine AO.op rfl (AOp.build rfl rfl (ltb rfl) zero30 rfl places30 rfl rfl ?_)
      refine AO.op rfl (AOp.store rfl rfl rfl rfl size30 rfl rfl rfl (leb rfl) ?_)
      refine AO.nil ?_
      change AC _ _ _ _
      refine AC.ret ?_
      change RetQ _ _ _ .ret _
      obtain rfl := Option.some.inj h0
      refine retq rfl rfl

set_option maxRecDepth 100000 in
set_option maxHeartbeats 1000000 in
/-- (pub-orthodrome/spec.Dyadic).Mul -/
theorem w_Dyadic_Mul (F : Nat) (a0 : TSpec_Dyadic) (a1 : TSpec_Dyadic) (r0 : TSpec_Dyadic) (h0 : p_Dyadic_Mul F a0 a1 = some r0) : FnD Try.prog 18 [e_TSpec_Dyadic a0, e_TSpec_Dyadic a1] (fun r => r = e_TSpec_Dyadic r0) := by
  refine FnD.of (by kernel_rfl) Try.func18 rfl Try.ntmps18 rfl (leb rfl) fun W ok => ?_
  unfold p_Dyadic_Mul at h0
  refine AC.seq ?_
  refine AC.region ?_
  refine AO.op rfl (AOp.box rfl rfl (ltb rfl) rfl rfl ?_)
  refine AO.op rfl (AOp.box rfl rfl (ltb rfl) rfl rfl ?_)
  refine AO.op rfl (AOp.alloc rfl rfl (ltb rfl) zero32 rfl ?_)
  refine AO.nil ?_
  change AC _ _ _ _
  refine AC.seq ?_
  refine AC.draw 11 mixed (by kernel_rfl) ?_
  refine AD.op [2] rfl (by kernel_rfl) rfl rfl (fun _ _ h => AOp.fieldAddr rfl rfl (ltb rfl) rfl fo32_0 h) ?_
  refine AD.op [5] rfl (by kernel_rfl) rfl rfl (fun _ _ h => AOp.loadN rfl rfl (ltb rfl) rfl agg30 size30 rfl (leb rfl) rfl h) ?_
  refine AD.op [3] rfl (by kernel_rfl) rfl rfl (fun _ _ h => AOp.fieldAddr rfl rfl (ltb rfl) rfl fo32_0 h) ?_
  refine AD.op [7] rfl (by kernel_rfl) rfl rfl (fun _ _ h => AOp.loadN rfl rfl (ltb rfl) rfl agg30 size30 rfl (leb rfl) rfl h) ?_
  obtain ⟨y1, q2, h0⟩ := bind_elim h0
  refine AD.op [6, 8] rfl (by kernel_rfl) rfl rfl (fun _ _ h => AOp.callD rfl rfl (ltb rfl) rfl rfl (w_Whole_Mul F a0.N a1.N y1 q2) (by rintro _ rfl; exact h)) ?_
  refine AD.op [2] rfl (by kernel_rfl) rfl rfl (fun _ _ h => AOp.fieldAddr rfl rfl (ltb rfl) rfl fo32_1 h) ?_
  refine AD.op [10] rfl (by kernel_rfl) rfl rfl (fun _ _ h => AOp.load1 rfl rfl (ltb rfl) rfl agg3 rfl rfl h) ?_
  refine AD.op [3] rfl (by kernel_rfl) rfl rfl (fun _ _ h => AOp.fieldAddr rfl rfl (ltb rfl) rfl fo32_1 h) ?_
  refine AD.op [12] rfl (by kernel_rfl) rfl rfl (fun _ _ h => AOp.load1 rfl rfl (ltb rfl) rfl agg3 rfl rfl h) ?_
  obtain ⟨q3, h0⟩ := need_elim h0
  refine AD.op [11, 13] rfl (by kernel_rfl) rfl rfl (fun _ _ h => AOp.iadd rfl rfl (ltb rfl) rfl rfl rfl q3.1 q3.2 h) ?_
  refine AD.op [9, 14] rfl (by kernel_rfl) rfl rfl (fun _ _ h => AOp.build rfl rfl (ltb rfl) zero32 rfl places32 rfl rfl h) ?_
  refine AD.done ?_
  refine AO.op rfl (AOp.store rfl rfl rfl rfl size32 rfl rfl rfl (leb rfl) ?_)
  refine AO.nil ?_
  change AC _ _ _ _
  refine AC.ret ?_
  change RetQ _ _ _ .ret _
  obtain rfl := Option.some.inj h0
  refine retq rfl rfl

set_option maxRecDepth 100000 in
set_option maxHeartbeats 1000000 in
/-- pub-orthodrome/spec.Dot -/
theorem w_Dot (F : Nat) (a0 : TSpec_Point) (a1 : TSpec_Point) (a2 : TSpec_Point) (a3 : TSpec_Point) (r0 : TSpec_Dyadic) (h0 : p_Dot F a0 a1 a2 a3 = some r0) : FnD Try.prog 43 [e_TSpec_Point a0, e_TSpec_Point a1, e_TSpec_Point a2, e_TSpec_Point a3] (fun r => r = e_TSpec_Dyadic r0) := by
  refine FnD.of (by kernel_rfl) Try.func43 rfl Try.ntmps43 rfl (leb rfl) fun W ok => ?_
  unfold p_Dot at h0
  refine AC.seq ?_
  refine AC.region ?_
  refine AO.op rfl (AOp.box rfl rfl (ltb rfl) rfl rfl ?_)
  refine AO.op rfl (AOp.box rfl rfl (ltb rfl) rfl rfl ?_)
  refine AO.op rfl (AOp.box rfl rfl (ltb rfl) rfl rfl ?_)
  refine AO.op rfl (AOp.box rfl rfl (ltb rfl) rfl rfl ?_)
  refine AO.op rfl (AOp.alloc rfl rfl (ltb rfl) zero32 rfl ?_)
  refine AO.nil ?_
  change AC _ _ _ _
  refine AC.seq ?_
  refine AC.draw 23 mixed (by kernel_rfl) ?_
  refine AD.op [5] rfl (by kernel_rfl) rfl rfl (fun _ _ h => AOp.fieldAddr rfl rfl (ltb rfl) rfl fo37_0 h) ?_
  refine AD.op [9] rfl (by kernel_rfl) rfl rfl (fun _ _ h => AOp.loadN rfl rfl (ltb rfl) rfl agg32 size32 rfl (leb rfl) rfl h) ?_
  refine AD.op [4] rfl (by kernel_rfl) rfl rfl (fun _ _ h => AOp.fieldAddr rfl rfl (ltb rfl) rfl fo37_0 h) ?_
  refine AD.op [11] rfl (by kernel_rfl) rfl rfl (fun _ _ h => AOp.loadN rfl rfl (ltb rfl) rfl agg32 size32 rfl (leb rfl) rfl h) ?_
  obtain ⟨y1, q2, h0⟩ := bind_elim h0
  refine AD.op [10, 12] rfl (by kernel_rfl) rfl rfl (fun _ _ h => AOp.callD rfl rfl (ltb rfl) rfl rfl (w_Dyadic_Sub F a1.X a0.X y1 q2) (by rintro _ rfl; exact h)) ?_
  refine AD.op [7] rfl (by kernel_rfl) rfl rfl (fun _ _ h => AOp.fieldAddr rfl rfl (ltb rfl) rfl fo37_0 h) ?_
  refine AD.op [14] rfl (by kernel_rfl) rfl rfl (fun _ _ h => AOp.loadN rfl rfl (ltb rfl) rfl agg32 size32 rfl (leb rfl) rfl h) ?_
  refine AD.op [6] rfl (by kernel_rfl) rfl rfl (fun _ _ h => AOp.fieldAddr rfl rfl (ltb rfl) rfl fo37_0 h) ?_
  refine AD.op [16] rfl (by kernel_rfl) rfl rfl (fun _ _ h => AOp.loadN rfl rfl (ltb rfl) rfl agg32 size32 rfl (leb rfl) rfl h) ?_
  obtain ⟨y3, q4, h0⟩ := bind_elim h0
  refine AD.op [15, 17] rfl (by kernel_rfl) rfl rfl (fun _ _ h => AOp.callD rfl rfl (ltb rfl) rfl rfl (w_Dyadic_Sub F a3.X a2.X y3 q4) (by rintro _ rfl; exact h)) ?_
  obtain ⟨y5, q6, h0⟩ := bind_elim h0
  refine AD.op [13, 18] rfl (by kernel_rfl) rfl rfl (fun _ _ h => AOp.callD rfl rfl (ltb rfl) rfl rfl (w_Dyadic_Mul F y1 y3 y5 q6) (by rintro _ rfl; exact h)) ?_
  refine AD.op [5] rfl (by kernel_rfl) rfl rfl (fun _ _ h => AOp.fieldAddr rfl rfl (ltb rfl) rfl fo37_1 h) ?_
  refine AD.op [20] rfl (by kernel_rfl) rfl rfl (fun _ _ h => AOp.loadN rfl rfl (ltb rfl) rfl agg32 size32 rfl (leb rfl) rfl h) ?_
  refine AD.op [4] rfl (by kernel_rfl) rfl rfl (fun _ _ h => AOp.fieldAddr rfl rfl (ltb rfl) rfl fo37_1 h) ?_
  refine AD.op [22] rfl (by kernel_rfl) rfl rfl (fun _ _ h => AOp.loadN rfl rfl (ltb rfl) rfl agg32 size32 rfl (leb rfl) rfl h) ?_
  obtain ⟨y7, q8, h0⟩ := bind_elim h0
  refine AD.op [21, 23] rfl (by kernel_rfl) rfl rfl (fun _ _ h => AOp.callD rfl rfl (ltb rfl) rfl rfl (w_Dyadic_Sub F a1.Y a0.Y y7 q8) (by rintro _ rfl; exact h)) ?_
  refine AD.op [7] rfl (by kernel_rfl) rfl rfl (fun _ _ h => AOp.fieldAddr rfl rfl (ltb rfl) rfl fo37_1 h) ?_
  refine AD.op [25] rfl (by kernel_rfl) rfl rfl (fun _ _ h => AOp.loadN rfl rfl (ltb rfl) rfl agg32 size32 rfl (leb rfl) rfl h) ?_
  refine AD.op [6] rfl (by kernel_rfl) rfl rfl (fun _ _ h => AOp.fieldAddr rfl rfl (ltb rfl) rfl fo37_1 h) ?_
  refine AD.op [27] rfl (by kernel_rfl) rfl rfl (fun _ _ h => AOp.loadN rfl rfl (ltb rfl) rfl agg32 size32 rfl (leb rfl) rfl h) ?_
  obtain ⟨y9, q10, h0⟩ := bind_elim h0
  refine AD.op [26, 28] rfl (by kernel_rfl) rfl rfl (fun _ _ h => AOp.callD rfl rfl (ltb rfl) rfl rfl (w_Dyadic_Sub F a3.Y a2.Y y9 q10) (by rintro _ rfl; exact h)) ?_
  obtain ⟨y11, q12, h0⟩ := bind_elim h0
  refine AD.op [24, 29] rfl (by kernel_rfl) rfl rfl (fun _ _ h => AOp.callD rfl rfl (ltb rfl) rfl rfl (w_Dyadic_Mul F y7 y9 y11 q12) (by rintro _ rfl; exact h)) ?_
  obtain ⟨y13, q14, h0⟩ := bind_elim h0
  refine AD.op [19, 30] rfl (by kernel_rfl) rfl rfl (fun _ _ h => AOp.callD rfl rfl (ltb rfl) rfl rfl (w_Dyadic_Add F y5 y11 y13 q14) (by rintro _ rfl; exact h)) ?_
  refine AD.done ?_
  refine AO.op rfl (AOp.store rfl rfl rfl rfl size32 rfl rfl rfl (leb rfl) ?_)
  refine AO.nil ?_
  change AC _ _ _ _
  refine AC.ret ?_
  change RetQ _ _ _ .ret _
  obtain rfl := Option.some.inj h0
  refine retq rfl rfl

set_option maxRecDepth 100000 in
set_option maxHeartbeats 1000000 in
/-- pub-orthodrome/spec.Square -/
theorem w_Square (F : Nat) (a0 : TSpec_Point) (a1 : TSpec_Point) (r0 : TSpec_Dyadic) (h0 : p_Square F a0 a1 = some r0) : FnD Try.prog 19 [e_TSpec_Point a0, e_TSpec_Point a1] (fun r => r = e_TSpec_Dyadic r0) := by
  refine FnD.of (by kernel_rfl) Try.func19 rfl Try.ntmps19 rfl (leb rfl) fun W ok => ?_
  unfold p_Square at h0
  refine AC.seq ?_
  refine AC.region ?_
  refine AO.op rfl (AOp.box rfl rfl (ltb rfl) rfl rfl ?_)
  refine AO.op rfl (AOp.box rfl rfl (ltb rfl) rfl rfl ?_)
  refine AO.op rfl (AOp.alloc rfl rfl (ltb rfl) zero32 rfl ?_)
  refine AO.nil ?_
  change AC _ _ _ _
  refine AC.seq ?_
  refine AC.region ?_
  refine AO.op rfl (AOp.loadN rfl rfl (ltb rfl) rfl agg37 size37 rfl (leb rfl) rfl ?_)
  refine AO.op rfl (AOp.loadN rfl rfl (ltb rfl) rfl agg37 size37 rfl (leb rfl) rfl ?_)
  refine AO.op rfl (AOp.loadN rfl rfl (ltb rfl) rfl agg37 size37 rfl (leb rfl) rfl ?_)
  refine AO.op rfl (AOp.loadN rfl rfl (ltb rfl) rfl agg37 size37 rfl (leb rfl) rfl ?_)
  obtain ⟨y1, q2, h0⟩ := bind_elim h0
  refine AO.op rfl (AOp.callD rfl rfl (ltb rfl) rfl rfl (w_Dot F a0 a1 a0 a1 y1 q2) ?_)
  rintro _ rfl
  refine AO.op rfl (AOp.store rfl rfl rfl rfl size32 rfl rfl rfl (leb rfl) ?_)
  refine AO.nil ?_
  change AC _ _ _ _
  refine AC.ret ?_
  change RetQ _ _ _ .ret _
  obtain rfl := Option.some.inj h0
  refine retq rfl rfl

set_option maxRecDepth 100000 in
set_option maxHeartbeats 1000000 in
/-- pub-orthodrome/spec.IntOf -/
theorem w_IntOf (F : Nat) (a0 : Int) (r0 : TSpec_Dyadic) (h0 : p_IntOf F a0 = some r0) : FnD Try.prog 44 [di .i64 a0] (fun r => r = e_TSpec_Dyadic r0) := by
  refine FnD.of (by kernel_rfl) Try.func44 rfl Try.ntmps44 rfl (leb rfl) fun W ok => ?_
  unfold p_IntOf at h0
  refine AC.seq ?_
  refine AC.region ?_
  refine AO.op rfl (AOp.alloc rfl rfl (ltb rfl) zero32 rfl ?_)
  refine AO.nil ?_
  change AC _ _ _ _
  refine AC.seq ?_
  refine AC.region ?_
  refine AO.op rfl (AOp.move rfl rfl (ltb rfl) rfl ?_)
  obtain ⟨y1, q2, h0⟩ := bind_elim h0
  refine AO.op rfl (AOp.callD rfl rfl (ltb rfl) rfl rfl (w_WholeOf F a0 y1 q2) ?_)
  rintro _ rfl
  refine AO.op rfl (AOp.build rfl rfl (ltb rfl) zero32 rfl places32 rfl rfl ?_)
  refine AO.op rfl (AOp.store rfl rfl rfl rfl size32 rfl rfl rfl (leb rfl) ?_)
  refine AO.nil ?_
  change AC _ _ _ _
  refine AC.ret ?_
  change RetQ _ _ _ .ret _
  obtain rfl := Option.some.inj h0
  refine retq rfl rfl

set_option maxRecDepth 100000 in
set_option maxHeartbeats 1000000 in
/-- (pub-orthodrome/spec.Dyadic).Cmp -/
theorem w_Dyadic_Cmp (F : Nat) (a0 : TSpec_Dyadic) (a1 : TSpec_Dyadic) (r0 : Int) (h0 : p_Dyadic_Cmp F a0 a1 = some r0) : FnD Try.prog 39 [e_TSpec_Dyadic a0, e_TSpec_Dyadic a1] (fun r => r = di .i64 r0) := by
  refine FnD.of (by kernel_rfl) Try.func39 rfl Try.ntmps39 rfl (leb rfl) fun W ok => ?_
  unfold p_Dyadic_Cmp at h0
  refine AC.seq ?_
  refine AC.region ?_
  refine AO.op rfl (AOp.box rfl rfl (ltb rfl) rfl rfl ?_)
  refine AO.op rfl (AOp.box rfl rfl (ltb rfl) rfl rfl ?_)
  refine AO.op rfl (AOp.assign rfl rfl (ltb rfl) rfl ?_)
  refine AO.nil ?_
  change AC _ _ _ _
  refine AC.seq ?_
  refine AC.region ?_
  refine AO.op rfl (AOp.loadN rfl rfl (ltb rfl) rfl agg32 size32 rfl (leb rfl) rfl ?_)
  refine AO.op rfl (AOp.loadN rfl rfl (ltb rfl) rfl agg32 size32 rfl (leb rfl) rfl ?_)
  obtain ⟨y1, q2, h0⟩ := bind_elim h0
  refine AO.op rfl (AOp.callD rfl rfl (ltb rfl) rfl rfl (w_Dyadic_Sub F a0 a1 y1 q2) ?_)
  rintro _ rfl
  obtain ⟨y3, q4, h0⟩ := bind_elim h0
  refine AO.op rfl (AOp.callD rfl rfl (ltb rfl) rfl rfl (w_Dyadic_Sign y1 y3 q4) ?_)
  rintro _ rfl
  refine AO.op rfl (AOp.assign rfl rfl (ltb rfl) rfl ?_)
  refine AO.nil ?_
  change AC _ _ _ _
  refine AC.ret ?_
  change RetQ _ _ _ .ret _
  obtain rfl := Option.some.inj h0
  refine retq rfl rfl

set_option maxRecDepth 100000 in
set_option maxHeartbeats 1000000 in
/-- pub-orthodrome/spec.Cross -/
theorem w_Cross (F : Nat) (a0 : TSpec_Point) (a1 : TSpec_Point) (a2 : TSpec_Point) (r0 : TSpec_Dyadic) (h0 : p_Cross F a0 a1 a2 = some r0) : FnD Try.prog 13 [e_TSpec_Point a0, e_TSpec_Point a1, e_TSpec_Point a2] (fun r => r = e_TSpec_Dyadic r0) := by
  refine FnD.of (by kernel_rfl) Try.func13 rfl Try.ntmps13 rfl (leb rfl) fun W ok => ?_
  unfold p_Cross at h0
  refine AC.seq ?_
  refine AC.region ?_
  refine AO.op rfl (AOp.box rfl rfl (ltb rfl) rfl rfl ?_)
  refine AO.op rfl (AOp.box rfl rfl (ltb rfl) rfl rfl ?_)
  refine AO.op rfl (AOp.box rfl rfl (ltb rfl) rfl rfl ?_)
  refine AO.op rfl (AOp.alloc rfl rfl (ltb rfl) zero32 rfl ?_)
  refine AO.nil ?_
  change AC _ _ _ _
  refine AC.seq ?_
  refine AC.draw 23 mixed (by kernel_rfl) ?_
  refine AD.op [4] rfl (by kernel_rfl) rfl rfl (fun _ _ h => AOp.fieldAddr rfl rfl (ltb rfl) rfl fo37_0 h) ?_
  refine AD.op [7] rfl (by kernel_rfl) rfl rfl (fun _ _ h => AOp.loadN rfl rfl (ltb rfl) rfl agg32 size32 rfl (leb rfl) rfl h) ?_
  refine AD.op [3] rfl (by kernel_rfl) rfl rfl (fun _ _ h => AOp.fieldAddr rfl rfl (ltb rfl) rfl fo37_0 h) ?_
  refine AD.op [9] rfl (by kernel_rfl) rfl rfl (fun _ _ h => AOp.loadN rfl rfl (ltb rfl) rfl agg32 size32 rfl (leb rfl) rfl h) ?_
  obtain ⟨y1, q2, h0⟩ := bind_elim h0
  refine AD.op [8, 10] rfl (by kernel_rfl) rfl rfl (fun _ _ h => AOp.callD rfl rfl (ltb rfl) rfl rfl (w_Dyadic_Sub F a1.X a0.X y1 q2) (by rintro _ rfl; exact h)) ?_
  refine AD.op [5] rfl (by kernel_rfl) rfl rfl (fun _ _ h => AOp.fieldAddr rfl rfl (ltb rfl) rfl fo37_1 h) ?_
  refine AD.op [12] rfl (by kernel_rfl) rfl rfl (fun _ _ h => AOp.loadN rfl rfl (ltb rfl) rfl agg32 size32 rfl (leb rfl) rfl h) ?_
  refine AD.op [3] rfl (by kernel_rfl) rfl rfl (fun _ _ h => AOp.fieldAddr rfl rfl (ltb rfl) rfl fo37_1 h) ?_
  refine AD.op [14] rfl (by kernel_rfl) rfl rfl (fun _ _ h => AOp.loadN rfl rfl (ltb rfl) rfl agg32 size32 rfl (leb rfl) rfl h) ?_
  obtain ⟨y3, q4, h0⟩ := bind_elim h0
  refine AD.op [13, 15] rfl (by kernel_rfl) rfl rfl (fun _ _ h => AOp.callD rfl rfl (ltb rfl) rfl rfl (w_Dyadic_Sub F a2.Y a0.Y y3 q4) (by rintro _ rfl; exact h)) ?_
  obtain ⟨y5, q6, h0⟩ := bind_elim h0
  refine AD.op [11, 16] rfl (by kernel_rfl) rfl rfl (fun _ _ h => AOp.callD rfl rfl (ltb rfl) rfl rfl (w_Dyadic_Mul F y1 y3 y5 q6) (by rintro _ rfl; exact h)) ?_
  refine AD.op [4] rfl (by kernel_rfl) rfl rfl (fun _ _ h => AOp.fieldAddr rfl rfl (ltb rfl) rfl fo37_1 h) ?_
  refine AD.op [18] rfl (by kernel_rfl) rfl rfl (fun _ _ h => AOp.loadN rfl rfl (ltb rfl) rfl agg32 size32 rfl (leb rfl) rfl h) ?_
  refine AD.op [3] rfl (by kernel_rfl) rfl rfl (fun _ _ h => AOp.fieldAddr rfl rfl (ltb rfl) rfl fo37_1 h) ?_
  refine AD.op [20] rfl (by kernel_rfl) rfl rfl (fun _ _ h => AOp.loadN rfl rfl (ltb rfl) rfl agg32 size32 rfl (leb rfl) rfl h) ?_
  obtain ⟨y7, q8, h0⟩ := bind_elim h0
  refine AD.op [19, 21] rfl (by kernel_rfl) rfl rfl (fun _ _ h => AOp.callD rfl rfl (ltb rfl) rfl rfl (w_Dyadic_Sub F a1.Y a0.Y y7 q8) (by rintro _ rfl; exact h)) ?_
  refine AD.op [5] rfl (by kernel_rfl) rfl rfl (fun _ _ h => AOp.fieldAddr rfl rfl (ltb rfl) rfl fo37_0 h) ?_
  refine AD.op [23] rfl (by kernel_rfl) rfl rfl (fun _ _ h => AOp.loadN rfl rfl (ltb rfl) rfl agg32 size32 rfl (leb rfl) rfl h) ?_
  refine AD.op [3] rfl (by kernel_rfl) rfl rfl (fun _ _ h => AOp.fieldAddr rfl rfl (ltb rfl) rfl fo37_0 h) ?_
  refine AD.op [25] rfl (by kernel_rfl) rfl rfl (fun _ _ h => AOp.loadN rfl rfl (ltb rfl) rfl agg32 size32 rfl (leb rfl) rfl h) ?_
  obtain ⟨y9, q10, h0⟩ := bind_elim h0
  refine AD.op [24, 26] rfl (by kernel_rfl) rfl rfl (fun _ _ h => AOp.callD rfl rfl (ltb rfl) rfl rfl (w_Dyadic_Sub F a2.X a0.X y9 q10) (by rintro _ rfl; exact h)) ?_
  obtain ⟨y11, q12, h0⟩ := bind_elim h0
  refine AD.op [22, 27] rfl (by kernel_rfl) rfl rfl (fun _ _ h => AOp.callD rfl rfl (ltb rfl) rfl rfl (w_Dyadic_Mul F y7 y9 y11 q12) (by rintro _ rfl; exact h)) ?_
  obtain ⟨y13, q14, h0⟩ := bind_elim h0
  refine AD.op [17, 28] rfl (by kernel_rfl) rfl rfl (fun _ _ h => AOp.callD rfl rfl (ltb rfl) rfl rfl (w_Dyadic_Sub F y5 y11 y13 q14) (by rintro _ rfl; exact h)) ?_
  refine AD.done ?_
  refine AO.op rfl (AOp.store rfl rfl rfl rfl size32 rfl rfl rfl (leb rfl) ?_)
  refine AO.nil ?_
  change AC _ _ _ _
  refine AC.ret ?_
  change RetQ _ _ _ .ret _
  obtain rfl := Option.some.inj h0
  refine retq rfl rfl

set_option maxRecDepth 100000 in
set_option maxHeartbeats 1000000 in
/-- pub-orthodrome/spec.SquareTo -/
theorem w_SquareTo (F : Nat) (a0 : TSpec_Point) (a1 : TSpec_Point) (a2 : TSpec_Point) (r0 : TSpec_Ratio) (h0 : p_SquareTo F a0 a1 a2 = some r0) : FnD Try.prog 11 [e_TSpec_Point a0, e_TSpec_Point a1, e_TSpec_Point a2] (fun r => r = e_TSpec_Ratio r0) := by
  refine FnD.of (by kernel_rfl) Try.func11 rfl Try.ntmps11 rfl (leb rfl) fun W ok => ?_
  unfold p_SquareTo at h0
  refine AC.seq ?_
  refine AC.region ?_
  refine AO.op rfl (AOp.box rfl rfl (ltb rfl) rfl rfl ?_)
  refine AO.op rfl (AOp.box rfl rfl (ltb rfl) rfl rfl ?_)
  refine AO.op rfl (AOp.box rfl rfl (ltb rfl) rfl rfl ?_)
  refine AO.op rfl (AOp.alloc rfl rfl (ltb rfl) zero34 rfl ?_)
  refine AO.nil ?_
  change AC _ _ _ _
  refine AC.seq ?_
  refine AC.room ?_
  refine AC.room ?_
  obtain ⟨y1, q2, h0⟩ := bind_elim h0
  obtain ⟨y3, q4, h0⟩ := bind_elim h0
  refine AC.drawS [0, 1, 2, 3, 4, 5, 6, 7, 8, 9] [8, 9] [10, 11] (fun L => [.fix 37 [.d (dbool a0.X.N.Neg), .d (eS2 a0.X.N.L), .d (di .i64 a0.X.E), .d (dbool a0.Y.N.Neg), .d (eS2 a0.Y.N.L), .d (di .i64 a0.Y.E)], .fix 37 [.d (dbool a1.X.N.Neg), .d (eS2 a1.X.N.L), .d (di .i64 a1.X.E), .d (dbool a1.Y.N.Neg), .d (eS2 a1.Y.N.L), .d (di .i64 a1.Y.E)], .fix 37 [.d (dbool a2.X.N.Neg), .d (eS2 a2.X.N.L), .d (di .i64 a2.X.E), .d (dbool a2.Y.N.Neg), .d (eS2 a2.Y.N.L), .d (di .i64 a2.Y.E)], .fix 34 [.d (dbool false), .d (.v (.slice none 0 0)), .d (di .i64 (0 : Int)), .d (dbool false), .d (.v (.slice none 0 0)), .d (di .i64 (0 : Int))], bif L 8 then .fix 32 [.d (dbool false), .d (.v (.slice none 0 0)), .d (di .i64 (0 : Int))] else .dead, bif L 9 then .fix 32 [.d (dbool false), .d (.v (.slice none 0 0)), .d (di .i64 (0 : Int))] else .dead]) [(8, SV.noO2 4 6), (9, SV.noO2 5 6)] mixed (by kernel_rfl) (fun L L' h => by simp only [h 8 (by decide), h 9 (by decide)]) rfl ?_
  refine AS.op [4] [] [] [8, 9] rfl rfl rfl (by kernel_rfl) (by kernel_rfl) rfl rfl (fun _ _ _ h => AOp.loadN rfl rfl (ltb rfl) rfl agg37 size37 rfl (leb rfl) rfl h) (by kernel_rfl) ?_
  refine AS.op [5] [] [] [8, 9] rfl rfl rfl (by kernel_rfl) (by kernel_rfl) rfl rfl (fun _ _ _ h => AOp.loadN rfl rfl (ltb rfl) rfl agg37 size37 rfl (leb rfl) rfl h) (by kernel_rfl) ?_
  refine AS.op [11, 12] [] [] [8, 9] rfl rfl rfl (by kernel_rfl) (by kernel_rfl) rfl rfl (fun _ _ _ h => AOp.callD rfl rfl (ltb rfl) rfl rfl (w_Square F a1 a2 y1 q2) (by rintro _ rfl; exact h)) (by kernel_rfl) ?_
  refine AS.op [4] [] [] [8, 9] rfl rfl rfl (by kernel_rfl) (by kernel_rfl) rfl rfl (fun _ _ _ h => AOp.loadN rfl rfl (ltb rfl) rfl agg37 size37 rfl (leb rfl) rfl h) (by kernel_rfl) ?_
  refine AS.op [5] [] [] [8, 9] rfl rfl rfl (by kernel_rfl) (by kernel_rfl) rfl rfl (fun _ _ _ h => AOp.loadN rfl rfl (ltb rfl) rfl agg37 size37 rfl (leb rfl) rfl h) (by kernel_rfl) ?_
  refine AS.op [4] [] [] [8, 9] rfl rfl rfl (by kernel_rfl) (by kernel_rfl) rfl rfl (fun _ _ _ h => AOp.loadN rfl rfl (ltb rfl) rfl agg37 size37 rfl (leb rfl) rfl h) (by kernel_rfl) ?_
  refine AS.op [3] [] [] [8, 9] rfl rfl rfl (by kernel_rfl) (by kernel_rfl) rfl rfl (fun _ _ _ h => AOp.loadN rfl rfl (ltb rfl) rfl agg37 size37 rfl (leb rfl) rfl h) (by kernel_rfl) ?_
  refine AS.op [14, 15, 16, 17] [] [] [8, 9] rfl rfl rfl (by kernel_rfl) (by kernel_rfl) rfl rfl (fun _ _ _ h => AOp.callD rfl rfl (ltb rfl) rfl rfl (w_Dot F a1 a2 a1 a0 y3 q4) (by rintro _ rfl; exact h)) (by kernel_rfl) ?_
  refine AS.mid [] [] [8] [9] rfl rfl rfl rfl (by kernel_rfl) (by kernel_rfl) rfl rfl (fun _ _ _ h => AOp.alloc rfl rfl (ltb rfl) zero32 rfl (AO.sink 4 6 rfl rfl rfl (.cons rfl (.cons rfl (.cons rfl (.cons rfl (.cons rfl (.cons (noO2_cond rfl rfl) .nil)))))) rfl h)) (by kernel_rfl) rfl ?_
  refine AS.mid [] [] [9] [8] rfl rfl rfl rfl (by kernel_rfl) (by kernel_rfl) rfl rfl (fun _ _ _ h => AOp.alloc rfl rfl (ltb rfl) zero32 rfl (AO.sink 5 6 rfl rfl rfl (.cons rfl (.cons rfl (.cons rfl (.cons rfl (.cons (noO2_cond rfl rfl) (.cons rfl .nil)))))) rfl h)) (by kernel_rfl) rfl ?_
  refine AS.done ?_
  refine AO.objs (obs' := [.fix 37 [.d (dbool a0.X.N.Neg), .d (eS2 a0.X.N.L), .d (di .i64 a0.X.E), .d (dbool a0.Y.N.Neg), .d (eS2 a0.Y.N.L), .d (di .i64 a0.Y.E)], .fix 37 [.d (dbool a1.X.N.Neg), .d (eS2 a1.X.N.L), .d (di .i64 a1.X.E), .d (dbool a1.Y.N.Neg), .d (eS2 a1.Y.N.L), .d (di .i64 a1.Y.E)], .fix 37 [.d (dbool a2.X.N.Neg), .d (eS2 a2.X.N.L), .d (di .i64 a2.X.E), .d (dbool a2.Y.N.Neg), .d (eS2 a2.Y.N.L), .d (di .i64 a2.Y.E)], .fix 34 [.d (dbool false), .d (.v (.slice none 0 0)), .d (di .i64 (0 : Int)), .d (dbool false), .d (.v (.slice none 0 0)), .d (di .i64 (0 : Int))], .fix 32 [.d (dbool false), .d (.v (.slice none 0 0)), .d (di .i64 (0 : Int))], .fix 32 [.d (dbool false), .d (.v (.slice none 0 0)), .d (di .i64 (0 : Int))]]) rfl ?_
  refine AO.op rfl (AOp.store rfl rfl rfl rfl size32 rfl rfl rfl (leb rfl) ?_)
  refine AO.op rfl (AOp.store rfl rfl rfl rfl size32 rfl rfl rfl (leb rfl) ?_)
  refine AO.nil ?_
  change AC _ _ _ _
  refine AC.seq ?_
  refine AC.region ?_
  obtain ⟨y5, q6, h0⟩ := bind_elim h0
  refine AO.op rfl (AOp.callD rfl rfl (ltb rfl) rfl rfl (w_IntOf F (1 : Int) y5 q6) ?_)
  rintro _ rfl
  refine AO.op rfl (AOp.alloc rfl rfl (ltb rfl) zero32 rfl ?_)
  refine AO.op rfl (AOp.store rfl rfl rfl rfl size32 rfl rfl rfl (leb rfl) ?_)
  refine AO.nil ?_
  change AC _ _ _ _
  refine AC.seq ?_
  refine AC.block ?_
  refine AC.joinP (V := Bool) [3, 4, 5, 6, 7, 8, 9] [20] 7 (fun g7 => [(20, .d (dbool g7))]) (fun g7 => [.fix 37 [.d (dbool a0.X.N.Neg), .d (eS2 a0.X.N.L), .d (di .i64 a0.X.E), .d (dbool a0.Y.N.Neg), .d (eS2 a0.Y.N.L), .d (di .i64 a0.Y.E)], .fix 37 [.d (dbool a1.X.N.Neg), .d (eS2 a1.X.N.L), .d (di .i64 a1.X.E), .d (dbool a1.Y.N.Neg), .d (eS2 a1.Y.N.L), .d (di .i64 a1.Y.E)], .fix 37 [.d (dbool a2.X.N.Neg), .d (eS2 a2.X.N.L), .d (di .i64 a2.X.E), .d (dbool a2.Y.N.Neg), .d (eS2 a2.Y.N.L), .d (di .i64 a2.Y.E)], .fix 34 [.d (dbool false), .d (.v (.slice none 0 0)), .d (di .i64 (0 : Int)), .d (dbool false), .d (.v (.slice none 0 0)), .d (di .i64 (0 : Int))], .fix 32 [.d (dbool y1.N.Neg), .d (eS2 y1.N.L), .d (di .i64 y1.E)], .fix 32 [.d (dbool y3.N.Neg), .d (eS2 y3.N.L), .d (di .i64 y3.E)], .fix 32 [.d (dbool y5.N.Neg), .d (eS2 y5.N.L), .d (di .i64 y5.E)]]) (fun g7 => (p_SquareTo_k1 a0 a1 a2 F y1 y3 y5) g7 = some r0) rfl ?_ ?_
  · refine AC.region ?_
    refine AO.op rfl (AOp.loadN rfl rfl (ltb rfl) rfl agg32 size32 rfl (leb rfl) rfl ?_)
    obtain ⟨y20, q21, h0⟩ := bind_elim h0
    refine AO.op rfl (AOp.callD rfl rfl (ltb rfl) rfl rfl (w_Dyadic_Sign y1 y20 q21) ?_)
    rintro _ rfl
    refine AO.op rfl (AOp.ieql rfl rfl (ltb rfl) rfl rfl ?_)
    refine AO.op rfl (AOp.move rfl rfl (ltb rfl) rfl ?_)
    refine AO.dec (decide (y20 = (0 : Int))) (fun q22 => ?_) (fun q22 => ?_)
    · replace h0 := cT h0 q22
      refine AO.guardN rfl rfl rfl (ltb rfl) rfl q22 ?_
      refine AO.guardN rfl rfl rfl (ltb rfl) rfl q22 ?_
      refine AO.guardN rfl rfl rfl (ltb rfl) rfl q22 ?_
      refine AO.op rfl (AOp.pick rfl rfl (ltb rfl) rfl q22 rfl ?_)
      refine AO.op rfl (AOp.assign rfl rfl (ltb rfl) rfl ?_)
      refine AO.nil ?_
      exact ⟨true, _, rfl, (LeL.refl _), rfl, rfl, h0⟩
    · replace h0 := cF h0 q22
      refine AO.guardY rfl rfl rfl q22 (AOp.loadN rfl rfl (ltb rfl) rfl agg32 size32 rfl (leb rfl) rfl ?_)
      obtain ⟨y23, q24, h0⟩ := bind_elim h0
      refine AO.guardY rfl rfl rfl q22 (AOp.callD rfl rfl (ltb rfl) rfl rfl (w_Dyadic_Sign y3 y23 q24) ?_)
      rintro _ rfl
      refine AO.guardY rfl rfl rfl q22 (AOp.ileq rfl rfl (ltb rfl) rfl rfl ?_)
      refine AO.op rfl (AOp.pickN rfl rfl (ltb rfl) rfl q22 rfl ?_)
      refine AO.op rfl (AOp.assign rfl rfl (ltb rfl) rfl ?_)
      refine AO.nil ?_
      exact ⟨(decide (y23 ≤ (0 : Int))), _, rfl, (LeL.refl _), rfl, rfl, h0⟩
  · intro g7 h0
    unfold p_SquareTo_k1 at h0
    refine AC.cond rfl (fun q8 => ?_) (fun q8 => ?_)
    · replace h0 := cT h0 q8
      refine AC.seq ?_
      refine AC.draw 5 mixed (by kernel_rfl) ?_
      refine AD.op [4] rfl (by kernel_rfl) rfl rfl (fun _ _ h => AOp.loadN rfl rfl (ltb rfl) rfl agg37 size37 rfl (leb rfl) rfl h) ?_
      refine AD.op [3] rfl (by kernel_rfl) rfl rfl (fun _ _ h => AOp.loadN rfl rfl (ltb rfl) rfl agg37 size37 rfl (leb rfl) rfl h) ?_
      obtain ⟨y9, q10, h0⟩ := bind_elim h0
      refine AD.op [29, 30] rfl (by kernel_rfl) rfl rfl (fun _ _ h => AOp.callD rfl rfl (ltb rfl) rfl rfl (w_Square F a1 a0 y9 q10) (by rintro _ rfl; exact h)) ?_
      refine AD.op [9] rfl (by kernel_rfl) rfl rfl (fun _ _ h => AOp.loadN rfl rfl (ltb rfl) rfl agg32 size32 rfl (leb rfl) rfl h) ?_
      refine AD.op [31, 32] rfl (by kernel_rfl) rfl rfl (fun _ _ h => AOp.build rfl rfl (ltb rfl) zero34 rfl places34 rfl rfl h) ?_
      refine AD.done ?_
      refine AO.op rfl (AOp.store rfl rfl rfl rfl size34 rfl rfl rfl (leb rfl) ?_)
      refine AO.nil ?_
      change AC _ _ _ _
      refine AC.ret ?_
      change RetQ _ _ _ .ret _
      obtain rfl := Option.some.inj h0
      refine retq rfl rfl
    · replace h0 := cF h0 q8
      refine AC.seq ?_
      refine AC.region ?_
      refine AO.op rfl (AOp.loadN rfl rfl (ltb rfl) rfl agg32 size32 rfl (leb rfl) rfl ?_)
      refine AO.op rfl (AOp.loadN rfl rfl (ltb rfl) rfl agg32 size32 rfl (leb rfl) rfl ?_)
      obtain ⟨y11, q12, h0⟩ := bind_elim h0
      refine AO.op rfl (AOp.callD rfl rfl (ltb rfl) rfl rfl (w_Dyadic_Cmp F y3 y1 y11 q12) ?_)
      rintro _ rfl
      refine AO.op rfl (AOp.igeq rfl rfl (ltb rfl) rfl rfl ?_)
      refine AO.op rfl (AOp.assign rfl rfl (ltb rfl) rfl ?_)
      refine AO.nil ?_
      change AC _ _ _ _
      refine AC.cond rfl (fun q13 => ?_) (fun q13 => ?_)
      · replace h0 := cT h0 q13
        refine AC.seq ?_
        refine AC.draw 5 mixed (by kernel_rfl) ?_
        refine AD.op [5] rfl (by kernel_rfl) rfl rfl (fun _ _ h => AOp.loadN rfl rfl (ltb rfl) rfl agg37 size37 rfl (leb rfl) rfl h) ?_
        refine AD.op [3] rfl (by kernel_rfl) rfl rfl (fun _ _ h => AOp.loadN rfl rfl (ltb rfl) rfl agg37 size37 rfl (leb rfl) rfl h) ?_
        obtain ⟨y14, q15, h0⟩ := bind_elim h0
        refine AD.op [39, 40] rfl (by kernel_rfl) rfl rfl (fun _ _ h => AOp.callD rfl rfl (ltb rfl) rfl rfl (w_Square F a2 a0 y14 q15) (by rintro _ rfl; exact h)) ?_
        refine AD.op [9] rfl (by kernel_rfl) rfl rfl (fun _ _ h => AOp.loadN rfl rfl (ltb rfl) rfl agg32 size32 rfl (leb rfl) rfl h) ?_
        refine AD.op [41, 42] rfl (by kernel_rfl) rfl rfl (fun _ _ h => AOp.build rfl rfl (ltb rfl) zero34 rfl places34 rfl rfl h) ?_
        refine AD.done ?_
        refine AO.op rfl (AOp.store rfl rfl rfl rfl size34 rfl rfl rfl (leb rfl) ?_)
        refine AO.nil ?_
        change AC _ _ _ _
        refine AC.ret ?_
        change RetQ _ _ _ .ret _
        obtain rfl := Option.some.inj h0
        refine retq rfl rfl
      · replace h0 := cF h0 q13
        refine AC.skip ?_
        change AC _ _ _ _
        refine AC.seq ?_
        refine AC.region ?_
        refine AO.op rfl (AOp.loadN rfl rfl (ltb rfl) rfl agg37 size37 rfl (leb rfl) rfl ?_)
        refine AO.op rfl (AOp.loadN rfl rfl (ltb rfl) rfl agg37 size37 rfl (leb rfl) rfl ?_)
        refine AO.op rfl (AOp.loadN rfl rfl (ltb rfl) rfl agg37 size37 rfl (leb rfl) rfl ?_)
        obtain ⟨y16, q17, h0⟩ := bind_elim h0
        refine AO.op rfl (AOp.callD rfl rfl (ltb rfl) rfl rfl (w_Cross F a1 a2 a0 y16 q17) ?_)
        rintro _ rfl
        refine AO.op rfl (AOp.alloc rfl rfl (ltb rfl) zero32 rfl ?_)
        refine AO.op rfl (AOp.store rfl rfl rfl rfl size32 rfl rfl rfl (leb rfl) ?_)
        refine AO.nil ?_
        change AC _ _ _ _
        refine AC.seq ?_
        refine AC.draw 5 mixed (by kernel_rfl) ?_
        refine AD.op [10] rfl (by kernel_rfl) rfl rfl (fun _ _ h => AOp.loadN rfl rfl (ltb rfl) rfl agg32 size32 rfl (leb rfl) rfl h) ?_
        refine AD.op [10] rfl (by kernel_rfl) rfl rfl (fun _ _ h => AOp.loadN rfl rfl (ltb rfl) rfl agg32 size32 rfl (leb rfl) rfl h) ?_
        obtain ⟨y18, q19, h0⟩ := bind_elim h0
        refine AD.op [48, 49] rfl (by kernel_rfl) rfl rfl (fun _ _ h => AOp.callD rfl rfl (ltb rfl) rfl rfl (w_Dyadic_Mul F y16 y16 y18 q19) (by rintro _ rfl; exact h)) ?_
        refine AD.op [7] rfl (by kernel_rfl) rfl rfl (fun _ _ h => AOp.loadN rfl rfl (ltb rfl) rfl agg32 size32 rfl (leb rfl) rfl h) ?_
        refine AD.op [50, 51] rfl (by kernel_rfl) rfl rfl (fun _ _ h => AOp.build rfl rfl (ltb rfl) zero34 rfl places34 rfl rfl h) ?_
        refine AD.done ?_
        refine AO.op rfl (AOp.store rfl rfl rfl rfl size34 rfl rfl rfl (leb rfl) ?_)
        refine AO.nil ?_
        change AC _ _ _ _
        refine AC.ret ?_
        change RetQ _ _ _ .ret _
        obtain rfl := Option.some.inj h0
        refine retq rfl rfl

def row (l : List Nat) : D := .ds 1 (l.map dfl)
def rows (ls : List (List Nat)) : D := .ds 1 (ls.map row)
theorem map_at {α β : Type} (f : α → β) (l : List α) (k : Nat) (d : α) (h : k < l.length) : (l.map f)[(k : Int).toNat * 1]? = some (f (l.getD k d)) := by
  simp [h]
theorem all_take_succ {α : Type} (p : α → Bool) (l : List α) (k : Nat) (d : α) (h : k < l.length) : (l.take (k + 1)).all p = ((l.take k).all p && p (l.getD k d)) := by
  rw [List.take_succ_eq_append_getElem h, List.all_append]
  simp [h]
theorem all_false_at {α : Type} (p : α → Bool) (l : List α) (j : Nat) (d : α) (h : j < l.length) (hf : p (l.getD j d) = false) : l.all p = false := by
  rw [List.all_eq_false]
  refine ⟨l.getD j d, ?_, by rw [hf]; decide⟩
  rw [List.getD_eq_getElem?_getD, List.getElem?_eq_getElem h]; simp

theorem all_range_succ (p : Nat → Bool) (k : Nat) : (List.range (k + 1)).all p = ((List.range k).all p && p k) := by
  rw [List.range_succ, List.all_append]; simp
theorem all_range_no {p : Nat → Bool} {n k : Nat} (h : k < n) (hp : p k = false) : (List.range n).all p = false := by
  rw [List.all_eq_false]; exact ⟨k, by simpa using h, by rw [hp]; decide⟩
theorem row_at (l : List Nat) (k : Nat) (h : k < l.length) : (l.map dfl)[(k : Int).toNat * 1]? = some (dfl (l.getD k 0)) := map_at dfl l k 0 h

def finAll (l : List Nat) : Bool := (List.range l.length).all fun i => Flt.isFin (l.getD i 0)
def flat2l (pts : List (Nat × Nat)) : List Nat := pts.flatMap fun p => [p.1, p.2]
theorem flat2l_len (pts : List (Nat × Nat)) : (flat2l pts).length = pts.length * 2 := by
  unfold flat2l
  induction pts with
  | nil => rfl
  | cons p r ih => simp [ih]; omega
theorem flat2l_succ (pts : List (Nat × Nat)) (k : Nat) (h : k < pts.length) : flat2l (pts.take (k + 1)) = flat2l (pts.take k) ++ [(pts.getD k (0, 0)).1, (pts.getD k (0, 0)).2] := by
  unfold flat2l
  rw [List.take_succ_eq_append_getElem h, List.flatMap_append]
  simp [h]
theorem dbool_eq' {a b : Bool} (h : a = b) : dbool a = dbool b := by rw [h]
theorem fin_of {x z : Nat} (hz : floatBits .sub .f64 x x = some z ∨ (floatBits .sub .f64 x x = none ∧ Flt.nanB z)) : feq z 0 = Flt.isFin x := by
  cases hf : Flt.isFin x with
  | true =>
    obtain ⟨y, h1, h2⟩ := Flt.sub_self_zero hf
    rcases hz with h3 | ⟨h3, _⟩
    · rw [h1] at h3; cases h3; exact h2
    · rw [h1] at h3; cases h3
  | false =>
    have h1 := Flt.sub_self_none hf
    rcases hz with h3 | ⟨_, h3⟩
    · rw [h1] at h3; cases h3
    · exact Flt.feq_nan h3 _

set_option maxRecDepth 100000 in
/-- pub-orthodrome/spec.Finite -/
theorem finite (x : Nat) : FnD Try.prog 35 [dfl x] (fun r => r = dbool (Flt.isFin x)) := by
  refine FnD.of (by kernel_rfl) Try.func35 rfl Try.ntmps35 rfl (leb rfl) fun W ok => ?_
  refine AC.seq ?_
  refine AC.region ?_
  refine AO.op rfl (AOp.assign rfl rfl (ltb rfl) rfl ?_)
  refine AO.nil ?_
  change AC _ _ _ _
  refine AC.seq ?_
  refine AC.region ?_
  refine AO.op rfl (AOp.move rfl rfl (ltb rfl) rfl ?_)
  refine AO.op rfl (AOp.move rfl rfl (ltb rfl) rfl ?_)
  refine AO.op rfl (AOp.farithA (by simp) rfl rfl (ltb rfl) rfl rfl ?_)
  rintro z1_2 hz1_2
  refine AO.op rfl (AOp.feql rfl rfl (ltb rfl) rfl rfl ?_)
  refine AO.op rfl (AOp.assign rfl rfl (ltb rfl) rfl ?_)
  refine AO.nil ?_
  change AC _ _ _ _
  refine AC.ret ?_
  change RetQ _ _ _ .ret _
  refine retq rfl ?_
  rw [fin_of hz1_2]

set_option maxRecDepth 100000 in
set_option maxHeartbeats 1000000 in
/-- (pub-orthodrome/spec.Dyadic).Abs -/
theorem w_Dyadic_Abs (a0 : TSpec_Dyadic) (r0 : TSpec_Dyadic) (h0 : p_Dyadic_Abs a0 = some r0) : FnD Try.prog 38 [e_TSpec_Dyadic a0] (fun r => r = e_TSpec_Dyadic r0) := by
  refine FnD.of (by kernel_rfl) Try.func38 rfl Try.ntmps38 rfl (leb rfl) fun W ok => ?_
  unfold p_Dyadic_Abs at h0
  refine AC.seq ?_
  refine AC.region ?_
  refine AO.op rfl (AOp.box rfl rfl (ltb rfl) rfl rfl ?_)
  refine AO.op rfl (AOp.alloc rfl rfl (ltb rfl) zero32 rfl ?_)
  refine AO.nil ?_
  change AC _ _ _ _
  refine AC.seq ?_
  refine AC.seq ?_
  refine AC.region ?_
  refine AO.op rfl (AOp.loadN rfl rfl (ltb rfl) rfl agg32 size32 rfl (leb rfl) rfl ?_)
  obtain ⟨y1, q2, h0⟩ := bind_elim h0
  refine AO.op rfl (AOp.callD rfl rfl (ltb rfl) rfl rfl (w_Dyadic_Sign a0 y1 q2) ?_)
  rintro _ rfl
  refine AO.op rfl (AOp.ilss rfl rfl (ltb rfl) rfl rfl ?_)
  refine AO.nil ?_
  change AC _ _ _ _
  refine AC.cond rfl (fun q3 => ?_) (fun q3 => ?_)
  · replace h0 := cT h0 q3
    refine AC.seq ?_
    refine AC.region ?_
    refine AO.op rfl (AOp.loadN rfl rfl (ltb rfl) rfl agg32 size32 rfl (leb rfl) rfl ?_)
    obtain ⟨y4, q5, h0⟩ := bind_elim h0
    refine AO.op rfl (AOp.callD rfl rfl (ltb rfl) rfl rfl (w_Dyadic_Minus a0 y4 q5) ?_)
    rintro _ rfl
    refine AO.op rfl (AOp.store rfl rfl rfl rfl size32 rfl rfl rfl (leb rfl) ?_)
    refine AO.nil ?_
    change AC _ _ _ _
    refine AC.ret ?_
    change RetQ _ _ _ .ret _
    obtain rfl := Option.some.inj h0
    refine retq rfl rfl
  · replace h0 := cF h0 q3
    refine AC.skip ?_
    change AC _ _ _ _
    refine AC.seq ?_
    refine AC.region ?_
    refine AO.op rfl (AOp.loadN rfl rfl (ltb rfl) rfl agg32 size32 rfl (leb rfl) rfl ?_)
    refine AO.op rfl (AOp.store rfl rfl rfl rfl size32 rfl rfl rfl (leb rfl) ?_)
    refine AO.nil ?_
    change AC _ _ _ _
    refine AC.ret ?_
    change RetQ _ _ _ .ret _
    obtain rfl := Option.some.inj h0
    refine retq rfl rfl

set_option maxRecDepth 100000 in
set_option maxHeartbeats 1000000 in
/-- (pub-orthodrome/spec.Dyadic).Shift -/
theorem w_Dyadic_Shift (a0 : TSpec_Dyadic) (a1 : Int) (r0 : TSpec_Dyadic) (h0 : p_Dyadic_Shift a0 a1 = some r0) : FnD Try.prog 40 [e_TSpec_Dyadic a0, di .i64 a1] (fun r => r = e_TSpec_Dyadic r0) := by
  refine FnD.of (by kernel_rfl) Try.func40 rfl Try.ntmps40 rfl (leb rfl) fun W ok => ?_
  unfold p_Dyadic_Shift at h0
  refine AC.seq ?_
  refine AC.region ?_
  refine AO.op rfl (AOp.box rfl rfl (ltb rfl) rfl rfl ?_)
  refine AO.op rfl (AOp.alloc rfl rfl (ltb rfl) zero32 rfl ?_)
  refine AO.nil ?_
  change AC _ _ _ _
  refine AC.seq ?_
  refine AC.region ?_
  refine AO.op rfl (AOp.fieldAddr rfl rfl (ltb rfl) rfl fo32_0 ?_)
  refine AO.op rfl (AOp.loadN rfl rfl (ltb rfl) rfl agg30 size30 rfl (leb rfl) rfl ?_)
  refine AO.op rfl (AOp.fieldAddr rfl rfl (ltb rfl) rfl fo32_1 ?_)
  refine AO.op rfl (AOp.load1 rfl rfl (ltb rfl) rfl agg3 rfl rfl ?_)
  refine AO.op rfl (AOp.move rfl rfl (ltb rfl) rfl ?_)
  obtain ⟨q1, h0⟩ := need_elim h0
  refine AO.op rfl (AOp.iadd rfl rfl (ltb rfl) rfl rfl rfl q1.1 q1.2 ?_)
  refine AO.op rfl (AOp.build rfl rfl (ltb rfl) zero32 rfl places32 rfl rfl ?_)
  refine AO.op rfl (AOp.store rfl rfl rfl rfl size32 rfl rfl rfl (leb rfl) ?_)
  refine AO.nil ?_
  change AC _ _ _ _
  refine AC.ret ?_
  change RetQ _ _ _ .ret _
  obtain rfl := Option.some.inj h0
  refine retq rfl rfl

set_option maxRecDepth 100000 in
set_option maxHeartbeats 1000000 in
/-- pub-orthodrome/laws.nearRatio -/
theorem w_nearRatio (F : Nat) (a0 : Nat) (a1 : TSpec_Ratio) (a2 : Int) (r0 : Bool) (h0 : p_nearRatio F a0 a1 a2 = some r0) : FnD Try.prog 9 [dfl a0, e_TSpec_Ratio a1, di .i64 a2] (fun r => r = dbool r0) := by
  refine FnD.of (by kernel_rfl) Try.func9 rfl Try.ntmps9 rfl (leb rfl) fun W ok => ?_
  unfold p_nearRatio at h0
  refine AC.seq ?_
  refine AC.region ?_
  refine AO.op rfl (AOp.box rfl rfl (ltb rfl) rfl rfl ?_)
  refine AO.op rfl (AOp.assign rfl rfl (ltb rfl) rfl ?_)
  refine AO.nil ?_
  change AC _ _ _ _
  refine AC.seq ?_
  refine AC.draw 20 mixed (by kernel_rfl) ?_
  refine AD.op [0] rfl (by kernel_rfl) rfl rfl (fun _ _ h => AOp.move rfl rfl (ltb rfl) rfl h) ?_
  refine AD.op [7] rfl (by kernel_rfl) rfl rfl (fun _ _ h => AOp.callD rfl rfl (ltb rfl) rfl rfl (finite a0) (by rintro _ rfl; exact h)) ?_
  refine AD.op [8] rfl (by kernel_rfl) rfl rfl (fun _ _ h => AOp.move rfl rfl (ltb rfl) rfl h) ?_
  refine AD.dec (Flt.isFin a0) (fun q1 => ?_) (fun q1 => ?_)
  · replace h0 := cT h0 q1
    refine AD.opY [0, 9] rfl rfl rfl q1 (by kernel_rfl) rfl rfl (fun _ _ h => AOp.move rfl rfl (ltb rfl) rfl h) ?_
    obtain ⟨y2, q3, h0⟩ := bind_elim h0
    refine AD.opY [9, 10] rfl rfl rfl q1 (by kernel_rfl) rfl rfl (fun _ _ h => AOp.callD rfl rfl (ltb rfl) rfl rfl (w_DyadicOf F a0 y2 q3) (by rintro _ rfl; exact h)) ?_
    refine AD.opY [4, 9] rfl rfl rfl q1 (by kernel_rfl) rfl rfl (fun _ _ h => AOp.fieldAddr rfl rfl (ltb rfl) rfl fo34_1 h) ?_
    refine AD.opY [9, 12] rfl rfl rfl q1 (by kernel_rfl) rfl rfl (fun _ _ h => AOp.loadN rfl rfl (ltb rfl) rfl agg32 size32 rfl (leb rfl) rfl h) ?_
    obtain ⟨y4, q5, h0⟩ := bind_elim h0
    refine AD.opY [9, 11, 13] rfl rfl rfl q1 (by kernel_rfl) rfl rfl (fun _ _ h => AOp.callD rfl rfl (ltb rfl) rfl rfl (w_Dyadic_Mul F y2 a1.D y4 q5) (by rintro _ rfl; exact h)) ?_
    refine AD.opY [4, 9] rfl rfl rfl q1 (by kernel_rfl) rfl rfl (fun _ _ h => AOp.fieldAddr rfl rfl (ltb rfl) rfl fo34_0 h) ?_
    refine AD.opY [9, 15] rfl rfl rfl q1 (by kernel_rfl) rfl rfl (fun _ _ h => AOp.loadN rfl rfl (ltb rfl) rfl agg32 size32 rfl (leb rfl) rfl h) ?_
    obtain ⟨y6, q7, h0⟩ := bind_elim h0
    refine AD.opY [9, 14, 16] rfl rfl rfl q1 (by kernel_rfl) rfl rfl (fun _ _ h => AOp.callD rfl rfl (ltb rfl) rfl rfl (w_Dyadic_Sub F y4 a1.N y6 q7) (by rintro _ rfl; exact h)) ?_
    obtain ⟨y8, q9, h0⟩ := bind_elim h0
    refine AD.opY [9, 17] rfl rfl rfl q1 (by kernel_rfl) rfl rfl (fun _ _ h => AOp.callD rfl rfl (ltb rfl) rfl rfl (w_Dyadic_Abs y6 y8 q9) (by rintro _ rfl; exact h)) ?_
    refine AD.opY [4, 9] rfl rfl rfl q1 (by kernel_rfl) rfl rfl (fun _ _ h => AOp.fieldAddr rfl rfl (ltb rfl) rfl fo34_1 h) ?_
    refine AD.opY [9, 19] rfl rfl rfl q1 (by kernel_rfl) rfl rfl (fun _ _ h => AOp.loadN rfl rfl (ltb rfl) rfl agg32 size32 rfl (leb rfl) rfl h) ?_
    refine AD.opY [2, 9] rfl rfl rfl q1 (by kernel_rfl) rfl rfl (fun _ _ h => AOp.move rfl rfl (ltb rfl) rfl h) ?_
    obtain ⟨y10, q11, h0⟩ := bind_elim h0
    refine AD.opY [9, 20, 21] rfl rfl rfl q1 (by kernel_rfl) rfl rfl (fun _ _ h => AOp.callD rfl rfl (ltb rfl) rfl rfl (w_Dyadic_Shift a1.D a2 y10 q11) (by rintro _ rfl; exact h)) ?_
    obtain ⟨y12, q13, h0⟩ := bind_elim h0
    refine AD.opY [9, 18, 22] rfl rfl rfl q1 (by kernel_rfl) rfl rfl (fun _ _ h => AOp.callD rfl rfl (ltb rfl) rfl rfl (w_Dyadic_Cmp F y8 y10 y12 q13) (by rintro _ rfl; exact h)) ?_
    refine AD.opY [9, 23] rfl rfl rfl q1 (by kernel_rfl) rfl rfl (fun _ _ h => AOp.ilss rfl rfl (ltb rfl) rfl rfl h) ?_
    refine AD.op [9, 24] rfl (by kernel_rfl) rfl rfl (fun _ _ h => AOp.pick rfl rfl (ltb rfl) rfl q1 rfl h) ?_
    refine AD.op [25] rfl (by kernel_rfl) rfl rfl (fun _ _ h => AOp.assign rfl rfl (ltb rfl) rfl h) ?_
    refine AD.done ?_
    refine AO.nil ?_
    change AC _ _ _ _
    refine AC.ret ?_
    change RetQ _ _ _ .ret _
    obtain rfl := Option.some.inj h0
    refine retq rfl rfl
  · replace h0 := cF h0 q1
    refine AD.opN rfl rfl rfl (ltb rfl) rfl q1 ?_
    refine AD.opN rfl rfl rfl (ltb rfl) rfl q1 ?_
    refine AD.opN rfl rfl rfl (ltb rfl) rfl q1 ?_
    refine AD.opN rfl rfl rfl (ltb rfl) rfl q1 ?_
    refine AD.opN rfl rfl rfl (ltb rfl) rfl q1 ?_
    refine AD.opN rfl rfl rfl (ltb rfl) rfl q1 ?_
    refine AD.opN rfl rfl rfl (ltb rfl) rfl q1 ?_
    refine AD.opN rfl rfl rfl (ltb rfl) rfl q1 ?_
    refine AD.opN rfl rfl rfl (ltb rfl) rfl q1 ?_
    refine AD.opN rfl rfl rfl (ltb rfl) rfl q1 ?_
    refine AD.opN rfl rfl rfl (ltb rfl) rfl q1 ?_
    refine AD.opN rfl rfl rfl (ltb rfl) rfl q1 ?_
    refine AD.opN rfl rfl rfl (ltb rfl) rfl q1 ?_
    refine AD.opN rfl rfl rfl (ltb rfl) rfl q1 ?_
    refine AD.opN rfl rfl rfl (ltb rfl) rfl q1 ?_
    refine AD.op [9, 24] rfl (by kernel_rfl) rfl rfl (fun _ _ h => AOp.pickN rfl rfl (ltb rfl) rfl q1 rfl h) ?_
    refine AD.op [25] rfl (by kernel_rfl) rfl rfl (fun _ _ h => AOp.assign rfl rfl (ltb rfl) rfl h) ?_
    refine AD.done ?_
    refine AO.nil ?_
    change AC _ _ _ _
    refine AC.ret ?_
    change RetQ _ _ _ .ret _
    obtain rfl := Option.some.inj h0
    refine retq rfl rfl

set_option maxRecDepth 100000 in
set_option maxHeartbeats 1000000 in
/-- pub-orthodrome/laws.FnSegmentDistance2 -/
theorem w_FnSegmentDistance2 (F : Nat) (a0 : TImpl_P2) (a1 : TImpl_P2) (a2 : TImpl_P2) (r0 : Bool) (h0 : p_FnSegmentDistance2 F a0 a1 a2 = some r0) : FnD Try.prog 3 [e_TImpl_P2 a0, e_TImpl_P2 a1, e_TImpl_P2 a2] (fun r => r = dbool r0) := by
  refine FnD.of (by kernel_rfl) Try.func3 rfl Try.ntmps3 rfl (leb rfl) fun W ok => ?_
  unfold p_FnSegmentDistance2 at h0
  refine AC.seq ?_
  refine AC.region ?_
  refine AO.op rfl (AOp.box rfl rfl (ltb rfl) rfl rfl ?_)
  refine AO.op rfl (AOp.box rfl rfl (ltb rfl) rfl rfl ?_)
  refine AO.op rfl (AOp.box rfl rfl (ltb rfl) rfl rfl ?_)
  refine AO.op rfl (AOp.assign rfl rfl (ltb rfl) rfl ?_)
  refine AO.nil ?_
  change AC _ _ _ _
  refine AC.seq ?_
  refine AC.seq ?_
  refine AC.region ?_
  refine AO.op rfl (AOp.loadN rfl rfl (ltb rfl) rfl agg24 size24 rfl (leb rfl) rfl ?_)
  refine AO.op rfl (AOp.loadN rfl rfl (ltb rfl) rfl agg24 size24 rfl (leb rfl) rfl ?_)
  refine AO.op rfl (AOp.loadN rfl rfl (ltb rfl) rfl agg24 size24 rfl (leb rfl) rfl ?_)
  refine AO.op rfl (AOp.buildSliceD rfl rfl (ltb rfl) el62 zero24 rfl (leb rfl) rfl rfl rfl rfl ?_)
  obtain ⟨y1, q2, h0⟩ := bind_elim h0
  refine AO.op rfl (AOp.callD rfl rfl (ltb rfl) rfl rfl (w_planeTo F (4652218415073722368 : Nat) [a2, a0, a1] y1 q2) ?_)
  rintro _ rfl
  refine AO.op rfl (AOp.bnot rfl rfl (ltb rfl) rfl ?_)
  refine AO.nil ?_
  change AC _ _ _ _
  refine AC.cond rfl (fun q3 => ?_) (fun q3 => ?_)
  · replace h0 := cT h0 q3
    refine AC.seq ?_
    refine AC.region ?_
    refine AO.op rfl (AOp.assign rfl rfl (ltb rfl) rfl ?_)
    refine AO.nil ?_
    change AC _ _ _ _
    refine AC.ret ?_
    change RetQ _ _ _ .ret _
    obtain rfl := Option.some.inj h0
    refine retq rfl rfl
  · replace h0 := cF h0 q3
    refine AC.skip ?_
    change AC _ _ _ _
    refine AC.seq ?_
    refine AC.draw 13 mixed (by kernel_rfl) ?_
    refine AD.op [3] rfl (by kernel_rfl) rfl rfl (fun _ _ h => AOp.loadN rfl rfl (ltb rfl) rfl agg24 size24 rfl (leb rfl) rfl h) ?_
    refine AD.op [4] rfl (by kernel_rfl) rfl rfl (fun _ _ h => AOp.loadN rfl rfl (ltb rfl) rfl agg24 size24 rfl (leb rfl) rfl h) ?_
    refine AD.op [5] rfl (by kernel_rfl) rfl rfl (fun _ _ h => AOp.loadN rfl rfl (ltb rfl) rfl agg24 size24 rfl (leb rfl) rfl h) ?_
    obtain ⟨y4, q5, h0⟩ := bind_elim h0
    refine AD.op [13, 14, 15] rfl (by kernel_rfl) rfl rfl (fun _ _ h => AOp.callD rfl rfl (ltb rfl) rfl rfl (w_SegmentDistance2 a0 a1 a2 y4 q5) (by rintro _ rfl; exact h)) ?_
    refine AD.op [5] rfl (by kernel_rfl) rfl rfl (fun _ _ h => AOp.loadN rfl rfl (ltb rfl) rfl agg24 size24 rfl (leb rfl) rfl h) ?_
    obtain ⟨y6, q7, h0⟩ := bind_elim h0
    refine AD.op [17] rfl (by kernel_rfl) rfl rfl (fun _ _ h => AOp.callD rfl rfl (ltb rfl) rfl rfl (w_exactly F a2 y6 q7) (by rintro _ rfl; exact h)) ?_
    refine AD.op [3] rfl (by kernel_rfl) rfl rfl (fun _ _ h => AOp.loadN rfl rfl (ltb rfl) rfl agg24 size24 rfl (leb rfl) rfl h) ?_
    obtain ⟨y8, q9, h0⟩ := bind_elim h0
    refine AD.op [19] rfl (by kernel_rfl) rfl rfl (fun _ _ h => AOp.callD rfl rfl (ltb rfl) rfl rfl (w_exactly F a0 y8 q9) (by rintro _ rfl; exact h)) ?_
    refine AD.op [4] rfl (by kernel_rfl) rfl rfl (fun _ _ h => AOp.loadN rfl rfl (ltb rfl) rfl agg24 size24 rfl (leb rfl) rfl h) ?_
    obtain ⟨y10, q11, h0⟩ := bind_elim h0
    refine AD.op [21] rfl (by kernel_rfl) rfl rfl (fun _ _ h => AOp.callD rfl rfl (ltb rfl) rfl rfl (w_exactly F a1 y10 q11) (by rintro _ rfl; exact h)) ?_
    obtain ⟨y12, q13, h0⟩ := bind_elim h0
    refine AD.op [18, 20, 22] rfl (by kernel_rfl) rfl rfl (fun _ _ h => AOp.callD rfl rfl (ltb rfl) rfl rfl (w_SquareTo F y6 y8 y10 y12 q13) (by rintro _ rfl; exact h)) ?_
    obtain ⟨y14, q15, h0⟩ := bind_elim h0
    refine AD.op [16, 23] rfl (by kernel_rfl) rfl rfl (fun _ _ h => AOp.callD rfl rfl (ltb rfl) rfl rfl (w_nearRatio F y4 y12 (-20 : Int) y14 q15) (by rintro _ rfl; exact h)) ?_
    refine AD.op [24] rfl (by kernel_rfl) rfl rfl (fun _ _ h => AOp.assign rfl rfl (ltb rfl) rfl h) ?_
    refine AD.done ?_
    refine AO.nil ?_
    change AC _ _ _ _
    refine AC.ret ?_
    change RetQ _ _ _ .ret _
    obtain rfl := Option.some.inj h0
    refine retq rfl rfl

end Go.Proofs.Ytohpmbodfpjjmaa.Wk
