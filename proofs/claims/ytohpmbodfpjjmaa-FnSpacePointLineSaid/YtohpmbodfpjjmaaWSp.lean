/- Proved: functions of the program compute what the printed functions say, wherever these say something. -/
import Derived.Test.YtohpmbodfpjjmaaPSp
import Derived.Test.YtohpmbodfpjjmaaVmDraw4
import Derived.Test.YtohpmbodfpjjmaaVmNaN
import Derived.Test.YtohpmbodfpjjmaaFltDy
import Derived.Test.YtohpmbodfpjjmaaFltMin
import Derived.Test.YtohpmbodfpjjmaaVmFin
import Derived.Test.YtohpmbodfpjjmaaProg
namespace Go.Proofs.Ytohpmbodfpjjmaa.Wk
open Go.Vm
set_option linter.unusedVariables false
set_option linter.unusedSimpArgs false
theorem agg106 : aggT Try.prog 106 = some false := by kernel_rfl
theorem agg22 : aggT Try.prog 22 = some false := by kernel_rfl
theorem agg28 : aggT Try.prog 28 = some false := by kernel_rfl
theorem agg3 : aggT Try.prog 3 = some false := by kernel_rfl
theorem agg30 : aggT Try.prog 30 = some true := by kernel_rfl
theorem agg32 : aggT Try.prog 32 = some true := by kernel_rfl
theorem agg4 : aggT Try.prog 4 = some false := by kernel_rfl
theorem agg47 : aggT Try.prog 47 = some true := by kernel_rfl
theorem agg53 : aggT Try.prog 53 = some true := by kernel_rfl
theorem el28 : elemT Try.prog 28 = some (106, 1) := by kernel_rfl
theorem el61 : elemT Try.prog 61 = some (22, 1) := by kernel_rfl
theorem el79 : elemT Try.prog 79 = some (22, 1) := by kernel_rfl
theorem el85 : elemT Try.prog 85 = some (47, 3) := by kernel_rfl
theorem fo30_0 : fieldOff Try.prog 30 0 = some 0 := by kernel_rfl
theorem fo30_1 : fieldOff Try.prog 30 1 = some 1 := by kernel_rfl
theorem fo32_0 : fieldOff Try.prog 32 0 = some 0 := by kernel_rfl
theorem fo32_1 : fieldOff Try.prog 32 1 = some 2 := by kernel_rfl
theorem fo34_0 : fieldOff Try.prog 34 0 = some 0 := by kernel_rfl
theorem fo34_1 : fieldOff Try.prog 34 1 = some 3 := by kernel_rfl
theorem fo47_0 : fieldOff Try.prog 47 0 = some 0 := by kernel_rfl
theorem fo47_1 : fieldOff Try.prog 47 1 = some 1 := by kernel_rfl
theorem fo47_2 : fieldOff Try.prog 47 2 = some 2 := by kernel_rfl
theorem fo53_0 : fieldOff Try.prog 53 0 = some 0 := by kernel_rfl
theorem fo53_1 : fieldOff Try.prog 53 1 = some 3 := by kernel_rfl
theorem fo53_2 : fieldOff Try.prog 53 2 = some 6 := by kernel_rfl
theorem idle62 (vs : Array Value) (w : World) (h : vs.size = 2) : CallsD Try.prog 62 vs .returning w fun e u' w' => e = .returned (.tuple #[]) ∧ u' = .returning ∧ w' = w := by
  obtain ⟨x0, x1, rfl⟩ : ∃ x0 x1, vs = #[x0, x1] := by
    obtain ⟨l⟩ := vs
    match l, h with
    | [x0, x1], _ => exact ⟨x0, x1, rfl⟩
  refine callsD_of_wpS Try.func62 rfl fun c₀ cs hu => ?_
  apply wpS_seq
  apply wpS_region
  simp [wpOpsS, go_sem, recoverD, hu, Try.ntmps62, Exit.thenS]
  refine wpS_cond (t := false) (by simp [Act.eval, Array.replicate]) ?_
  simp only [Bool.false_eq_true, if_false]
  refine wpS_of_wp (wp_skip ?_)
  cases c₀
  simp_all [bodyPostS, results, Try.results62]
theorem info106 : (Try.prog.info? 106).map (fun i => (i.zero, i.size, i.bytes)) = some (some (.int .u32 0), 1, 4) := by kernel_rfl
theorem mixed : Try.prog.follows .mixedOrders = true := by kernel_rfl
def pl30 : Nat → Option (Nat × Nat) := fun i => ([(0, 1), (1, 1)] : List (Nat × Nat))[i]?
theorem places30 : placesT Try.prog 30 = some pl30 := by kernel_rfl
def pl32 : Nat → Option (Nat × Nat) := fun i => ([(0, 2), (2, 1)] : List (Nat × Nat))[i]?
theorem places32 : placesT Try.prog 32 = some pl32 := by kernel_rfl
def pl34 : Nat → Option (Nat × Nat) := fun i => ([(0, 3), (3, 3)] : List (Nat × Nat))[i]?
theorem places34 : placesT Try.prog 34 = some pl34 := by kernel_rfl
def pl53 : Nat → Option (Nat × Nat) := fun i => ([(0, 3), (3, 3), (6, 3)] : List (Nat × Nat))[i]?
theorem places53 : placesT Try.prog 53 = some pl53 := by kernel_rfl
theorem size106 : sizeT Try.prog 106 = some 1 := by kernel_rfl
theorem size22 : sizeT Try.prog 22 = some 1 := by kernel_rfl
theorem size30 : sizeT Try.prog 30 = some 2 := by kernel_rfl
theorem size32 : sizeT Try.prog 32 = some 3 := by kernel_rfl
theorem size34 : sizeT Try.prog 34 = some 6 := by kernel_rfl
theorem size4 : sizeT Try.prog 4 = some 1 := by kernel_rfl
theorem size47 : sizeT Try.prog 47 = some 3 := by kernel_rfl
theorem size53 : sizeT Try.prog 53 = some 9 := by kernel_rfl
theorem zero106 : (Try.prog.info? 106).map (·.zero) = some (some (.int .u32 0)) := by kernel_rfl
theorem zero22 : (Try.prog.info? 22).map (·.zero) = some (some (.float .f64 0)) := by kernel_rfl
theorem zero30 : (Try.prog.info? 30).map (·.zero) = some (some (.agg #[.bool false, .slice none 0 0])) := by kernel_rfl
theorem zero32 : (Try.prog.info? 32).map (·.zero) = some (some (.agg #[.bool false, .slice none 0 0, .int .i64 0])) := by kernel_rfl
theorem zero34 : (Try.prog.info? 34).map (·.zero) = some (some (.agg #[.bool false, .slice none 0 0, .int .i64 0, .bool false, .slice none 0 0, .int .i64 0])) := by kernel_rfl
theorem zero4 : (Try.prog.info? 4).map (·.zero) = some (some (.bool false)) := by kernel_rfl
theorem zero47 : (Try.prog.info? 47).map (·.zero) = some (some (.agg #[.float .f64 0, .float .f64 0, .float .f64 0])) := by kernel_rfl
theorem zero53 : (Try.prog.info? 53).map (·.zero) = some (some (.agg #[.bool false, .slice none 0 0, .int .i64 0, .bool false, .slice none 0 0, .int .i64 0, .bool false, .slice none 0 0, .int .i64 0])) := by kernel_rfl
open Flt (truncD okF inR K20)
def notNan (x : Nat) : Prop := (FloatKind.f64.decode x).isNaN = false
def truncS (x : Nat) (d : Ieee.Datum) : Sem Value :=
  match d with
  | .nan s t =>
    if FloatKind.f64.format.quiet t = t then pure (.float .f64 x) else do
      let kept ← choose (.extern "math.Floor,Ceil,Trunc,RoundToEven.signallingNaN kept" 2)
      pure (.float .f64 (if kept == 1 then x else FloatKind.f64.encode (.nan s (FloatKind.f64.format.quiet t))))
  | d => pure (.float .f64 (FloatKind.f64.encode (d.integral .zero)))
theorem run_trunc (P : Program) (x : Nat) (h : notNan x) (w : World) : (Extern.MathFloor.toIntegral "math.archTrunc" .zero #[.float .f64 x]).run P w = .ok (.float .f64 (truncD x)) w := by
  unfold notNan at h
  have e : Extern.MathFloor.toIntegral "math.archTrunc" .zero #[.float .f64 x] = truncS x (FloatKind.f64.decode x) := rfl
  have e2 : ∀ d : Ieee.Datum, d.isNaN = false → truncS x d = pure (.float .f64 (FloatKind.f64.encode (d.integral .zero))) := by
    intro d hd
    cases d with
    | nan s t => cases hd
    | number s m e => rfl
    | infinity s => rfl
  rw [e, e2 _ h]
  rfl

theorem callTrunc (x : Nat) (h : notNan x) (w : World) : (callFunc 87 #[.float .f64 x]).run Try.prog w = .ok (.value (.float .f64 (truncD x))) w := by
  rw [run_callFunc_extern Try.func87 (by kernel_rfl) (by kernel_rfl) (by kernel_rfl) (e := Extern.MathFloor.toIntegral "math.archTrunc" .zero) (by kernel_rfl), run_trunc Try.prog x h]
  rfl

theorem inR_nn (m x : Nat) (h : fle x m = true) : notNan x := by
  unfold fle at h
  unfold notNan
  unfold Ieee.Format.order at h
  show (Ieee.double.read x).isNaN = false
  generalize Ieee.double.read x = d at *
  cases d with
  | nan s t => simp [Ieee.Datum.order] at h
  | number s m e => rfl
  | infinity s => rfl

set_option maxRecDepth 100000 in
/-- math.Trunc -/
theorem trunc (x : Nat) (h : notNan x) : FnD Try.prog 70 [dfl x] (fun r => r = dfl (truncD x)) := by
  refine FnD.of (by kernel_rfl) Try.func70 rfl Try.ntmps70 rfl (leb rfl) fun W ok => ?_
  refine AC.seq ?_
  refine AC.region ?_
  refine AO.op rfl (AOp.assign rfl rfl (ltb rfl) rfl ?_)
  refine AO.nil ?_
  change AC _ _ _ _
  refine AC.seq ?_
  refine AC.condT rfl rfl ?_
  refine AC.seq ?_
  refine AC.region ?_
  refine AO.op rfl (AOp.move rfl rfl (ltb rfl) rfl ?_)
  refine AO.op rfl (AOp.callX [.float .f64 x] rfl rfl (ltb rfl) rfl (callTrunc x h) ?_)
  refine AO.op rfl (AOp.assign rfl rfl (ltb rfl) rfl ?_)
  refine AO.nil ?_
  change AC _ _ _ _
  refine AC.ret ?_
  change RetQ _ _ _ .ret _
  refine retq rfl ?_
  exact rfl

theorem notNan_of {x : Nat} (h : Flt.isNan x = false) : notNan x := h
theorem callTruncA (x : Nat) (h : Flt.isNan x = true) (w : World) : ∃ r w', (callFunc 87 #[.float .f64 x]).run Try.prog w = .ok (.value r) w' ∧ (w' = w ∨ w' = w.drew) ∧ ∃ z, r = .float .f64 z ∧ Flt.isNan z = true := by
  obtain ⟨r, w', h1, h2, h3⟩ := Flt.run_truncA Try.prog x h w
  refine ⟨r, w', ?_, h2, h3⟩
  rw [run_callFunc_extern Try.func87 (by kernel_rfl) (by kernel_rfl) (by kernel_rfl) (e := Extern.MathFloor.toIntegral "math.archTrunc" .zero) (by kernel_rfl), h1]
  rfl
set_option maxRecDepth 100000 in
theorem truncNN (x : Nat) (h : Flt.isNan x = true) : FnD Try.prog 70 [dfl x] (fun r => ∃ z, r = dfl z ∧ Flt.isNan z = true) := by
  refine FnD.of (by kernel_rfl) Try.func70 rfl Try.ntmps70 rfl (leb rfl) fun W ok => ?_
  refine AC.seq ?_
  refine AC.region ?_
  refine AO.op rfl (AOp.assign rfl rfl (ltb rfl) rfl ?_)
  refine AO.nil ?_
  change AC _ _ _ _
  refine AC.seq ?_
  refine AC.condT rfl rfl ?_
  refine AC.seq ?_
  refine AC.region ?_
  refine AO.op rfl (AOp.move rfl rfl (ltb rfl) rfl ?_)
  refine AO.op rfl (AOp.callXA [.float .f64 x] rfl rfl (ltb rfl) rfl (callTruncA x h) ?_)
  rintro _ ⟨z, rfl, hz⟩
  refine AO.op rfl (AOp.assign rfl rfl (ltb rfl) rfl ?_)
  refine AO.nil ?_
  change AC _ _ _ _
  refine AC.ret ?_
  change RetQ _ _ _ .ret _
  refine retq rfl ?_
  exact ⟨z, rfl, hz⟩

theorem truncA (x : Nat) : FnD Try.prog 70 [dfl x] (fun r => ∃ z, r = dfl z ∧ Flt.TruncR x z) := by
  cases h : Flt.isNan x with
  | false => exact (trunc x h).mono fun r hr => ⟨_, hr, fun _ => rfl, fun h2 => by rw [h] at h2; cases h2⟩
  | true => exact (truncNN x h).mono fun r ⟨z, h1, h2⟩ => ⟨z, h1, fun h3 => by (rw [h] at h3; cases h3), fun _ => h2⟩

theorem callBitsA (x : Nat) (w : World) : (callFunc 71 #[.float .f64 x]).run Try.prog w = .ok (.value (.int .u64 x)) w := by
  rw [run_callFunc_extern Try.func71 (by kernel_rfl) (by kernel_rfl) (by kernel_rfl) (e := Extern.MathFloatBits.float64bits) (by kernel_rfl), run_f64bits Try.prog x]
  rfl
theorem callFromBitsA (x : Nat) (w : World) : (callFunc 76 #[.int .u64 x]).run Try.prog w = .ok (.value (.float .f64 x)) w := by
  rw [run_callFunc_extern Try.func76 (by kernel_rfl) (by kernel_rfl) (by kernel_rfl) (e := Extern.MathFloatBits.float64frombits) (by kernel_rfl), run_f64frombits Try.prog x]
  rfl

set_option maxRecDepth 100000 in
/-- math.Abs -/
theorem mathAbs (x : Nat) : FnD Try.prog 47 [dfl x] (fun r => r = dfl (Flt.fabs x)) := by
  refine FnD.of (by kernel_rfl) Try.func47 rfl Try.ntmps47 rfl (leb rfl) fun W ok => ?_
  refine AC.seq ?_
  refine AC.region ?_
  refine AO.op rfl (AOp.assign rfl rfl (ltb rfl) rfl ?_)
  refine AO.nil ?_
  change AC _ _ _ _
  refine AC.seq ?_
  refine AC.region ?_
  refine AO.op rfl (AOp.move rfl rfl (ltb rfl) rfl ?_)
  refine AO.op rfl (AOp.callX [.float .f64 x] rfl rfl (ltb rfl) rfl (callBitsA x) ?_)
  refine AO.op rfl (AOp.ibits (by simp) rfl rfl (ltb rfl) rfl rfl (andNot_abs x) ?_)
  refine AO.op rfl (AOp.callX [.int .u64 ((Flt.fabs x : Nat) : Int)] rfl rfl (ltb rfl) rfl (callFromBitsA _) ?_)
  refine AO.op rfl (AOp.assign rfl rfl (ltb rfl) rfl ?_)
  refine AO.nil ?_
  change AC _ _ _ _
  refine AC.ret ?_
  change RetQ _ _ _ .ret _
  refine retq rfl ?_
  exact rfl

set_option maxRecDepth 100000 in
set_option maxHeartbeats 1000000 in
/-- pub-orthodrome/laws.wholeTo -/
theorem w_wholeTo (F : Nat) (a0 : Nat) (a1 : (List Nat)) (r0 : Bool) (h0 : p_wholeTo F a0 a1 = some r0) : FnD Try.prog 34 [dfl a0, eS1 a1] (fun r => r = dbool r0) := by
  refine FnD.of (by kernel_rfl) Try.func34 rfl Try.ntmps34 rfl (leb rfl) fun W ok => ?_
  unfold p_wholeTo at h0
  refine AC.seq ?_
  refine AC.region ?_
  refine AO.op rfl (AOp.assign rfl rfl (ltb rfl) rfl ?_)
  refine AO.nil ?_
  change AC _ _ _ _
  refine AC.seq ?_
  refine AC.seq ?_
  refine AC.region ?_
  refine AO.op rfl (AOp.move rfl rfl (ltb rfl) rfl ?_)
  refine AO.op rfl (AOp.lenDs (n := a1.length) (cells := (List.map keS1 a1)) rfl rfl (ltb rfl) rfl el61 (by decide) (len1 _ _) ?_)
  refine AO.op rfl (AOp.move rfl rfl (ltb rfl) rfl ?_)
  refine AO.nil ?_
  change AC _ _ _ _
  obtain ⟨o1, l2, h0⟩ := bind_elim h0
  refine AC.joinE (V := Unit) [] [] 0 (fun g3 => []) (fun g3 => []) (fun g3 => p_wholeTo_k1 g3 = some r0) rfl ?_ ?_
  · refine AC.block ?_
    refine AC.loopP (V := Int) (p_wholeTo_l2 a0 a1) o1 [0, 7, 8] [9] 0 (fun g4 => [(9, .d (di .i64 g4))]) (fun g4 => []) F (0 : Int) l2 rfl rfl (LeL.refl _) rfl rfl ?_
    intro n6 g4 h1
    unfold p_wholeTo_l2 at h1
    refine AC.seq ?_
    refine AC.region ?_
    refine AO.op rfl (AOp.ilss rfl rfl (ltb rfl) rfl rfl ?_)
    refine AO.nil ?_
    change AC _ _ _ _
    refine AC.seq ?_
    refine AC.cond rfl (fun q7 => ?_) (fun q7 => ?_)
    · replace h1 := cT h1 q7
      refine AC.skip ?_
      change AC _ _ _ _
      refine AC.seq ?_
      refine AC.block ?_
      refine AC.seq ?_
      refine AC.region ?_
      obtain ⟨x8, q9, h1⟩ := idx_elim h1
      refine AO.op rfl (AOp.indexDs (cells := (List.map keS1 a1)) rfl rfl (ltb rfl) rfl rfl el61 (by decide) q9.1 (lt1 q9.2) ?_)
      refine AO.op rfl (AOp.loadEp rfl rfl (ltb rfl) rfl agg22 (at1 q9.2) ?_)
      refine AO.op rfl (AOp.assign rfl rfl (ltb rfl) rfl ?_)
      refine AO.nil ?_
      change AC _ _ _ _
      refine AC.seq ?_
      refine AC.region ?_
      refine AO.op rfl (AOp.move rfl rfl (ltb rfl) rfl ?_)
      refine AO.op rfl (AOp.move rfl rfl (ltb rfl) rfl ?_)
      refine AO.op rfl (AOp.callD rfl rfl (ltb rfl) rfl rfl (truncA x8) ?_)
      rintro _ ⟨z10, rfl, hz11⟩
      refine AO.op rfl (AOp.fneq rfl rfl (ltb rfl) rfl rfl ?_)
      rw [hz11.feq]
      refine AO.op rfl (AOp.move rfl rfl (ltb rfl) rfl ?_)
      refine AO.dec (!feq x8 (Flt.truncN x8)) (fun q12 => ?_) (fun q12 => ?_)
      · replace h1 := cT h1 q12
        refine AO.guardN rfl rfl rfl (ltb rfl) rfl q12 ?_
        refine AO.guardN rfl rfl rfl (ltb rfl) rfl q12 ?_
        refine AO.guardN rfl rfl rfl (ltb rfl) rfl q12 ?_
        refine AO.guardN rfl rfl rfl (ltb rfl) rfl q12 ?_
        refine AO.op rfl (AOp.pick rfl rfl (ltb rfl) rfl q12 rfl ?_)
        refine AO.nil ?_
        change AC _ _ _ _
        refine AC.condT rfl rfl ?_
        refine AC.seq ?_
        refine AC.region ?_
        refine AO.op rfl (AOp.assign rfl rfl (ltb rfl) rfl ?_)
        refine AO.nil ?_
        change AC _ _ _ _
        refine AC.ret ?_
        change RetQ _ _ _ .ret _
        obtain rfl := Option.some.inj h1
        replace h0 := aftR h0
        obtain rfl := Option.some.inj h0
        refine retq rfl rfl
      · replace h1 := cF h1 q12
        refine AO.guardY rfl rfl rfl q12 (AOp.move rfl rfl (ltb rfl) rfl ?_)
        refine AO.guardY rfl rfl rfl q12 (AOp.callD rfl rfl (ltb rfl) rfl rfl (mathAbs x8) ?_)
        rintro _ rfl
        refine AO.guardY rfl rfl rfl q12 (AOp.move rfl rfl (ltb rfl) rfl ?_)
        refine AO.guardY rfl rfl rfl q12 (AOp.fgtr rfl rfl (ltb rfl) rfl rfl ?_)
        refine AO.op rfl (AOp.pickN rfl rfl (ltb rfl) rfl q12 rfl ?_)
        refine AO.nil ?_
        change AC _ _ _ _
        refine AC.cond rfl (fun q13 => ?_) (fun q13 => ?_)
        · replace h1 := cT h1 q13
          refine AC.seq ?_
          refine AC.region ?_
          refine AO.op rfl (AOp.assign rfl rfl (ltb rfl) rfl ?_)
          refine AO.nil ?_
          change AC _ _ _ _
          refine AC.ret ?_
          change RetQ _ _ _ .ret _
          obtain rfl := Option.some.inj h1
          replace h0 := aftR h0
          obtain rfl := Option.some.inj h0
          refine retq rfl rfl
        · replace h1 := cF h1 q13
          refine AC.skip ?_
          change AC _ _ _ _
          refine AC.region ?_
          obtain ⟨q14, h1⟩ := need_elim h1
          refine AO.op rfl (AOp.iadd rfl rfl (ltb rfl) rfl rfl rfl q14.1 q14.2 ?_)
          refine AO.op rfl (AOp.move rfl rfl (ltb rfl) rfl ?_)
          refine AO.nil ?_
          exact ⟨(g4 + (1 : Int)), _, rfl, (LeL.refl _), rfl, rfl, h1⟩
    · replace h1 := cF h1 q7
      refine AC.exit ?_
      obtain rfl := Option.some.inj h1
      exact ⟨(), _, rfl, (LeL.refl _), rfl, rfl, aftL h0⟩
  · intro g3 h0
    unfold p_wholeTo_k1 at h0
    change AC _ _ _ _
    refine AC.seq ?_
    refine AC.region ?_
    refine AO.op rfl (AOp.assign rfl rfl (ltb rfl) rfl ?_)
    refine AO.nil ?_
    change AC _ _ _ _
    refine AC.ret ?_
    change RetQ _ _ _ .ret _
    obtain rfl := Option.some.inj h0
    refine retq rfl rfl

set_option maxRecDepth 100000 in
set_option maxHeartbeats 1000000 in
/-- pub-orthodrome/laws.spaceTo -/
theorem w_spaceTo (F : Nat) (a0 : Nat) (a1 : (List TImpl_P3)) (r0 : Bool) (h0 : p_spaceTo F a0 a1 = some r0) : FnD Try.prog 20 [dfl a0, eS0 a1] (fun r => r = dbool r0) := by
  refine FnD.of (by kernel_rfl) Try.func20 rfl Try.ntmps20 rfl (leb rfl) fun W ok => ?_
  unfold p_spaceTo at h0
  refine AC.seq ?_
  refine AC.region ?_
  refine AO.op rfl (AOp.assign rfl rfl (ltb rfl) rfl ?_)
  refine AO.nil ?_
  change AC _ _ _ _
  refine AC.seq ?_
  refine AC.seq ?_
  refine AC.region ?_
  refine AO.op rfl (AOp.move rfl rfl (ltb rfl) rfl ?_)
  refine AO.op rfl (AOp.lenDs (n := a1.length) (cells := (List.flatMap c_TImpl_P3 a1)) rfl rfl (ltb rfl) rfl el85 (by decide) (lenN _ 3 (fun _ => rfl) _) ?_)
  refine AO.op rfl (AOp.move rfl rfl (ltb rfl) rfl ?_)
  refine AO.nil ?_
  change AC _ _ _ _
  obtain ⟨o1, l2, h0⟩ := bind_elim h0
  refine AC.joinE (V := Unit) [] [] 0 (fun g3 => []) (fun g3 => []) (fun g3 => p_spaceTo_k1 g3 = some r0) rfl ?_ ?_
  · refine AC.block ?_
    refine AC.loopP (V := Int) (p_spaceTo_l2 a0 a1 F) o1 [0, 7, 8] [9] 0 (fun g4 => [(9, .d (di .i64 g4))]) (fun g4 => []) F (0 : Int) l2 rfl rfl (LeL.refl _) rfl rfl ?_
    intro n6 g4 h1
    unfold p_spaceTo_l2 at h1
    refine AC.seq ?_
    refine AC.region ?_
    refine AO.op rfl (AOp.ilss rfl rfl (ltb rfl) rfl rfl ?_)
    refine AO.nil ?_
    change AC _ _ _ _
    refine AC.seq ?_
    refine AC.cond rfl (fun q7 => ?_) (fun q7 => ?_)
    · replace h1 := cT h1 q7
      refine AC.skip ?_
      change AC _ _ _ _
      refine AC.seq ?_
      refine AC.block ?_
      refine AC.seq ?_
      refine AC.region ?_
      obtain ⟨x8, q9, h1⟩ := idx_elim h1
      refine AO.op rfl (AOp.indexDs (cells := (List.flatMap c_TImpl_P3 a1)) rfl rfl (ltb rfl) rfl rfl el85 (by decide) q9.1 (ltN 3 (fun _ => rfl) (by decide) q9.2) ?_)
      refine AO.op rfl (AOp.loadEpN rfl rfl (ltb rfl) rfl agg47 size47 (leN 3 (fun _ => rfl) q9.2) (atN 3 (fun _ => rfl) q9.2) ?_)
      refine AO.op rfl (AOp.alloc rfl rfl (ltb rfl) zero47 rfl ?_)
      refine AO.op rfl (AOp.store rfl rfl rfl rfl size47 rfl rfl rfl (leb rfl) ?_)
      refine AO.nil ?_
      change AC _ _ _ _
      refine AC.seq ?_
      refine AC.region ?_
      refine AO.op rfl (AOp.move rfl rfl (ltb rfl) rfl ?_)
      refine AO.op rfl (AOp.fieldAddr rfl rfl (ltb rfl) rfl fo47_0 ?_)
      refine AO.op rfl (AOp.load1 rfl rfl (ltb rfl) rfl agg22 rfl rfl ?_)
      refine AO.op rfl (AOp.fieldAddr rfl rfl (ltb rfl) rfl fo47_1 ?_)
      refine AO.op rfl (AOp.load1 rfl rfl (ltb rfl) rfl agg22 rfl rfl ?_)
      refine AO.op rfl (AOp.fieldAddr rfl rfl (ltb rfl) rfl fo47_2 ?_)
      refine AO.op rfl (AOp.load1 rfl rfl (ltb rfl) rfl agg22 rfl rfl ?_)
      refine AO.op rfl (AOp.buildSliceD rfl rfl (ltb rfl) el61 zero22 rfl (leb rfl) rfl rfl rfl rfl ?_)
      obtain ⟨y10, q11, h1⟩ := bind_elim h1
      refine AO.op rfl (AOp.callD rfl rfl (ltb rfl) rfl rfl (w_wholeTo F a0 [x8.X, x8.Y, x8.Z] y10 q11) ?_)
      rintro _ rfl
      refine AO.op rfl (AOp.bnot rfl rfl (ltb rfl) rfl ?_)
      refine AO.nil ?_
      change AC _ _ _ _
      refine AC.cond rfl (fun q12 => ?_) (fun q12 => ?_)
      · replace h1 := cT h1 q12
        refine AC.seq ?_
        refine AC.region ?_
        refine AO.op rfl (AOp.assign rfl rfl (ltb rfl) rfl ?_)
        refine AO.nil ?_
        change AC _ _ _ _
        refine AC.ret ?_
        change RetQ _ _ _ .ret _
        obtain rfl := Option.some.inj h1
        replace h0 := aftR h0
        obtain rfl := Option.some.inj h0
        refine retq rfl rfl
      · replace h1 := cF h1 q12
        refine AC.skip ?_
        change AC _ _ _ _
        refine AC.region ?_
        obtain ⟨q13, h1⟩ := need_elim h1
        refine AO.op rfl (AOp.iadd rfl rfl (ltb rfl) rfl rfl rfl q13.1 q13.2 ?_)
        refine AO.op rfl (AOp.move rfl rfl (ltb rfl) rfl ?_)
        refine AO.nil ?_
        exact ⟨(g4 + (1 : Int)), _, rfl, (LeL.refl _), rfl, rfl, h1⟩
    · replace h1 := cF h1 q7
      refine AC.exit ?_
      obtain rfl := Option.some.inj h1
      exact ⟨(), _, rfl, (LeL.refl _), rfl, rfl, aftL h0⟩
  · intro g3 h0
    unfold p_spaceTo_k1 at h0
    change AC _ _ _ _
    refine AC.seq ?_
    refine AC.region ?_
    refine AO.op rfl (AOp.assign rfl rfl (ltb rfl) rfl ?_)
    refine AO.nil ?_
    change AC _ _ _ _
    refine AC.ret ?_
    change RetQ _ _ _ .ret _
    obtain rfl := Option.some.inj h0
    refine retq rfl rfl

set_option maxRecDepth 100000 in
set_option maxHeartbeats 1000000 in
/-- pub-orthodrome/impl.coord3 -/
theorem w_coord3 (a0 : TImpl_P3) (r0 : (List Nat)) (h0 : p_coord3 a0 = some r0) : FnD Try.prog 53 [e_TImpl_P3 a0] (fun r => r = eS1 r0) := by
  refine FnD.of (by kernel_rfl) Try.func53 rfl Try.ntmps53 rfl (leb rfl) fun W ok => ?_
  unfold p_coord3 at h0
  refine AC.seq ?_
  refine AC.region ?_
  refine AO.op rfl (AOp.box rfl rfl (ltb rfl) rfl rfl ?_)
  refine AO.op rfl (AOp.assign rfl rfl (ltb rfl) rfl ?_)
  refine AO.nil ?_
  change AC _ _ _ _
  refine AC.seq ?_
  refine AC.region ?_
  refine AO.op rfl (AOp.fieldAddr rfl rfl (ltb rfl) rfl fo47_0 ?_)
  refine AO.op rfl (AOp.load1 rfl rfl (ltb rfl) rfl agg22 rfl rfl ?_)
  refine AO.op rfl (AOp.fieldAddr rfl rfl (ltb rfl) rfl fo47_1 ?_)
  refine AO.op rfl (AOp.load1 rfl rfl (ltb rfl) rfl agg22 rfl rfl ?_)
  refine AO.op rfl (AOp.fieldAddr rfl rfl (ltb rfl) rfl fo47_2 ?_)
  refine AO.op rfl (AOp.load1 rfl rfl (ltb rfl) rfl agg22 rfl rfl ?_)
  refine AO.op rfl (AOp.buildSliceD rfl rfl (ltb rfl) el79 zero22 rfl (leb rfl) rfl rfl rfl rfl ?_)
  refine AO.op rfl (AOp.assign rfl rfl (ltb rfl) rfl ?_)
  refine AO.nil ?_
  change AC _ _ _ _
  refine AC.ret ?_
  change RetQ _ _ _ .ret _
  obtain rfl := Option.some.inj h0
  refine retq rfl rfl

set_option maxRecDepth 100000 in
set_option maxHeartbeats 1000000 in
/-- math.IsNaN -/
theorem w_IsNaN (a0 : Nat) (r0 : Bool) (h0 : p_IsNaN a0 = some r0) : FnD Try.prog 84 [dfl a0] (fun r => r = dbool r0) := by
  refine FnD.of (by kernel_rfl) Try.func84 rfl Try.ntmps84 rfl (leb rfl) fun W ok => ?_
  unfold p_IsNaN at h0
  refine AC.seq ?_
  refine AC.region ?_
  refine AO.op rfl (AOp.assign rfl rfl (ltb rfl) rfl ?_)
  refine AO.nil ?_
  change AC _ _ _ _
  refine AC.seq ?_
  refine AC.region ?_
  refine AO.op rfl (AOp.move rfl rfl (ltb rfl) rfl ?_)
  refine AO.op rfl (AOp.move rfl rfl (ltb rfl) rfl ?_)
  refine AO.op rfl (AOp.fneq rfl rfl (ltb rfl) rfl rfl ?_)
  refine AO.op rfl (AOp.assign rfl rfl (ltb rfl) rfl ?_)
  refine AO.nil ?_
  change AC _ _ _ _
  refine AC.ret ?_
  change RetQ _ _ _ .ret _
  obtain rfl := Option.some.inj h0
  refine retq rfl rfl

set_option maxRecDepth 100000 in
set_option maxHeartbeats 1000000 in
/-- pub-orthodrome/pub/gogeom/xyz.Equals -/
theorem w_Equals (a0 : (List Nat)) (a1 : (List Nat)) (r0 : Bool) (h0 : p_Equals a0 a1 = some r0) : FnD Try.prog 82 [eS1 a0, eS1 a1] (fun r => r = dbool r0) := by
  refine FnD.of (by kernel_rfl) Try.func82 rfl Try.ntmps82 rfl (leb rfl) fun W ok => ?_
  unfold p_Equals at h0
  refine AC.seq ?_
  refine AC.region ?_
  refine AO.op rfl (AOp.assign rfl rfl (ltb rfl) rfl ?_)
  refine AO.nil ?_
  change AC _ _ _ _
  refine AC.seq ?_
  refine AC.draw 38 mixed (by kernel_rfl) ?_
  refine AD.op [0] rfl (by kernel_rfl) rfl rfl (fun _ _ h => AOp.move rfl rfl (ltb rfl) rfl h) ?_
  obtain ⟨x1, q2, h0⟩ := idx_elim h0
  refine AD.op [5] rfl (by kernel_rfl) rfl rfl (fun _ _ h => AOp.indexDs (cells := (List.map keS1 a0)) rfl rfl (ltb rfl) rfl rfl el79 (by decide) q2.1 (lt1 q2.2) h) ?_
  refine AD.op [6] rfl (by kernel_rfl) rfl rfl (fun _ _ h => AOp.loadEp rfl rfl (ltb rfl) rfl agg22 (at1 q2.2) h) ?_
  refine AD.op [1] rfl (by kernel_rfl) rfl rfl (fun _ _ h => AOp.move rfl rfl (ltb rfl) rfl h) ?_
  obtain ⟨x3, q4, h0⟩ := idx_elim h0
  refine AD.op [8] rfl (by kernel_rfl) rfl rfl (fun _ _ h => AOp.indexDs (cells := (List.map keS1 a1)) rfl rfl (ltb rfl) rfl rfl el79 (by decide) q4.1 (lt1 q4.2) h) ?_
  refine AD.op [9] rfl (by kernel_rfl) rfl rfl (fun _ _ h => AOp.loadEp rfl rfl (ltb rfl) rfl agg22 (at1 q4.2) h) ?_
  refine AD.op [7, 10] rfl (by kernel_rfl) rfl rfl (fun _ _ h => AOp.feql rfl rfl (ltb rfl) rfl rfl h) ?_
  refine AD.op [11] rfl (by kernel_rfl) rfl rfl (fun _ _ h => AOp.move rfl rfl (ltb rfl) rfl h) ?_
  refine AD.dec (feq x1 x3) (fun q5 => ?_) (fun q5 => ?_)
  · replace h0 := cT h0 q5
    refine AD.opY [0, 12] rfl rfl rfl q5 (by kernel_rfl) rfl rfl (fun _ _ h => AOp.move rfl rfl (ltb rfl) rfl h) ?_
    obtain ⟨x6, q7, h0⟩ := idx_elim h0
    refine AD.opY [12, 13] rfl rfl rfl q5 (by kernel_rfl) rfl rfl (fun _ _ h => AOp.indexDs (cells := (List.map keS1 a0)) rfl rfl (ltb rfl) rfl rfl el79 (by decide) q7.1 (lt1 q7.2) h) ?_
    refine AD.opY [12, 14] rfl rfl rfl q5 (by kernel_rfl) rfl rfl (fun _ _ h => AOp.loadEp rfl rfl (ltb rfl) rfl agg22 (at1 q7.2) h) ?_
    refine AD.opY [1, 12] rfl rfl rfl q5 (by kernel_rfl) rfl rfl (fun _ _ h => AOp.move rfl rfl (ltb rfl) rfl h) ?_
    obtain ⟨x8, q9, h0⟩ := idx_elim h0
    refine AD.opY [12, 16] rfl rfl rfl q5 (by kernel_rfl) rfl rfl (fun _ _ h => AOp.indexDs (cells := (List.map keS1 a1)) rfl rfl (ltb rfl) rfl rfl el79 (by decide) q9.1 (lt1 q9.2) h) ?_
    refine AD.opY [12, 17] rfl rfl rfl q5 (by kernel_rfl) rfl rfl (fun _ _ h => AOp.loadEp rfl rfl (ltb rfl) rfl agg22 (at1 q9.2) h) ?_
    refine AD.opY [12, 15, 18] rfl rfl rfl q5 (by kernel_rfl) rfl rfl (fun _ _ h => AOp.feql rfl rfl (ltb rfl) rfl rfl h) ?_
    refine AD.op [12, 19] rfl (by kernel_rfl) rfl rfl (fun _ _ h => AOp.pick rfl rfl (ltb rfl) rfl q5 rfl h) ?_
    refine AD.op [20] rfl (by kernel_rfl) rfl rfl (fun _ _ h => AOp.move rfl rfl (ltb rfl) rfl h) ?_
    refine AD.dec (feq x6 x8) (fun q10 => ?_) (fun q10 => ?_)
    · replace h0 := cT h0 q10
      refine AD.opY [0, 21] rfl rfl rfl q10 (by kernel_rfl) rfl rfl (fun _ _ h => AOp.move rfl rfl (ltb rfl) rfl h) ?_
      obtain ⟨x11, q12, h0⟩ := idx_elim h0
      refine AD.opY [21, 22] rfl rfl rfl q10 (by kernel_rfl) rfl rfl (fun _ _ h => AOp.indexDs (cells := (List.map keS1 a0)) rfl rfl (ltb rfl) rfl rfl el79 (by decide) q12.1 (lt1 q12.2) h) ?_
      refine AD.opY [21, 23] rfl rfl rfl q10 (by kernel_rfl) rfl rfl (fun _ _ h => AOp.loadEp rfl rfl (ltb rfl) rfl agg22 (at1 q12.2) h) ?_
      refine AD.opY [1, 21] rfl rfl rfl q10 (by kernel_rfl) rfl rfl (fun _ _ h => AOp.move rfl rfl (ltb rfl) rfl h) ?_
      obtain ⟨x13, q14, h0⟩ := idx_elim h0
      refine AD.opY [21, 25] rfl rfl rfl q10 (by kernel_rfl) rfl rfl (fun _ _ h => AOp.indexDs (cells := (List.map keS1 a1)) rfl rfl (ltb rfl) rfl rfl el79 (by decide) q14.1 (lt1 q14.2) h) ?_
      refine AD.opY [21, 26] rfl rfl rfl q10 (by kernel_rfl) rfl rfl (fun _ _ h => AOp.loadEp rfl rfl (ltb rfl) rfl agg22 (at1 q14.2) h) ?_
      refine AD.opY [21, 24, 27] rfl rfl rfl q10 (by kernel_rfl) rfl rfl (fun _ _ h => AOp.feql rfl rfl (ltb rfl) rfl rfl h) ?_
      refine AD.opY [21, 28] rfl rfl rfl q10 (by kernel_rfl) rfl rfl (fun _ _ h => AOp.move rfl rfl (ltb rfl) rfl h) ?_
      refine AD.dec (feq x11 x13) (fun q15 => ?_) (fun q15 => ?_)
      · replace h0 := cT h0 q15
        refine AD.opN rfl rfl rfl (ltb rfl) rfl q15 ?_
        refine AD.opN rfl rfl rfl (ltb rfl) rfl q15 ?_
        refine AD.opN rfl rfl rfl (ltb rfl) rfl q15 ?_
        refine AD.opN rfl rfl rfl (ltb rfl) rfl q15 ?_
        refine AD.opN rfl rfl rfl (ltb rfl) rfl q15 ?_
        refine AD.opU rfl rfl rfl (ltb rfl) rfl ?_
        refine AD.opU rfl rfl rfl (ltb rfl) rfl ?_
        refine AD.opU rfl rfl rfl (ltb rfl) rfl ?_
        refine AD.opU rfl rfl rfl (ltb rfl) rfl ?_
        refine AD.opN rfl rfl rfl (ltb rfl) rfl q15 ?_
        refine AD.opY [21, 29, 39] rfl rfl rfl q10 (by kernel_rfl) rfl rfl (fun _ _ h => AOp.pick rfl rfl (ltb rfl) rfl q15 rfl h) ?_
        refine AD.op [21, 40] rfl (by kernel_rfl) rfl rfl (fun _ _ h => AOp.pick rfl rfl (ltb rfl) rfl q10 rfl h) ?_
        refine AD.op [41] rfl (by kernel_rfl) rfl rfl (fun _ _ h => AOp.assign rfl rfl (ltb rfl) rfl h) ?_
        refine AD.done ?_
        refine AO.nil ?_
        change AC _ _ _ _
        refine AC.ret ?_
        change RetQ _ _ _ .ret _
        obtain rfl := Option.some.inj h0
        refine retq rfl rfl
      · replace h0 := cF h0 q15
        refine AD.opY [0, 29] rfl rfl rfl q15 (by kernel_rfl) rfl rfl (fun _ _ h => AOp.move rfl rfl (ltb rfl) rfl h) ?_
        obtain ⟨x16, q17, h0⟩ := idx_elim h0
        refine AD.opY [29, 30] rfl rfl rfl q15 (by kernel_rfl) rfl rfl (fun _ _ h => AOp.indexDs (cells := (List.map keS1 a0)) rfl rfl (ltb rfl) rfl rfl el79 (by decide) q17.1 (lt1 q17.2) h) ?_
        refine AD.opY [29, 31] rfl rfl rfl q15 (by kernel_rfl) rfl rfl (fun _ _ h => AOp.loadEp rfl rfl (ltb rfl) rfl agg22 (at1 q17.2) h) ?_
        obtain ⟨y18, q19, h0⟩ := bind_elim h0
        refine AD.opY [29, 32] rfl rfl rfl q15 (by kernel_rfl) rfl rfl (fun _ _ h => AOp.callD rfl rfl (ltb rfl) rfl rfl (w_IsNaN x16 y18 q19) (by rintro _ rfl; exact h)) ?_
        refine AD.opY [29, 33] rfl rfl rfl q15 (by kernel_rfl) rfl rfl (fun _ _ h => AOp.move rfl rfl (ltb rfl) rfl h) ?_
        refine AD.dec y18 (fun q20 => ?_) (fun q20 => ?_)
        · replace h0 := cT h0 q20
          refine AD.opY [1, 34] rfl rfl rfl q20 (by kernel_rfl) rfl rfl (fun _ _ h => AOp.move rfl rfl (ltb rfl) rfl h) ?_
          obtain ⟨x21, q22, h0⟩ := idx_elim h0
          refine AD.opY [34, 35] rfl rfl rfl q20 (by kernel_rfl) rfl rfl (fun _ _ h => AOp.indexDs (cells := (List.map keS1 a1)) rfl rfl (ltb rfl) rfl rfl el79 (by decide) q22.1 (lt1 q22.2) h) ?_
          refine AD.opY [34, 36] rfl rfl rfl q20 (by kernel_rfl) rfl rfl (fun _ _ h => AOp.loadEp rfl rfl (ltb rfl) rfl agg22 (at1 q22.2) h) ?_
          obtain ⟨y23, q24, h0⟩ := bind_elim h0
          refine AD.opY [34, 37] rfl rfl rfl q20 (by kernel_rfl) rfl rfl (fun _ _ h => AOp.callD rfl rfl (ltb rfl) rfl rfl (w_IsNaN x21 y23 q24) (by rintro _ rfl; exact h)) ?_
          refine AD.opY [29, 34, 38] rfl rfl rfl q15 (by kernel_rfl) rfl rfl (fun _ _ h => AOp.pick rfl rfl (ltb rfl) rfl q20 rfl h) ?_
          refine AD.opY [21, 29, 39] rfl rfl rfl q10 (by kernel_rfl) rfl rfl (fun _ _ h => AOp.pickN rfl rfl (ltb rfl) rfl q15 rfl h) ?_
          refine AD.op [21, 40] rfl (by kernel_rfl) rfl rfl (fun _ _ h => AOp.pick rfl rfl (ltb rfl) rfl q10 rfl h) ?_
          refine AD.op [41] rfl (by kernel_rfl) rfl rfl (fun _ _ h => AOp.assign rfl rfl (ltb rfl) rfl h) ?_
          refine AD.done ?_
          refine AO.nil ?_
          change AC _ _ _ _
          refine AC.ret ?_
          change RetQ _ _ _ .ret _
          obtain rfl := Option.some.inj h0
          refine retq rfl rfl
        · replace h0 := cF h0 q20
          refine AD.opN rfl rfl rfl (ltb rfl) rfl q20 ?_
          refine AD.opN rfl rfl rfl (ltb rfl) rfl q20 ?_
          refine AD.opN rfl rfl rfl (ltb rfl) rfl q20 ?_
          refine AD.opN rfl rfl rfl (ltb rfl) rfl q20 ?_
          refine AD.opY [29, 34, 38] rfl rfl rfl q15 (by kernel_rfl) rfl rfl (fun _ _ h => AOp.pickN rfl rfl (ltb rfl) rfl q20 rfl h) ?_
          refine AD.opY [21, 29, 39] rfl rfl rfl q10 (by kernel_rfl) rfl rfl (fun _ _ h => AOp.pickN rfl rfl (ltb rfl) rfl q15 rfl h) ?_
          refine AD.op [21, 40] rfl (by kernel_rfl) rfl rfl (fun _ _ h => AOp.pick rfl rfl (ltb rfl) rfl q10 rfl h) ?_
          refine AD.op [41] rfl (by kernel_rfl) rfl rfl (fun _ _ h => AOp.assign rfl rfl (ltb rfl) rfl h) ?_
          refine AD.done ?_
          refine AO.nil ?_
          change AC _ _ _ _
          refine AC.ret ?_
          change RetQ _ _ _ .ret _
          obtain rfl := Option.some.inj h0
          refine retq rfl rfl
    · replace h0 := cF h0 q10
      refine AD.opN rfl rfl rfl (ltb rfl) rfl q10 ?_
      refine AD.opN rfl rfl rfl (ltb rfl) rfl q10 ?_
      refine AD.opN rfl rfl rfl (ltb rfl) rfl q10 ?_
      refine AD.opN rfl rfl rfl (ltb rfl) rfl q10 ?_
      refine AD.opN rfl rfl rfl (ltb rfl) rfl q10 ?_
      refine AD.opN rfl rfl rfl (ltb rfl) rfl q10 ?_
      refine AD.opN rfl rfl rfl (ltb rfl) rfl q10 ?_
      refine AD.opN rfl rfl rfl (ltb rfl) rfl q10 ?_
      refine AD.opU rfl rfl rfl (ltb rfl) rfl ?_
      refine AD.opU rfl rfl rfl (ltb rfl) rfl ?_
      refine AD.opU rfl rfl rfl (ltb rfl) rfl ?_
      refine AD.opU rfl rfl rfl (ltb rfl) rfl ?_
      refine AD.opU rfl rfl rfl (ltb rfl) rfl ?_
      refine AD.opU rfl rfl rfl (ltb rfl) rfl ?_
      refine AD.opU rfl rfl rfl (ltb rfl) rfl ?_
      refine AD.opU rfl rfl rfl (ltb rfl) rfl ?_
      refine AD.opU rfl rfl rfl (ltb rfl) rfl ?_
      refine AD.opU rfl rfl rfl (ltb rfl) rfl ?_
      refine AD.opN rfl rfl rfl (ltb rfl) rfl q10 ?_
      refine AD.op [21, 40] rfl (by kernel_rfl) rfl rfl (fun _ _ h => AOp.pickN rfl rfl (ltb rfl) rfl q10 rfl h) ?_
      refine AD.op [41] rfl (by kernel_rfl) rfl rfl (fun _ _ h => AOp.assign rfl rfl (ltb rfl) rfl h) ?_
      refine AD.done ?_
      refine AO.nil ?_
      change AC _ _ _ _
      refine AC.ret ?_
      change RetQ _ _ _ .ret _
      obtain rfl := Option.some.inj h0
      refine retq rfl rfl
  · replace h0 := cF h0 q5
    refine AD.opN rfl rfl rfl (ltb rfl) rfl q5 ?_
    refine AD.opN rfl rfl rfl (ltb rfl) rfl q5 ?_
    refine AD.opN rfl rfl rfl (ltb rfl) rfl q5 ?_
    refine AD.opN rfl rfl rfl (ltb rfl) rfl q5 ?_
    refine AD.opN rfl rfl rfl (ltb rfl) rfl q5 ?_
    refine AD.opN rfl rfl rfl (ltb rfl) rfl q5 ?_
    refine AD.opN rfl rfl rfl (ltb rfl) rfl q5 ?_
    refine AD.op [12, 19] rfl (by kernel_rfl) rfl rfl (fun _ _ h => AOp.pickN rfl rfl (ltb rfl) rfl q5 rfl h) ?_
    refine AD.op [20] rfl (by kernel_rfl) rfl rfl (fun _ _ h => AOp.move rfl rfl (ltb rfl) rfl h) ?_
    refine AD.opN rfl rfl rfl (ltb rfl) rfl rfl ?_
    refine AD.opN rfl rfl rfl (ltb rfl) rfl rfl ?_
    refine AD.opN rfl rfl rfl (ltb rfl) rfl rfl ?_
    refine AD.opN rfl rfl rfl (ltb rfl) rfl rfl ?_
    refine AD.opN rfl rfl rfl (ltb rfl) rfl rfl ?_
    refine AD.opN rfl rfl rfl (ltb rfl) rfl rfl ?_
    refine AD.opN rfl rfl rfl (ltb rfl) rfl rfl ?_
    refine AD.opN rfl rfl rfl (ltb rfl) rfl rfl ?_
    refine AD.opU rfl rfl rfl (ltb rfl) rfl ?_
    refine AD.opU rfl rfl rfl (ltb rfl) rfl ?_
    refine AD.opU rfl rfl rfl (ltb rfl) rfl ?_
    refine AD.opU rfl rfl rfl (ltb rfl) rfl ?_
    refine AD.opU rfl rfl rfl (ltb rfl) rfl ?_
    refine AD.opU rfl rfl rfl (ltb rfl) rfl ?_
    refine AD.opU rfl rfl rfl (ltb rfl) rfl ?_
    refine AD.opU rfl rfl rfl (ltb rfl) rfl ?_
    refine AD.opU rfl rfl rfl (ltb rfl) rfl ?_
    refine AD.opU rfl rfl rfl (ltb rfl) rfl ?_
    refine AD.opN rfl rfl rfl (ltb rfl) rfl rfl ?_
    refine AD.op [21, 40] rfl (by kernel_rfl) rfl rfl (fun _ _ h => AOp.pickN rfl rfl (ltb rfl) rfl rfl rfl h) ?_
    refine AD.op [41] rfl (by kernel_rfl) rfl rfl (fun _ _ h => AOp.assign rfl rfl (ltb rfl) rfl h) ?_
    refine AD.done ?_
    refine AO.nil ?_
    change AC _ _ _ _
    refine AC.ret ?_
    change RetQ _ _ _ .ret _
    obtain rfl := Option.some.inj h0
    refine retq rfl rfl

theorem callSqrt (x z : Nat) (h : FloatKind.f64.format.sqrt x = some z) (w : World) : (callFunc 54 #[.float .f64 x]).run Try.prog w = .ok (.value (.float .f64 z)) w := by
  rw [run_callFunc_extern Try.func54 (by kernel_rfl) (by kernel_rfl) (by kernel_rfl) (e := Extern.MathSqrt.sqrt) (by kernel_rfl)]
  have e : Extern.MathSqrt.sqrt #[.float .f64 x] = (match FloatKind.f64.format.sqrt x with | some r => pure (.float .f64 r) | none => do pure (.float .f64 (← choose (.nanBits .f64 x x)))) := rfl
  rw [e, h]
  rfl

set_option maxRecDepth 100000 in
set_option maxHeartbeats 1000000 in
/-- math.Sqrt -/
theorem w_Sqrt (a0 : Nat) (r0 : Nat) (h0 : p_Sqrt a0 = some r0) : FnD Try.prog 22 [dfl a0] (fun r => r = dfl r0) := by
  refine FnD.of (by kernel_rfl) Try.func22 rfl Try.ntmps22 rfl (leb rfl) fun W ok => ?_
  unfold p_Sqrt at h0
  refine AC.seq ?_
  refine AC.region ?_
  refine AO.op rfl (AOp.assign rfl rfl (ltb rfl) rfl ?_)
  refine AO.nil ?_
  change AC _ _ _ _
  refine AC.seq ?_
  refine AC.region ?_
  refine AO.op rfl (AOp.move rfl rfl (ltb rfl) rfl ?_)
  obtain ⟨z1, q2, h0⟩ := bind_elim h0
  refine AO.op rfl (AOp.callX [.float .f64 a0] rfl rfl (ltb rfl) rfl (callSqrt _ _ q2) ?_)
  refine AO.op rfl (AOp.assign rfl rfl (ltb rfl) rfl ?_)
  refine AO.nil ?_
  change AC _ _ _ _
  refine AC.ret ?_
  change RetQ _ _ _ .ret _
  obtain rfl := Option.some.inj h0
  refine retq rfl rfl

set_option maxRecDepth 100000 in
set_option maxHeartbeats 1000000 in
/-- pub-orthodrome/pub/gogeom/xy/inner.Distance2D -/
theorem w_Distance2D (a0 : (List Nat)) (a1 : (List Nat)) (r0 : Nat) (h0 : p_Distance2D a0 a1 = some r0) : FnD Try.prog 100 [eS1 a0, eS1 a1] (fun r => r = dfl r0) := by
  refine FnD.of (by kernel_rfl) Try.func100 rfl Try.ntmps100 rfl (leb rfl) fun W ok => ?_
  unfold p_Distance2D at h0
  refine AC.seq ?_
  refine AC.region ?_
  refine AO.op rfl (AOp.assign rfl rfl (ltb rfl) rfl ?_)
  refine AO.nil ?_
  change AC _ _ _ _
  refine AC.seq ?_
  refine AC.draw 8 mixed (by kernel_rfl) ?_
  refine AD.op [0] rfl (by kernel_rfl) rfl rfl (fun _ _ h => AOp.move rfl rfl (ltb rfl) rfl h) ?_
  obtain ⟨x1, q2, h0⟩ := idx_elim h0
  refine AD.op [7] rfl (by kernel_rfl) rfl rfl (fun _ _ h => AOp.indexDs (cells := (List.map keS1 a0)) rfl rfl (ltb rfl) rfl rfl el79 (by decide) q2.1 (lt1 q2.2) h) ?_
  refine AD.op [8] rfl (by kernel_rfl) rfl rfl (fun _ _ h => AOp.loadEp rfl rfl (ltb rfl) rfl agg22 (at1 q2.2) h) ?_
  refine AD.op [1] rfl (by kernel_rfl) rfl rfl (fun _ _ h => AOp.move rfl rfl (ltb rfl) rfl h) ?_
  obtain ⟨x3, q4, h0⟩ := idx_elim h0
  refine AD.op [10] rfl (by kernel_rfl) rfl rfl (fun _ _ h => AOp.indexDs (cells := (List.map keS1 a1)) rfl rfl (ltb rfl) rfl rfl el79 (by decide) q4.1 (lt1 q4.2) h) ?_
  refine AD.op [11] rfl (by kernel_rfl) rfl rfl (fun _ _ h => AOp.loadEp rfl rfl (ltb rfl) rfl agg22 (at1 q4.2) h) ?_
  obtain ⟨z5, q6, h0⟩ := bind_elim h0
  refine AD.op [9, 12] rfl (by kernel_rfl) rfl rfl (fun _ _ h => AOp.farith rfl rfl (ltb rfl) rfl rfl q6 h) ?_
  refine AD.op [13] rfl (by kernel_rfl) rfl rfl (fun _ _ h => AOp.assign rfl rfl (ltb rfl) rfl h) ?_
  refine AD.done ?_
  refine AO.nil ?_
  change AC _ _ _ _
  refine AC.seq ?_
  refine AC.draw 8 mixed (by kernel_rfl) ?_
  refine AD.op [0] rfl (by kernel_rfl) rfl rfl (fun _ _ h => AOp.move rfl rfl (ltb rfl) rfl h) ?_
  obtain ⟨x7, q8, h0⟩ := idx_elim h0
  refine AD.op [14] rfl (by kernel_rfl) rfl rfl (fun _ _ h => AOp.indexDs (cells := (List.map keS1 a0)) rfl rfl (ltb rfl) rfl rfl el79 (by decide) q8.1 (lt1 q8.2) h) ?_
  refine AD.op [15] rfl (by kernel_rfl) rfl rfl (fun _ _ h => AOp.loadEp rfl rfl (ltb rfl) rfl agg22 (at1 q8.2) h) ?_
  refine AD.op [1] rfl (by kernel_rfl) rfl rfl (fun _ _ h => AOp.move rfl rfl (ltb rfl) rfl h) ?_
  obtain ⟨x9, q10, h0⟩ := idx_elim h0
  refine AD.op [17] rfl (by kernel_rfl) rfl rfl (fun _ _ h => AOp.indexDs (cells := (List.map keS1 a1)) rfl rfl (ltb rfl) rfl rfl el79 (by decide) q10.1 (lt1 q10.2) h) ?_
  refine AD.op [18] rfl (by kernel_rfl) rfl rfl (fun _ _ h => AOp.loadEp rfl rfl (ltb rfl) rfl agg22 (at1 q10.2) h) ?_
  obtain ⟨z11, q12, h0⟩ := bind_elim h0
  refine AD.op [16, 19] rfl (by kernel_rfl) rfl rfl (fun _ _ h => AOp.farith rfl rfl (ltb rfl) rfl rfl q12 h) ?_
  refine AD.op [20] rfl (by kernel_rfl) rfl rfl (fun _ _ h => AOp.assign rfl rfl (ltb rfl) rfl h) ?_
  refine AD.done ?_
  refine AO.nil ?_
  change AC _ _ _ _
  refine AC.seq ?_
  refine AC.region ?_
  refine AO.op rfl (AOp.move rfl rfl (ltb rfl) rfl ?_)
  refine AO.op rfl (AOp.move rfl rfl (ltb rfl) rfl ?_)
  obtain ⟨z13, q14, h0⟩ := bind_elim h0
  refine AO.op rfl (AOp.farith rfl rfl (ltb rfl) rfl rfl q14 ?_)
  refine AO.op rfl (AOp.move rfl rfl (ltb rfl) rfl ?_)
  refine AO.op rfl (AOp.move rfl rfl (ltb rfl) rfl ?_)
  obtain ⟨z15, q16, h0⟩ := bind_elim h0
  refine AO.op rfl (AOp.farith rfl rfl (ltb rfl) rfl rfl q16 ?_)
  obtain ⟨z17, q18, h0⟩ := bind_elim h0
  refine AO.op rfl (AOp.farith rfl rfl (ltb rfl) rfl rfl q18 ?_)
  obtain ⟨y19, q20, h0⟩ := bind_elim h0
  refine AO.op rfl (AOp.callD rfl rfl (ltb rfl) rfl rfl (w_Sqrt z17 y19 q20) ?_)
  rintro _ rfl
  refine AO.op rfl (AOp.assign rfl rfl (ltb rfl) rfl ?_)
  refine AO.nil ?_
  change AC _ _ _ _
  refine AC.ret ?_
  change RetQ _ _ _ .ret _
  obtain rfl := Option.some.inj h0
  refine retq rfl rfl

set_option maxRecDepth 100000 in
set_option maxHeartbeats 1000000 in
/-- pub-orthodrome/pub/gogeom/xy.Distance -/
theorem w_Distance_95 (a0 : (List Nat)) (a1 : (List Nat)) (r0 : Nat) (h0 : p_Distance_95 a0 a1 = some r0) : FnD Try.prog 95 [eS1 a0, eS1 a1] (fun r => r = dfl r0) := by
  refine FnD.of (by kernel_rfl) Try.func95 rfl Try.ntmps95 rfl (leb rfl) fun W ok => ?_
  unfold p_Distance_95 at h0
  refine AC.seq ?_
  refine AC.region ?_
  refine AO.op rfl (AOp.assign rfl rfl (ltb rfl) rfl ?_)
  refine AO.nil ?_
  change AC _ _ _ _
  refine AC.seq ?_
  refine AC.region ?_
  refine AO.op rfl (AOp.move rfl rfl (ltb rfl) rfl ?_)
  refine AO.op rfl (AOp.move rfl rfl (ltb rfl) rfl ?_)
  obtain ⟨y1, q2, h0⟩ := bind_elim h0
  refine AO.op rfl (AOp.callD rfl rfl (ltb rfl) rfl rfl (w_Distance2D a0 a1 y1 q2) ?_)
  rintro _ rfl
  refine AO.op rfl (AOp.assign rfl rfl (ltb rfl) rfl ?_)
  refine AO.nil ?_
  change AC _ _ _ _
  refine AC.ret ?_
  change RetQ _ _ _ .ret _
  obtain rfl := Option.some.inj h0
  refine retq rfl rfl

set_option maxRecDepth 100000 in
set_option maxHeartbeats 1000000 in
/-- pub-orthodrome/pub/gogeom/xyz.Distance -/
theorem w_Distance (a0 : (List Nat)) (a1 : (List Nat)) (r0 : Nat) (h0 : p_Distance a0 a1 = some r0) : FnD Try.prog 83 [eS1 a0, eS1 a1] (fun r => r = dfl r0) := by
  refine FnD.of (by kernel_rfl) Try.func83 rfl Try.ntmps83 rfl (leb rfl) fun W ok => ?_
  unfold p_Distance at h0
  refine AC.seq ?_
  refine AC.region ?_
  refine AO.op rfl (AOp.assign rfl rfl (ltb rfl) rfl ?_)
  refine AO.nil ?_
  change AC _ _ _ _
  refine AC.seq ?_
  refine AC.joinP (V := Bool) [0, 1] [17] 0 (fun g1 => [(17, .d (dbool g1))]) (fun g1 => []) (fun g1 => (p_Distance_k1 a0 a1) g1 = some r0) rfl ?_ ?_
  · refine AC.region ?_
    refine AO.op rfl (AOp.move rfl rfl (ltb rfl) rfl ?_)
    obtain ⟨x35, q36, h0⟩ := idx_elim h0
    refine AO.op rfl (AOp.indexDs (cells := (List.map keS1 a0)) rfl rfl (ltb rfl) rfl rfl el79 (by decide) q36.1 (lt1 q36.2) ?_)
    refine AO.op rfl (AOp.loadEp rfl rfl (ltb rfl) rfl agg22 (at1 q36.2) ?_)
    obtain ⟨y37, q38, h0⟩ := bind_elim h0
    refine AO.op rfl (AOp.callD rfl rfl (ltb rfl) rfl rfl (w_IsNaN x35 y37 q38) ?_)
    rintro _ rfl
    refine AO.op rfl (AOp.move rfl rfl (ltb rfl) rfl ?_)
    refine AO.dec y37 (fun q39 => ?_) (fun q39 => ?_)
    · replace h0 := cT h0 q39
      refine AO.guardN rfl rfl rfl (ltb rfl) rfl q39 ?_
      refine AO.guardN rfl rfl rfl (ltb rfl) rfl q39 ?_
      refine AO.guardN rfl rfl rfl (ltb rfl) rfl q39 ?_
      refine AO.guardN rfl rfl rfl (ltb rfl) rfl q39 ?_
      refine AO.op rfl (AOp.pick rfl rfl (ltb rfl) rfl q39 rfl ?_)
      refine AO.nil ?_
      exact ⟨true, _, rfl, (LeL.refl _), rfl, rfl, h0⟩
    · replace h0 := cF h0 q39
      refine AO.guardY rfl rfl rfl q39 (AOp.move rfl rfl (ltb rfl) rfl ?_)
      obtain ⟨x40, q41, h0⟩ := idx_elim h0
      refine AO.guardY rfl rfl rfl q39 (AOp.indexDs (cells := (List.map keS1 a1)) rfl rfl (ltb rfl) rfl rfl el79 (by decide) q41.1 (lt1 q41.2) ?_)
      refine AO.guardY rfl rfl rfl q39 (AOp.loadEp rfl rfl (ltb rfl) rfl agg22 (at1 q41.2) ?_)
      obtain ⟨y42, q43, h0⟩ := bind_elim h0
      refine AO.guardY rfl rfl rfl q39 (AOp.callD rfl rfl (ltb rfl) rfl rfl (w_IsNaN x40 y42 q43) ?_)
      rintro _ rfl
      refine AO.op rfl (AOp.pickN rfl rfl (ltb rfl) rfl q39 rfl ?_)
      refine AO.nil ?_
      exact ⟨y42, _, rfl, (LeL.refl _), rfl, rfl, h0⟩
  · intro g1 h0
    unfold p_Distance_k1 at h0
    refine AC.cond rfl (fun q2 => ?_) (fun q2 => ?_)
    · replace h0 := cT h0 q2
      refine AC.seq ?_
      refine AC.region ?_
      refine AO.op rfl (AOp.move rfl rfl (ltb rfl) rfl ?_)
      refine AO.op rfl (AOp.move rfl rfl (ltb rfl) rfl ?_)
      obtain ⟨y3, q4, h0⟩ := bind_elim h0
      refine AO.op rfl (AOp.callD rfl rfl (ltb rfl) rfl rfl (w_Distance_95 a0 a1 y3 q4) ?_)
      rintro _ rfl
      refine AO.op rfl (AOp.assign rfl rfl (ltb rfl) rfl ?_)
      refine AO.nil ?_
      change AC _ _ _ _
      refine AC.ret ?_
      change RetQ _ _ _ .ret _
      obtain rfl := Option.some.inj h0
      refine retq rfl rfl
    · replace h0 := cF h0 q2
      refine AC.skip ?_
      change AC _ _ _ _
      refine AC.seq ?_
      refine AC.draw 8 mixed (by kernel_rfl) ?_
      refine AD.op [0] rfl (by kernel_rfl) rfl rfl (fun _ _ h => AOp.move rfl rfl (ltb rfl) rfl h) ?_
      obtain ⟨x5, q6, h0⟩ := idx_elim h0
      refine AD.op [21] rfl (by kernel_rfl) rfl rfl (fun _ _ h => AOp.indexDs (cells := (List.map keS1 a0)) rfl rfl (ltb rfl) rfl rfl el79 (by decide) q6.1 (lt1 q6.2) h) ?_
      refine AD.op [22] rfl (by kernel_rfl) rfl rfl (fun _ _ h => AOp.loadEp rfl rfl (ltb rfl) rfl agg22 (at1 q6.2) h) ?_
      refine AD.op [1] rfl (by kernel_rfl) rfl rfl (fun _ _ h => AOp.move rfl rfl (ltb rfl) rfl h) ?_
      obtain ⟨x7, q8, h0⟩ := idx_elim h0
      refine AD.op [24] rfl (by kernel_rfl) rfl rfl (fun _ _ h => AOp.indexDs (cells := (List.map keS1 a1)) rfl rfl (ltb rfl) rfl rfl el79 (by decide) q8.1 (lt1 q8.2) h) ?_
      refine AD.op [25] rfl (by kernel_rfl) rfl rfl (fun _ _ h => AOp.loadEp rfl rfl (ltb rfl) rfl agg22 (at1 q8.2) h) ?_
      obtain ⟨z9, q10, h0⟩ := bind_elim h0
      refine AD.op [23, 26] rfl (by kernel_rfl) rfl rfl (fun _ _ h => AOp.farith rfl rfl (ltb rfl) rfl rfl q10 h) ?_
      refine AD.op [27] rfl (by kernel_rfl) rfl rfl (fun _ _ h => AOp.assign rfl rfl (ltb rfl) rfl h) ?_
      refine AD.done ?_
      refine AO.nil ?_
      change AC _ _ _ _
      refine AC.seq ?_
      refine AC.draw 8 mixed (by kernel_rfl) ?_
      refine AD.op [0] rfl (by kernel_rfl) rfl rfl (fun _ _ h => AOp.move rfl rfl (ltb rfl) rfl h) ?_
      obtain ⟨x11, q12, h0⟩ := idx_elim h0
      refine AD.op [28] rfl (by kernel_rfl) rfl rfl (fun _ _ h => AOp.indexDs (cells := (List.map keS1 a0)) rfl rfl (ltb rfl) rfl rfl el79 (by decide) q12.1 (lt1 q12.2) h) ?_
      refine AD.op [29] rfl (by kernel_rfl) rfl rfl (fun _ _ h => AOp.loadEp rfl rfl (ltb rfl) rfl agg22 (at1 q12.2) h) ?_
      refine AD.op [1] rfl (by kernel_rfl) rfl rfl (fun _ _ h => AOp.move rfl rfl (ltb rfl) rfl h) ?_
      obtain ⟨x13, q14, h0⟩ := idx_elim h0
      refine AD.op [31] rfl (by kernel_rfl) rfl rfl (fun _ _ h => AOp.indexDs (cells := (List.map keS1 a1)) rfl rfl (ltb rfl) rfl rfl el79 (by decide) q14.1 (lt1 q14.2) h) ?_
      refine AD.op [32] rfl (by kernel_rfl) rfl rfl (fun _ _ h => AOp.loadEp rfl rfl (ltb rfl) rfl agg22 (at1 q14.2) h) ?_
      obtain ⟨z15, q16, h0⟩ := bind_elim h0
      refine AD.op [30, 33] rfl (by kernel_rfl) rfl rfl (fun _ _ h => AOp.farith rfl rfl (ltb rfl) rfl rfl q16 h) ?_
      refine AD.op [34] rfl (by kernel_rfl) rfl rfl (fun _ _ h => AOp.assign rfl rfl (ltb rfl) rfl h) ?_
      refine AD.done ?_
      refine AO.nil ?_
      change AC _ _ _ _
      refine AC.seq ?_
      refine AC.draw 8 mixed (by kernel_rfl) ?_
      refine AD.op [0] rfl (by kernel_rfl) rfl rfl (fun _ _ h => AOp.move rfl rfl (ltb rfl) rfl h) ?_
      obtain ⟨x17, q18, h0⟩ := idx_elim h0
      refine AD.op [35] rfl (by kernel_rfl) rfl rfl (fun _ _ h => AOp.indexDs (cells := (List.map keS1 a0)) rfl rfl (ltb rfl) rfl rfl el79 (by decide) q18.1 (lt1 q18.2) h) ?_
      refine AD.op [36] rfl (by kernel_rfl) rfl rfl (fun _ _ h => AOp.loadEp rfl rfl (ltb rfl) rfl agg22 (at1 q18.2) h) ?_
      refine AD.op [1] rfl (by kernel_rfl) rfl rfl (fun _ _ h => AOp.move rfl rfl (ltb rfl) rfl h) ?_
      obtain ⟨x19, q20, h0⟩ := idx_elim h0
      refine AD.op [38] rfl (by kernel_rfl) rfl rfl (fun _ _ h => AOp.indexDs (cells := (List.map keS1 a1)) rfl rfl (ltb rfl) rfl rfl el79 (by decide) q20.1 (lt1 q20.2) h) ?_
      refine AD.op [39] rfl (by kernel_rfl) rfl rfl (fun _ _ h => AOp.loadEp rfl rfl (ltb rfl) rfl agg22 (at1 q20.2) h) ?_
      obtain ⟨z21, q22, h0⟩ := bind_elim h0
      refine AD.op [37, 40] rfl (by kernel_rfl) rfl rfl (fun _ _ h => AOp.farith rfl rfl (ltb rfl) rfl rfl q22 h) ?_
      refine AD.op [41] rfl (by kernel_rfl) rfl rfl (fun _ _ h => AOp.assign rfl rfl (ltb rfl) rfl h) ?_
      refine AD.done ?_
      refine AO.nil ?_
      change AC _ _ _ _
      refine AC.seq ?_
      refine AC.region ?_
      refine AO.op rfl (AOp.move rfl rfl (ltb rfl) rfl ?_)
      refine AO.op rfl (AOp.move rfl rfl (ltb rfl) rfl ?_)
      obtain ⟨z23, q24, h0⟩ := bind_elim h0
      refine AO.op rfl (AOp.farith rfl rfl (ltb rfl) rfl rfl q24 ?_)
      refine AO.op rfl (AOp.move rfl rfl (ltb rfl) rfl ?_)
      refine AO.op rfl (AOp.move rfl rfl (ltb rfl) rfl ?_)
      obtain ⟨z25, q26, h0⟩ := bind_elim h0
      refine AO.op rfl (AOp.farith rfl rfl (ltb rfl) rfl rfl q26 ?_)
      obtain ⟨z27, q28, h0⟩ := bind_elim h0
      refine AO.op rfl (AOp.farith rfl rfl (ltb rfl) rfl rfl q28 ?_)
      refine AO.op rfl (AOp.move rfl rfl (ltb rfl) rfl ?_)
      refine AO.op rfl (AOp.move rfl rfl (ltb rfl) rfl ?_)
      obtain ⟨z29, q30, h0⟩ := bind_elim h0
      refine AO.op rfl (AOp.farith rfl rfl (ltb rfl) rfl rfl q30 ?_)
      obtain ⟨z31, q32, h0⟩ := bind_elim h0
      refine AO.op rfl (AOp.farith rfl rfl (ltb rfl) rfl rfl q32 ?_)
      obtain ⟨y33, q34, h0⟩ := bind_elim h0
      refine AO.op rfl (AOp.callD rfl rfl (ltb rfl) rfl rfl (w_Sqrt z31 y33 q34) ?_)
      rintro _ rfl
      refine AO.op rfl (AOp.assign rfl rfl (ltb rfl) rfl ?_)
      refine AO.nil ?_
      change AC _ _ _ _
      refine AC.ret ?_
      change RetQ _ _ _ .ret _
      obtain rfl := Option.some.inj h0
      refine retq rfl rfl

set_option maxRecDepth 100000 in
set_option maxHeartbeats 1000000 in
/-- pub-orthodrome/pub/gogeom/xyz.DistancePointToLine -/
theorem w_DistancePointToLine (a0 : (List Nat)) (a1 : (List Nat)) (a2 : (List Nat)) (r0 : Nat) (h0 : p_DistancePointToLine a0 a1 a2 = some r0) : FnD Try.prog 63 [eS1 a0, eS1 a1, eS1 a2] (fun r => r = dfl r0) := by
  refine FnD.of (by kernel_rfl) Try.func63 rfl Try.ntmps63 rfl (leb rfl) fun W ok => ?_
  unfold p_DistancePointToLine at h0
  refine AC.seq ?_
  refine AC.region ?_
  refine AO.op rfl (AOp.assign rfl rfl (ltb rfl) rfl ?_)
  refine AO.nil ?_
  change AC _ _ _ _
  refine AC.seq ?_
  refine AC.seq ?_
  refine AC.region ?_
  refine AO.op rfl (AOp.move rfl rfl (ltb rfl) rfl ?_)
  refine AO.op rfl (AOp.move rfl rfl (ltb rfl) rfl ?_)
  obtain ⟨y1, q2, h0⟩ := bind_elim h0
  refine AO.op rfl (AOp.callD rfl rfl (ltb rfl) rfl rfl (w_Equals a1 a2 y1 q2) ?_)
  rintro _ rfl
  refine AO.nil ?_
  change AC _ _ _ _
  refine AC.cond rfl (fun q3 => ?_) (fun q3 => ?_)
  · replace h0 := cT h0 q3
    refine AC.seq ?_
    refine AC.region ?_
    refine AO.op rfl (AOp.move rfl rfl (ltb rfl) rfl ?_)
    refine AO.op rfl (AOp.move rfl rfl (ltb rfl) rfl ?_)
    obtain ⟨y4, q5, h0⟩ := bind_elim h0
    refine AO.op rfl (AOp.callD rfl rfl (ltb rfl) rfl rfl (w_Distance a0 a1 y4 q5) ?_)
    rintro _ rfl
    refine AO.op rfl (AOp.assign rfl rfl (ltb rfl) rfl ?_)
    refine AO.nil ?_
    change AC _ _ _ _
    refine AC.ret ?_
    change RetQ _ _ _ .ret _
    obtain rfl := Option.some.inj h0
    refine retq rfl rfl
  · replace h0 := cF h0 q3
    refine AC.skip ?_
    change AC _ _ _ _
    refine AC.seq ?_
    refine AC.draw 48 mixed (by kernel_rfl) ?_
    refine AD.op [2] rfl (by kernel_rfl) rfl rfl (fun _ _ h => AOp.move rfl rfl (ltb rfl) rfl h) ?_
    obtain ⟨x6, q7, h0⟩ := idx_elim h0
    refine AD.op [21] rfl (by kernel_rfl) rfl rfl (fun _ _ h => AOp.indexDs (cells := (List.map keS1 a2)) rfl rfl (ltb rfl) rfl rfl el79 (by decide) q7.1 (lt1 q7.2) h) ?_
    refine AD.op [22] rfl (by kernel_rfl) rfl rfl (fun _ _ h => AOp.loadEp rfl rfl (ltb rfl) rfl agg22 (at1 q7.2) h) ?_
    refine AD.op [1] rfl (by kernel_rfl) rfl rfl (fun _ _ h => AOp.move rfl rfl (ltb rfl) rfl h) ?_
    obtain ⟨x8, q9, h0⟩ := idx_elim h0
    refine AD.op [24] rfl (by kernel_rfl) rfl rfl (fun _ _ h => AOp.indexDs (cells := (List.map keS1 a1)) rfl rfl (ltb rfl) rfl rfl el79 (by decide) q9.1 (lt1 q9.2) h) ?_
    refine AD.op [25] rfl (by kernel_rfl) rfl rfl (fun _ _ h => AOp.loadEp rfl rfl (ltb rfl) rfl agg22 (at1 q9.2) h) ?_
    obtain ⟨z10, q11, h0⟩ := bind_elim h0
    refine AD.op [23, 26] rfl (by kernel_rfl) rfl rfl (fun _ _ h => AOp.farith rfl rfl (ltb rfl) rfl rfl q11 h) ?_
    refine AD.op [2] rfl (by kernel_rfl) rfl rfl (fun _ _ h => AOp.move rfl rfl (ltb rfl) rfl h) ?_
    obtain ⟨x12, q13, h0⟩ := idx_elim h0
    refine AD.op [28] rfl (by kernel_rfl) rfl rfl (fun _ _ h => AOp.indexDs (cells := (List.map keS1 a2)) rfl rfl (ltb rfl) rfl rfl el79 (by decide) q13.1 (lt1 q13.2) h) ?_
    refine AD.op [29] rfl (by kernel_rfl) rfl rfl (fun _ _ h => AOp.loadEp rfl rfl (ltb rfl) rfl agg22 (at1 q13.2) h) ?_
    refine AD.op [1] rfl (by kernel_rfl) rfl rfl (fun _ _ h => AOp.move rfl rfl (ltb rfl) rfl h) ?_
    obtain ⟨x14, q15, h0⟩ := idx_elim h0
    refine AD.op [31] rfl (by kernel_rfl) rfl rfl (fun _ _ h => AOp.indexDs (cells := (List.map keS1 a1)) rfl rfl (ltb rfl) rfl rfl el79 (by decide) q15.1 (lt1 q15.2) h) ?_
    refine AD.op [32] rfl (by kernel_rfl) rfl rfl (fun _ _ h => AOp.loadEp rfl rfl (ltb rfl) rfl agg22 (at1 q15.2) h) ?_
    obtain ⟨z16, q17, h0⟩ := bind_elim h0
    refine AD.op [30, 33] rfl (by kernel_rfl) rfl rfl (fun _ _ h => AOp.farith rfl rfl (ltb rfl) rfl rfl q17 h) ?_
    obtain ⟨z18, q19, h0⟩ := bind_elim h0
    refine AD.op [27, 34] rfl (by kernel_rfl) rfl rfl (fun _ _ h => AOp.farith rfl rfl (ltb rfl) rfl rfl q19 h) ?_
    refine AD.op [2] rfl (by kernel_rfl) rfl rfl (fun _ _ h => AOp.move rfl rfl (ltb rfl) rfl h) ?_
    obtain ⟨x20, q21, h0⟩ := idx_elim h0
    refine AD.op [36] rfl (by kernel_rfl) rfl rfl (fun _ _ h => AOp.indexDs (cells := (List.map keS1 a2)) rfl rfl (ltb rfl) rfl rfl el79 (by decide) q21.1 (lt1 q21.2) h) ?_
    refine AD.op [37] rfl (by kernel_rfl) rfl rfl (fun _ _ h => AOp.loadEp rfl rfl (ltb rfl) rfl agg22 (at1 q21.2) h) ?_
    refine AD.op [1] rfl (by kernel_rfl) rfl rfl (fun _ _ h => AOp.move rfl rfl (ltb rfl) rfl h) ?_
    obtain ⟨x22, q23, h0⟩ := idx_elim h0
    refine AD.op [39] rfl (by kernel_rfl) rfl rfl (fun _ _ h => AOp.indexDs (cells := (List.map keS1 a1)) rfl rfl (ltb rfl) rfl rfl el79 (by decide) q23.1 (lt1 q23.2) h) ?_
    refine AD.op [40] rfl (by kernel_rfl) rfl rfl (fun _ _ h => AOp.loadEp rfl rfl (ltb rfl) rfl agg22 (at1 q23.2) h) ?_
    obtain ⟨z24, q25, h0⟩ := bind_elim h0
    refine AD.op [38, 41] rfl (by kernel_rfl) rfl rfl (fun _ _ h => AOp.farith rfl rfl (ltb rfl) rfl rfl q25 h) ?_
    refine AD.op [2] rfl (by kernel_rfl) rfl rfl (fun _ _ h => AOp.move rfl rfl (ltb rfl) rfl h) ?_
    obtain ⟨x26, q27, h0⟩ := idx_elim h0
    refine AD.op [43] rfl (by kernel_rfl) rfl rfl (fun _ _ h => AOp.indexDs (cells := (List.map keS1 a2)) rfl rfl (ltb rfl) rfl rfl el79 (by decide) q27.1 (lt1 q27.2) h) ?_
    refine AD.op [44] rfl (by kernel_rfl) rfl rfl (fun _ _ h => AOp.loadEp rfl rfl (ltb rfl) rfl agg22 (at1 q27.2) h) ?_
    refine AD.op [1] rfl (by kernel_rfl) rfl rfl (fun _ _ h => AOp.move rfl rfl (ltb rfl) rfl h) ?_
    obtain ⟨x28, q29, h0⟩ := idx_elim h0
    refine AD.op [46] rfl (by kernel_rfl) rfl rfl (fun _ _ h => AOp.indexDs (cells := (List.map keS1 a1)) rfl rfl (ltb rfl) rfl rfl el79 (by decide) q29.1 (lt1 q29.2) h) ?_
    refine AD.op [47] rfl (by kernel_rfl) rfl rfl (fun _ _ h => AOp.loadEp rfl rfl (ltb rfl) rfl agg22 (at1 q29.2) h) ?_
    obtain ⟨z30, q31, h0⟩ := bind_elim h0
    refine AD.op [45, 48] rfl (by kernel_rfl) rfl rfl (fun _ _ h => AOp.farith rfl rfl (ltb rfl) rfl rfl q31 h) ?_
    obtain ⟨z32, q33, h0⟩ := bind_elim h0
    refine AD.op [42, 49] rfl (by kernel_rfl) rfl rfl (fun _ _ h => AOp.farith rfl rfl (ltb rfl) rfl rfl q33 h) ?_
    obtain ⟨z34, q35, h0⟩ := bind_elim h0
    refine AD.op [35, 50] rfl (by kernel_rfl) rfl rfl (fun _ _ h => AOp.farith rfl rfl (ltb rfl) rfl rfl q35 h) ?_
    refine AD.op [2] rfl (by kernel_rfl) rfl rfl (fun _ _ h => AOp.move rfl rfl (ltb rfl) rfl h) ?_
    obtain ⟨x36, q37, h0⟩ := idx_elim h0
    refine AD.op [52] rfl (by kernel_rfl) rfl rfl (fun _ _ h => AOp.indexDs (cells := (List.map keS1 a2)) rfl rfl (ltb rfl) rfl rfl el79 (by decide) q37.1 (lt1 q37.2) h) ?_
    refine AD.op [53] rfl (by kernel_rfl) rfl rfl (fun _ _ h => AOp.loadEp rfl rfl (ltb rfl) rfl agg22 (at1 q37.2) h) ?_
    refine AD.op [1] rfl (by kernel_rfl) rfl rfl (fun _ _ h => AOp.move rfl rfl (ltb rfl) rfl h) ?_
    obtain ⟨x38, q39, h0⟩ := idx_elim h0
    refine AD.op [55] rfl (by kernel_rfl) rfl rfl (fun _ _ h => AOp.indexDs (cells := (List.map keS1 a1)) rfl rfl (ltb rfl) rfl rfl el79 (by decide) q39.1 (lt1 q39.2) h) ?_
    refine AD.op [56] rfl (by kernel_rfl) rfl rfl (fun _ _ h => AOp.loadEp rfl rfl (ltb rfl) rfl agg22 (at1 q39.2) h) ?_
    obtain ⟨z40, q41, h0⟩ := bind_elim h0
    refine AD.op [54, 57] rfl (by kernel_rfl) rfl rfl (fun _ _ h => AOp.farith rfl rfl (ltb rfl) rfl rfl q41 h) ?_
    refine AD.op [2] rfl (by kernel_rfl) rfl rfl (fun _ _ h => AOp.move rfl rfl (ltb rfl) rfl h) ?_
    obtain ⟨x42, q43, h0⟩ := idx_elim h0
    refine AD.op [59] rfl (by kernel_rfl) rfl rfl (fun _ _ h => AOp.indexDs (cells := (List.map keS1 a2)) rfl rfl (ltb rfl) rfl rfl el79 (by decide) q43.1 (lt1 q43.2) h) ?_
    refine AD.op [60] rfl (by kernel_rfl) rfl rfl (fun _ _ h => AOp.loadEp rfl rfl (ltb rfl) rfl agg22 (at1 q43.2) h) ?_
    refine AD.op [1] rfl (by kernel_rfl) rfl rfl (fun _ _ h => AOp.move rfl rfl (ltb rfl) rfl h) ?_
    obtain ⟨x44, q45, h0⟩ := idx_elim h0
    refine AD.op [62] rfl (by kernel_rfl) rfl rfl (fun _ _ h => AOp.indexDs (cells := (List.map keS1 a1)) rfl rfl (ltb rfl) rfl rfl el79 (by decide) q45.1 (lt1 q45.2) h) ?_
    refine AD.op [63] rfl (by kernel_rfl) rfl rfl (fun _ _ h => AOp.loadEp rfl rfl (ltb rfl) rfl agg22 (at1 q45.2) h) ?_
    obtain ⟨z46, q47, h0⟩ := bind_elim h0
    refine AD.op [61, 64] rfl (by kernel_rfl) rfl rfl (fun _ _ h => AOp.farith rfl rfl (ltb rfl) rfl rfl q47 h) ?_
    obtain ⟨z48, q49, h0⟩ := bind_elim h0
    refine AD.op [58, 65] rfl (by kernel_rfl) rfl rfl (fun _ _ h => AOp.farith rfl rfl (ltb rfl) rfl rfl q49 h) ?_
    obtain ⟨z50, q51, h0⟩ := bind_elim h0
    refine AD.op [51, 66] rfl (by kernel_rfl) rfl rfl (fun _ _ h => AOp.farith rfl rfl (ltb rfl) rfl rfl q51 h) ?_
    refine AD.op [67] rfl (by kernel_rfl) rfl rfl (fun _ _ h => AOp.assign rfl rfl (ltb rfl) rfl h) ?_
    refine AD.done ?_
    refine AO.nil ?_
    change AC _ _ _ _
    refine AC.seq ?_
    refine AC.seq ?_
    refine AC.region ?_
    refine AO.op rfl (AOp.move rfl rfl (ltb rfl) rfl ?_)
    obtain ⟨y52, q53, h0⟩ := bind_elim h0
    refine AO.op rfl (AOp.callD rfl rfl (ltb rfl) rfl rfl (w_IsNaN z50 y52 q53) ?_)
    rintro _ rfl
    refine AO.nil ?_
    change AC _ _ _ _
    refine AC.cond rfl (fun q54 => ?_) (fun q54 => ?_)
    · replace h0 := cT h0 q54
      refine AC.region ?_
      cases h0
    · replace h0 := cF h0 q54
      refine AC.skip ?_
      change AC _ _ _ _
      refine AC.seq ?_
      refine AC.draw 50 mixed (by kernel_rfl) ?_
      refine AD.op [0] rfl (by kernel_rfl) rfl rfl (fun _ _ h => AOp.move rfl rfl (ltb rfl) rfl h) ?_
      obtain ⟨x55, q56, h0⟩ := idx_elim h0
      refine AD.op [71] rfl (by kernel_rfl) rfl rfl (fun _ _ h => AOp.indexDs (cells := (List.map keS1 a0)) rfl rfl (ltb rfl) rfl rfl el79 (by decide) q56.1 (lt1 q56.2) h) ?_
      refine AD.op [72] rfl (by kernel_rfl) rfl rfl (fun _ _ h => AOp.loadEp rfl rfl (ltb rfl) rfl agg22 (at1 q56.2) h) ?_
      refine AD.op [1] rfl (by kernel_rfl) rfl rfl (fun _ _ h => AOp.move rfl rfl (ltb rfl) rfl h) ?_
      obtain ⟨x57, q58, h0⟩ := idx_elim h0
      refine AD.op [74] rfl (by kernel_rfl) rfl rfl (fun _ _ h => AOp.indexDs (cells := (List.map keS1 a1)) rfl rfl (ltb rfl) rfl rfl el79 (by decide) q58.1 (lt1 q58.2) h) ?_
      refine AD.op [75] rfl (by kernel_rfl) rfl rfl (fun _ _ h => AOp.loadEp rfl rfl (ltb rfl) rfl agg22 (at1 q58.2) h) ?_
      obtain ⟨z59, q60, h0⟩ := bind_elim h0
      refine AD.op [73, 76] rfl (by kernel_rfl) rfl rfl (fun _ _ h => AOp.farith rfl rfl (ltb rfl) rfl rfl q60 h) ?_
      refine AD.op [2] rfl (by kernel_rfl) rfl rfl (fun _ _ h => AOp.move rfl rfl (ltb rfl) rfl h) ?_
      obtain ⟨x61, q62, h0⟩ := idx_elim h0
      refine AD.op [78] rfl (by kernel_rfl) rfl rfl (fun _ _ h => AOp.indexDs (cells := (List.map keS1 a2)) rfl rfl (ltb rfl) rfl rfl el79 (by decide) q62.1 (lt1 q62.2) h) ?_
      refine AD.op [79] rfl (by kernel_rfl) rfl rfl (fun _ _ h => AOp.loadEp rfl rfl (ltb rfl) rfl agg22 (at1 q62.2) h) ?_
      refine AD.op [1] rfl (by kernel_rfl) rfl rfl (fun _ _ h => AOp.move rfl rfl (ltb rfl) rfl h) ?_
      obtain ⟨x63, q64, h0⟩ := idx_elim h0
      refine AD.op [81] rfl (by kernel_rfl) rfl rfl (fun _ _ h => AOp.indexDs (cells := (List.map keS1 a1)) rfl rfl (ltb rfl) rfl rfl el79 (by decide) q64.1 (lt1 q64.2) h) ?_
      refine AD.op [82] rfl (by kernel_rfl) rfl rfl (fun _ _ h => AOp.loadEp rfl rfl (ltb rfl) rfl agg22 (at1 q64.2) h) ?_
      obtain ⟨z65, q66, h0⟩ := bind_elim h0
      refine AD.op [80, 83] rfl (by kernel_rfl) rfl rfl (fun _ _ h => AOp.farith rfl rfl (ltb rfl) rfl rfl q66 h) ?_
      obtain ⟨z67, q68, h0⟩ := bind_elim h0
      refine AD.op [77, 84] rfl (by kernel_rfl) rfl rfl (fun _ _ h => AOp.farith rfl rfl (ltb rfl) rfl rfl q68 h) ?_
      refine AD.op [0] rfl (by kernel_rfl) rfl rfl (fun _ _ h => AOp.move rfl rfl (ltb rfl) rfl h) ?_
      obtain ⟨x69, q70, h0⟩ := idx_elim h0
      refine AD.op [86] rfl (by kernel_rfl) rfl rfl (fun _ _ h => AOp.indexDs (cells := (List.map keS1 a0)) rfl rfl (ltb rfl) rfl rfl el79 (by decide) q70.1 (lt1 q70.2) h) ?_
      refine AD.op [87] rfl (by kernel_rfl) rfl rfl (fun _ _ h => AOp.loadEp rfl rfl (ltb rfl) rfl agg22 (at1 q70.2) h) ?_
      refine AD.op [1] rfl (by kernel_rfl) rfl rfl (fun _ _ h => AOp.move rfl rfl (ltb rfl) rfl h) ?_
      obtain ⟨x71, q72, h0⟩ := idx_elim h0
      refine AD.op [89] rfl (by kernel_rfl) rfl rfl (fun _ _ h => AOp.indexDs (cells := (List.map keS1 a1)) rfl rfl (ltb rfl) rfl rfl el79 (by decide) q72.1 (lt1 q72.2) h) ?_
      refine AD.op [90] rfl (by kernel_rfl) rfl rfl (fun _ _ h => AOp.loadEp rfl rfl (ltb rfl) rfl agg22 (at1 q72.2) h) ?_
      obtain ⟨z73, q74, h0⟩ := bind_elim h0
      refine AD.op [88, 91] rfl (by kernel_rfl) rfl rfl (fun _ _ h => AOp.farith rfl rfl (ltb rfl) rfl rfl q74 h) ?_
      refine AD.op [2] rfl (by kernel_rfl) rfl rfl (fun _ _ h => AOp.move rfl rfl (ltb rfl) rfl h) ?_
      obtain ⟨x75, q76, h0⟩ := idx_elim h0
      refine AD.op [93] rfl (by kernel_rfl) rfl rfl (fun _ _ h => AOp.indexDs (cells := (List.map keS1 a2)) rfl rfl (ltb rfl) rfl rfl el79 (by decide) q76.1 (lt1 q76.2) h) ?_
      refine AD.op [94] rfl (by kernel_rfl) rfl rfl (fun _ _ h => AOp.loadEp rfl rfl (ltb rfl) rfl agg22 (at1 q76.2) h) ?_
      refine AD.op [1] rfl (by kernel_rfl) rfl rfl (fun _ _ h => AOp.move rfl rfl (ltb rfl) rfl h) ?_
      obtain ⟨x77, q78, h0⟩ := idx_elim h0
      refine AD.op [96] rfl (by kernel_rfl) rfl rfl (fun _ _ h => AOp.indexDs (cells := (List.map keS1 a1)) rfl rfl (ltb rfl) rfl rfl el79 (by decide) q78.1 (lt1 q78.2) h) ?_
      refine AD.op [97] rfl (by kernel_rfl) rfl rfl (fun _ _ h => AOp.loadEp rfl rfl (ltb rfl) rfl agg22 (at1 q78.2) h) ?_
      obtain ⟨z79, q80, h0⟩ := bind_elim h0
      refine AD.op [95, 98] rfl (by kernel_rfl) rfl rfl (fun _ _ h => AOp.farith rfl rfl (ltb rfl) rfl rfl q80 h) ?_
      obtain ⟨z81, q82, h0⟩ := bind_elim h0
      refine AD.op [92, 99] rfl (by kernel_rfl) rfl rfl (fun _ _ h => AOp.farith rfl rfl (ltb rfl) rfl rfl q82 h) ?_
      obtain ⟨z83, q84, h0⟩ := bind_elim h0
      refine AD.op [85, 100] rfl (by kernel_rfl) rfl rfl (fun _ _ h => AOp.farith rfl rfl (ltb rfl) rfl rfl q84 h) ?_
      refine AD.op [0] rfl (by kernel_rfl) rfl rfl (fun _ _ h => AOp.move rfl rfl (ltb rfl) rfl h) ?_
      obtain ⟨x85, q86, h0⟩ := idx_elim h0
      refine AD.op [102] rfl (by kernel_rfl) rfl rfl (fun _ _ h => AOp.indexDs (cells := (List.map keS1 a0)) rfl rfl (ltb rfl) rfl rfl el79 (by decide) q86.1 (lt1 q86.2) h) ?_
      refine AD.op [103] rfl (by kernel_rfl) rfl rfl (fun _ _ h => AOp.loadEp rfl rfl (ltb rfl) rfl agg22 (at1 q86.2) h) ?_
      refine AD.op [1] rfl (by kernel_rfl) rfl rfl (fun _ _ h => AOp.move rfl rfl (ltb rfl) rfl h) ?_
      obtain ⟨x87, q88, h0⟩ := idx_elim h0
      refine AD.op [105] rfl (by kernel_rfl) rfl rfl (fun _ _ h => AOp.indexDs (cells := (List.map keS1 a1)) rfl rfl (ltb rfl) rfl rfl el79 (by decide) q88.1 (lt1 q88.2) h) ?_
      refine AD.op [106] rfl (by kernel_rfl) rfl rfl (fun _ _ h => AOp.loadEp rfl rfl (ltb rfl) rfl agg22 (at1 q88.2) h) ?_
      obtain ⟨z89, q90, h0⟩ := bind_elim h0
      refine AD.op [104, 107] rfl (by kernel_rfl) rfl rfl (fun _ _ h => AOp.farith rfl rfl (ltb rfl) rfl rfl q90 h) ?_
      refine AD.op [2] rfl (by kernel_rfl) rfl rfl (fun _ _ h => AOp.move rfl rfl (ltb rfl) rfl h) ?_
      obtain ⟨x91, q92, h0⟩ := idx_elim h0
      refine AD.op [109] rfl (by kernel_rfl) rfl rfl (fun _ _ h => AOp.indexDs (cells := (List.map keS1 a2)) rfl rfl (ltb rfl) rfl rfl el79 (by decide) q92.1 (lt1 q92.2) h) ?_
      refine AD.op [110] rfl (by kernel_rfl) rfl rfl (fun _ _ h => AOp.loadEp rfl rfl (ltb rfl) rfl agg22 (at1 q92.2) h) ?_
      refine AD.op [1] rfl (by kernel_rfl) rfl rfl (fun _ _ h => AOp.move rfl rfl (ltb rfl) rfl h) ?_
      obtain ⟨x93, q94, h0⟩ := idx_elim h0
      refine AD.op [112] rfl (by kernel_rfl) rfl rfl (fun _ _ h => AOp.indexDs (cells := (List.map keS1 a1)) rfl rfl (ltb rfl) rfl rfl el79 (by decide) q94.1 (lt1 q94.2) h) ?_
      refine AD.op [113] rfl (by kernel_rfl) rfl rfl (fun _ _ h => AOp.loadEp rfl rfl (ltb rfl) rfl agg22 (at1 q94.2) h) ?_
      obtain ⟨z95, q96, h0⟩ := bind_elim h0
      refine AD.op [111, 114] rfl (by kernel_rfl) rfl rfl (fun _ _ h => AOp.farith rfl rfl (ltb rfl) rfl rfl q96 h) ?_
      obtain ⟨z97, q98, h0⟩ := bind_elim h0
      refine AD.op [108, 115] rfl (by kernel_rfl) rfl rfl (fun _ _ h => AOp.farith rfl rfl (ltb rfl) rfl rfl q98 h) ?_
      obtain ⟨z99, q100, h0⟩ := bind_elim h0
      refine AD.op [101, 116] rfl (by kernel_rfl) rfl rfl (fun _ _ h => AOp.farith rfl rfl (ltb rfl) rfl rfl q100 h) ?_
      refine AD.op [7] rfl (by kernel_rfl) rfl rfl (fun _ _ h => AOp.move rfl rfl (ltb rfl) rfl h) ?_
      obtain ⟨z101, q102, h0⟩ := bind_elim h0
      refine AD.op [117, 118] rfl (by kernel_rfl) rfl rfl (fun _ _ h => AOp.farith rfl rfl (ltb rfl) rfl rfl q102 h) ?_
      refine AD.op [119] rfl (by kernel_rfl) rfl rfl (fun _ _ h => AOp.assign rfl rfl (ltb rfl) rfl h) ?_
      refine AD.done ?_
      refine AO.nil ?_
      change AC _ _ _ _
      refine AC.seq ?_
      refine AC.seq ?_
      refine AC.region ?_
      refine AO.op rfl (AOp.move rfl rfl (ltb rfl) rfl ?_)
      refine AO.op rfl (AOp.fleq rfl rfl (ltb rfl) rfl rfl ?_)
      refine AO.nil ?_
      change AC _ _ _ _
      refine AC.cond rfl (fun q103 => ?_) (fun q103 => ?_)
      · replace h0 := cT h0 q103
        refine AC.seq ?_
        refine AC.region ?_
        refine AO.op rfl (AOp.move rfl rfl (ltb rfl) rfl ?_)
        refine AO.op rfl (AOp.move rfl rfl (ltb rfl) rfl ?_)
        obtain ⟨y104, q105, h0⟩ := bind_elim h0
        refine AO.op rfl (AOp.callD rfl rfl (ltb rfl) rfl rfl (w_Distance a0 a1 y104 q105) ?_)
        rintro _ rfl
        refine AO.op rfl (AOp.assign rfl rfl (ltb rfl) rfl ?_)
        refine AO.nil ?_
        change AC _ _ _ _
        refine AC.ret ?_
        change RetQ _ _ _ .ret _
        obtain rfl := Option.some.inj h0
        refine retq rfl rfl
      · replace h0 := cF h0 q103
        refine AC.skip ?_
        change AC _ _ _ _
        refine AC.seq ?_
        refine AC.seq ?_
        refine AC.region ?_
        refine AO.op rfl (AOp.move rfl rfl (ltb rfl) rfl ?_)
        refine AO.op rfl (AOp.fgeq rfl rfl (ltb rfl) rfl rfl ?_)
        refine AO.nil ?_
        change AC _ _ _ _
        refine AC.cond rfl (fun q106 => ?_) (fun q106 => ?_)
        · replace h0 := cT h0 q106
          refine AC.seq ?_
          refine AC.region ?_
          refine AO.op rfl (AOp.move rfl rfl (ltb rfl) rfl ?_)
          refine AO.op rfl (AOp.move rfl rfl (ltb rfl) rfl ?_)
          obtain ⟨y107, q108, h0⟩ := bind_elim h0
          refine AO.op rfl (AOp.callD rfl rfl (ltb rfl) rfl rfl (w_Distance a0 a2 y107 q108) ?_)
          rintro _ rfl
          refine AO.op rfl (AOp.assign rfl rfl (ltb rfl) rfl ?_)
          refine AO.nil ?_
          change AC _ _ _ _
          refine AC.ret ?_
          change RetQ _ _ _ .ret _
          obtain rfl := Option.some.inj h0
          refine retq rfl rfl
        · replace h0 := cF h0 q106
          refine AC.skip ?_
          change AC _ _ _ _
          refine AC.seq ?_
          refine AC.draw 14 mixed (by kernel_rfl) ?_
          refine AD.op [1] rfl (by kernel_rfl) rfl rfl (fun _ _ h => AOp.move rfl rfl (ltb rfl) rfl h) ?_
          obtain ⟨x109, q110, h0⟩ := idx_elim h0
          refine AD.op [130] rfl (by kernel_rfl) rfl rfl (fun _ _ h => AOp.indexDs (cells := (List.map keS1 a1)) rfl rfl (ltb rfl) rfl rfl el79 (by decide) q110.1 (lt1 q110.2) h) ?_
          refine AD.op [131] rfl (by kernel_rfl) rfl rfl (fun _ _ h => AOp.loadEp rfl rfl (ltb rfl) rfl agg22 (at1 q110.2) h) ?_
          refine AD.op [8] rfl (by kernel_rfl) rfl rfl (fun _ _ h => AOp.move rfl rfl (ltb rfl) rfl h) ?_
          refine AD.op [2] rfl (by kernel_rfl) rfl rfl (fun _ _ h => AOp.move rfl rfl (ltb rfl) rfl h) ?_
          obtain ⟨x111, q112, h0⟩ := idx_elim h0
          refine AD.op [134] rfl (by kernel_rfl) rfl rfl (fun _ _ h => AOp.indexDs (cells := (List.map keS1 a2)) rfl rfl (ltb rfl) rfl rfl el79 (by decide) q112.1 (lt1 q112.2) h) ?_
          refine AD.op [135] rfl (by kernel_rfl) rfl rfl (fun _ _ h => AOp.loadEp rfl rfl (ltb rfl) rfl agg22 (at1 q112.2) h) ?_
          refine AD.op [1] rfl (by kernel_rfl) rfl rfl (fun _ _ h => AOp.move rfl rfl (ltb rfl) rfl h) ?_
          obtain ⟨x113, q114, h0⟩ := idx_elim h0
          refine AD.op [137] rfl (by kernel_rfl) rfl rfl (fun _ _ h => AOp.indexDs (cells := (List.map keS1 a1)) rfl rfl (ltb rfl) rfl rfl el79 (by decide) q114.1 (lt1 q114.2) h) ?_
          refine AD.op [138] rfl (by kernel_rfl) rfl rfl (fun _ _ h => AOp.loadEp rfl rfl (ltb rfl) rfl agg22 (at1 q114.2) h) ?_
          obtain ⟨z115, q116, h0⟩ := bind_elim h0
          refine AD.op [136, 139] rfl (by kernel_rfl) rfl rfl (fun _ _ h => AOp.farith rfl rfl (ltb rfl) rfl rfl q116 h) ?_
          obtain ⟨z117, q118, h0⟩ := bind_elim h0
          refine AD.op [133, 140] rfl (by kernel_rfl) rfl rfl (fun _ _ h => AOp.farith rfl rfl (ltb rfl) rfl rfl q118 h) ?_
          obtain ⟨z119, q120, h0⟩ := bind_elim h0
          refine AD.op [132, 141] rfl (by kernel_rfl) rfl rfl (fun _ _ h => AOp.farith rfl rfl (ltb rfl) rfl rfl q120 h) ?_
          refine AD.op [142] rfl (by kernel_rfl) rfl rfl (fun _ _ h => AOp.assign rfl rfl (ltb rfl) rfl h) ?_
          refine AD.done ?_
          refine AO.nil ?_
          change AC _ _ _ _
          refine AC.seq ?_
          refine AC.draw 14 mixed (by kernel_rfl) ?_
          refine AD.op [1] rfl (by kernel_rfl) rfl rfl (fun _ _ h => AOp.move rfl rfl (ltb rfl) rfl h) ?_
          obtain ⟨x121, q122, h0⟩ := idx_elim h0
          refine AD.op [143] rfl (by kernel_rfl) rfl rfl (fun _ _ h => AOp.indexDs (cells := (List.map keS1 a1)) rfl rfl (ltb rfl) rfl rfl el79 (by decide) q122.1 (lt1 q122.2) h) ?_
          refine AD.op [144] rfl (by kernel_rfl) rfl rfl (fun _ _ h => AOp.loadEp rfl rfl (ltb rfl) rfl agg22 (at1 q122.2) h) ?_
          refine AD.op [8] rfl (by kernel_rfl) rfl rfl (fun _ _ h => AOp.move rfl rfl (ltb rfl) rfl h) ?_
          refine AD.op [2] rfl (by kernel_rfl) rfl rfl (fun _ _ h => AOp.move rfl rfl (ltb rfl) rfl h) ?_
          obtain ⟨x123, q124, h0⟩ := idx_elim h0
          refine AD.op [147] rfl (by kernel_rfl) rfl rfl (fun _ _ h => AOp.indexDs (cells := (List.map keS1 a2)) rfl rfl (ltb rfl) rfl rfl el79 (by decide) q124.1 (lt1 q124.2) h) ?_
          refine AD.op [148] rfl (by kernel_rfl) rfl rfl (fun _ _ h => AOp.loadEp rfl rfl (ltb rfl) rfl agg22 (at1 q124.2) h) ?_
          refine AD.op [1] rfl (by kernel_rfl) rfl rfl (fun _ _ h => AOp.move rfl rfl (ltb rfl) rfl h) ?_
          obtain ⟨x125, q126, h0⟩ := idx_elim h0
          refine AD.op [150] rfl (by kernel_rfl) rfl rfl (fun _ _ h => AOp.indexDs (cells := (List.map keS1 a1)) rfl rfl (ltb rfl) rfl rfl el79 (by decide) q126.1 (lt1 q126.2) h) ?_
          refine AD.op [151] rfl (by kernel_rfl) rfl rfl (fun _ _ h => AOp.loadEp rfl rfl (ltb rfl) rfl agg22 (at1 q126.2) h) ?_
          obtain ⟨z127, q128, h0⟩ := bind_elim h0
          refine AD.op [149, 152] rfl (by kernel_rfl) rfl rfl (fun _ _ h => AOp.farith rfl rfl (ltb rfl) rfl rfl q128 h) ?_
          obtain ⟨z129, q130, h0⟩ := bind_elim h0
          refine AD.op [146, 153] rfl (by kernel_rfl) rfl rfl (fun _ _ h => AOp.farith rfl rfl (ltb rfl) rfl rfl q130 h) ?_
          obtain ⟨z131, q132, h0⟩ := bind_elim h0
          refine AD.op [145, 154] rfl (by kernel_rfl) rfl rfl (fun _ _ h => AOp.farith rfl rfl (ltb rfl) rfl rfl q132 h) ?_
          refine AD.op [155] rfl (by kernel_rfl) rfl rfl (fun _ _ h => AOp.assign rfl rfl (ltb rfl) rfl h) ?_
          refine AD.done ?_
          refine AO.nil ?_
          change AC _ _ _ _
          refine AC.seq ?_
          refine AC.draw 14 mixed (by kernel_rfl) ?_
          refine AD.op [1] rfl (by kernel_rfl) rfl rfl (fun _ _ h => AOp.move rfl rfl (ltb rfl) rfl h) ?_
          obtain ⟨x133, q134, h0⟩ := idx_elim h0
          refine AD.op [156] rfl (by kernel_rfl) rfl rfl (fun _ _ h => AOp.indexDs (cells := (List.map keS1 a1)) rfl rfl (ltb rfl) rfl rfl el79 (by decide) q134.1 (lt1 q134.2) h) ?_
          refine AD.op [157] rfl (by kernel_rfl) rfl rfl (fun _ _ h => AOp.loadEp rfl rfl (ltb rfl) rfl agg22 (at1 q134.2) h) ?_
          refine AD.op [8] rfl (by kernel_rfl) rfl rfl (fun _ _ h => AOp.move rfl rfl (ltb rfl) rfl h) ?_
          refine AD.op [2] rfl (by kernel_rfl) rfl rfl (fun _ _ h => AOp.move rfl rfl (ltb rfl) rfl h) ?_
          obtain ⟨x135, q136, h0⟩ := idx_elim h0
          refine AD.op [160] rfl (by kernel_rfl) rfl rfl (fun _ _ h => AOp.indexDs (cells := (List.map keS1 a2)) rfl rfl (ltb rfl) rfl rfl el79 (by decide) q136.1 (lt1 q136.2) h) ?_
          refine AD.op [161] rfl (by kernel_rfl) rfl rfl (fun _ _ h => AOp.loadEp rfl rfl (ltb rfl) rfl agg22 (at1 q136.2) h) ?_
          refine AD.op [1] rfl (by kernel_rfl) rfl rfl (fun _ _ h => AOp.move rfl rfl (ltb rfl) rfl h) ?_
          obtain ⟨x137, q138, h0⟩ := idx_elim h0
          refine AD.op [163] rfl (by kernel_rfl) rfl rfl (fun _ _ h => AOp.indexDs (cells := (List.map keS1 a1)) rfl rfl (ltb rfl) rfl rfl el79 (by decide) q138.1 (lt1 q138.2) h) ?_
          refine AD.op [164] rfl (by kernel_rfl) rfl rfl (fun _ _ h => AOp.loadEp rfl rfl (ltb rfl) rfl agg22 (at1 q138.2) h) ?_
          obtain ⟨z139, q140, h0⟩ := bind_elim h0
          refine AD.op [162, 165] rfl (by kernel_rfl) rfl rfl (fun _ _ h => AOp.farith rfl rfl (ltb rfl) rfl rfl q140 h) ?_
          obtain ⟨z141, q142, h0⟩ := bind_elim h0
          refine AD.op [159, 166] rfl (by kernel_rfl) rfl rfl (fun _ _ h => AOp.farith rfl rfl (ltb rfl) rfl rfl q142 h) ?_
          obtain ⟨z143, q144, h0⟩ := bind_elim h0
          refine AD.op [158, 167] rfl (by kernel_rfl) rfl rfl (fun _ _ h => AOp.farith rfl rfl (ltb rfl) rfl rfl q144 h) ?_
          refine AD.op [168] rfl (by kernel_rfl) rfl rfl (fun _ _ h => AOp.assign rfl rfl (ltb rfl) rfl h) ?_
          refine AD.done ?_
          refine AO.nil ?_
          change AC _ _ _ _
          refine AC.seq ?_
          refine AC.region ?_
          refine AO.op rfl (AOp.move rfl rfl (ltb rfl) rfl ?_)
          obtain ⟨x145, q146, h0⟩ := idx_elim h0
          refine AO.op rfl (AOp.indexDs (cells := (List.map keS1 a0)) rfl rfl (ltb rfl) rfl rfl el79 (by decide) q146.1 (lt1 q146.2) ?_)
          refine AO.op rfl (AOp.loadEp rfl rfl (ltb rfl) rfl agg22 (at1 q146.2) ?_)
          refine AO.op rfl (AOp.move rfl rfl (ltb rfl) rfl ?_)
          obtain ⟨z147, q148, h0⟩ := bind_elim h0
          refine AO.op rfl (AOp.farith rfl rfl (ltb rfl) rfl rfl q148 ?_)
          refine AO.op rfl (AOp.assign rfl rfl (ltb rfl) rfl ?_)
          refine AO.nil ?_
          change AC _ _ _ _
          refine AC.seq ?_
          refine AC.region ?_
          refine AO.op rfl (AOp.move rfl rfl (ltb rfl) rfl ?_)
          obtain ⟨x149, q150, h0⟩ := idx_elim h0
          refine AO.op rfl (AOp.indexDs (cells := (List.map keS1 a0)) rfl rfl (ltb rfl) rfl rfl el79 (by decide) q150.1 (lt1 q150.2) ?_)
          refine AO.op rfl (AOp.loadEp rfl rfl (ltb rfl) rfl agg22 (at1 q150.2) ?_)
          refine AO.op rfl (AOp.move rfl rfl (ltb rfl) rfl ?_)
          obtain ⟨z151, q152, h0⟩ := bind_elim h0
          refine AO.op rfl (AOp.farith rfl rfl (ltb rfl) rfl rfl q152 ?_)
          refine AO.op rfl (AOp.assign rfl rfl (ltb rfl) rfl ?_)
          refine AO.nil ?_
          change AC _ _ _ _
          refine AC.seq ?_
          refine AC.region ?_
          refine AO.op rfl (AOp.move rfl rfl (ltb rfl) rfl ?_)
          obtain ⟨x153, q154, h0⟩ := idx_elim h0
          refine AO.op rfl (AOp.indexDs (cells := (List.map keS1 a0)) rfl rfl (ltb rfl) rfl rfl el79 (by decide) q154.1 (lt1 q154.2) ?_)
          refine AO.op rfl (AOp.loadEp rfl rfl (ltb rfl) rfl agg22 (at1 q154.2) ?_)
          refine AO.op rfl (AOp.move rfl rfl (ltb rfl) rfl ?_)
          obtain ⟨z155, q156, h0⟩ := bind_elim h0
          refine AO.op rfl (AOp.farith rfl rfl (ltb rfl) rfl rfl q156 ?_)
          refine AO.op rfl (AOp.assign rfl rfl (ltb rfl) rfl ?_)
          refine AO.nil ?_
          change AC _ _ _ _
          refine AC.seq ?_
          refine AC.region ?_
          refine AO.op rfl (AOp.move rfl rfl (ltb rfl) rfl ?_)
          refine AO.op rfl (AOp.move rfl rfl (ltb rfl) rfl ?_)
          obtain ⟨z157, q158, h0⟩ := bind_elim h0
          refine AO.op rfl (AOp.farith rfl rfl (ltb rfl) rfl rfl q158 ?_)
          refine AO.op rfl (AOp.move rfl rfl (ltb rfl) rfl ?_)
          refine AO.op rfl (AOp.move rfl rfl (ltb rfl) rfl ?_)
          obtain ⟨z159, q160, h0⟩ := bind_elim h0
          refine AO.op rfl (AOp.farith rfl rfl (ltb rfl) rfl rfl q160 ?_)
          obtain ⟨z161, q162, h0⟩ := bind_elim h0
          refine AO.op rfl (AOp.farith rfl rfl (ltb rfl) rfl rfl q162 ?_)
          refine AO.op rfl (AOp.move rfl rfl (ltb rfl) rfl ?_)
          refine AO.op rfl (AOp.move rfl rfl (ltb rfl) rfl ?_)
          obtain ⟨z163, q164, h0⟩ := bind_elim h0
          refine AO.op rfl (AOp.farith rfl rfl (ltb rfl) rfl rfl q164 ?_)
          obtain ⟨z165, q166, h0⟩ := bind_elim h0
          refine AO.op rfl (AOp.farith rfl rfl (ltb rfl) rfl rfl q166 ?_)
          obtain ⟨y167, q168, h0⟩ := bind_elim h0
          refine AO.op rfl (AOp.callD rfl rfl (ltb rfl) rfl rfl (w_Sqrt z165 y167 q168) ?_)
          rintro _ rfl
          refine AO.op rfl (AOp.assign rfl rfl (ltb rfl) rfl ?_)
          refine AO.nil ?_
          change AC _ _ _ _
          refine AC.ret ?_
          change RetQ _ _ _ .ret _
          obtain rfl := Option.some.inj h0
          refine retq rfl rfl

set_option maxRecDepth 100000 in
set_option maxHeartbeats 1000000 in
/-- pub-orthodrome/impl.PointLine3 -/
theorem w_PointLine3 (a0 : TImpl_P3) (a1 : TImpl_P3) (a2 : TImpl_P3) (r0 : (Nat × Bool)) (h0 : p_PointLine3 a0 a1 a2 = some r0) : FnD Try.prog 27 [e_TImpl_P3 a0, e_TImpl_P3 a1, e_TImpl_P3 a2] (fun r => r = .tu [dfl r0.1, dbool r0.2]) := by
  refine FnD.wrap (g := 62) (m := 2) (fun vs w h => idle62 vs w h) (by kernel_rfl) Try.func27 rfl Try.ntmps27 rfl (leb rfl) fun W ok => ?_
  unfold p_PointLine3 at h0
  refine AW.seq ?_
  refine AC.region ?_
  refine AO.op rfl (AOp.box rfl rfl (ltb rfl) rfl rfl ?_)
  refine AO.op rfl (AOp.box rfl rfl (ltb rfl) rfl rfl ?_)
  refine AO.op rfl (AOp.box rfl rfl (ltb rfl) rfl rfl ?_)
  refine AO.op rfl (AOp.alloc rfl rfl (ltb rfl) zero22 rfl ?_)
  refine AO.op rfl (AOp.alloc rfl rfl (ltb rfl) zero4 rfl ?_)
  refine AO.nil ?_
  refine ⟨rfl, ?_⟩
  refine AW.defer (caps := [.tmp 6, .tmp 7]) rfl rfl rfl (ltb rfl) rfl rfl rfl rfl (by kernel_rfl) rfl fun df => ?_
  refine AC.seq ?_
  refine AC.draw 7 mixed (by kernel_rfl) ?_
  refine AD.op [3] rfl (by kernel_rfl) rfl rfl (fun _ _ h => AOp.loadN rfl rfl (ltb rfl) rfl agg47 size47 rfl (leb rfl) rfl h) ?_
  obtain ⟨y1, q2, h0⟩ := bind_elim h0
  refine AD.op [9] rfl (by kernel_rfl) rfl rfl (fun _ _ h => AOp.callD rfl rfl (ltb rfl) rfl rfl (w_coord3 a0 y1 q2) (by rintro _ rfl; exact h)) ?_
  refine AD.op [4] rfl (by kernel_rfl) rfl rfl (fun _ _ h => AOp.loadN rfl rfl (ltb rfl) rfl agg47 size47 rfl (leb rfl) rfl h) ?_
  obtain ⟨y3, q4, h0⟩ := bind_elim h0
  refine AD.op [11] rfl (by kernel_rfl) rfl rfl (fun _ _ h => AOp.callD rfl rfl (ltb rfl) rfl rfl (w_coord3 a1 y3 q4) (by rintro _ rfl; exact h)) ?_
  refine AD.op [5] rfl (by kernel_rfl) rfl rfl (fun _ _ h => AOp.loadN rfl rfl (ltb rfl) rfl agg47 size47 rfl (leb rfl) rfl h) ?_
  obtain ⟨y5, q6, h0⟩ := bind_elim h0
  refine AD.op [13] rfl (by kernel_rfl) rfl rfl (fun _ _ h => AOp.callD rfl rfl (ltb rfl) rfl rfl (w_coord3 a2 y5 q6) (by rintro _ rfl; exact h)) ?_
  obtain ⟨y7, q8, h0⟩ := bind_elim h0
  refine AD.op [10, 12, 14] rfl (by kernel_rfl) rfl rfl (fun _ _ h => AOp.callD rfl rfl (ltb rfl) rfl rfl (w_DistancePointToLine y1 y3 y5 y7 q8) (by rintro _ rfl; exact h)) ?_
  refine AD.done ?_
  refine AO.op rfl (AOp.store rfl rfl rfl rfl size22 rfl rfl rfl (leb rfl) ?_)
  refine AO.op rfl (AOp.store rfl rfl rfl rfl size4 rfl rfl rfl (leb rfl) ?_)
  refine AO.nil ?_
  change AC _ _ _ _
  refine AC.ret ?_
  change RetQ _ _ _ .ret _
  obtain rfl := Option.some.inj h0
  refine retq rfl rfl

theorem callBits (x : Nat) (w : World) : (callFunc 71 #[.float .f64 x]).run Try.prog w = .ok (.value (.int .u64 x)) w := by
  rw [run_callFunc_extern Try.func71 (by kernel_rfl) (by kernel_rfl) (by kernel_rfl) (e := Extern.MathFloatBits.float64bits) (by kernel_rfl), run_f64bits Try.prog x]
  rfl

set_option maxRecDepth 100000 in
set_option maxHeartbeats 1000000 in
/-- pub-orthodrome/spec.trim -/
theorem w_trim (F : Nat) (a0 : (List Int)) (r0 : (List Int)) (h0 : p_trim F a0 = some r0) : FnD Try.prog 78 [eS2 a0] (fun r => r = eS2 r0) := by
  refine FnD.of (by kernel_rfl) Try.func78 rfl Try.ntmps78 rfl (leb rfl) fun W ok => ?_
  unfold p_trim at h0
  refine AC.seq ?_
  refine AC.region ?_
  refine AO.op rfl (AOp.assign rfl rfl (ltb rfl) rfl ?_)
  refine AO.nil ?_
  change AC _ _ _ _
  obtain ⟨o1, l2, h0⟩ := bind_elim h0
  refine AC.joinP (V := (List Int)) [] [0] 0 (fun g3 => [(0, .d (eS2 g3))]) (fun g3 => []) (fun g3 => p_trim_k1 g3 = some r0) rfl ?_ ?_
  · refine AC.block ?_
    refine AC.loopP (V := (List Int)) p_trim_l2 o1 [] [0] 0 (fun g4 => [(0, .d (eS2 g4))]) (fun g4 => []) F a0 l2 rfl rfl (LeL.refl _) rfl rfl ?_
    intro n6 g4 h1
    unfold p_trim_l2 at h1
    refine AC.seq ?_
    refine AC.seq ?_
    refine AC.region ?_
    refine AO.op rfl (AOp.move rfl rfl (ltb rfl) rfl ?_)
    refine AO.op rfl (AOp.lenDs (n := g4.length) (cells := (List.map keS2 g4)) rfl rfl (ltb rfl) rfl el28 (by decide) (len1 _ _) ?_)
    refine AO.op rfl (AOp.igtr rfl rfl (ltb rfl) rfl rfl ?_)
    refine AO.op rfl (AOp.move rfl rfl (ltb rfl) rfl ?_)
    refine AO.dec (decide ((0 : Int) < ((g4.length : Nat) : Int))) (fun q7 => ?_) (fun q7 => ?_)
    · replace h1 := cT h1 q7
      refine AO.guardY rfl rfl rfl q7 (AOp.move rfl rfl (ltb rfl) rfl ?_)
      refine AO.guardY rfl rfl rfl q7 (AOp.move rfl rfl (ltb rfl) rfl ?_)
      refine AO.guardY rfl rfl rfl q7 (AOp.lenDs (n := g4.length) (cells := (List.map keS2 g4)) rfl rfl (ltb rfl) rfl el28 (by decide) (len1 _ _) ?_)
      obtain ⟨q8, h1⟩ := need_elim h1
      refine AO.guardY rfl rfl rfl q7 (AOp.isub rfl rfl (ltb rfl) rfl rfl rfl q8.1 q8.2 ?_)
      obtain ⟨x9, q10, h1⟩ := idx_elim h1
      refine AO.guardY rfl rfl rfl q7 (AOp.indexDs (cells := (List.map keS2 g4)) rfl rfl (ltb rfl) rfl rfl el28 (by decide) q10.1 (lt1 q10.2) ?_)
      refine AO.guardY rfl rfl rfl q7 (AOp.loadEp rfl rfl (ltb rfl) rfl agg106 (at1 q10.2) ?_)
      refine AO.guardY rfl rfl rfl q7 (AOp.ieql rfl rfl (ltb rfl) rfl rfl ?_)
      refine AO.op rfl (AOp.pick rfl rfl (ltb rfl) rfl q7 rfl ?_)
      refine AO.nil ?_
      change AC _ _ _ _
      refine AC.cond rfl (fun q11 => ?_) (fun q11 => ?_)
      · replace h1 := cT h1 q11
        refine AC.skip ?_
        change AC _ _ _ _
        refine AC.block ?_
        refine AC.region ?_
        refine AO.op rfl (AOp.move rfl rfl (ltb rfl) rfl ?_)
        refine AO.op rfl (AOp.move rfl rfl (ltb rfl) rfl ?_)
        refine AO.op rfl (AOp.lenDs (n := g4.length) (cells := (List.map keS2 g4)) rfl rfl (ltb rfl) rfl el28 (by decide) (len1 _ _) ?_)
        obtain ⟨q12, h1⟩ := need_elim h1
        refine AO.op rfl (AOp.isub rfl rfl (ltb rfl) rfl rfl rfl q12.1 q12.2 ?_)
        obtain ⟨q13, h1⟩ := need_elim h1
        refine AO.op rfl (AOp.sliceD (cells := (List.map keS2 g4)) (n := g4.length) (l := 0) (hh := ((((g4.length : Nat) : Int) - (1 : Int))).toNat) rfl rfl (ltb rfl) rfl (.inl ⟨rfl, rfl⟩) (.inr ⟨_, _, _, rfl, rfl, q13.1.2, rfl⟩) el28 (by decide) (len1 _ _) q13.2.1 q13.2.2 (sub1 _ _ _ _) ?_)
        refine AO.op rfl (AOp.assign rfl rfl (ltb rfl) rfl ?_)
        refine AO.nil ?_
        exact ⟨((g4.drop 0).take (((((g4.length : Nat) : Int) - (1 : Int))).toNat - 0)), _, rfl, (LeL.refl _), rfl, rfl, h1⟩
      · replace h1 := cF h1 q11
        refine AC.exit ?_
        obtain rfl := Option.some.inj h1
        exact ⟨g4, _, rfl, (LeL.refl _), rfl, rfl, aftL h0⟩
    · replace h1 := cF h1 q7
      refine AO.guardN rfl rfl rfl (ltb rfl) rfl q7 ?_
      refine AO.guardN rfl rfl rfl (ltb rfl) rfl q7 ?_
      refine AO.guardN rfl rfl rfl (ltb rfl) rfl q7 ?_
      refine AO.guardN rfl rfl rfl (ltb rfl) rfl q7 ?_
      refine AO.guardN rfl rfl rfl (ltb rfl) rfl q7 ?_
      refine AO.guardN rfl rfl rfl (ltb rfl) rfl q7 ?_
      refine AO.guardN rfl rfl rfl (ltb rfl) rfl q7 ?_
      refine AO.op rfl (AOp.pickN rfl rfl (ltb rfl) rfl q7 rfl ?_)
      refine AO.nil ?_
      change AC _ _ _ _
      refine AC.condF rfl rfl ?_
      refine AC.exit ?_
      obtain rfl := Option.some.inj h1
      exact ⟨g4, _, rfl, (LeL.refl _), rfl, rfl, aftL h0⟩
  · intro g3 h0
    unfold p_trim_k1 at h0
    refine AC.seq ?_
    refine AC.region ?_
    refine AO.op rfl (AOp.move rfl rfl (ltb rfl) rfl ?_)
    refine AO.op rfl (AOp.assign rfl rfl (ltb rfl) rfl ?_)
    refine AO.nil ?_
    change AC _ _ _ _
    refine AC.ret ?_
    change RetQ _ _ _ .ret _
    obtain rfl := Option.some.inj h0
    refine retq rfl rfl

set_option maxRecDepth 100000 in
set_option maxHeartbeats 1000000 in
/-- pub-orthodrome/spec.WholeOf -/
theorem w_WholeOf (F : Nat) (a0 : Int) (r0 : TSpec_Whole) (h0 : p_WholeOf F a0 = some r0) : FnD Try.prog 72 [di .i64 a0] (fun r => r = e_TSpec_Whole r0) := by
  refine FnD.of (by kernel_rfl) Try.func72 rfl Try.ntmps72 rfl (leb rfl) fun W ok => ?_
  unfold p_WholeOf at h0
  refine AC.seq ?_
  refine AC.region ?_
  refine AO.op rfl (AOp.alloc rfl rfl (ltb rfl) zero30 rfl ?_)
  refine AO.nil ?_
  change AC _ _ _ _
  refine AC.seq ?_
  refine AC.region ?_
  refine AO.op rfl (AOp.move rfl rfl (ltb rfl) rfl ?_)
  refine AO.op rfl (AOp.i2i rfl rfl (ltb rfl) rfl Try.underlying2 Try.underlying91 rfl ?_)
  refine AO.op rfl (AOp.assign rfl rfl (ltb rfl) rfl ?_)
  refine AO.nil ?_
  change AC _ _ _ _
  refine AC.joinP (V := Int) [0, 2] [3] 1 (fun g1 => [(3, .d (di .u64 g1))]) (fun g1 => [.fix 30 [.d (dbool false), .d (.v (.slice none 0 0))]]) (fun g1 => (p_WholeOf_k1 a0 F) g1 = some r0) rfl ?_ ?_
  · refine AC.seq ?_
    refine AC.region ?_
    refine AO.op rfl (AOp.move rfl rfl (ltb rfl) rfl ?_)
    refine AO.op rfl (AOp.ilss rfl rfl (ltb rfl) rfl rfl ?_)
    refine AO.nil ?_
    change AC _ _ _ _
    refine AC.cond rfl (fun q5 => ?_) (fun q5 => ?_)
    · replace h0 := cT h0 q5
      refine AC.region ?_
      refine AO.op rfl (AOp.move rfl rfl (ltb rfl) rfl ?_)
      refine AO.op rfl (AOp.inegW rfl rfl (ltb rfl) rfl ?_)
      refine AO.op rfl (AOp.assign rfl rfl (ltb rfl) rfl ?_)
      refine AO.nil ?_
      exact ⟨(IntKind.u64.wrap (-(IntKind.u64.wrap a0))), _, rfl, (LeL.refl _), rfl, rfl, h0⟩
    · replace h0 := cF h0 q5
      refine AC.skip ?_
      exact ⟨(IntKind.u64.wrap a0), _, rfl, (LeL.refl _), rfl, rfl, h0⟩
  · intro g1 h0
    unfold p_WholeOf_k1 at h0
    refine AC.seq ?_
    refine AC.region ?_
    refine AO.op rfl (AOp.move rfl rfl (ltb rfl) rfl ?_)
    refine AO.op rfl (AOp.ilss rfl rfl (ltb rfl) rfl rfl ?_)
    refine AO.op rfl (AOp.move rfl rfl (ltb rfl) rfl ?_)
    refine AO.op rfl (AOp.i2i rfl rfl (ltb rfl) rfl Try.underlying91 Try.underlying106 rfl ?_)
    refine AO.op rfl (AOp.move rfl rfl (ltb rfl) rfl ?_)
    obtain ⟨q2, h0⟩ := need_elim h0
    refine AO.op rfl (AOp.ishr (n := 32) rfl rfl (ltb rfl) rfl rfl (by decide) q2 rfl ?_)
    refine AO.op rfl (AOp.i2i rfl rfl (ltb rfl) rfl Try.underlying91 Try.underlying106 rfl ?_)
    refine AO.op rfl (AOp.buildSliceD rfl rfl (ltb rfl) el28 zero106 rfl (leb rfl) rfl rfl rfl rfl ?_)
    obtain ⟨y3, q4, h0⟩ := bind_elim h0
    refine AO.op rfl (AOp.callD rfl rfl (ltb rfl) rfl rfl (w_trim F [(IntKind.u32.wrap g1), (IntKind.u32.wrap (g1 / 2 ^ 32))] y3 q4) ?_)
    rintro _ rfl
    refine AO.op rfl (AOp.build rfl rfl (ltb rfl) zero30 rfl places30 rfl rfl ?_)
    refine AO.op rfl (AOp.store rfl rfl rfl rfl size30 rfl rfl rfl (leb rfl) ?_)
    refine AO.nil ?_
    change AC _ _ _ _
    refine AC.ret ?_
    change RetQ _ _ _ .ret _
    obtain rfl := Option.some.inj h0
    refine retq rfl rfl

set_option maxRecDepth 100000 in
set_option maxHeartbeats 1000000 in
/-- pub-orthodrome/spec.DyadicOf -/
theorem w_DyadicOf (F : Nat) (a0 : Nat) (r0 : TSpec_Dyadic) (h0 : p_DyadicOf F a0 = some r0) : FnD Try.prog 36 [dfl a0] (fun r => r = e_TSpec_Dyadic r0) := by
  refine FnD.of (by kernel_rfl) Try.func36 rfl Try.ntmps36 rfl (leb rfl) fun W ok => ?_
  unfold p_DyadicOf at h0
  refine AC.seq ?_
  refine AC.region ?_
  refine AO.op rfl (AOp.alloc rfl rfl (ltb rfl) zero32 rfl ?_)
  refine AO.nil ?_
  change AC _ _ _ _
  refine AC.seq ?_
  refine AC.region ?_
  refine AO.op rfl (AOp.move rfl rfl (ltb rfl) rfl ?_)
  refine AO.op rfl (AOp.callX [.float .f64 a0] rfl rfl (ltb rfl) rfl (callBits a0) ?_)
  refine AO.op rfl (AOp.assign rfl rfl (ltb rfl) rfl ?_)
  refine AO.nil ?_
  change AC _ _ _ _
  refine AC.seq ?_
  refine AC.region ?_
  refine AO.op rfl (AOp.move rfl rfl (ltb rfl) rfl ?_)
  refine AO.op rfl (AOp.ibits (by simp) rfl rfl (ltb rfl) rfl rfl rfl ?_)
  refine AO.op rfl (AOp.i2i rfl rfl (ltb rfl) rfl Try.underlying91 Try.underlying2 rfl ?_)
  refine AO.op rfl (AOp.move rfl rfl (ltb rfl) rfl ?_)
  obtain ⟨q1, h0⟩ := need_elim h0
  refine AO.op rfl (AOp.ishr (n := 52) rfl rfl (ltb rfl) rfl rfl (by decide) q1 rfl ?_)
  refine AO.op rfl (AOp.ibits (by simp) rfl rfl (ltb rfl) rfl rfl rfl ?_)
  refine AO.op rfl (AOp.i2i rfl rfl (ltb rfl) rfl Try.underlying91 Try.underlying3 rfl ?_)
  refine AO.op rfl (AOp.assign rfl rfl (ltb rfl) rfl ?_)
  refine AO.op rfl (AOp.assign rfl rfl (ltb rfl) rfl ?_)
  refine AO.nil ?_
  change AC _ _ _ _
  refine AC.joinP (V := (Int × Int)) [2, 3] [4, 5] 1 (fun g2 => [(4, .d (di .i64 g2.1)), (5, .d (di .i64 g2.2))]) (fun g2 => [.fix 32 [.d (dbool false), .d (.v (.slice none 0 0)), .d (di .i64 (0 : Int))]]) (fun g2 => (p_DyadicOf_k1 a0 F) g2 = some r0) rfl ?_ ?_
  · refine AC.seq ?_
    refine AC.region ?_
    refine AO.op rfl (AOp.move rfl rfl (ltb rfl) rfl ?_)
    refine AO.nil ?_
    change AC _ _ _ _
    refine AC.block ?_
    refine AC.seq ?_
    refine AC.region ?_
    refine AO.op rfl (AOp.ieql rfl rfl (ltb rfl) rfl rfl ?_)
    refine AO.op rfl (AOp.assign rfl rfl (ltb rfl) rfl ?_)
    refine AO.nil ?_
    change AC _ _ _ _
    refine AC.cond rfl (fun q12 => ?_) (fun q12 => ?_)
    · replace h0 := cT h0 q12
      refine AC.seq ?_
      refine AC.region ?_
      refine AO.op rfl (AOp.build rfl rfl (ltb rfl) zero32 rfl places32 rfl rfl ?_)
      refine AO.op rfl (AOp.store rfl rfl rfl rfl size32 rfl rfl rfl (leb rfl) ?_)
      refine AO.nil ?_
      change AC _ _ _ _
      refine AC.subO 0 rfl (.cons (SVLe.refl _) (.cons (SVLe.nil 1) (.cons (SVLe.refl _) .nil))) ?_
      refine AC.ret ?_
      change RetQ _ _ _ .ret _
      obtain rfl := Option.some.inj h0
      refine retq rfl rfl
    · replace h0 := cF h0 q12
      refine AC.seq ?_
      refine AC.region ?_
      refine AO.op rfl (AOp.ieql rfl rfl (ltb rfl) rfl rfl ?_)
      refine AO.op rfl (AOp.assign rfl rfl (ltb rfl) rfl ?_)
      refine AO.nil ?_
      change AC _ _ _ _
      refine AC.cond rfl (fun q13 => ?_) (fun q13 => ?_)
      · replace h0 := cT h0 q13
        refine AC.region ?_
        refine AO.op rfl (AOp.assign rfl rfl (ltb rfl) rfl ?_)
        refine AO.nil ?_
        exact ⟨((IntKind.i64.wrap (bits .and .u64 ((a0 : Nat) : Int) (4503599627370495 : Int))), (1 : Int)), _, rfl, (LeL.refl _), rfl, rfl, h0⟩
      · replace h0 := cF h0 q13
        refine AC.region ?_
        refine AO.op rfl (AOp.move rfl rfl (ltb rfl) rfl ?_)
        obtain ⟨q14, h0⟩ := need_elim h0
        refine AO.op rfl (AOp.iadd rfl rfl (ltb rfl) rfl rfl rfl q14.1 q14.2 ?_)
        refine AO.op rfl (AOp.assign rfl rfl (ltb rfl) rfl ?_)
        refine AO.nil ?_
        exact ⟨(((IntKind.i64.wrap (bits .and .u64 ((a0 : Nat) : Int) (4503599627370495 : Int))) + (4503599627370496 : Int)), (IntKind.i64.wrap (bits .and .u64 (((a0 : Nat) : Int) / 2 ^ 52) (2047 : Int)))), _, rfl, (LeL.refl _), rfl, rfl, h0⟩
  · intro g2 h0
    unfold p_DyadicOf_k1 at h0
    refine AC.seq ?_
    refine AC.seq ?_
    refine AC.region ?_
    refine AO.op rfl (AOp.move rfl rfl (ltb rfl) rfl ?_)
    obtain ⟨q3, h0⟩ := need_elim h0
    refine AO.op rfl (AOp.ishr (n := 63) rfl rfl (ltb rfl) rfl rfl (by decide) q3 rfl ?_)
    refine AO.op rfl (AOp.ieql rfl rfl (ltb rfl) rfl rfl ?_)
    refine AO.nil ?_
    change AC _ _ _ _
    refine AC.cond rfl (fun q4 => ?_) (fun q4 => ?_)
    · replace h0 := cT h0 q4
      refine AC.region ?_
      refine AO.op rfl (AOp.move rfl rfl (ltb rfl) rfl ?_)
      obtain ⟨q5, h0⟩ := need_elim h0
      refine AO.op rfl (AOp.ineg rfl rfl (ltb rfl) rfl rfl q5.1 q5.2 ?_)
      refine AO.op rfl (AOp.assign rfl rfl (ltb rfl) rfl ?_)
      refine AO.nil ?_
      change AC _ _ _ _
      refine AC.seq ?_
      refine AC.region ?_
      refine AO.op rfl (AOp.move rfl rfl (ltb rfl) rfl ?_)
      obtain ⟨y6, q7, h0⟩ := bind_elim h0
      refine AO.op rfl (AOp.callD rfl rfl (ltb rfl) rfl rfl (w_WholeOf F (-g2.1) y6 q7) ?_)
      rintro _ rfl
      refine AO.op rfl (AOp.move rfl rfl (ltb rfl) rfl ?_)
      obtain ⟨q8, h0⟩ := need_elim h0
      refine AO.op rfl (AOp.isub rfl rfl (ltb rfl) rfl rfl rfl q8.1 q8.2 ?_)
      refine AO.op rfl (AOp.build rfl rfl (ltb rfl) zero32 rfl places32 rfl rfl ?_)
      refine AO.op rfl (AOp.store rfl rfl rfl rfl size32 rfl rfl rfl (leb rfl) ?_)
      refine AO.nil ?_
      change AC _ _ _ _
      refine AC.ret ?_
      change RetQ _ _ _ .ret _
      obtain rfl := Option.some.inj h0
      refine retq rfl rfl
    · replace h0 := cF h0 q4
      refine AC.skip ?_
      change AC _ _ _ _
      refine AC.seq ?_
      refine AC.region ?_
      refine AO.op rfl (AOp.move rfl rfl (ltb rfl) rfl ?_)
      obtain ⟨y9, q10, h0⟩ := bind_elim h0
      refine AO.op rfl (AOp.callD rfl rfl (ltb rfl) rfl rfl (w_WholeOf F g2.1 y9 q10) ?_)
      rintro _ rfl
      refine AO.op rfl (AOp.move rfl rfl (ltb rfl) rfl ?_)
      obtain ⟨q11, h0⟩ := need_elim h0
      refine AO.op rfl (AOp.isub rfl rfl (ltb rfl) rfl rfl rfl q11.1 q11.2 ?_)
      refine AO.op rfl (AOp.build rfl rfl (ltb rfl) zero32 rfl places32 rfl rfl ?_)
      refine AO.op rfl (AOp.store rfl rfl rfl rfl size32 rfl rfl rfl (leb rfl) ?_)
      refine AO.nil ?_
      change AC _ _ _ _
      refine AC.ret ?_
      change RetQ _ _ _ .ret _
      obtain rfl := Option.some.inj h0
      refine retq rfl rfl

set_option maxRecDepth 100000 in
set_option maxHeartbeats 1000000 in
/-- pub-orthodrome/spec.PointOf3 -/
theorem w_PointOf3 (F : Nat) (a0 : Nat) (a1 : Nat) (a2 : Nat) (r0 : TSpec_Point3) (h0 : p_PointOf3 F a0 a1 a2 = some r0) : FnD Try.prog 57 [dfl a0, dfl a1, dfl a2] (fun r => r = e_TSpec_Point3 r0) := by
  refine FnD.of (by kernel_rfl) Try.func57 rfl Try.ntmps57 rfl (leb rfl) fun W ok => ?_
  unfold p_PointOf3 at h0
  refine AC.seq ?_
  refine AC.region ?_
  refine AO.op rfl (AOp.alloc rfl rfl (ltb rfl) zero53 rfl ?_)
  refine AO.nil ?_
  change AC _ _ _ _
  refine AC.seq ?_
  refine AC.region ?_
  refine AO.op rfl (AOp.move rfl rfl (ltb rfl) rfl ?_)
  obtain ⟨y1, q2, h0⟩ := bind_elim h0
  refine AO.op rfl (AOp.callD rfl rfl (ltb rfl) rfl rfl (w_DyadicOf F a0 y1 q2) ?_)
  rintro _ rfl
  refine AO.op rfl (AOp.move rfl rfl (ltb rfl) rfl ?_)
  obtain ⟨y3, q4, h0⟩ := bind_elim h0
  refine AO.op rfl (AOp.callD rfl rfl (ltb rfl) rfl rfl (w_DyadicOf F a1 y3 q4) ?_)
  rintro _ rfl
  refine AO.op rfl (AOp.move rfl rfl (ltb rfl) rfl ?_)
  obtain ⟨y5, q6, h0⟩ := bind_elim h0
  refine AO.op rfl (AOp.callD rfl rfl (ltb rfl) rfl rfl (w_DyadicOf F a2 y5 q6) ?_)
  rintro _ rfl
  refine AO.op rfl (AOp.build rfl rfl (ltb rfl) zero53 rfl places53 rfl rfl ?_)
  refine AO.op rfl (AOp.store rfl rfl rfl rfl size53 rfl rfl rfl (leb rfl) ?_)
  refine AO.nil ?_
  change AC _ _ _ _
  refine AC.ret ?_
  change RetQ _ _ _ .ret _
  obtain rfl := Option.some.inj h0
  refine retq rfl rfl

set_option maxRecDepth 100000 in
set_option maxHeartbeats 1000000 in
/-- pub-orthodrome/laws.exactly3 -/
theorem w_exactly3 (F : Nat) (a0 : TImpl_P3) (r0 : TSpec_Point3) (h0 : p_exactly3 F a0 = some r0) : FnD Try.prog 24 [e_TImpl_P3 a0] (fun r => r = e_TSpec_Point3 r0) := by
  refine FnD.of (by kernel_rfl) Try.func24 rfl Try.ntmps24 rfl (leb rfl) fun W ok => ?_
  unfold p_exactly3 at h0
  refine AC.seq ?_
  refine AC.region ?_
  refine AO.op rfl (AOp.box rfl rfl (ltb rfl) rfl rfl ?_)
  refine AO.op rfl (AOp.alloc rfl rfl (ltb rfl) zero53 rfl ?_)
  refine AO.nil ?_
  change AC _ _ _ _
  refine AC.seq ?_
  refine AC.region ?_
  refine AO.op rfl (AOp.fieldAddr rfl rfl (ltb rfl) rfl fo47_0 ?_)
  refine AO.op rfl (AOp.load1 rfl rfl (ltb rfl) rfl agg22 rfl rfl ?_)
  refine AO.op rfl (AOp.fieldAddr rfl rfl (ltb rfl) rfl fo47_1 ?_)
  refine AO.op rfl (AOp.load1 rfl rfl (ltb rfl) rfl agg22 rfl rfl ?_)
  refine AO.op rfl (AOp.fieldAddr rfl rfl (ltb rfl) rfl fo47_2 ?_)
  refine AO.op rfl (AOp.load1 rfl rfl (ltb rfl) rfl agg22 rfl rfl ?_)
  obtain ⟨y1, q2, h0⟩ := bind_elim h0
  refine AO.op rfl (AOp.callD rfl rfl (ltb rfl) rfl rfl (w_PointOf3 F a0.X a0.Y a0.Z y1 q2) ?_)
  rintro _ rfl
  refine AO.op rfl (AOp.store rfl rfl rfl rfl size53 rfl rfl rfl (leb rfl) ?_)
  refine AO.nil ?_
  change AC _ _ _ _
  refine AC.ret ?_
  change RetQ _ _ _ .ret _
  obtain rfl := Option.some.inj h0
  refine retq rfl rfl

set_option maxRecDepth 100000 in
set_option maxHeartbeats 1000000 in
/-- (pub-orthodrome/spec.Whole).Minus -/
theorem w_Whole_Minus (a0 : TSpec_Whole) (r0 : TSpec_Whole) (h0 : p_Whole_Minus a0 = some r0) : FnD Try.prog 77 [e_TSpec_Whole a0] (fun r => r = e_TSpec_Whole r0) := by
  refine FnD.of (by kernel_rfl) Try.func77 rfl Try.ntmps77 rfl (leb rfl) fun W ok => ?_
  unfold p_Whole_Minus at h0
  refine AC.seq ?_
  refine AC.region ?_
  refine AO.op rfl (AOp.box rfl rfl (ltb rfl) rfl rfl ?_)
  refine AO.op rfl (AOp.alloc rfl rfl (ltb rfl) zero30 rfl ?_)
  refine AO.nil ?_
  change AC _ _ _ _
  refine AC.seq ?_
  refine AC.region ?_
  refine AO.op rfl (AOp.fieldAddr rfl rfl (ltb rfl) rfl fo30_0 ?_)
  refine AO.op rfl (AOp.load1 rfl rfl (ltb rfl) rfl agg4 rfl rfl ?_)
  refine AO.op rfl (AOp.bnot rfl rfl (ltb rfl) rfl ?_)
  refine AO.op rfl (AOp.move rfl rfl (ltb rfl) rfl ?_)
  refine AO.dec (!a0.Neg) (fun q1 => ?_) (fun q1 => ?_)
  · replace h0 := cT h0 q1
    refine AO.guardY rfl rfl rfl q1 (AOp.fieldAddr rfl rfl (ltb rfl) rfl fo30_1 ?_)
    refine AO.guardY rfl rfl rfl q1 (AOp.load1 rfl rfl (ltb rfl) rfl agg28 rfl rfl ?_)
    refine AO.guardY rfl rfl rfl q1 (AOp.lenDs (n := a0.L.length) (cells := (List.map keS2 a0.L)) rfl rfl (ltb rfl) rfl el28 (by decide) (len1 _ _) ?_)
    refine AO.guardY rfl rfl rfl q1 (AOp.igtr rfl rfl (ltb rfl) rfl rfl ?_)
    refine AO.op rfl (AOp.pick rfl rfl (ltb rfl) rfl q1 rfl ?_)
    refine AO.op rfl (AOp.fieldAddr rfl rfl (ltb rfl) rfl fo30_1 ?_)
    refine AO.op rfl (AOp.load1 rfl rfl (ltb rfl) rfl agg28 rfl rfl ?_)
    refine AO.op rfl (AOp.build rfl rfl (ltb rfl) zero30 rfl places30 rfl rfl ?_)
    refine AO.op rfl (AOp.store rfl rfl rfl rfl size30 rfl rfl rfl (leb rfl) ?_)
    refine AO.nil ?_
    change AC _ _ _ _
    refine AC.ret ?_
    change RetQ _ _ _ .ret _
    obtain rfl := Option.some.inj h0
    refine retq rfl rfl
  · replace h0 := cF h0 q1
    refine AO.guardN rfl rfl rfl (ltb rfl) rfl q1 ?_
    refine AO.guardN rfl rfl rfl (ltb rfl) rfl q1 ?_
    refine AO.guardN rfl rfl rfl (ltb rfl) rfl q1 ?_
    refine AO.guardN rfl rfl rfl (ltb rfl) rfl q1 ?_
    refine AO.op rfl (AOp.pickN rfl rfl (ltb rfl) rfl q1 rfl ?_)
    refine AO.op rfl (AOp.fieldAddr rfl rfl (ltb rfl) rfl fo30_1 ?_)
    refine AO.op rfl (AOp.load1 rfl rfl (ltb rfl) rfl agg28 rfl rfl ?_)
    refine AO.op rfl (AOp.build rfl rfl (ltb rfl) zero30 rfl places30 rfl rfl ?_)
    refine AO.op rfl (AOp.store rfl rfl rfl rfl size30 rfl rfl rfl (leb rfl) ?_)
    refine AO.nil ?_
    change AC _ _ _ _
    refine AC.ret ?_
    change RetQ _ _ _ .ret _
    obtain rfl := Option.some.inj h0
    refine retq rfl rfl

set_option maxRecDepth 100000 in
set_option maxHeartbeats 1000000 in
/-- (pub-orthodrome/spec.Dyadic).Minus -/
theorem w_Dyadic_Minus (a0 : TSpec_Dyadic) (r0 : TSpec_Dyadic) (h0 : p_Dyadic_Minus a0 = some r0) : FnD Try.prog 49 [e_TSpec_Dyadic a0] (fun r => r = e_TSpec_Dyadic r0) := by
  refine FnD.of (by kernel_rfl) Try.func49 rfl Try.ntmps49 rfl (leb rfl) fun W ok => ?_
  unfold p_Dyadic_Minus at h0
  refine AC.seq ?_
  refine AC.region ?_
  refine AO.op rfl (AOp.box rfl rfl (ltb rfl) rfl rfl ?_)
  refine AO.op rfl (AOp.alloc rfl rfl (ltb rfl) zero32 rfl ?_)
  refine AO.nil ?_
  change AC _ _ _ _
  refine AC.seq ?_
  refine AC.draw 6 mixed (by kernel_rfl) ?_
  refine AD.op [1] rfl (by kernel_rfl) rfl rfl (fun _ _ h => AOp.fieldAddr rfl rfl (ltb rfl) rfl fo32_0 h) ?_
  refine AD.op [3] rfl (by kernel_rfl) rfl rfl (fun _ _ h => AOp.loadN rfl rfl (ltb rfl) rfl agg30 size30 rfl (leb rfl) rfl h) ?_
  obtain ⟨y1, q2, h0⟩ := bind_elim h0
  refine AD.op [4] rfl (by kernel_rfl) rfl rfl (fun _ _ h => AOp.callD rfl rfl (ltb rfl) rfl rfl (w_Whole_Minus a0.N y1 q2) (by rintro _ rfl; exact h)) ?_
  refine AD.op [1] rfl (by kernel_rfl) rfl rfl (fun _ _ h => AOp.fieldAddr rfl rfl (ltb rfl) rfl fo32_1 h) ?_
  refine AD.op [6] rfl (by kernel_rfl) rfl rfl (fun _ _ h => AOp.load1 rfl rfl (ltb rfl) rfl agg3 rfl rfl h) ?_
  refine AD.op [5, 7] rfl (by kernel_rfl) rfl rfl (fun _ _ h => AOp.build rfl rfl (ltb rfl) zero32 rfl places32 rfl rfl h) ?_
  refine AD.done ?_
  refine AO.op rfl (AOp.store rfl rfl rfl rfl size32 rfl rfl rfl (leb rfl) ?_)
  refine AO.nil ?_
  change AC _ _ _ _
  refine AC.ret ?_
  change RetQ _ _ _ .ret _
  obtain rfl := Option.some.inj h0
  refine retq rfl rfl

set_option maxRecDepth 100000 in
set_option maxHeartbeats 1000000 in
/-- (pub-orthodrome/spec.Whole).Sign -/
theorem w_Whole_Sign (a0 : TSpec_Whole) (r0 : Int) (h0 : p_Whole_Sign a0 = some r0) : FnD Try.prog 75 [e_TSpec_Whole a0] (fun r => r = di .i64 r0) := by
  refine FnD.of (by kernel_rfl) Try.func75 rfl Try.ntmps75 rfl (leb rfl) fun W ok => ?_
  unfold p_Whole_Sign at h0
  refine AC.seq ?_
  refine AC.region ?_
  refine AO.op rfl (AOp.box rfl rfl (ltb rfl) rfl rfl ?_)
  refine AO.op rfl (AOp.assign rfl rfl (ltb rfl) rfl ?_)
  refine AO.nil ?_
  change AC _ _ _ _
  refine AC.seq ?_
  refine AC.block ?_
  refine AC.seq ?_
  refine AC.region ?_
  refine AO.op rfl (AOp.fieldAddr rfl rfl (ltb rfl) rfl fo30_1 ?_)
  refine AO.op rfl (AOp.load1 rfl rfl (ltb rfl) rfl agg28 rfl rfl ?_)
  refine AO.op rfl (AOp.lenDs (n := a0.L.length) (cells := (List.map keS2 a0.L)) rfl rfl (ltb rfl) rfl el28 (by decide) (len1 _ _) ?_)
  refine AO.op rfl (AOp.ieql rfl rfl (ltb rfl) rfl rfl ?_)
  refine AO.op rfl (AOp.assign rfl rfl (ltb rfl) rfl ?_)
  refine AO.nil ?_
  change AC _ _ _ _
  refine AC.cond rfl (fun q1 => ?_) (fun q1 => ?_)
  · replace h0 := cT h0 q1
    refine AC.seq ?_
    refine AC.region ?_
    refine AO.op rfl (AOp.assign rfl rfl (ltb rfl) rfl ?_)
    refine AO.nil ?_
    change AC _ _ _ _
    refine AC.ret ?_
    change RetQ _ _ _ .ret _
    obtain rfl := Option.some.inj h0
    refine retq rfl rfl
  · replace h0 := cF h0 q1
    refine AC.seq ?_
    refine AC.region ?_
    refine AO.op rfl (AOp.fieldAddr rfl rfl (ltb rfl) rfl fo30_0 ?_)
    refine AO.op rfl (AOp.load1 rfl rfl (ltb rfl) rfl agg4 rfl rfl ?_)
    refine AO.op rfl (AOp.assign rfl rfl (ltb rfl) rfl ?_)
    refine AO.nil ?_
    change AC _ _ _ _
    refine AC.cond rfl (fun q2 => ?_) (fun q2 => ?_)
    · replace h0 := cT h0 q2
      refine AC.seq ?_
      refine AC.region ?_
      refine AO.op rfl (AOp.assign rfl rfl (ltb rfl) rfl ?_)
      refine AO.nil ?_
      change AC _ _ _ _
      refine AC.ret ?_
      change RetQ _ _ _ .ret _
      obtain rfl := Option.some.inj h0
      refine retq rfl rfl
    · replace h0 := cF h0 q2
      refine AC.skip ?_
      change AC _ _ _ _
      refine AC.seq ?_
      refine AC.region ?_
      refine AO.op rfl (AOp.assign rfl rfl (ltb rfl) rfl ?_)
      refine AO.nil ?_
      change AC _ _ _ _
      refine AC.ret ?_
      change RetQ _ _ _ .ret _
      obtain rfl := Option.some.inj h0
      refine retq rfl rfl

set_option maxRecDepth 100000 in
set_option maxHeartbeats 1000000 in
/-- (pub-orthodrome/spec.Dyadic).Sign -/
theorem w_Dyadic_Sign (a0 : TSpec_Dyadic) (r0 : Int) (h0 : p_Dyadic_Sign a0 = some r0) : FnD Try.prog 45 [e_TSpec_Dyadic a0] (fun r => r = di .i64 r0) := by
  refine FnD.of (by kernel_rfl) Try.func45 rfl Try.ntmps45 rfl (leb rfl) fun W ok => ?_
  unfold p_Dyadic_Sign at h0
  refine AC.seq ?_
  refine AC.region ?_
  refine AO.op rfl (AOp.box rfl rfl (ltb rfl) rfl rfl ?_)
  refine AO.op rfl (AOp.assign rfl rfl (ltb rfl) rfl ?_)
  refine AO.nil ?_
  change AC _ _ _ _
  refine AC.seq ?_
  refine AC.region ?_
  refine AO.op rfl (AOp.fieldAddr rfl rfl (ltb rfl) rfl fo32_0 ?_)
  refine AO.op rfl (AOp.loadN rfl rfl (ltb rfl) rfl agg30 size30 rfl (leb rfl) rfl ?_)
  obtain ⟨y1, q2, h0⟩ := bind_elim h0
  refine AO.op rfl (AOp.callD rfl rfl (ltb rfl) rfl rfl (w_Whole_Sign a0.N y1 q2) ?_)
  rintro _ rfl
  refine AO.op rfl (AOp.assign rfl rfl (ltb rfl) rfl ?_)
  refine AO.nil ?_
  change AC _ _ _ _
  refine AC.ret ?_
  change RetQ _ _ _ .ret _
  obtain rfl := Option.some.inj h0
  refine retq rfl rfl

set_option maxRecDepth 100000 in
set_option maxHeartbeats 1000000 in
/-- (pub-orthodrome/spec.Whole).Up -/
theorem w_Whole_Up (F : Nat) (a0 : TSpec_Whole) (a1 : Int) (r0 : TSpec_Whole) (h0 : p_Whole_Up F a0 a1 = some r0) : FnD Try.prog 89 [e_TSpec_Whole a0, di .i64 a1] (fun r => r = e_TSpec_Whole r0) := by
  refine FnD.of (by kernel_rfl) Try.func89 rfl Try.ntmps89 rfl (leb rfl) fun W ok => ?_
  unfold p_Whole_Up at h0
  refine AC.seq ?_
  refine AC.region ?_
  refine AO.op rfl (AOp.box rfl rfl (ltb rfl) rfl rfl ?_)
  refine AO.op rfl (AOp.alloc rfl rfl (ltb rfl) zero30 rfl ?_)
  refine AO.nil ?_
  change AC _ _ _ _
  refine AC.seq ?_
  refine AC.seq ?_
  refine AC.region ?_
  refine AO.op rfl (AOp.fieldAddr rfl rfl (ltb rfl) rfl fo30_1 ?_)
  refine AO.op rfl (AOp.load1 rfl rfl (ltb rfl) rfl agg28 rfl rfl ?_)
  refine AO.op rfl (AOp.lenDs (n := a0.L.length) (cells := (List.map keS2 a0.L)) rfl rfl (ltb rfl) rfl el28 (by decide) (len1 _ _) ?_)
  refine AO.op rfl (AOp.ieql rfl rfl (ltb rfl) rfl rfl ?_)
  refine AO.nil ?_
  change AC _ _ _ _
  refine AC.cond rfl (fun q1 => ?_) (fun q1 => ?_)
  · replace h0 := cT h0 q1
    refine AC.seq ?_
    refine AC.region ?_
    refine AO.op rfl (AOp.loadN rfl rfl (ltb rfl) rfl agg30 size30 rfl (leb rfl) rfl ?_)
    refine AO.op rfl (AOp.store rfl rfl rfl rfl size30 rfl rfl rfl (leb rfl) ?_)
    refine AO.nil ?_
    change AC _ _ _ _
    refine AC.ret ?_
    change RetQ _ _ _ .ret _
    obtain rfl := Option.some.inj h0
    refine retq rfl rfl
  · replace h0 := cF h0 q1
    refine AC.skip ?_
    change AC _ _ _ _
    refine AC.seq ?_
    refine AC.region ?_
    refine AO.op rfl (AOp.move rfl rfl (ltb rfl) rfl ?_)
    obtain ⟨q2, h0⟩ := need_elim h0
    refine AO.op rfl (AOp.iquo rfl rfl (ltb rfl) rfl rfl q2.1 rfl q2.2.1 q2.2.2 ?_)
    refine AO.op rfl (AOp.move rfl rfl (ltb rfl) rfl ?_)
    obtain ⟨q3, h0⟩ := need_elim h0
    refine AO.op rfl (AOp.iquo rfl rfl (ltb rfl) rfl rfl q3.1 rfl q3.2.1 q3.2.2 ?_)
    refine AO.op rfl (AOp.fieldAddr rfl rfl (ltb rfl) rfl fo30_1 ?_)
    refine AO.op rfl (AOp.load1 rfl rfl (ltb rfl) rfl agg28 rfl rfl ?_)
    refine AO.op rfl (AOp.lenDs (n := a0.L.length) (cells := (List.map keS2 a0.L)) rfl rfl (ltb rfl) rfl el28 (by decide) (len1 _ _) ?_)
    obtain ⟨q4, h0⟩ := need_elim h0
    refine AO.op rfl (AOp.iadd rfl rfl (ltb rfl) rfl rfl rfl q4.1 q4.2 ?_)
    obtain ⟨q5, h0⟩ := need_elim h0
    refine AO.op rfl (AOp.iadd rfl rfl (ltb rfl) rfl rfl rfl q5.1 q5.2 ?_)
    obtain ⟨q6, h0⟩ := need_elim h0
    refine AO.op rfl (AOp.makeOwnN (f := keS2) (z0 := (0 : Int)) rfl rfl (ltb rfl) rfl rfl el28 info106 rfl rfl (by decide) q6 rfl ?_)
    refine AO.op rfl (AOp.assign rfl rfl (ltb rfl) rfl ?_)
    refine AO.nil ?_
    change AC _ _ _ _
    refine AC.seq ?_
    refine AC.region ?_
    refine AO.op rfl (AOp.assign rfl rfl (ltb rfl) rfl ?_)
    refine AO.nil ?_
    change AC _ _ _ _
    refine AC.seq ?_
    refine AC.seq ?_
    refine AC.region ?_
    refine AO.op rfl (AOp.fieldAddr rfl rfl (ltb rfl) rfl fo30_1 ?_)
    refine AO.op rfl (AOp.load1 rfl rfl (ltb rfl) rfl agg28 rfl rfl ?_)
    refine AO.op rfl (AOp.lenDs (n := a0.L.length) (cells := (List.map keS2 a0.L)) rfl rfl (ltb rfl) rfl el28 (by decide) (len1 _ _) ?_)
    refine AO.op rfl (AOp.move rfl rfl (ltb rfl) rfl ?_)
    refine AO.nil ?_
    change AC _ _ _ _
    obtain ⟨o7, l8, h0⟩ := bind_elim h0
    refine AC.joinE (V := (Int × (List Int))) [2, 4] [5, 6] 3 (fun g9 => [(5, .own 2), (6, .d (di .u32 g9.1))]) (fun g9 => [.fix 30 [.d (dbool a0.Neg), .d (eS2 a0.L)], .fix 30 [.d (dbool false), .d (.v (.slice none 0 0))], .grow 106 1 (List.map keS2 g9.2)]) (fun g9 => (p_Whole_Up_k1 a0 F) g9 = some r0) rfl ?_ ?_
    · refine AC.block ?_
      refine AC.loopP (V := (Int × Int × (List Int))) (p_Whole_Up_l2 a0 a1) o7 [1, 2, 4, 26, 27] [5, 6, 28] 3 (fun g13 => [(5, .own 2), (6, .d (di .u32 g13.1)), (28, .d (di .i64 g13.2.1))]) (fun g13 => [.fix 30 [.d (dbool a0.Neg), .d (eS2 a0.L)], .fix 30 [.d (dbool false), .d (.v (.slice none 0 0))], .grow 106 1 (List.map keS2 g13.2.2)]) F ((0 : Int), (0 : Int), (List.replicate ((Int.tdiv a1 (32 : Int))).toNat (0 : Int))) l8 rfl rfl (LeL.refl _) rfl rfl ?_
      intro n15 g13 h1
      unfold p_Whole_Up_l2 at h1
      refine AC.seq ?_
      refine AC.region ?_
      refine AO.op rfl (AOp.ilss rfl rfl (ltb rfl) rfl rfl ?_)
      refine AO.nil ?_
      change AC _ _ _ _
      refine AC.seq ?_
      refine AC.cond rfl (fun q16 => ?_) (fun q16 => ?_)
      · replace h1 := cT h1 q16
        refine AC.skip ?_
        change AC _ _ _ _
        refine AC.seq ?_
        refine AC.block ?_
        refine AC.seq ?_
        refine AC.region ?_
        obtain ⟨x17, q18, h1⟩ := idx_elim h1
        refine AO.op rfl (AOp.indexDs (cells := (List.map keS2 a0.L)) rfl rfl (ltb rfl) rfl rfl el28 (by decide) q18.1 (lt1 q18.2) ?_)
        refine AO.op rfl (AOp.loadEp rfl rfl (ltb rfl) rfl agg106 (at1 q18.2) ?_)
        refine AO.op rfl (AOp.assign rfl rfl (ltb rfl) rfl ?_)
        refine AO.nil ?_
        change AC _ _ _ _
        refine AC.seq ?_
        refine AC.region ?_
        refine AO.op rfl (AOp.move rfl rfl (ltb rfl) rfl ?_)
        refine AO.op rfl (AOp.i2i rfl rfl (ltb rfl) rfl Try.underlying106 Try.underlying91 rfl ?_)
        refine AO.op rfl (AOp.move rfl rfl (ltb rfl) rfl ?_)
        obtain ⟨q19, h1⟩ := need_elim h1
        refine AO.op rfl (AOp.irem rfl rfl (ltb rfl) rfl rfl q19 rfl ?_)
        obtain ⟨q20, h1⟩ := need_elim h1
        refine AO.op rfl (AOp.ishl' rfl rfl (ltb rfl) rfl rfl q20 ?_)
        refine AO.op rfl (AOp.assign rfl rfl (ltb rfl) rfl ?_)
        refine AO.nil ?_
        change AC _ _ _ _
        refine AC.seq ?_
        refine AC.region ?_
        refine AO.op rfl (AOp.move rfl rfl (ltb rfl) rfl ?_)
        refine AO.op rfl (AOp.move rfl rfl (ltb rfl) rfl ?_)
        refine AO.op rfl (AOp.i2i rfl rfl (ltb rfl) rfl Try.underlying91 Try.underlying106 rfl ?_)
        refine AO.op rfl (AOp.move rfl rfl (ltb rfl) rfl ?_)
        refine AO.op rfl (AOp.ibits (by simp) rfl rfl (ltb rfl) rfl rfl rfl ?_)
        refine AO.op rfl (AOp.buildSliceD rfl rfl (ltb rfl) el28 zero106 rfl (leb rfl) rfl rfl rfl rfl ?_)
        obtain ⟨q21, h1⟩ := need_elim h1
        refine AO.op rfl (AOp.appendOwn' (n := g13.2.2.length) (m := [(bits .or .u32 (IntKind.u32.wrap (IntKind.u64.wrap ((IntKind.u64.wrap x17) * 2 ^ ((Int.tmod a1 (32 : Int))).toNat))) g13.1)].length) (news := (List.map keS2 [(bits .or .u32 (IntKind.u32.wrap (IntKind.u64.wrap ((IntKind.u64.wrap x17) * 2 ^ ((Int.tmod a1 (32 : Int))).toNat))) g13.1)])) rfl rfl (ltb rfl) rfl rfl el28 info106 rfl (by decide) rfl (len1 _ _) (len1 _ _) (one1 _ (fun _ => rfl) _) q21 (by decide) rfl rfl (cat1 _ _ _) ?_)
        refine AO.op rfl (AOp.assign rfl rfl (ltb rfl) rfl ?_)
        refine AO.nil ?_
        change AC _ _ _ _
        refine AC.region ?_
        refine AO.op rfl (AOp.move rfl rfl (ltb rfl) rfl ?_)
        obtain ⟨q22, h1⟩ := need_elim h1
        refine AO.op rfl (AOp.ishr (n := 32) rfl rfl (ltb rfl) rfl rfl (by decide) q22 rfl ?_)
        refine AO.op rfl (AOp.i2i rfl rfl (ltb rfl) rfl Try.underlying91 Try.underlying106 rfl ?_)
        refine AO.op rfl (AOp.assign rfl rfl (ltb rfl) rfl ?_)
        refine AO.nil ?_
        change AC _ _ _ _
        refine AC.region ?_
        obtain ⟨q23, h1⟩ := need_elim h1
        refine AO.op rfl (AOp.iadd rfl rfl (ltb rfl) rfl rfl rfl q23.1 q23.2 ?_)
        refine AO.op rfl (AOp.move rfl rfl (ltb rfl) rfl ?_)
        refine AO.nil ?_
        exact ⟨((IntKind.u32.wrap ((IntKind.u64.wrap ((IntKind.u64.wrap x17) * 2 ^ ((Int.tmod a1 (32 : Int))).toNat)) / 2 ^ 32)), (g13.2.1 + (1 : Int)), (g13.2.2 ++ [(bits .or .u32 (IntKind.u32.wrap (IntKind.u64.wrap ((IntKind.u64.wrap x17) * 2 ^ ((Int.tmod a1 (32 : Int))).toNat))) g13.1)])), _, rfl, (LeL.refl _), rfl, rfl, h1⟩
      · replace h1 := cF h1 q16
        refine AC.exit ?_
        obtain rfl := Option.some.inj h1
        exact ⟨(g13.1, g13.2.2), _, rfl, (LeL.refl _), rfl, rfl, aftL h0⟩
    · intro g9 h0
      unfold p_Whole_Up_k1 at h0
      change AC _ _ _ _
      refine AC.seq ?_
      obtain ⟨q10, h0⟩ := need_elim h0
      obtain ⟨y11, q12, h0⟩ := bind_elim h0
      refine AC.drawS [0, 1, 2, 3, 4, 5, 6] [5, 6] [7, 8] (fun L => [.fix 30 [.d (dbool a0.Neg), .d (eS2 a0.L)], .fix 30 [.d (dbool false), .d (.v (.slice none 0 0))], bif L 6 then .dead else bif L 5 then .grow 106 1 (List.map keS2 (g9.2 ++ [g9.1])) else .grow 106 1 (List.map keS2 g9.2)]) [(5, SV.noO 2), (6, SV.noO 2)] mixed (by kernel_rfl) (fun L L' h => by simp only [h 5 (by decide), h 6 (by decide)]) rfl ?_
      refine AS.op [2] [] [] [5, 6] rfl rfl rfl (by kernel_rfl) (by kernel_rfl) rfl rfl (fun _ _ _ h => AOp.fieldAddr rfl rfl (ltb rfl) rfl fo30_0 h) (by kernel_rfl) ?_
      refine AS.op [48] [] [] [5, 6] rfl rfl rfl (by kernel_rfl) (by kernel_rfl) rfl rfl (fun _ _ _ h => AOp.load1 rfl rfl (ltb rfl) rfl agg4 rfl rfl h) (by kernel_rfl) ?_
      refine AS.op [5] [] [5, 6] [] rfl rfl rfl (by kernel_rfl) (by kernel_rfl) rfl rfl (fun _ _ _ h => AOp.move rfl rfl (ltb rfl) rfl h) (by kernel_rfl) ?_
      refine AS.op [6] [] [5, 6] [] rfl rfl rfl (by kernel_rfl) (by kernel_rfl) rfl rfl (fun _ _ _ h => AOp.move rfl rfl (ltb rfl) rfl h) (by kernel_rfl) ?_
      refine AS.op [51] [] [5, 6] [] rfl rfl rfl (by kernel_rfl) (by kernel_rfl) rfl rfl (fun _ _ _ h => AOp.buildSliceD rfl rfl (ltb rfl) el28 zero106 rfl (leb rfl) rfl rfl rfl rfl h) (by kernel_rfl) ?_
      refine AS.mid [50, 52] [] [6, 5] [] rfl rfl rfl rfl (by kernel_rfl) (by kernel_rfl) rfl rfl (fun _ _ _ h => AOp.appendOwn' (n := g9.2.length) (m := [g9.1].length) (news := (List.map keS2 [g9.1])) rfl rfl (ltb rfl) rfl rfl el28 info106 rfl (by decide) rfl (len1 _ _) (len1 _ _) (one1 _ (fun _ => rfl) _) q10 (by decide) (allNo (.cons rfl (.cons rfl (.cons rfl .nil)))) rfl (cat1 _ _ _) (AO.dropped h)) (by kernel_rfl) rfl ?_
      refine AS.mid [53] [5] [6] [] rfl rfl rfl rfl (by kernel_rfl) (by kernel_rfl) rfl rfl (fun _ _ _ h => AOp.freezeDrop 53 2 rfl rfl rfl (AOp.callD rfl rfl (ltb rfl) rfl rfl (w_trim F (g9.2 ++ [g9.1]) y11 q12) (by rintro _ rfl; exact AO.forget1 (.inr trivial) h (.inl (dropped_none rfl rfl))))) (by kernel_rfl) rfl ?_
      refine AS.done ?_
      refine AO.objs (obs' := [.fix 30 [.d (dbool a0.Neg), .d (eS2 a0.L)], .fix 30 [.d (dbool false), .d (.v (.slice none 0 0))], .dead]) rfl ?_
      refine AO.op rfl (AOp.build rfl rfl (ltb rfl) zero30 rfl places30 rfl rfl ?_)
      refine AO.op rfl (AOp.store rfl rfl rfl rfl size30 rfl rfl rfl (leb rfl) ?_)
      refine AO.nil ?_
      change AC _ _ _ _
      refine AC.ret ?_
      change RetQ _ _ _ .ret _
      obtain rfl := Option.some.inj h0
      refine retq rfl rfl

set_option maxRecDepth 100000 in
set_option maxHeartbeats 1000000 in
/-- pub-orthodrome/spec.addLimbs -/
theorem w_addLimbs (F : Nat) (a0 : (List Int)) (a1 : (List Int)) (r0 : (List Int)) (h0 : p_addLimbs F a0 a1 = some r0) : FnD Try.prog 97 [eS2 a0, eS2 a1] (fun r => r = eS2 r0) := by
  refine FnD.of (by kernel_rfl) Try.func97 rfl Try.ntmps97 rfl (leb rfl) fun W ok => ?_
  unfold p_addLimbs at h0
  refine AC.seq ?_
  refine AC.region ?_
  refine AO.op rfl (AOp.assign rfl rfl (ltb rfl) rfl ?_)
  refine AO.nil ?_
  change AC _ _ _ _
  refine AC.joinP (V := ((List Int) × (List Int))) [] [0, 1] 0 (fun g1 => [(0, .d (eS2 g1.1)), (1, .d (eS2 g1.2))]) (fun g1 => []) (fun g1 => (p_addLimbs_k1 F) g1 = some r0) rfl ?_ ?_
  · refine AC.seq ?_
    refine AC.region ?_
    refine AO.op rfl (AOp.move rfl rfl (ltb rfl) rfl ?_)
    refine AO.op rfl (AOp.lenDs (n := a0.length) (cells := (List.map keS2 a0)) rfl rfl (ltb rfl) rfl el28 (by decide) (len1 _ _) ?_)
    refine AO.op rfl (AOp.move rfl rfl (ltb rfl) rfl ?_)
    refine AO.op rfl (AOp.lenDs (n := a1.length) (cells := (List.map keS2 a1)) rfl rfl (ltb rfl) rfl el28 (by decide) (len1 _ _) ?_)
    refine AO.op rfl (AOp.ilss rfl rfl (ltb rfl) rfl rfl ?_)
    refine AO.nil ?_
    change AC _ _ _ _
    refine AC.cond rfl (fun q25 => ?_) (fun q25 => ?_)
    · replace h0 := cT h0 q25
      refine AC.region ?_
      refine AO.op rfl (AOp.move rfl rfl (ltb rfl) rfl ?_)
      refine AO.op rfl (AOp.move rfl rfl (ltb rfl) rfl ?_)
      refine AO.op rfl (AOp.assign rfl rfl (ltb rfl) rfl ?_)
      refine AO.op rfl (AOp.assign rfl rfl (ltb rfl) rfl ?_)
      refine AO.nil ?_
      exact ⟨(a1, a0), _, rfl, (LeL.refl _), rfl, rfl, h0⟩
    · replace h0 := cF h0 q25
      refine AC.skip ?_
      exact ⟨(a0, a1), _, rfl, (LeL.refl _), rfl, rfl, h0⟩
  · intro g1 h0
    unfold p_addLimbs_k1 at h0
    refine AC.seq ?_
    refine AC.region ?_
    refine AO.op rfl (AOp.move rfl rfl (ltb rfl) rfl ?_)
    refine AO.op rfl (AOp.lenDs (n := g1.1.length) (cells := (List.map keS2 g1.1)) rfl rfl (ltb rfl) rfl el28 (by decide) (len1 _ _) ?_)
    obtain ⟨q2, h0⟩ := need_elim h0
    refine AO.op rfl (AOp.iadd rfl rfl (ltb rfl) rfl rfl rfl q2.1 q2.2 ?_)
    obtain ⟨q3, h0⟩ := need_elim h0
    refine AO.op rfl (AOp.makeOwn0 rfl rfl (ltb rfl) rfl rfl el28 info106 (by decide) q3 ?_)
    refine AO.op rfl (AOp.assign rfl rfl (ltb rfl) rfl ?_)
    refine AO.nil ?_
    change AC _ _ _ _
    refine AC.seq ?_
    refine AC.region ?_
    refine AO.op rfl (AOp.assign rfl rfl (ltb rfl) rfl ?_)
    refine AO.nil ?_
    change AC _ _ _ _
    refine AC.seq ?_
    refine AC.seq ?_
    refine AC.region ?_
    refine AO.op rfl (AOp.move rfl rfl (ltb rfl) rfl ?_)
    refine AO.op rfl (AOp.lenDs (n := g1.1.length) (cells := (List.map keS2 g1.1)) rfl rfl (ltb rfl) rfl el28 (by decide) (len1 _ _) ?_)
    refine AO.op rfl (AOp.move rfl rfl (ltb rfl) rfl ?_)
    refine AO.nil ?_
    change AC _ _ _ _
    obtain ⟨o4, l5, h0⟩ := bind_elim h0
    refine AC.joinE (V := (Int × (List Int))) [] [5, 6] 1 (fun g6 => [(5, .own 0), (6, .d (di .u64 g6.1))]) (fun g6 => [.grow 106 1 (List.map keS2 g6.2)]) (fun g6 => (p_addLimbs_k2 F) g6 = some r0) rfl ?_ ?_
    · refine AC.block ?_
      refine AC.loopP (V := (Int × Int × (List Int))) (p_addLimbs_l3 g1) o4 [1, 21, 22] [5, 6, 23] 1 (fun g10 => [(5, .own 0), (6, .d (di .u64 g10.1)), (23, .d (di .i64 g10.2.1))]) (fun g10 => [.grow 106 1 (List.map keS2 g10.2.2)]) F ((0 : Int), (0 : Int), []) l5 rfl rfl (LeL.refl _) rfl rfl ?_
      intro n12 g10 h1
      unfold p_addLimbs_l3 at h1
      refine AC.seq ?_
      refine AC.region ?_
      refine AO.op rfl (AOp.ilss rfl rfl (ltb rfl) rfl rfl ?_)
      refine AO.nil ?_
      change AC _ _ _ _
      refine AC.seq ?_
      refine AC.cond rfl (fun q13 => ?_) (fun q13 => ?_)
      · replace h1 := cT h1 q13
        refine AC.skip ?_
        change AC _ _ _ _
        refine AC.seq ?_
        refine AC.block ?_
        refine AC.seq ?_
        refine AC.region ?_
        refine AO.op rfl (AOp.move rfl rfl (ltb rfl) rfl ?_)
        obtain ⟨x14, q15, h1⟩ := idx_elim h1
        refine AO.op rfl (AOp.indexDs (cells := (List.map keS2 g1.1)) rfl rfl (ltb rfl) rfl rfl el28 (by decide) q15.1 (lt1 q15.2) ?_)
        refine AO.op rfl (AOp.loadEp rfl rfl (ltb rfl) rfl agg106 (at1 q15.2) ?_)
        refine AO.op rfl (AOp.assign rfl rfl (ltb rfl) rfl ?_)
        refine AO.op rfl (AOp.assign rfl rfl (ltb rfl) rfl ?_)
        refine AO.nil ?_
        change AC _ _ _ _
        refine AC.seq ?_
        refine AC.region ?_
        refine AO.op rfl (AOp.move rfl rfl (ltb rfl) rfl ?_)
        refine AO.op rfl (AOp.i2i rfl rfl (ltb rfl) rfl Try.underlying106 Try.underlying91 rfl ?_)
        refine AO.op rfl (AOp.move rfl rfl (ltb rfl) rfl ?_)
        obtain ⟨q16, h1⟩ := need_elim h1
        refine AO.op rfl (AOp.iadd rfl rfl (ltb rfl) rfl rfl rfl q16.1 q16.2 ?_)
        refine AO.op rfl (AOp.assign rfl rfl (ltb rfl) rfl ?_)
        refine AO.nil ?_
        change AC _ _ _ _
        refine AC.joinP (V := Int) [1, 5, 21, 22, 23] [9] 1 (fun g17 => [(9, .d (di .u64 g17))]) (fun g17 => [.grow 106 1 (List.map keS2 g10.2.2)]) (fun g17 => (p_addLimbs_k4 g10 (iter (p_addLimbs_l3 g1) n12)) g17 = some o4) rfl ?_ ?_
        · refine AC.seq ?_
          refine AC.region ?_
          refine AO.op rfl (AOp.move rfl rfl (ltb rfl) rfl ?_)
          refine AO.op rfl (AOp.move rfl rfl (ltb rfl) rfl ?_)
          refine AO.op rfl (AOp.lenDs (n := g1.2.length) (cells := (List.map keS2 g1.2)) rfl rfl (ltb rfl) rfl el28 (by decide) (len1 _ _) ?_)
          refine AO.op rfl (AOp.ilss rfl rfl (ltb rfl) rfl rfl ?_)
          refine AO.nil ?_
          change AC _ _ _ _
          refine AC.cond rfl (fun q21 => ?_) (fun q21 => ?_)
          · replace h1 := cT h1 q21
            refine AC.region ?_
            refine AO.op rfl (AOp.move rfl rfl (ltb rfl) rfl ?_)
            refine AO.op rfl (AOp.move rfl rfl (ltb rfl) rfl ?_)
            refine AO.op rfl (AOp.move rfl rfl (ltb rfl) rfl ?_)
            obtain ⟨x22, q23, h1⟩ := idx_elim h1
            refine AO.op rfl (AOp.indexDs (cells := (List.map keS2 g1.2)) rfl rfl (ltb rfl) rfl rfl el28 (by decide) q23.1 (lt1 q23.2) ?_)
            refine AO.op rfl (AOp.loadEp rfl rfl (ltb rfl) rfl agg106 (at1 q23.2) ?_)
            refine AO.op rfl (AOp.i2i rfl rfl (ltb rfl) rfl Try.underlying106 Try.underlying91 rfl ?_)
            obtain ⟨q24, h1⟩ := need_elim h1
            refine AO.op rfl (AOp.iadd rfl rfl (ltb rfl) rfl rfl rfl q24.1 q24.2 ?_)
            refine AO.op rfl (AOp.assign rfl rfl (ltb rfl) rfl ?_)
            refine AO.nil ?_
            exact ⟨(((IntKind.u64.wrap x14) + g10.1) + (IntKind.u64.wrap x22)), _, rfl, (LeL.refl _), rfl, rfl, h1⟩
          · replace h1 := cF h1 q21
            refine AC.skip ?_
            exact ⟨((IntKind.u64.wrap x14) + g10.1), _, rfl, (LeL.refl _), rfl, rfl, h1⟩
        · intro g17 h1
          unfold p_addLimbs_k4 at h1
          refine AC.seq ?_
          refine AC.region ?_
          refine AO.op rfl (AOp.move rfl rfl (ltb rfl) rfl ?_)
          refine AO.op rfl (AOp.move rfl rfl (ltb rfl) rfl ?_)
          refine AO.op rfl (AOp.i2i rfl rfl (ltb rfl) rfl Try.underlying91 Try.underlying106 rfl ?_)
          refine AO.op rfl (AOp.buildSliceD rfl rfl (ltb rfl) el28 zero106 rfl (leb rfl) rfl rfl rfl rfl ?_)
          obtain ⟨q18, h1⟩ := need_elim h1
          refine AO.op rfl (AOp.appendOwn' (n := g10.2.2.length) (m := [(IntKind.u32.wrap g17)].length) (news := (List.map keS2 [(IntKind.u32.wrap g17)])) rfl rfl (ltb rfl) rfl rfl el28 info106 rfl (by decide) rfl (len1 _ _) (len1 _ _) (one1 _ (fun _ => rfl) _) q18 (by decide) rfl rfl (cat1 _ _ _) ?_)
          refine AO.op rfl (AOp.assign rfl rfl (ltb rfl) rfl ?_)
          refine AO.nil ?_
          change AC _ _ _ _
          refine AC.region ?_
          refine AO.op rfl (AOp.move rfl rfl (ltb rfl) rfl ?_)
          obtain ⟨q19, h1⟩ := need_elim h1
          refine AO.op rfl (AOp.ishr (n := 32) rfl rfl (ltb rfl) rfl rfl (by decide) q19 rfl ?_)
          refine AO.op rfl (AOp.assign rfl rfl (ltb rfl) rfl ?_)
          refine AO.nil ?_
          change AC _ _ _ _
          refine AC.region ?_
          obtain ⟨q20, h1⟩ := need_elim h1
          refine AO.op rfl (AOp.iadd rfl rfl (ltb rfl) rfl rfl rfl q20.1 q20.2 ?_)
          refine AO.op rfl (AOp.move rfl rfl (ltb rfl) rfl ?_)
          refine AO.nil ?_
          exact ⟨((g17 / 2 ^ 32), (g10.2.1 + (1 : Int)), (g10.2.2 ++ [(IntKind.u32.wrap g17)])), _, rfl, (LeL.refl _), rfl, rfl, h1⟩
      · replace h1 := cF h1 q13
        refine AC.exit ?_
        obtain rfl := Option.some.inj h1
        exact ⟨(g10.1, g10.2.2), _, rfl, (LeL.refl _), rfl, rfl, aftL h0⟩
    · intro g6 h0
      unfold p_addLimbs_k2 at h0
      change AC _ _ _ _
      refine AC.seq ?_
      refine AC.region ?_
      refine AO.op rfl (AOp.move rfl rfl (ltb rfl) rfl ?_)
      refine AO.op rfl (AOp.move rfl rfl (ltb rfl) rfl ?_)
      refine AO.op rfl (AOp.i2i rfl rfl (ltb rfl) rfl Try.underlying91 Try.underlying106 rfl ?_)
      refine AO.op rfl (AOp.buildSliceD rfl rfl (ltb rfl) el28 zero106 rfl (leb rfl) rfl rfl rfl rfl ?_)
      obtain ⟨q7, h0⟩ := need_elim h0
      refine AO.op rfl (AOp.appendOwn' (n := g6.2.length) (m := [(IntKind.u32.wrap g6.1)].length) (news := (List.map keS2 [(IntKind.u32.wrap g6.1)])) rfl rfl (ltb rfl) rfl rfl el28 info106 rfl (by decide) rfl (len1 _ _) (len1 _ _) (one1 _ (fun _ => rfl) _) q7 (by decide) rfl rfl (cat1 _ _ _) ?_)
      refine AO.freezeG 0 rfl rfl rfl ?_
      obtain ⟨y8, q9, h0⟩ := bind_elim h0
      refine AO.op rfl (AOp.callD rfl rfl (ltb rfl) rfl rfl (w_trim F (g6.2 ++ [(IntKind.u32.wrap g6.1)]) y8 q9) ?_)
      rintro _ rfl
      refine AO.op rfl (AOp.assign rfl rfl (ltb rfl) rfl ?_)
      refine AO.nil ?_
      change AC _ _ _ _
      refine AC.ret ?_
      change RetQ _ _ _ .ret _
      obtain rfl := Option.some.inj h0
      refine retq rfl rfl

set_option maxRecDepth 100000 in
set_option maxHeartbeats 1000000 in
/-- pub-orthodrome/spec.cmpLimbs -/
theorem w_cmpLimbs (F : Nat) (a0 : (List Int)) (a1 : (List Int)) (r0 : Int) (h0 : p_cmpLimbs F a0 a1 = some r0) : FnD Try.prog 98 [eS2 a0, eS2 a1] (fun r => r = di .i64 r0) := by
  refine FnD.of (by kernel_rfl) Try.func98 rfl Try.ntmps98 rfl (leb rfl) fun W ok => ?_
  unfold p_cmpLimbs at h0
  refine AC.seq ?_
  refine AC.region ?_
  refine AO.op rfl (AOp.assign rfl rfl (ltb rfl) rfl ?_)
  refine AO.nil ?_
  change AC _ _ _ _
  refine AC.seq ?_
  refine AC.seq ?_
  refine AC.region ?_
  refine AO.op rfl (AOp.move rfl rfl (ltb rfl) rfl ?_)
  refine AO.op rfl (AOp.lenDs (n := a0.length) (cells := (List.map keS2 a0)) rfl rfl (ltb rfl) rfl el28 (by decide) (len1 _ _) ?_)
  refine AO.op rfl (AOp.move rfl rfl (ltb rfl) rfl ?_)
  refine AO.op rfl (AOp.lenDs (n := a1.length) (cells := (List.map keS2 a1)) rfl rfl (ltb rfl) rfl el28 (by decide) (len1 _ _) ?_)
  refine AO.op rfl (AOp.ineq rfl rfl (ltb rfl) rfl rfl ?_)
  refine AO.nil ?_
  change AC _ _ _ _
  refine AC.cond rfl (fun q1 => ?_) (fun q1 => ?_)
  · replace h0 := cT h0 q1
    refine AC.seq ?_
    refine AC.seq ?_
    refine AC.region ?_
    refine AO.op rfl (AOp.move rfl rfl (ltb rfl) rfl ?_)
    refine AO.op rfl (AOp.lenDs (n := a0.length) (cells := (List.map keS2 a0)) rfl rfl (ltb rfl) rfl el28 (by decide) (len1 _ _) ?_)
    refine AO.op rfl (AOp.move rfl rfl (ltb rfl) rfl ?_)
    refine AO.op rfl (AOp.lenDs (n := a1.length) (cells := (List.map keS2 a1)) rfl rfl (ltb rfl) rfl el28 (by decide) (len1 _ _) ?_)
    refine AO.op rfl (AOp.ilss rfl rfl (ltb rfl) rfl rfl ?_)
    refine AO.nil ?_
    change AC _ _ _ _
    refine AC.cond rfl (fun q2 => ?_) (fun q2 => ?_)
    · replace h0 := cT h0 q2
      refine AC.seq ?_
      refine AC.region ?_
      refine AO.op rfl (AOp.assign rfl rfl (ltb rfl) rfl ?_)
      refine AO.nil ?_
      change AC _ _ _ _
      refine AC.ret ?_
      change RetQ _ _ _ .ret _
      obtain rfl := Option.some.inj h0
      refine retq rfl rfl
    · replace h0 := cF h0 q2
      refine AC.skip ?_
      change AC _ _ _ _
      refine AC.seq ?_
      refine AC.region ?_
      refine AO.op rfl (AOp.assign rfl rfl (ltb rfl) rfl ?_)
      refine AO.nil ?_
      change AC _ _ _ _
      refine AC.ret ?_
      change RetQ _ _ _ .ret _
      obtain rfl := Option.some.inj h0
      refine retq rfl rfl
  · replace h0 := cF h0 q1
    refine AC.skip ?_
    change AC _ _ _ _
    refine AC.seq ?_
    refine AC.seq ?_
    refine AC.region ?_
    refine AO.op rfl (AOp.move rfl rfl (ltb rfl) rfl ?_)
    refine AO.op rfl (AOp.lenDs (n := a0.length) (cells := (List.map keS2 a0)) rfl rfl (ltb rfl) rfl el28 (by decide) (len1 _ _) ?_)
    obtain ⟨q3, h0⟩ := need_elim h0
    refine AO.op rfl (AOp.isub rfl rfl (ltb rfl) rfl rfl rfl q3.1 q3.2 ?_)
    refine AO.op rfl (AOp.assign rfl rfl (ltb rfl) rfl ?_)
    refine AO.nil ?_
    change AC _ _ _ _
    obtain ⟨o4, l5, h0⟩ := bind_elim h0
    refine AC.joinE (V := Unit) [] [] 0 (fun g6 => []) (fun g6 => []) (fun g6 => p_cmpLimbs_k1 g6 = some r0) rfl ?_ ?_
    · refine AC.block ?_
      refine AC.loopP (V := Int) (p_cmpLimbs_l2 a0 a1) o4 [0, 1] [5] 0 (fun g7 => [(5, .d (di .i64 g7))]) (fun g7 => []) F (((a0.length : Nat) : Int) - (1 : Int)) l5 rfl rfl (LeL.refl _) rfl rfl ?_
      intro n9 g7 h1
      unfold p_cmpLimbs_l2 at h1
      refine AC.seq ?_
      refine AC.seq ?_
      refine AC.region ?_
      refine AO.op rfl (AOp.move rfl rfl (ltb rfl) rfl ?_)
      refine AO.op rfl (AOp.igeq rfl rfl (ltb rfl) rfl rfl ?_)
      refine AO.nil ?_
      change AC _ _ _ _
      refine AC.cond rfl (fun q10 => ?_) (fun q10 => ?_)
      · replace h1 := cT h1 q10
        refine AC.skip ?_
        change AC _ _ _ _
        refine AC.seq ?_
        refine AC.block ?_
        refine AC.seq ?_
        refine AC.draw 9 mixed (by kernel_rfl) ?_
        refine AD.op [0] rfl (by kernel_rfl) rfl rfl (fun _ _ h => AOp.move rfl rfl (ltb rfl) rfl h) ?_
        refine AD.op [5] rfl (by kernel_rfl) rfl rfl (fun _ _ h => AOp.move rfl rfl (ltb rfl) rfl h) ?_
        obtain ⟨x11, q12, h1⟩ := idx_elim h1
        refine AD.op [23, 24] rfl (by kernel_rfl) rfl rfl (fun _ _ h => AOp.indexDs (cells := (List.map keS2 a0)) rfl rfl (ltb rfl) rfl rfl el28 (by decide) q12.1 (lt1 q12.2) h) ?_
        refine AD.op [25] rfl (by kernel_rfl) rfl rfl (fun _ _ h => AOp.loadEp rfl rfl (ltb rfl) rfl agg106 (at1 q12.2) h) ?_
        refine AD.op [1] rfl (by kernel_rfl) rfl rfl (fun _ _ h => AOp.move rfl rfl (ltb rfl) rfl h) ?_
        refine AD.op [5] rfl (by kernel_rfl) rfl rfl (fun _ _ h => AOp.move rfl rfl (ltb rfl) rfl h) ?_
        obtain ⟨x13, q14, h1⟩ := idx_elim h1
        refine AD.op [27, 28] rfl (by kernel_rfl) rfl rfl (fun _ _ h => AOp.indexDs (cells := (List.map keS2 a1)) rfl rfl (ltb rfl) rfl rfl el28 (by decide) q14.1 (lt1 q14.2) h) ?_
        refine AD.op [29] rfl (by kernel_rfl) rfl rfl (fun _ _ h => AOp.loadEp rfl rfl (ltb rfl) rfl agg106 (at1 q14.2) h) ?_
        refine AD.op [26, 30] rfl (by kernel_rfl) rfl rfl (fun _ _ h => AOp.ineq rfl rfl (ltb rfl) rfl rfl h) ?_
        refine AD.done ?_
        refine AO.nil ?_
        change AC _ _ _ _
        refine AC.cond rfl (fun q15 => ?_) (fun q15 => ?_)
        · replace h1 := cT h1 q15
          refine AC.seq ?_
          refine AC.seq ?_
          refine AC.draw 9 mixed (by kernel_rfl) ?_
          refine AD.op [0] rfl (by kernel_rfl) rfl rfl (fun _ _ h => AOp.move rfl rfl (ltb rfl) rfl h) ?_
          refine AD.op [5] rfl (by kernel_rfl) rfl rfl (fun _ _ h => AOp.move rfl rfl (ltb rfl) rfl h) ?_
          obtain ⟨x16, q17, h1⟩ := idx_elim h1
          refine AD.op [32, 33] rfl (by kernel_rfl) rfl rfl (fun _ _ h => AOp.indexDs (cells := (List.map keS2 a0)) rfl rfl (ltb rfl) rfl rfl el28 (by decide) q17.1 (lt1 q17.2) h) ?_
          refine AD.op [34] rfl (by kernel_rfl) rfl rfl (fun _ _ h => AOp.loadEp rfl rfl (ltb rfl) rfl agg106 (at1 q17.2) h) ?_
          refine AD.op [1] rfl (by kernel_rfl) rfl rfl (fun _ _ h => AOp.move rfl rfl (ltb rfl) rfl h) ?_
          refine AD.op [5] rfl (by kernel_rfl) rfl rfl (fun _ _ h => AOp.move rfl rfl (ltb rfl) rfl h) ?_
          obtain ⟨x18, q19, h1⟩ := idx_elim h1
          refine AD.op [36, 37] rfl (by kernel_rfl) rfl rfl (fun _ _ h => AOp.indexDs (cells := (List.map keS2 a1)) rfl rfl (ltb rfl) rfl rfl el28 (by decide) q19.1 (lt1 q19.2) h) ?_
          refine AD.op [38] rfl (by kernel_rfl) rfl rfl (fun _ _ h => AOp.loadEp rfl rfl (ltb rfl) rfl agg106 (at1 q19.2) h) ?_
          refine AD.op [35, 39] rfl (by kernel_rfl) rfl rfl (fun _ _ h => AOp.ilss rfl rfl (ltb rfl) rfl rfl h) ?_
          refine AD.done ?_
          refine AO.nil ?_
          change AC _ _ _ _
          refine AC.cond rfl (fun q20 => ?_) (fun q20 => ?_)
          · replace h1 := cT h1 q20
            refine AC.seq ?_
            refine AC.region ?_
            refine AO.op rfl (AOp.assign rfl rfl (ltb rfl) rfl ?_)
            refine AO.nil ?_
            change AC _ _ _ _
            refine AC.ret ?_
            change RetQ _ _ _ .ret _
            obtain rfl := Option.some.inj h1
            replace h0 := aftR h0
            obtain rfl := Option.some.inj h0
            refine retq rfl rfl
          · replace h1 := cF h1 q20
            refine AC.skip ?_
            change AC _ _ _ _
            refine AC.seq ?_
            refine AC.region ?_
            refine AO.op rfl (AOp.assign rfl rfl (ltb rfl) rfl ?_)
            refine AO.nil ?_
            change AC _ _ _ _
            refine AC.ret ?_
            change RetQ _ _ _ .ret _
            obtain rfl := Option.some.inj h1
            replace h0 := aftR h0
            obtain rfl := Option.some.inj h0
            refine retq rfl rfl
        · replace h1 := cF h1 q15
          refine AC.skip ?_
          change AC _ _ _ _
          refine AC.region ?_
          refine AO.op rfl (AOp.move rfl rfl (ltb rfl) rfl ?_)
          obtain ⟨q21, h1⟩ := need_elim h1
          refine AO.op rfl (AOp.isub rfl rfl (ltb rfl) rfl rfl rfl q21.1 q21.2 ?_)
          refine AO.op rfl (AOp.assign rfl rfl (ltb rfl) rfl ?_)
          refine AO.nil ?_
          exact ⟨(g7 - (1 : Int)), _, rfl, (LeL.refl _), rfl, rfl, h1⟩
      · replace h1 := cF h1 q10
        refine AC.exit ?_
        obtain rfl := Option.some.inj h1
        exact ⟨(), _, rfl, (LeL.refl _), rfl, rfl, aftL h0⟩
    · intro g6 h0
      unfold p_cmpLimbs_k1 at h0
      change AC _ _ _ _
      refine AC.seq ?_
      refine AC.region ?_
      refine AO.op rfl (AOp.assign rfl rfl (ltb rfl) rfl ?_)
      refine AO.nil ?_
      change AC _ _ _ _
      refine AC.ret ?_
      change RetQ _ _ _ .ret _
      obtain rfl := Option.some.inj h0
      refine retq rfl rfl

set_option maxRecDepth 100000 in
set_option maxHeartbeats 1000000 in
/-- pub-orthodrome/spec.subLimbs -/
theorem w_subLimbs (F : Nat) (a0 : (List Int)) (a1 : (List Int)) (r0 : (List Int)) (h0 : p_subLimbs F a0 a1 = some r0) : FnD Try.prog 99 [eS2 a0, eS2 a1] (fun r => r = eS2 r0) := by
  refine FnD.of (by kernel_rfl) Try.func99 rfl Try.ntmps99 rfl (leb rfl) fun W ok => ?_
  unfold p_subLimbs at h0
  refine AC.seq ?_
  refine AC.region ?_
  refine AO.op rfl (AOp.assign rfl rfl (ltb rfl) rfl ?_)
  refine AO.nil ?_
  change AC _ _ _ _
  refine AC.seq ?_
  refine AC.region ?_
  refine AO.op rfl (AOp.move rfl rfl (ltb rfl) rfl ?_)
  refine AO.op rfl (AOp.lenDs (n := a0.length) (cells := (List.map keS2 a0)) rfl rfl (ltb rfl) rfl el28 (by decide) (len1 _ _) ?_)
  obtain ⟨q1, h0⟩ := need_elim h0
  refine AO.op rfl (AOp.makeOwn0 rfl rfl (ltb rfl) rfl rfl el28 info106 (by decide) q1 ?_)
  refine AO.op rfl (AOp.assign rfl rfl (ltb rfl) rfl ?_)
  refine AO.nil ?_
  change AC _ _ _ _
  refine AC.seq ?_
  refine AC.region ?_
  refine AO.op rfl (AOp.assign rfl rfl (ltb rfl) rfl ?_)
  refine AO.nil ?_
  change AC _ _ _ _
  refine AC.seq ?_
  refine AC.seq ?_
  refine AC.region ?_
  refine AO.op rfl (AOp.move rfl rfl (ltb rfl) rfl ?_)
  refine AO.op rfl (AOp.lenDs (n := a0.length) (cells := (List.map keS2 a0)) rfl rfl (ltb rfl) rfl el28 (by decide) (len1 _ _) ?_)
  refine AO.op rfl (AOp.move rfl rfl (ltb rfl) rfl ?_)
  refine AO.nil ?_
  change AC _ _ _ _
  obtain ⟨o2, l3, h0⟩ := bind_elim h0
  refine AC.joinE (V := (List Int)) [] [5] 1 (fun g4 => [(5, .own 0)]) (fun g4 => [.grow 106 1 (List.map keS2 g4)]) (fun g4 => (p_subLimbs_k1 F) g4 = some r0) rfl ?_ ?_
  · refine AC.block ?_
    refine AC.loopP (V := (Int × Int × (List Int))) (p_subLimbs_l2 a0 a1) o2 [1, 13, 14] [5, 6, 15] 1 (fun g7 => [(5, .own 0), (6, .d (di .u64 g7.1)), (15, .d (di .i64 g7.2.1))]) (fun g7 => [.grow 106 1 (List.map keS2 g7.2.2)]) F ((0 : Int), (0 : Int), []) l3 rfl rfl (LeL.refl _) rfl rfl ?_
    intro n9 g7 h1
    unfold p_subLimbs_l2 at h1
    refine AC.seq ?_
    refine AC.region ?_
    refine AO.op rfl (AOp.ilss rfl rfl (ltb rfl) rfl rfl ?_)
    refine AO.nil ?_
    change AC _ _ _ _
    refine AC.seq ?_
    refine AC.cond rfl (fun q10 => ?_) (fun q10 => ?_)
    · replace h1 := cT h1 q10
      refine AC.skip ?_
      change AC _ _ _ _
      refine AC.seq ?_
      refine AC.block ?_
      refine AC.seq ?_
      refine AC.region ?_
      refine AO.op rfl (AOp.move rfl rfl (ltb rfl) rfl ?_)
      obtain ⟨x11, q12, h1⟩ := idx_elim h1
      refine AO.op rfl (AOp.indexDs (cells := (List.map keS2 a0)) rfl rfl (ltb rfl) rfl rfl el28 (by decide) q12.1 (lt1 q12.2) ?_)
      refine AO.op rfl (AOp.loadEp rfl rfl (ltb rfl) rfl agg106 (at1 q12.2) ?_)
      refine AO.op rfl (AOp.assign rfl rfl (ltb rfl) rfl ?_)
      refine AO.op rfl (AOp.assign rfl rfl (ltb rfl) rfl ?_)
      refine AO.nil ?_
      change AC _ _ _ _
      refine AC.seq ?_
      refine AC.region ?_
      refine AO.op rfl (AOp.move rfl rfl (ltb rfl) rfl ?_)
      refine AO.op rfl (AOp.assign rfl rfl (ltb rfl) rfl ?_)
      refine AO.nil ?_
      change AC _ _ _ _
      refine AC.joinP (V := Int) [1, 5, 8, 13, 14, 15] [9] 1 (fun g13 => [(9, .d (di .u64 g13))]) (fun g13 => [.grow 106 1 (List.map keS2 g7.2.2)]) (fun g13 => (p_subLimbs_k3 g7 (iter (p_subLimbs_l2 a0 a1) n9) x11) g13 = some o2) rfl ?_ ?_
      · refine AC.seq ?_
        refine AC.region ?_
        refine AO.op rfl (AOp.move rfl rfl (ltb rfl) rfl ?_)
        refine AO.op rfl (AOp.move rfl rfl (ltb rfl) rfl ?_)
        refine AO.op rfl (AOp.lenDs (n := a1.length) (cells := (List.map keS2 a1)) rfl rfl (ltb rfl) rfl el28 (by decide) (len1 _ _) ?_)
        refine AO.op rfl (AOp.ilss rfl rfl (ltb rfl) rfl rfl ?_)
        refine AO.nil ?_
        change AC _ _ _ _
        refine AC.cond rfl (fun q20 => ?_) (fun q20 => ?_)
        · replace h1 := cT h1 q20
          refine AC.region ?_
          refine AO.op rfl (AOp.move rfl rfl (ltb rfl) rfl ?_)
          refine AO.op rfl (AOp.move rfl rfl (ltb rfl) rfl ?_)
          refine AO.op rfl (AOp.move rfl rfl (ltb rfl) rfl ?_)
          obtain ⟨x21, q22, h1⟩ := idx_elim h1
          refine AO.op rfl (AOp.indexDs (cells := (List.map keS2 a1)) rfl rfl (ltb rfl) rfl rfl el28 (by decide) q22.1 (lt1 q22.2) ?_)
          refine AO.op rfl (AOp.loadEp rfl rfl (ltb rfl) rfl agg106 (at1 q22.2) ?_)
          refine AO.op rfl (AOp.i2i rfl rfl (ltb rfl) rfl Try.underlying106 Try.underlying91 rfl ?_)
          obtain ⟨q23, h1⟩ := need_elim h1
          refine AO.op rfl (AOp.iadd rfl rfl (ltb rfl) rfl rfl rfl q23.1 q23.2 ?_)
          refine AO.op rfl (AOp.assign rfl rfl (ltb rfl) rfl ?_)
          refine AO.nil ?_
          exact ⟨(g7.1 + (IntKind.u64.wrap x21)), _, rfl, (LeL.refl _), rfl, rfl, h1⟩
        · replace h1 := cF h1 q20
          refine AC.skip ?_
          exact ⟨g7.1, _, rfl, (LeL.refl _), rfl, rfl, h1⟩
      · intro g13 h1
        unfold p_subLimbs_k3 at h1
        refine AC.seq ?_
        refine AC.region ?_
        refine AO.op rfl (AOp.assign rfl rfl (ltb rfl) rfl ?_)
        refine AO.nil ?_
        change AC _ _ _ _
        refine AC.joinP (V := Int) [1, 5, 8, 9, 13, 14, 15] [6] 1 (fun g14 => [(6, .d (di .u64 g14))]) (fun g14 => [.grow 106 1 (List.map keS2 g7.2.2)]) (fun g14 => (p_subLimbs_k4 g7 (iter (p_subLimbs_l2 a0 a1) n9) x11 g13) g14 = some o2) rfl ?_ ?_
        · refine AC.seq ?_
          refine AC.region ?_
          refine AO.op rfl (AOp.move rfl rfl (ltb rfl) rfl ?_)
          refine AO.op rfl (AOp.i2i rfl rfl (ltb rfl) rfl Try.underlying106 Try.underlying91 rfl ?_)
          refine AO.op rfl (AOp.move rfl rfl (ltb rfl) rfl ?_)
          refine AO.op rfl (AOp.ilss rfl rfl (ltb rfl) rfl rfl ?_)
          refine AO.nil ?_
          change AC _ _ _ _
          refine AC.cond rfl (fun q19 => ?_) (fun q19 => ?_)
          · replace h1 := cT h1 q19
            refine AC.region ?_
            refine AO.op rfl (AOp.assign rfl rfl (ltb rfl) rfl ?_)
            refine AO.nil ?_
            exact ⟨(1 : Int), _, rfl, (LeL.refl _), rfl, rfl, h1⟩
          · replace h1 := cF h1 q19
            refine AC.skip ?_
            exact ⟨(0 : Int), _, rfl, (LeL.refl _), rfl, rfl, h1⟩
        · intro g14 h1
          unfold p_subLimbs_k4 at h1
          refine AC.region ?_
          refine AO.op rfl (AOp.move rfl rfl (ltb rfl) rfl ?_)
          refine AO.op rfl (AOp.move rfl rfl (ltb rfl) rfl ?_)
          refine AO.op rfl (AOp.i2i rfl rfl (ltb rfl) rfl Try.underlying106 Try.underlying91 rfl ?_)
          refine AO.op rfl (AOp.move rfl rfl (ltb rfl) rfl ?_)
          refine AO.op rfl (AOp.ishl (n := 32) rfl rfl (ltb rfl) rfl rfl (by decide) rfl ?_)
          obtain ⟨q15, h1⟩ := need_elim h1
          refine AO.op rfl (AOp.iadd rfl rfl (ltb rfl) rfl rfl rfl q15.1 q15.2 ?_)
          refine AO.op rfl (AOp.move rfl rfl (ltb rfl) rfl ?_)
          obtain ⟨q16, h1⟩ := need_elim h1
          refine AO.op rfl (AOp.isub rfl rfl (ltb rfl) rfl rfl rfl q16.1 q16.2 ?_)
          refine AO.op rfl (AOp.i2i rfl rfl (ltb rfl) rfl Try.underlying91 Try.underlying106 rfl ?_)
          refine AO.op rfl (AOp.buildSliceD rfl rfl (ltb rfl) el28 zero106 rfl (leb rfl) rfl rfl rfl rfl ?_)
          obtain ⟨q17, h1⟩ := need_elim h1
          refine AO.op rfl (AOp.appendOwn' (n := g7.2.2.length) (m := [(IntKind.u32.wrap (((IntKind.u64.wrap x11) + (IntKind.u64.wrap (g14 * 2 ^ 32))) - g13))].length) (news := (List.map keS2 [(IntKind.u32.wrap (((IntKind.u64.wrap x11) + (IntKind.u64.wrap (g14 * 2 ^ 32))) - g13))])) rfl rfl (ltb rfl) rfl rfl el28 info106 rfl (by decide) rfl (len1 _ _) (len1 _ _) (one1 _ (fun _ => rfl) _) q17 (by decide) rfl rfl (cat1 _ _ _) ?_)
          refine AO.op rfl (AOp.assign rfl rfl (ltb rfl) rfl ?_)
          refine AO.nil ?_
          change AC _ _ _ _
          refine AC.region ?_
          obtain ⟨q18, h1⟩ := need_elim h1
          refine AO.op rfl (AOp.iadd rfl rfl (ltb rfl) rfl rfl rfl q18.1 q18.2 ?_)
          refine AO.op rfl (AOp.move rfl rfl (ltb rfl) rfl ?_)
          refine AO.nil ?_
          exact ⟨(g14, (g7.2.1 + (1 : Int)), (g7.2.2 ++ [(IntKind.u32.wrap (((IntKind.u64.wrap x11) + (IntKind.u64.wrap (g14 * 2 ^ 32))) - g13))])), _, rfl, (LeL.refl _), rfl, rfl, h1⟩
    · replace h1 := cF h1 q10
      refine AC.exit ?_
      obtain rfl := Option.some.inj h1
      exact ⟨g7.2.2, _, rfl, (LeL.refl _), rfl, rfl, aftL h0⟩
  · intro g4 h0
    unfold p_subLimbs_k1 at h0
    change AC _ _ _ _
    refine AC.seq ?_
    refine AC.region ?_
    refine AO.op rfl (AOp.move rfl rfl (ltb rfl) rfl ?_)
    refine AO.freezeG 0 rfl rfl rfl ?_
    obtain ⟨y5, q6, h0⟩ := bind_elim h0
    refine AO.op rfl (AOp.callD rfl rfl (ltb rfl) rfl rfl (w_trim F g4 y5 q6) ?_)
    rintro _ rfl
    refine AO.op rfl (AOp.assign rfl rfl (ltb rfl) rfl ?_)
    refine AO.nil ?_
    change AC _ _ _ _
    refine AC.ret ?_
    change RetQ _ _ _ .ret _
    obtain rfl := Option.some.inj h0
    refine retq rfl rfl

set_option maxRecDepth 100000 in
set_option maxHeartbeats 1000000 in
/-- (pub-orthodrome/spec.Whole).Add -/
theorem w_Whole_Add (F : Nat) (a0 : TSpec_Whole) (a1 : TSpec_Whole) (r0 : TSpec_Whole) (h0 : p_Whole_Add F a0 a1 = some r0) : FnD Try.prog 90 [e_TSpec_Whole a0, e_TSpec_Whole a1] (fun r => r = e_TSpec_Whole r0) := by
  refine FnD.of (by kernel_rfl) Try.func90 rfl Try.ntmps90 rfl (leb rfl) fun W ok => ?_
  unfold p_Whole_Add at h0
  refine AC.seq ?_
  refine AC.region ?_
  refine AO.op rfl (AOp.box rfl rfl (ltb rfl) rfl rfl ?_)
  refine AO.op rfl (AOp.box rfl rfl (ltb rfl) rfl rfl ?_)
  refine AO.op rfl (AOp.alloc rfl rfl (ltb rfl) zero30 rfl ?_)
  refine AO.nil ?_
  change AC _ _ _ _
  refine AC.seq ?_
  refine AC.seq ?_
  refine AC.region ?_
  refine AO.op rfl (AOp.fieldAddr rfl rfl (ltb rfl) rfl fo30_0 ?_)
  refine AO.op rfl (AOp.load1 rfl rfl (ltb rfl) rfl agg4 rfl rfl ?_)
  refine AO.op rfl (AOp.fieldAddr rfl rfl (ltb rfl) rfl fo30_0 ?_)
  refine AO.op rfl (AOp.load1 rfl rfl (ltb rfl) rfl agg4 rfl rfl ?_)
  refine AO.op rfl (AOp.beql Try.underlying4 rfl rfl (ltb rfl) rfl rfl ?_)
  refine AO.nil ?_
  change AC _ _ _ _
  refine AC.cond rfl (fun q1 => ?_) (fun q1 => ?_)
  · replace h0 := cT h0 q1
    refine AC.seq ?_
    refine AC.draw 8 mixed (by kernel_rfl) ?_
    refine AD.op [2] rfl (by kernel_rfl) rfl rfl (fun _ _ h => AOp.fieldAddr rfl rfl (ltb rfl) rfl fo30_0 h) ?_
    refine AD.op [10] rfl (by kernel_rfl) rfl rfl (fun _ _ h => AOp.load1 rfl rfl (ltb rfl) rfl agg4 rfl rfl h) ?_
    refine AD.op [2] rfl (by kernel_rfl) rfl rfl (fun _ _ h => AOp.fieldAddr rfl rfl (ltb rfl) rfl fo30_1 h) ?_
    refine AD.op [12] rfl (by kernel_rfl) rfl rfl (fun _ _ h => AOp.load1 rfl rfl (ltb rfl) rfl agg28 rfl rfl h) ?_
    refine AD.op [3] rfl (by kernel_rfl) rfl rfl (fun _ _ h => AOp.fieldAddr rfl rfl (ltb rfl) rfl fo30_1 h) ?_
    refine AD.op [14] rfl (by kernel_rfl) rfl rfl (fun _ _ h => AOp.load1 rfl rfl (ltb rfl) rfl agg28 rfl rfl h) ?_
    obtain ⟨y2, q3, h0⟩ := bind_elim h0
    refine AD.op [13, 15] rfl (by kernel_rfl) rfl rfl (fun _ _ h => AOp.callD rfl rfl (ltb rfl) rfl rfl (w_addLimbs F a0.L a1.L y2 q3) (by rintro _ rfl; exact h)) ?_
    refine AD.op [11, 16] rfl (by kernel_rfl) rfl rfl (fun _ _ h => AOp.build rfl rfl (ltb rfl) zero30 rfl places30 rfl rfl h) ?_
    refine AD.done ?_
    refine AO.op rfl (AOp.store rfl rfl rfl rfl size30 rfl rfl rfl (leb rfl) ?_)
    refine AO.nil ?_
    change AC _ _ _ _
    refine AC.ret ?_
    change RetQ _ _ _ .ret _
    obtain rfl := Option.some.inj h0
    refine retq rfl rfl
  · replace h0 := cF h0 q1
    refine AC.skip ?_
    change AC _ _ _ _
    refine AC.seq ?_
    refine AC.seq ?_
    refine AC.region ?_
    refine AO.op rfl (AOp.fieldAddr rfl rfl (ltb rfl) rfl fo30_1 ?_)
    refine AO.op rfl (AOp.load1 rfl rfl (ltb rfl) rfl agg28 rfl rfl ?_)
    refine AO.op rfl (AOp.fieldAddr rfl rfl (ltb rfl) rfl fo30_1 ?_)
    refine AO.op rfl (AOp.load1 rfl rfl (ltb rfl) rfl agg28 rfl rfl ?_)
    obtain ⟨y4, q5, h0⟩ := bind_elim h0
    refine AO.op rfl (AOp.callD rfl rfl (ltb rfl) rfl rfl (w_cmpLimbs F a0.L a1.L y4 q5) ?_)
    rintro _ rfl
    refine AO.nil ?_
    change AC _ _ _ _
    refine AC.block ?_
    refine AC.seq ?_
    refine AC.region ?_
    refine AO.op rfl (AOp.ieql rfl rfl (ltb rfl) rfl rfl ?_)
    refine AO.op rfl (AOp.assign rfl rfl (ltb rfl) rfl ?_)
    refine AO.nil ?_
    change AC _ _ _ _
    refine AC.cond rfl (fun q6 => ?_) (fun q6 => ?_)
    · replace h0 := cT h0 q6
      refine AC.seq ?_
      refine AC.region ?_
      refine AO.op rfl (AOp.build rfl rfl (ltb rfl) zero30 rfl places30 rfl rfl ?_)
      refine AO.op rfl (AOp.store rfl rfl rfl rfl size30 rfl rfl rfl (leb rfl) ?_)
      refine AO.nil ?_
      change AC _ _ _ _
      refine AC.subO 2 rfl (.cons (SVLe.refl _) (.cons (SVLe.nil 1) .nil)) ?_
      refine AC.ret ?_
      change RetQ _ _ _ .ret _
      obtain rfl := Option.some.inj h0
      refine retq rfl rfl
    · replace h0 := cF h0 q6
      refine AC.seq ?_
      refine AC.region ?_
      refine AO.op rfl (AOp.ieql rfl rfl (ltb rfl) rfl rfl ?_)
      refine AO.op rfl (AOp.assign rfl rfl (ltb rfl) rfl ?_)
      refine AO.nil ?_
      change AC _ _ _ _
      refine AC.cond rfl (fun q7 => ?_) (fun q7 => ?_)
      · replace h0 := cT h0 q7
        refine AC.seq ?_
        refine AC.draw 8 mixed (by kernel_rfl) ?_
        refine AD.op [2] rfl (by kernel_rfl) rfl rfl (fun _ _ h => AOp.fieldAddr rfl rfl (ltb rfl) rfl fo30_0 h) ?_
        refine AD.op [28] rfl (by kernel_rfl) rfl rfl (fun _ _ h => AOp.load1 rfl rfl (ltb rfl) rfl agg4 rfl rfl h) ?_
        refine AD.op [2] rfl (by kernel_rfl) rfl rfl (fun _ _ h => AOp.fieldAddr rfl rfl (ltb rfl) rfl fo30_1 h) ?_
        refine AD.op [30] rfl (by kernel_rfl) rfl rfl (fun _ _ h => AOp.load1 rfl rfl (ltb rfl) rfl agg28 rfl rfl h) ?_
        refine AD.op [3] rfl (by kernel_rfl) rfl rfl (fun _ _ h => AOp.fieldAddr rfl rfl (ltb rfl) rfl fo30_1 h) ?_
        refine AD.op [32] rfl (by kernel_rfl) rfl rfl (fun _ _ h => AOp.load1 rfl rfl (ltb rfl) rfl agg28 rfl rfl h) ?_
        obtain ⟨y8, q9, h0⟩ := bind_elim h0
        refine AD.op [31, 33] rfl (by kernel_rfl) rfl rfl (fun _ _ h => AOp.callD rfl rfl (ltb rfl) rfl rfl (w_subLimbs F a0.L a1.L y8 q9) (by rintro _ rfl; exact h)) ?_
        refine AD.op [29, 34] rfl (by kernel_rfl) rfl rfl (fun _ _ h => AOp.build rfl rfl (ltb rfl) zero30 rfl places30 rfl rfl h) ?_
        refine AD.done ?_
        refine AO.op rfl (AOp.store rfl rfl rfl rfl size30 rfl rfl rfl (leb rfl) ?_)
        refine AO.nil ?_
        change AC _ _ _ _
        refine AC.ret ?_
        change RetQ _ _ _ .ret _
        obtain rfl := Option.some.inj h0
        refine retq rfl rfl
      · replace h0 := cF h0 q7
        refine AC.skip ?_
        change AC _ _ _ _
        refine AC.seq ?_
        refine AC.draw 8 mixed (by kernel_rfl) ?_
        refine AD.op [3] rfl (by kernel_rfl) rfl rfl (fun _ _ h => AOp.fieldAddr rfl rfl (ltb rfl) rfl fo30_0 h) ?_
        refine AD.op [36] rfl (by kernel_rfl) rfl rfl (fun _ _ h => AOp.load1 rfl rfl (ltb rfl) rfl agg4 rfl rfl h) ?_
        refine AD.op [3] rfl (by kernel_rfl) rfl rfl (fun _ _ h => AOp.fieldAddr rfl rfl (ltb rfl) rfl fo30_1 h) ?_
        refine AD.op [38] rfl (by kernel_rfl) rfl rfl (fun _ _ h => AOp.load1 rfl rfl (ltb rfl) rfl agg28 rfl rfl h) ?_
        refine AD.op [2] rfl (by kernel_rfl) rfl rfl (fun _ _ h => AOp.fieldAddr rfl rfl (ltb rfl) rfl fo30_1 h) ?_
        refine AD.op [40] rfl (by kernel_rfl) rfl rfl (fun _ _ h => AOp.load1 rfl rfl (ltb rfl) rfl agg28 rfl rfl h) ?_
        obtain ⟨y10, q11, h0⟩ := bind_elim h0
        refine AD.op [39, 41] rfl (by kernel_rfl) rfl rfl (fun _ _ h => AOp.callD rfl rfl (ltb rfl) rfl rfl (w_subLimbs F a1.L a0.L y10 q11) (by rintro _ rfl; exact h)) ?_
        refine AD.op [37, 42] rfl (by kernel_rfl) rfl rfl (fun _ _ h => AOp.build rfl rfl (ltb rfl) zero30 rfl places30 rfl rfl h) ?_
        refine AD.done ?_
        refine AO.op rfl (AOp.store rfl rfl rfl rfl size30 rfl rfl rfl (leb rfl) ?_)
        refine AO.nil ?_
        change AC _ _ _ _
        refine AC.ret ?_
        change RetQ _ _ _ .ret _
        obtain rfl := Option.some.inj h0
        refine retq rfl rfl

set_option maxRecDepth 100000 in
set_option maxHeartbeats 1000000 in
/-- (pub-orthodrome/spec.Dyadic).Add -/
theorem w_Dyadic_Add (F : Nat) (a0 : TSpec_Dyadic) (a1 : TSpec_Dyadic) (r0 : TSpec_Dyadic) (h0 : p_Dyadic_Add F a0 a1 = some r0) : FnD Try.prog 73 [e_TSpec_Dyadic a0, e_TSpec_Dyadic a1] (fun r => r = e_TSpec_Dyadic r0) := by
  refine FnD.of (by kernel_rfl) Try.func73 rfl Try.ntmps73 rfl (leb rfl) fun W ok => ?_
  unfold p_Dyadic_Add at h0
  refine AC.seq ?_
  refine AC.region ?_
  refine AO.op rfl (AOp.box rfl rfl (ltb rfl) rfl rfl ?_)
  refine AO.op rfl (AOp.box rfl rfl (ltb rfl) rfl rfl ?_)
  refine AO.op rfl (AOp.alloc rfl rfl (ltb rfl) zero32 rfl ?_)
  refine AO.nil ?_
  change AC _ _ _ _
  refine AC.seq ?_
  refine AC.block ?_
  refine AC.seq ?_
  refine AC.region ?_
  refine AO.op rfl (AOp.loadN rfl rfl (ltb rfl) rfl agg32 size32 rfl (leb rfl) rfl ?_)
  obtain ⟨y1, q2, h0⟩ := bind_elim h0
  refine AO.op rfl (AOp.callD rfl rfl (ltb rfl) rfl rfl (w_Dyadic_Sign a0 y1 q2) ?_)
  rintro _ rfl
  refine AO.op rfl (AOp.ieql rfl rfl (ltb rfl) rfl rfl ?_)
  refine AO.op rfl (AOp.assign rfl rfl (ltb rfl) rfl ?_)
  refine AO.nil ?_
  change AC _ _ _ _
  refine AC.cond rfl (fun q3 => ?_) (fun q3 => ?_)
  · replace h0 := cT h0 q3
    refine AC.seq ?_
    refine AC.region ?_
    refine AO.op rfl (AOp.loadN rfl rfl (ltb rfl) rfl agg32 size32 rfl (leb rfl) rfl ?_)
    refine AO.op rfl (AOp.store rfl rfl rfl rfl size32 rfl rfl rfl (leb rfl) ?_)
    refine AO.nil ?_
    change AC _ _ _ _
    refine AC.ret ?_
    change RetQ _ _ _ .ret _
    obtain rfl := Option.some.inj h0
    refine retq rfl rfl
  · replace h0 := cF h0 q3
    refine AC.seq ?_
    refine AC.region ?_
    refine AO.op rfl (AOp.loadN rfl rfl (ltb rfl) rfl agg32 size32 rfl (leb rfl) rfl ?_)
    obtain ⟨y4, q5, h0⟩ := bind_elim h0
    refine AO.op rfl (AOp.callD rfl rfl (ltb rfl) rfl rfl (w_Dyadic_Sign a1 y4 q5) ?_)
    rintro _ rfl
    refine AO.op rfl (AOp.ieql rfl rfl (ltb rfl) rfl rfl ?_)
    refine AO.op rfl (AOp.assign rfl rfl (ltb rfl) rfl ?_)
    refine AO.nil ?_
    change AC _ _ _ _
    refine AC.cond rfl (fun q6 => ?_) (fun q6 => ?_)
    · replace h0 := cT h0 q6
      refine AC.seq ?_
      refine AC.region ?_
      refine AO.op rfl (AOp.loadN rfl rfl (ltb rfl) rfl agg32 size32 rfl (leb rfl) rfl ?_)
      refine AO.op rfl (AOp.store rfl rfl rfl rfl size32 rfl rfl rfl (leb rfl) ?_)
      refine AO.nil ?_
      change AC _ _ _ _
      refine AC.ret ?_
      change RetQ _ _ _ .ret _
      obtain rfl := Option.some.inj h0
      refine retq rfl rfl
    · replace h0 := cF h0 q6
      refine AC.seq ?_
      refine AC.region ?_
      refine AO.op rfl (AOp.fieldAddr rfl rfl (ltb rfl) rfl fo32_1 ?_)
      refine AO.op rfl (AOp.load1 rfl rfl (ltb rfl) rfl agg3 rfl rfl ?_)
      refine AO.op rfl (AOp.fieldAddr rfl rfl (ltb rfl) rfl fo32_1 ?_)
      refine AO.op rfl (AOp.load1 rfl rfl (ltb rfl) rfl agg3 rfl rfl ?_)
      refine AO.op rfl (AOp.igtr rfl rfl (ltb rfl) rfl rfl ?_)
      refine AO.op rfl (AOp.assign rfl rfl (ltb rfl) rfl ?_)
      refine AO.nil ?_
      change AC _ _ _ _
      refine AC.cond rfl (fun q7 => ?_) (fun q7 => ?_)
      · replace h0 := cT h0 q7
        refine AC.seq ?_
        refine AC.draw 14 mixed (by kernel_rfl) ?_
        refine AD.op [2] rfl (by kernel_rfl) rfl rfl (fun _ _ h => AOp.fieldAddr rfl rfl (ltb rfl) rfl fo32_0 h) ?_
        refine AD.op [21] rfl (by kernel_rfl) rfl rfl (fun _ _ h => AOp.loadN rfl rfl (ltb rfl) rfl agg30 size30 rfl (leb rfl) rfl h) ?_
        refine AD.op [2] rfl (by kernel_rfl) rfl rfl (fun _ _ h => AOp.fieldAddr rfl rfl (ltb rfl) rfl fo32_1 h) ?_
        refine AD.op [23] rfl (by kernel_rfl) rfl rfl (fun _ _ h => AOp.load1 rfl rfl (ltb rfl) rfl agg3 rfl rfl h) ?_
        refine AD.op [3] rfl (by kernel_rfl) rfl rfl (fun _ _ h => AOp.fieldAddr rfl rfl (ltb rfl) rfl fo32_1 h) ?_
        refine AD.op [25] rfl (by kernel_rfl) rfl rfl (fun _ _ h => AOp.load1 rfl rfl (ltb rfl) rfl agg3 rfl rfl h) ?_
        obtain ⟨q8, h0⟩ := need_elim h0
        refine AD.op [24, 26] rfl (by kernel_rfl) rfl rfl (fun _ _ h => AOp.isub rfl rfl (ltb rfl) rfl rfl rfl q8.1 q8.2 h) ?_
        obtain ⟨y9, q10, h0⟩ := bind_elim h0
        refine AD.op [22, 27] rfl (by kernel_rfl) rfl rfl (fun _ _ h => AOp.callD rfl rfl (ltb rfl) rfl rfl (w_Whole_Up F a0.N (a0.E - a1.E) y9 q10) (by rintro _ rfl; exact h)) ?_
        refine AD.op [3] rfl (by kernel_rfl) rfl rfl (fun _ _ h => AOp.fieldAddr rfl rfl (ltb rfl) rfl fo32_0 h) ?_
        refine AD.op [29] rfl (by kernel_rfl) rfl rfl (fun _ _ h => AOp.loadN rfl rfl (ltb rfl) rfl agg30 size30 rfl (leb rfl) rfl h) ?_
        obtain ⟨y11, q12, h0⟩ := bind_elim h0
        refine AD.op [28, 30] rfl (by kernel_rfl) rfl rfl (fun _ _ h => AOp.callD rfl rfl (ltb rfl) rfl rfl (w_Whole_Add F y9 a1.N y11 q12) (by rintro _ rfl; exact h)) ?_
        refine AD.op [3] rfl (by kernel_rfl) rfl rfl (fun _ _ h => AOp.fieldAddr rfl rfl (ltb rfl) rfl fo32_1 h) ?_
        refine AD.op [32] rfl (by kernel_rfl) rfl rfl (fun _ _ h => AOp.load1 rfl rfl (ltb rfl) rfl agg3 rfl rfl h) ?_
        refine AD.op [31, 33] rfl (by kernel_rfl) rfl rfl (fun _ _ h => AOp.build rfl rfl (ltb rfl) zero32 rfl places32 rfl rfl h) ?_
        refine AD.done ?_
        refine AO.op rfl (AOp.store rfl rfl rfl rfl size32 rfl rfl rfl (leb rfl) ?_)
        refine AO.nil ?_
        change AC _ _ _ _
        refine AC.ret ?_
        change RetQ _ _ _ .ret _
        obtain rfl := Option.some.inj h0
        refine retq rfl rfl
      · replace h0 := cF h0 q7
        refine AC.skip ?_
        change AC _ _ _ _
        refine AC.seq ?_
        refine AC.draw 14 mixed (by kernel_rfl) ?_
        refine AD.op [3] rfl (by kernel_rfl) rfl rfl (fun _ _ h => AOp.fieldAddr rfl rfl (ltb rfl) rfl fo32_0 h) ?_
        refine AD.op [35] rfl (by kernel_rfl) rfl rfl (fun _ _ h => AOp.loadN rfl rfl (ltb rfl) rfl agg30 size30 rfl (leb rfl) rfl h) ?_
        refine AD.op [3] rfl (by kernel_rfl) rfl rfl (fun _ _ h => AOp.fieldAddr rfl rfl (ltb rfl) rfl fo32_1 h) ?_
        refine AD.op [37] rfl (by kernel_rfl) rfl rfl (fun _ _ h => AOp.load1 rfl rfl (ltb rfl) rfl agg3 rfl rfl h) ?_
        refine AD.op [2] rfl (by kernel_rfl) rfl rfl (fun _ _ h => AOp.fieldAddr rfl rfl (ltb rfl) rfl fo32_1 h) ?_
        refine AD.op [39] rfl (by kernel_rfl) rfl rfl (fun _ _ h => AOp.load1 rfl rfl (ltb rfl) rfl agg3 rfl rfl h) ?_
        obtain ⟨q13, h0⟩ := need_elim h0
        refine AD.op [38, 40] rfl (by kernel_rfl) rfl rfl (fun _ _ h => AOp.isub rfl rfl (ltb rfl) rfl rfl rfl q13.1 q13.2 h) ?_
        obtain ⟨y14, q15, h0⟩ := bind_elim h0
        refine AD.op [36, 41] rfl (by kernel_rfl) rfl rfl (fun _ _ h => AOp.callD rfl rfl (ltb rfl) rfl rfl (w_Whole_Up F a1.N (a1.E - a0.E) y14 q15) (by rintro _ rfl; exact h)) ?_
        refine AD.op [2] rfl (by kernel_rfl) rfl rfl (fun _ _ h => AOp.fieldAddr rfl rfl (ltb rfl) rfl fo32_0 h) ?_
        refine AD.op [43] rfl (by kernel_rfl) rfl rfl (fun _ _ h => AOp.loadN rfl rfl (ltb rfl) rfl agg30 size30 rfl (leb rfl) rfl h) ?_
        obtain ⟨y16, q17, h0⟩ := bind_elim h0
        refine AD.op [42, 44] rfl (by kernel_rfl) rfl rfl (fun _ _ h => AOp.callD rfl rfl (ltb rfl) rfl rfl (w_Whole_Add F y14 a0.N y16 q17) (by rintro _ rfl; exact h)) ?_
        refine AD.op [2] rfl (by kernel_rfl) rfl rfl (fun _ _ h => AOp.fieldAddr rfl rfl (ltb rfl) rfl fo32_1 h) ?_
        refine AD.op [46] rfl (by kernel_rfl) rfl rfl (fun _ _ h => AOp.load1 rfl rfl (ltb rfl) rfl agg3 rfl rfl h) ?_
        refine AD.op [45, 47] rfl (by kernel_rfl) rfl rfl (fun _ _ h => AOp.build rfl rfl (ltb rfl) zero32 rfl places32 rfl rfl h) ?_
        refine AD.done ?_
        refine AO.op rfl (AOp.store rfl rfl rfl rfl size32 rfl rfl rfl (leb rfl) ?_)
        refine AO.nil ?_
        change AC _ _ _ _
        refine AC.ret ?_
        change RetQ _ _ _ .ret _
        obtain rfl := Option.some.inj h0
        refine retq rfl rfl

set_option maxRecDepth 100000 in
set_option maxHeartbeats 1000000 in
/-- (pub-orthodrome/spec.Dyadic).Sub -/
theorem w_Dyadic_Sub (F : Nat) (a0 : TSpec_Dyadic) (a1 : TSpec_Dyadic) (r0 : TSpec_Dyadic) (h0 : p_Dyadic_Sub F a0 a1 = some r0) : FnD Try.prog 37 [e_TSpec_Dyadic a0, e_TSpec_Dyadic a1] (fun r => r = e_TSpec_Dyadic r0) := by
  refine FnD.of (by kernel_rfl) Try.func37 rfl Try.ntmps37 rfl (leb rfl) fun W ok => ?_
  unfold p_Dyadic_Sub at h0
  refine AC.seq ?_
  refine AC.region ?_
  refine AO.op rfl (AOp.box rfl rfl (ltb rfl) rfl rfl ?_)
  refine AO.op rfl (AOp.box rfl rfl (ltb rfl) rfl rfl ?_)
  refine AO.op rfl (AOp.alloc rfl rfl (ltb rfl) zero32 rfl ?_)
  refine AO.nil ?_
  change AC _ _ _ _
  refine AC.seq ?_
  refine AC.draw 4 mixed (by kernel_rfl) ?_
  refine AD.op [2] rfl (by kernel_rfl) rfl rfl (fun _ _ h => AOp.loadN rfl rfl (ltb rfl) rfl agg32 size32 rfl (leb rfl) rfl h) ?_
  refine AD.op [3] rfl (by kernel_rfl) rfl rfl (fun _ _ h => AOp.loadN rfl rfl (ltb rfl) rfl agg32 size32 rfl (leb rfl) rfl h) ?_
  obtain ⟨y1, q2, h0⟩ := bind_elim h0
  refine AD.op [6] rfl (by kernel_rfl) rfl rfl (fun _ _ h => AOp.callD rfl rfl (ltb rfl) rfl rfl (w_Dyadic_Minus a1 y1 q2) (by rintro _ rfl; exact h)) ?_
  obtain ⟨y3, q4, h0⟩ := bind_elim h0
  refine AD.op [5, 7] rfl (by kernel_rfl) rfl rfl (fun _ _ h => AOp.callD rfl rfl (ltb rfl) rfl rfl (w_Dyadic_Add F a0 y1 y3 q4) (by rintro _ rfl; exact h)) ?_
  refine AD.done ?_
  refine AO.op rfl (AOp.store rfl rfl rfl rfl size32 rfl rfl rfl (leb rfl) ?_)
  refine AO.nil ?_
  change AC _ _ _ _
  refine AC.ret ?_
  change RetQ _ _ _ .ret _
  obtain rfl := Option.some.inj h0
  refine retq rfl rfl

set_option maxRecDepth 100000 in
set_option maxHeartbeats 1000000 in
/-- (pub-orthodrome/spec.Point3).Sub -/
theorem w_Point3_Sub (F : Nat) (a0 : TSpec_Point3) (a1 : TSpec_Point3) (r0 : TSpec_Point3) (h0 : p_Point3_Sub F a0 a1 = some r0) : FnD Try.prog 55 [e_TSpec_Point3 a0, e_TSpec_Point3 a1] (fun r => r = e_TSpec_Point3 r0) := by
  refine FnD.of (by kernel_rfl) Try.func55 rfl Try.ntmps55 rfl (leb rfl) fun W ok => ?_
  unfold p_Point3_Sub at h0
  refine AC.seq ?_
  refine AC.region ?_
  refine AO.op rfl (AOp.box rfl rfl (ltb rfl) rfl rfl ?_)
  refine AO.op rfl (AOp.box rfl rfl (ltb rfl) rfl rfl ?_)
  refine AO.op rfl (AOp.alloc rfl rfl (ltb rfl) zero53 rfl ?_)
  refine AO.nil ?_
  change AC _ _ _ _
  refine AC.seq ?_
  refine AC.draw 16 mixed (by kernel_rfl) ?_
  refine AD.op [2] rfl (by kernel_rfl) rfl rfl (fun _ _ h => AOp.fieldAddr rfl rfl (ltb rfl) rfl fo53_0 h) ?_
  refine AD.op [5] rfl (by kernel_rfl) rfl rfl (fun _ _ h => AOp.loadN rfl rfl (ltb rfl) rfl agg32 size32 rfl (leb rfl) rfl h) ?_
  refine AD.op [3] rfl (by kernel_rfl) rfl rfl (fun _ _ h => AOp.fieldAddr rfl rfl (ltb rfl) rfl fo53_0 h) ?_
  refine AD.op [7] rfl (by kernel_rfl) rfl rfl (fun _ _ h => AOp.loadN rfl rfl (ltb rfl) rfl agg32 size32 rfl (leb rfl) rfl h) ?_
  obtain ⟨y1, q2, h0⟩ := bind_elim h0
  refine AD.op [6, 8] rfl (by kernel_rfl) rfl rfl (fun _ _ h => AOp.callD rfl rfl (ltb rfl) rfl rfl (w_Dyadic_Sub F a0.X a1.X y1 q2) (by rintro _ rfl; exact h)) ?_
  refine AD.op [2] rfl (by kernel_rfl) rfl rfl (fun _ _ h => AOp.fieldAddr rfl rfl (ltb rfl) rfl fo53_1 h) ?_
  refine AD.op [10] rfl (by kernel_rfl) rfl rfl (fun _ _ h => AOp.loadN rfl rfl (ltb rfl) rfl agg32 size32 rfl (leb rfl) rfl h) ?_
  refine AD.op [3] rfl (by kernel_rfl) rfl rfl (fun _ _ h => AOp.fieldAddr rfl rfl (ltb rfl) rfl fo53_1 h) ?_
  refine AD.op [12] rfl (by kernel_rfl) rfl rfl (fun _ _ h => AOp.loadN rfl rfl (ltb rfl) rfl agg32 size32 rfl (leb rfl) rfl h) ?_
  obtain ⟨y3, q4, h0⟩ := bind_elim h0
  refine AD.op [11, 13] rfl (by kernel_rfl) rfl rfl (fun _ _ h => AOp.callD rfl rfl (ltb rfl) rfl rfl (w_Dyadic_Sub F a0.Y a1.Y y3 q4) (by rintro _ rfl; exact h)) ?_
  refine AD.op [2] rfl (by kernel_rfl) rfl rfl (fun _ _ h => AOp.fieldAddr rfl rfl (ltb rfl) rfl fo53_2 h) ?_
  refine AD.op [15] rfl (by kernel_rfl) rfl rfl (fun _ _ h => AOp.loadN rfl rfl (ltb rfl) rfl agg32 size32 rfl (leb rfl) rfl h) ?_
  refine AD.op [3] rfl (by kernel_rfl) rfl rfl (fun _ _ h => AOp.fieldAddr rfl rfl (ltb rfl) rfl fo53_2 h) ?_
  refine AD.op [17] rfl (by kernel_rfl) rfl rfl (fun _ _ h => AOp.loadN rfl rfl (ltb rfl) rfl agg32 size32 rfl (leb rfl) rfl h) ?_
  obtain ⟨y5, q6, h0⟩ := bind_elim h0
  refine AD.op [16, 18] rfl (by kernel_rfl) rfl rfl (fun _ _ h => AOp.callD rfl rfl (ltb rfl) rfl rfl (w_Dyadic_Sub F a0.Z a1.Z y5 q6) (by rintro _ rfl; exact h)) ?_
  refine AD.op [9, 14, 19] rfl (by kernel_rfl) rfl rfl (fun _ _ h => AOp.build rfl rfl (ltb rfl) zero53 rfl places53 rfl rfl h) ?_
  refine AD.done ?_
  refine AO.op rfl (AOp.store rfl rfl rfl rfl size53 rfl rfl rfl (leb rfl) ?_)
  refine AO.nil ?_
  change AC _ _ _ _
  refine AC.ret ?_
  change RetQ _ _ _ .ret _
  obtain rfl := Option.some.inj h0
  refine retq rfl rfl

set_option maxRecDepth 100000 in
set_option maxHeartbeats 1000000 in
/-- (pub-orthodrome/spec.Whole).Mul -/
theorem w_Whole_Mul (F : Nat) (a0 : TSpec_Whole) (a1 : TSpec_Whole) (r0 : TSpec_Whole) (h0 : p_Whole_Mul F a0 a1 = some r0) : FnD Try.prog 50 [e_TSpec_Whole a0, e_TSpec_Whole a1] (fun r => r = e_TSpec_Whole r0) := by
  refine FnD.of (by kernel_rfl) Try.func50 rfl Try.ntmps50 rfl (leb rfl) fun W ok => ?_
  unfold p_Whole_Mul at h0
  refine AC.seq ?_
  refine AC.region ?_
  refine AO.op rfl (AOp.box rfl rfl (ltb rfl) rfl rfl ?_)
  refine AO.op rfl (AOp.box rfl rfl (ltb rfl) rfl rfl ?_)
  refine AO.op rfl (AOp.alloc rfl rfl (ltb rfl) zero30 rfl ?_)
  refine AO.nil ?_
  change AC _ _ _ _
  refine AC.seq ?_
  refine AC.region ?_
  refine AO.op rfl (AOp.fieldAddr rfl rfl (ltb rfl) rfl fo30_1 ?_)
  refine AO.op rfl (AOp.load1 rfl rfl (ltb rfl) rfl agg28 rfl rfl ?_)
  refine AO.op rfl (AOp.lenDs (n := a0.L.length) (cells := (List.map keS2 a0.L)) rfl rfl (ltb rfl) rfl el28 (by decide) (len1 _ _) ?_)
  refine AO.op rfl (AOp.fieldAddr rfl rfl (ltb rfl) rfl fo30_1 ?_)
  refine AO.op rfl (AOp.load1 rfl rfl (ltb rfl) rfl agg28 rfl rfl ?_)
  refine AO.op rfl (AOp.lenDs (n := a1.L.length) (cells := (List.map keS2 a1.L)) rfl rfl (ltb rfl) rfl el28 (by decide) (len1 _ _) ?_)
  obtain ⟨q1, h0⟩ := need_elim h0
  refine AO.op rfl (AOp.iadd rfl rfl (ltb rfl) rfl rfl rfl q1.1 q1.2 ?_)
  obtain ⟨q2, h0⟩ := need_elim h0
  refine AO.op rfl (AOp.makeL (f := fun z => SV.d (keS2 z)) (z0 := (0 : Int)) rfl rfl (ltb rfl) rfl rfl el28 info106 rfl rfl (by decide) q2.1 q2.2 rfl ?_)
  refine AO.op rfl (AOp.assign rfl rfl (ltb rfl) rfl ?_)
  refine AO.nil ?_
  change AC _ _ _ _
  refine AC.seq ?_
  refine AC.seq ?_
  refine AC.region ?_
  refine AO.op rfl (AOp.fieldAddr rfl rfl (ltb rfl) rfl fo30_1 ?_)
  refine AO.op rfl (AOp.load1 rfl rfl (ltb rfl) rfl agg28 rfl rfl ?_)
  refine AO.op rfl (AOp.lenDs (n := a0.L.length) (cells := (List.map keS2 a0.L)) rfl rfl (ltb rfl) rfl el28 (by decide) (len1 _ _) ?_)
  refine AO.op rfl (AOp.move rfl rfl (ltb rfl) rfl ?_)
  refine AO.nil ?_
  change AC _ _ _ _
  obtain ⟨o3, l4, h0⟩ := bind_elim h0
  refine AC.joinE (V := (List Int)) [2, 3, 4, 5] [] 4 (fun g5 => []) (fun g5 => [.fix 30 [.d (dbool a0.Neg), .d (eS2 a0.L)], .fix 30 [.d (dbool a1.Neg), .d (eS2 a1.L)], .fix 30 [.d (dbool false), .d (.v (.slice none 0 0))], .fix 106 (List.map (fun z => SV.d (keS2 z)) g5)]) (fun g5 => (p_Whole_Mul_k1 a0 a1 F) g5 = some r0) rfl ?_ ?_
  · refine AC.block ?_
    refine AC.loopP (V := (Int × (List Int))) (p_Whole_Mul_l2 a0 a1 F) o3 [2, 3, 4, 5, 21, 22] [23] 4 (fun g10 => [(23, .d (di .i64 g10.1))]) (fun g10 => [.fix 30 [.d (dbool a0.Neg), .d (eS2 a0.L)], .fix 30 [.d (dbool a1.Neg), .d (eS2 a1.L)], .fix 30 [.d (dbool false), .d (.v (.slice none 0 0))], .fix 106 (List.map (fun z => SV.d (keS2 z)) g10.2)]) F ((0 : Int), (List.replicate ((((a0.L.length : Nat) : Int) + ((a1.L.length : Nat) : Int))).toNat (0 : Int))) l4 rfl rfl (LeL.refl _) rfl (okU_mk rfl (okU_cons rfl (okU_cons rfl (okU_cons rfl (okU_cons (okU_fixl (fun _ => rfl)) okU_nil))))) ?_
    intro n12 g10 h1
    unfold p_Whole_Mul_l2 at h1
    refine AC.seq ?_
    refine AC.region ?_
    refine AO.op rfl (AOp.ilss rfl rfl (ltb rfl) rfl rfl ?_)
    refine AO.nil ?_
    change AC _ _ _ _
    refine AC.seq ?_
    refine AC.cond rfl (fun q13 => ?_) (fun q13 => ?_)
    · replace h1 := cT h1 q13
      refine AC.skip ?_
      change AC _ _ _ _
      refine AC.seq ?_
      refine AC.block ?_
      refine AC.seq ?_
      refine AC.region ?_
      refine AO.op rfl (AOp.move rfl rfl (ltb rfl) rfl ?_)
      obtain ⟨x14, q15, h1⟩ := idx_elim h1
      refine AO.op rfl (AOp.indexDs (cells := (List.map keS2 a0.L)) rfl rfl (ltb rfl) rfl rfl el28 (by decide) q15.1 (lt1 q15.2) ?_)
      refine AO.op rfl (AOp.loadEp rfl rfl (ltb rfl) rfl agg106 (at1 q15.2) ?_)
      refine AO.op rfl (AOp.assign rfl rfl (ltb rfl) rfl ?_)
      refine AO.op rfl (AOp.assign rfl rfl (ltb rfl) rfl ?_)
      refine AO.nil ?_
      change AC _ _ _ _
      refine AC.seq ?_
      refine AC.region ?_
      refine AO.op rfl (AOp.assign rfl rfl (ltb rfl) rfl ?_)
      refine AO.nil ?_
      change AC _ _ _ _
      refine AC.seq ?_
      refine AC.seq ?_
      refine AC.region ?_
      refine AO.op rfl (AOp.fieldAddr rfl rfl (ltb rfl) rfl fo30_1 ?_)
      refine AO.op rfl (AOp.load1 rfl rfl (ltb rfl) rfl agg28 rfl rfl ?_)
      refine AO.op rfl (AOp.lenDs (n := a1.L.length) (cells := (List.map keS2 a1.L)) rfl rfl (ltb rfl) rfl el28 (by decide) (len1 _ _) ?_)
      refine AO.op rfl (AOp.move rfl rfl (ltb rfl) rfl ?_)
      refine AO.nil ?_
      change AC _ _ _ _
      obtain ⟨o16, l17, h1⟩ := bind_elim h1
      refine AC.joinE (V := (Int × (List Int))) [2, 3, 4, 5, 6, 21, 22, 23] [8] 4 (fun g18 => [(8, .d (di .u64 g18.1))]) (fun g18 => [.fix 30 [.d (dbool a0.Neg), .d (eS2 a0.L)], .fix 30 [.d (dbool a1.Neg), .d (eS2 a1.L)], .fix 30 [.d (dbool false), .d (.v (.slice none 0 0))], .fix 106 (List.map (fun z => SV.d (keS2 z)) g18.2)]) (fun g18 => (p_Whole_Mul_k3 a0 a1 g10 (iter (p_Whole_Mul_l2 a0 a1 F) n12)) g18 = some o3) rfl ?_ ?_
      · refine AC.block ?_
        refine AC.loopP (V := (Int × Int × (List Int))) (p_Whole_Mul_l4 a0 a1 g10 x14) o16 [2, 3, 4, 5, 6, 7, 21, 22, 23, 29, 30] [8, 31] 4 (fun g23 => [(8, .d (di .u64 g23.1)), (31, .d (di .i64 g23.2.1))]) (fun g23 => [.fix 30 [.d (dbool a0.Neg), .d (eS2 a0.L)], .fix 30 [.d (dbool a1.Neg), .d (eS2 a1.L)], .fix 30 [.d (dbool false), .d (.v (.slice none 0 0))], .fix 106 (List.map (fun z => SV.d (keS2 z)) g23.2.2)]) F ((0 : Int), (0 : Int), g10.2) l17 rfl rfl (LeL.refl _) rfl (okU_mk rfl (okU_cons rfl (okU_cons rfl (okU_cons rfl (okU_cons (okU_fixl (fun _ => rfl)) okU_nil))))) ?_
        intro n25 g23 h2
        unfold p_Whole_Mul_l4 at h2
        refine AC.seq ?_
        refine AC.region ?_
        refine AO.op rfl (AOp.ilss rfl rfl (ltb rfl) rfl rfl ?_)
        refine AO.nil ?_
        change AC _ _ _ _
        refine AC.seq ?_
        refine AC.cond rfl (fun q26 => ?_) (fun q26 => ?_)
        · replace h2 := cT h2 q26
          refine AC.skip ?_
          change AC _ _ _ _
          refine AC.seq ?_
          refine AC.block ?_
          refine AC.seq ?_
          refine AC.region ?_
          refine AO.op rfl (AOp.move rfl rfl (ltb rfl) rfl ?_)
          obtain ⟨x27, q28, h2⟩ := idx_elim h2
          refine AO.op rfl (AOp.indexDs (cells := (List.map keS2 a1.L)) rfl rfl (ltb rfl) rfl rfl el28 (by decide) q28.1 (lt1 q28.2) ?_)
          refine AO.op rfl (AOp.loadEp rfl rfl (ltb rfl) rfl agg106 (at1 q28.2) ?_)
          refine AO.op rfl (AOp.assign rfl rfl (ltb rfl) rfl ?_)
          refine AO.op rfl (AOp.assign rfl rfl (ltb rfl) rfl ?_)
          refine AO.nil ?_
          change AC _ _ _ _
          refine AC.seq ?_
          refine AC.region ?_
          refine AO.op rfl (AOp.move rfl rfl (ltb rfl) rfl ?_)
          refine AO.op rfl (AOp.i2i rfl rfl (ltb rfl) rfl Try.underlying106 Try.underlying91 rfl ?_)
          refine AO.op rfl (AOp.move rfl rfl (ltb rfl) rfl ?_)
          refine AO.op rfl (AOp.i2i rfl rfl (ltb rfl) rfl Try.underlying106 Try.underlying91 rfl ?_)
          obtain ⟨q29, h2⟩ := need_elim h2
          refine AO.op rfl (AOp.imul rfl rfl (ltb rfl) rfl rfl rfl q29.1 q29.2 ?_)
          refine AO.op rfl (AOp.move rfl rfl (ltb rfl) rfl ?_)
          refine AO.op rfl (AOp.move rfl rfl (ltb rfl) rfl ?_)
          refine AO.op rfl (AOp.move rfl rfl (ltb rfl) rfl ?_)
          obtain ⟨q30, h2⟩ := need_elim h2
          refine AO.op rfl (AOp.iadd rfl rfl (ltb rfl) rfl rfl rfl q30.1 q30.2 ?_)
          obtain ⟨q31, h2⟩ := need_elim h2
          refine AO.op rfl (AOp.indexSl rfl rfl (ltb rfl) rfl rfl el28 q31.1 q31.2 ?_)
          obtain ⟨x32, q33, h2⟩ := idx_elim h2
          refine AO.op rfl (AOp.load1 rfl rfl (ltb rfl) rfl agg106 rfl (atO q33.2) ?_)
          refine AO.op rfl (AOp.i2i rfl rfl (ltb rfl) rfl Try.underlying106 Try.underlying91 rfl ?_)
          obtain ⟨q34, h2⟩ := need_elim h2
          refine AO.op rfl (AOp.iadd rfl rfl (ltb rfl) rfl rfl rfl q34.1 q34.2 ?_)
          refine AO.op rfl (AOp.move rfl rfl (ltb rfl) rfl ?_)
          obtain ⟨q35, h2⟩ := need_elim h2
          refine AO.op rfl (AOp.iadd rfl rfl (ltb rfl) rfl rfl rfl q35.1 q35.2 ?_)
          refine AO.op rfl (AOp.assign rfl rfl (ltb rfl) rfl ?_)
          refine AO.nil ?_
          change AC _ _ _ _
          refine AC.seq ?_
          refine AC.region ?_
          refine AO.op rfl (AOp.move rfl rfl (ltb rfl) rfl ?_)
          refine AO.op rfl (AOp.move rfl rfl (ltb rfl) rfl ?_)
          refine AO.op rfl (AOp.move rfl rfl (ltb rfl) rfl ?_)
          obtain ⟨q36, h2⟩ := need_elim h2
          refine AO.op rfl (AOp.iadd rfl rfl (ltb rfl) rfl rfl rfl q36.1 q36.2 ?_)
          refine AO.op rfl (AOp.move rfl rfl (ltb rfl) rfl ?_)
          refine AO.op rfl (AOp.i2i rfl rfl (ltb rfl) rfl Try.underlying91 Try.underlying106 rfl ?_)
          obtain ⟨q37, h2⟩ := need_elim h2
          refine AO.op rfl (AOp.indexSl rfl rfl (ltb rfl) rfl rfl el28 q37.1 q37.2 ?_)
          obtain ⟨q38, h2⟩ := need_elim h2
          refine AO.op rfl (AOp.storeL (f := fun z => SV.d (keS2 z)) (l := g23.2.2) (i := ((g10.1 + g23.2.1)).toNat) (v := (IntKind.u32.wrap ((((IntKind.u64.wrap x14) * (IntKind.u64.wrap x27)) + (IntKind.u64.wrap x32)) + g23.1))) rfl rfl rfl rfl size106 rfl rfl rfl q38 ?_)
          refine AO.nil ?_
          change AC _ _ _ _
          refine AC.region ?_
          refine AO.op rfl (AOp.move rfl rfl (ltb rfl) rfl ?_)
          obtain ⟨q39, h2⟩ := need_elim h2
          refine AO.op rfl (AOp.ishr (n := 32) rfl rfl (ltb rfl) rfl rfl (by decide) q39 rfl ?_)
          refine AO.op rfl (AOp.assign rfl rfl (ltb rfl) rfl ?_)
          refine AO.nil ?_
          change AC _ _ _ _
          refine AC.region ?_
          obtain ⟨q40, h2⟩ := need_elim h2
          refine AO.op rfl (AOp.iadd rfl rfl (ltb rfl) rfl rfl rfl q40.1 q40.2 ?_)
          refine AO.op rfl (AOp.move rfl rfl (ltb rfl) rfl ?_)
          refine AO.nil ?_
          exact ⟨((((((IntKind.u64.wrap x14) * (IntKind.u64.wrap x27)) + (IntKind.u64.wrap x32)) + g23.1) / 2 ^ 32), (g23.2.1 + (1 : Int)), (g23.2.2.set ((g10.1 + g23.2.1)).toNat (IntKind.u32.wrap ((((IntKind.u64.wrap x14) * (IntKind.u64.wrap x27)) + (IntKind.u64.wrap x32)) + g23.1)))), _, rfl, (LeL.refl _), rfl, (okU_mk rfl (okU_cons rfl (okU_cons rfl (okU_cons rfl (okU_cons (okU_fixl (fun _ => rfl)) okU_nil))))), h2⟩
        · replace h2 := cF h2 q26
          refine AC.exit ?_
          obtain rfl := Option.some.inj h2
          exact ⟨(g23.1, g23.2.2), _, rfl, (LeL.refl _), rfl, (okU_mk rfl (okU_cons rfl (okU_cons rfl (okU_cons rfl (okU_cons (okU_fixl (fun _ => rfl)) okU_nil))))), aftL h1⟩
      · intro g18 h1
        unfold p_Whole_Mul_k3 at h1
        change AC _ _ _ _
        refine AC.region ?_
        refine AO.op rfl (AOp.move rfl rfl (ltb rfl) rfl ?_)
        refine AO.op rfl (AOp.move rfl rfl (ltb rfl) rfl ?_)
        refine AO.op rfl (AOp.fieldAddr rfl rfl (ltb rfl) rfl fo30_1 ?_)
        refine AO.op rfl (AOp.load1 rfl rfl (ltb rfl) rfl agg28 rfl rfl ?_)
        refine AO.op rfl (AOp.lenDs (n := a1.L.length) (cells := (List.map keS2 a1.L)) rfl rfl (ltb rfl) rfl el28 (by decide) (len1 _ _) ?_)
        obtain ⟨q19, h1⟩ := need_elim h1
        refine AO.op rfl (AOp.iadd rfl rfl (ltb rfl) rfl rfl rfl q19.1 q19.2 ?_)
        refine AO.op rfl (AOp.move rfl rfl (ltb rfl) rfl ?_)
        refine AO.op rfl (AOp.i2i rfl rfl (ltb rfl) rfl Try.underlying91 Try.underlying106 rfl ?_)
        obtain ⟨q20, h1⟩ := need_elim h1
        refine AO.op rfl (AOp.indexSl rfl rfl (ltb rfl) rfl rfl el28 q20.1 q20.2 ?_)
        obtain ⟨q21, h1⟩ := need_elim h1
        refine AO.op rfl (AOp.storeL (f := fun z => SV.d (keS2 z)) (l := g18.2) (i := ((g10.1 + ((a1.L.length : Nat) : Int))).toNat) (v := (IntKind.u32.wrap g18.1)) rfl rfl rfl rfl size106 rfl rfl rfl q21 ?_)
        refine AO.nil ?_
        change AC _ _ _ _
        refine AC.region ?_
        obtain ⟨q22, h1⟩ := need_elim h1
        refine AO.op rfl (AOp.iadd rfl rfl (ltb rfl) rfl rfl rfl q22.1 q22.2 ?_)
        refine AO.op rfl (AOp.move rfl rfl (ltb rfl) rfl ?_)
        refine AO.nil ?_
        exact ⟨((g10.1 + (1 : Int)), (g18.2.set ((g10.1 + ((a1.L.length : Nat) : Int))).toNat (IntKind.u32.wrap g18.1))), _, rfl, (LeL.refl _), rfl, (okU_mk rfl (okU_cons rfl (okU_cons rfl (okU_cons rfl (okU_cons (okU_fixl (fun _ => rfl)) okU_nil))))), h1⟩
    · replace h1 := cF h1 q13
      refine AC.exit ?_
      obtain rfl := Option.some.inj h1
      exact ⟨g10.2, _, rfl, (LeL.refl _), rfl, (okU_mk rfl (okU_cons rfl (okU_cons rfl (okU_cons rfl (okU_cons (okU_fixl (fun _ => rfl)) okU_nil))))), aftL h0⟩
  · intro g5 h0
    unfold p_Whole_Mul_k1 at h0
    change AC _ _ _ _
    refine AC.seq ?_
    refine AC.region ?_
    refine AO.op rfl (AOp.move rfl rfl (ltb rfl) rfl ?_)
    obtain ⟨q6, h0⟩ := need_elim h0
    refine AO.freezeF (ds := (List.map keS2 g5)) 71 3 rfl rfl rfl (by rw [List.map_map]; rfl) (lenq q6 (len1 _ _)) (Nat.le_refl _) ?_
    obtain ⟨y7, q8, h0⟩ := bind_elim h0
    refine AO.op rfl (AOp.callD rfl rfl (ltb rfl) rfl rfl (w_trim F g5 y7 q8) ?_)
    rintro _ rfl
    refine AO.op rfl (AOp.assign rfl rfl (ltb rfl) rfl ?_)
    refine AO.nil ?_
    change AC _ _ _ _
    refine AC.seq ?_
    refine AC.region ?_
    refine AO.op rfl (AOp.move rfl rfl (ltb rfl) rfl ?_)
    refine AO.op rfl (AOp.lenDs (n := y7.length) (cells := (List.map keS2 y7)) rfl rfl (ltb rfl) rfl el28 (by decide) (len1 _ _) ?_)
    refine AO.op rfl (AOp.igtr rfl rfl (ltb rfl) rfl rfl ?_)
    refine AO.op rfl (AOp.move rfl rfl (ltb rfl) rfl ?_)
    refine AO.dec (decide ((0 : Int) < ((y7.length : Nat) : Int))) (fun q9 => ?_) (fun q9 => ?_)
    · replace h0 := cT h0 q9
      refine AO.guardY rfl rfl rfl q9 (AOp.fieldAddr rfl rfl (ltb rfl) rfl fo30_0 ?_)
      refine AO.guardY rfl rfl rfl q9 (AOp.load1 rfl rfl (ltb rfl) rfl agg4 rfl rfl ?_)
      refine AO.guardY rfl rfl rfl q9 (AOp.fieldAddr rfl rfl (ltb rfl) rfl fo30_0 ?_)
      refine AO.guardY rfl rfl rfl q9 (AOp.load1 rfl rfl (ltb rfl) rfl agg4 rfl rfl ?_)
      refine AO.guardY rfl rfl rfl q9 (AOp.bneq Try.underlying4 rfl rfl (ltb rfl) rfl rfl ?_)
      refine AO.op rfl (AOp.pick rfl rfl (ltb rfl) rfl q9 rfl ?_)
      refine AO.op rfl (AOp.move rfl rfl (ltb rfl) rfl ?_)
      refine AO.op rfl (AOp.build rfl rfl (ltb rfl) zero30 rfl places30 rfl rfl ?_)
      refine AO.op rfl (AOp.store rfl rfl rfl rfl size30 rfl rfl rfl (leb rfl) ?_)
      refine AO.nil ?_
      change AC _ _ _ _
      refine AC.ret ?_
      change RetQ _ _ _ .ret _
      obtain rfl := Option.some.inj h0
      refine retq rfl rfl
    · replace h0 := cF h0 q9
      refine AO.guardN rfl rfl rfl (ltb rfl) rfl q9 ?_
      refine AO.guardN rfl rfl rfl (ltb rfl) rfl q9 ?_
      refine AO.guardN rfl rfl rfl (ltb rfl) rfl q9 ?_
      refine AO.guardN rfl rfl rfl (ltb rfl) rfl q9 ?_
      refine AO.guardN rfl rfl rfl (ltb rfl) rfl q9 ?_
      refine AO.op rfl (AOp.pickN rfl rfl (ltb rfl) rfl q9 rfl ?_)
      refine AO.op rfl (AOp.move rfl rfl (ltb rfl) rfl ?_)
      refine AO.op rfl (AOp.build rfl rfl (ltb rfl) zero30 rfl places30 rfl rfl ?_)
      refine AO.op rfl (AOp.store rfl rfl rfl rfl size30 rfl rfl rfl (leb rfl) ?_)
      refine AO.nil ?_
      change AC _ _ _ _
      refine AC.ret ?_
      change RetQ _ _ _ .ret _
      obtain rfl := Option.some.inj h0
      refine retq rfl rfl

set_option maxRecDepth 100000 in
set_option maxHeartbeats 1000000 in
/-- (pub-orthodrome/spec.Dyadic).Mul -/
theorem w_Dyadic_Mul (F : Nat) (a0 : TSpec_Dyadic) (a1 : TSpec_Dyadic) (r0 : TSpec_Dyadic) (h0 : p_Dyadic_Mul F a0 a1 = some r0) : FnD Try.prog 18 [e_TSpec_Dyadic a0, e_TSpec_Dyadic a1] (fun r => r = e_TSpec_Dyadic r0) := by
  refine FnD.of (by kernel_rfl) Try.func18 rfl Try.ntmps18 rfl (leb rfl) fun W ok => ?_
  unfold p_Dyadic_Mul at h0
  refine AC.seq ?_
  refine AC.region ?_
  refine AO.op rfl (AOp.box rfl rfl (ltb rfl) rfl rfl ?_)
  refine AO.op rfl (AOp.box rfl rfl (ltb rfl) rfl rfl ?_)
  refine AO.op rfl (AOp.alloc rfl rfl (ltb rfl) zero32 rfl ?_)
  refine AO.nil ?_
  change AC _ _ _ _
  refine AC.seq ?_
  refine AC.draw 11 mixed (by kernel_rfl) ?_
  refine AD.op [2] rfl (by kernel_rfl) rfl rfl (fun _ _ h => AOp.fieldAddr rfl rfl (ltb rfl) rfl fo32_0 h) ?_
  refine AD.op [5] rfl (by kernel_rfl) rfl rfl (fun _ _ h => AOp.loadN rfl rfl (ltb rfl) rfl agg30 size30 rfl (leb rfl) rfl h) ?_
  refine AD.op [3] rfl (by kernel_rfl) rfl rfl (fun _ _ h => AOp.fieldAddr rfl rfl (ltb rfl) rfl fo32_0 h) ?_
  refine AD.op [7] rfl (by kernel_rfl) rfl rfl (fun _ _ h => AOp.loadN rfl rfl (ltb rfl) rfl agg30 size30 rfl (leb rfl) rfl h) ?_
  obtain ⟨y1, q2, h0⟩ := bind_elim h0
  refine AD.op [6, 8] rfl (by kernel_rfl) rfl rfl (fun _ _ h => AOp.callD rfl rfl (ltb rfl) rfl rfl (w_Whole_Mul F a0.N a1.N y1 q2) (by rintro _ rfl; exact h)) ?_
  refine AD.op [2] rfl (by kernel_rfl) rfl rfl (fun _ _ h => AOp.fieldAddr rfl rfl (ltb rfl) rfl fo32_1 h) ?_
  refine AD.op [10] rfl (by kernel_rfl) rfl rfl (fun _ _ h => AOp.load1 rfl rfl (ltb rfl) rfl agg3 rfl rfl h) ?_
  refine AD.op [3] rfl (by kernel_rfl) rfl rfl (fun _ _ h => AOp.fieldAddr rfl rfl (ltb rfl) rfl fo32_1 h) ?_
  refine AD.op [12] rfl (by kernel_rfl) rfl rfl (fun _ _ h => AOp.load1 rfl rfl (ltb rfl) rfl agg3 rfl rfl h) ?_
  obtain ⟨q3, h0⟩ := need_elim h0
  refine AD.op [11, 13] rfl (by kernel_rfl) rfl rfl (fun _ _ h => AOp.iadd rfl rfl (ltb rfl) rfl rfl rfl q3.1 q3.2 h) ?_
  refine AD.op [9, 14] rfl (by kernel_rfl) rfl rfl (fun _ _ h => AOp.build rfl rfl (ltb rfl) zero32 rfl places32 rfl rfl h) ?_
  refine AD.done ?_
  refine AO.op rfl (AOp.store rfl rfl rfl rfl size32 rfl rfl rfl (leb rfl) ?_)
  refine AO.nil ?_
  change AC _ _ _ _
  refine AC.ret ?_
  change RetQ _ _ _ .ret _
  obtain rfl := Option.some.inj h0
  refine retq rfl rfl

set_option maxRecDepth 100000 in
set_option maxHeartbeats 1000000 in
/-- pub-orthodrome/spec.Dot3 -/
theorem w_Dot3 (F : Nat) (a0 : TSpec_Point3) (a1 : TSpec_Point3) (r0 : TSpec_Dyadic) (h0 : p_Dot3 F a0 a1 = some r0) : FnD Try.prog 56 [e_TSpec_Point3 a0, e_TSpec_Point3 a1] (fun r => r = e_TSpec_Dyadic r0) := by
  refine FnD.of (by kernel_rfl) Try.func56 rfl Try.ntmps56 rfl (leb rfl) fun W ok => ?_
  unfold p_Dot3 at h0
  refine AC.seq ?_
  refine AC.region ?_
  refine AO.op rfl (AOp.box rfl rfl (ltb rfl) rfl rfl ?_)
  refine AO.op rfl (AOp.box rfl rfl (ltb rfl) rfl rfl ?_)
  refine AO.op rfl (AOp.alloc rfl rfl (ltb rfl) zero32 rfl ?_)
  refine AO.nil ?_
  change AC _ _ _ _
  refine AC.seq ?_
  refine AC.draw 17 mixed (by kernel_rfl) ?_
  refine AD.op [2] rfl (by kernel_rfl) rfl rfl (fun _ _ h => AOp.fieldAddr rfl rfl (ltb rfl) rfl fo53_0 h) ?_
  refine AD.op [5] rfl (by kernel_rfl) rfl rfl (fun _ _ h => AOp.loadN rfl rfl (ltb rfl) rfl agg32 size32 rfl (leb rfl) rfl h) ?_
  refine AD.op [3] rfl (by kernel_rfl) rfl rfl (fun _ _ h => AOp.fieldAddr rfl rfl (ltb rfl) rfl fo53_0 h) ?_
  refine AD.op [7] rfl (by kernel_rfl) rfl rfl (fun _ _ h => AOp.loadN rfl rfl (ltb rfl) rfl agg32 size32 rfl (leb rfl) rfl h) ?_
  obtain ⟨y1, q2, h0⟩ := bind_elim h0
  refine AD.op [6, 8] rfl (by kernel_rfl) rfl rfl (fun _ _ h => AOp.callD rfl rfl (ltb rfl) rfl rfl (w_Dyadic_Mul F a0.X a1.X y1 q2) (by rintro _ rfl; exact h)) ?_
  refine AD.op [2] rfl (by kernel_rfl) rfl rfl (fun _ _ h => AOp.fieldAddr rfl rfl (ltb rfl) rfl fo53_1 h) ?_
  refine AD.op [10] rfl (by kernel_rfl) rfl rfl (fun _ _ h => AOp.loadN rfl rfl (ltb rfl) rfl agg32 size32 rfl (leb rfl) rfl h) ?_
  refine AD.op [3] rfl (by kernel_rfl) rfl rfl (fun _ _ h => AOp.fieldAddr rfl rfl (ltb rfl) rfl fo53_1 h) ?_
  refine AD.op [12] rfl (by kernel_rfl) rfl rfl (fun _ _ h => AOp.loadN rfl rfl (ltb rfl) rfl agg32 size32 rfl (leb rfl) rfl h) ?_
  obtain ⟨y3, q4, h0⟩ := bind_elim h0
  refine AD.op [11, 13] rfl (by kernel_rfl) rfl rfl (fun _ _ h => AOp.callD rfl rfl (ltb rfl) rfl rfl (w_Dyadic_Mul F a0.Y a1.Y y3 q4) (by rintro _ rfl; exact h)) ?_
  obtain ⟨y5, q6, h0⟩ := bind_elim h0
  refine AD.op [9, 14] rfl (by kernel_rfl) rfl rfl (fun _ _ h => AOp.callD rfl rfl (ltb rfl) rfl rfl (w_Dyadic_Add F y1 y3 y5 q6) (by rintro _ rfl; exact h)) ?_
  refine AD.op [2] rfl (by kernel_rfl) rfl rfl (fun _ _ h => AOp.fieldAddr rfl rfl (ltb rfl) rfl fo53_2 h) ?_
  refine AD.op [16] rfl (by kernel_rfl) rfl rfl (fun _ _ h => AOp.loadN rfl rfl (ltb rfl) rfl agg32 size32 rfl (leb rfl) rfl h) ?_
  refine AD.op [3] rfl (by kernel_rfl) rfl rfl (fun _ _ h => AOp.fieldAddr rfl rfl (ltb rfl) rfl fo53_2 h) ?_
  refine AD.op [18] rfl (by kernel_rfl) rfl rfl (fun _ _ h => AOp.loadN rfl rfl (ltb rfl) rfl agg32 size32 rfl (leb rfl) rfl h) ?_
  obtain ⟨y7, q8, h0⟩ := bind_elim h0
  refine AD.op [17, 19] rfl (by kernel_rfl) rfl rfl (fun _ _ h => AOp.callD rfl rfl (ltb rfl) rfl rfl (w_Dyadic_Mul F a0.Z a1.Z y7 q8) (by rintro _ rfl; exact h)) ?_
  obtain ⟨y9, q10, h0⟩ := bind_elim h0
  refine AD.op [15, 20] rfl (by kernel_rfl) rfl rfl (fun _ _ h => AOp.callD rfl rfl (ltb rfl) rfl rfl (w_Dyadic_Add F y5 y7 y9 q10) (by rintro _ rfl; exact h)) ?_
  refine AD.done ?_
  refine AO.op rfl (AOp.store rfl rfl rfl rfl size32 rfl rfl rfl (leb rfl) ?_)
  refine AO.nil ?_
  change AC _ _ _ _
  refine AC.ret ?_
  change RetQ _ _ _ .ret _
  obtain rfl := Option.some.inj h0
  refine retq rfl rfl

set_option maxRecDepth 100000 in
set_option maxHeartbeats 1000000 in
/-- pub-orthodrome/spec.IntOf -/
theorem w_IntOf (F : Nat) (a0 : Int) (r0 : TSpec_Dyadic) (h0 : p_IntOf F a0 = some r0) : FnD Try.prog 44 [di .i64 a0] (fun r => r = e_TSpec_Dyadic r0) := by
  refine FnD.of (by kernel_rfl) Try.func44 rfl Try.ntmps44 rfl (leb rfl) fun W ok => ?_
  unfold p_IntOf at h0
  refine AC.seq ?_
  refine AC.region ?_
  refine AO.op rfl (AOp.alloc rfl rfl (ltb rfl) zero32 rfl ?_)
  refine AO.nil ?_
  change AC _ _ _ _
  refine AC.seq ?_
  refine AC.region ?_
  refine AO.op rfl (AOp.move rfl rfl (ltb rfl) rfl ?_)
  obtain ⟨y1, q2, h0⟩ := bind_elim h0
  refine AO.op rfl (AOp.callD rfl rfl (ltb rfl) rfl rfl (w_WholeOf F a0 y1 q2) ?_)
  rintro _ rfl
  refine AO.op rfl (AOp.build rfl rfl (ltb rfl) zero32 rfl places32 rfl rfl ?_)
  refine AO.op rfl (AOp.store rfl rfl rfl rfl size32 rfl rfl rfl (leb rfl) ?_)
  refine AO.nil ?_
  change AC _ _ _ _
  refine AC.ret ?_
  change RetQ _ _ _ .ret _
  obtain rfl := Option.some.inj h0
  refine retq rfl rfl

set_option maxRecDepth 100000 in
set_option maxHeartbeats 1000000 in
/-- pub-orthodrome/spec.Square3 -/
theorem w_Square3 (F : Nat) (a0 : TSpec_Point3) (a1 : TSpec_Point3) (r0 : TSpec_Dyadic) (h0 : p_Square3 F a0 a1 = some r0) : FnD Try.prog 23 [e_TSpec_Point3 a0, e_TSpec_Point3 a1] (fun r => r = e_TSpec_Dyadic r0) := by
  refine FnD.of (by kernel_rfl) Try.func23 rfl Try.ntmps23 rfl (leb rfl) fun W ok => ?_
  unfold p_Square3 at h0
  refine AC.seq ?_
  refine AC.region ?_
  refine AO.op rfl (AOp.box rfl rfl (ltb rfl) rfl rfl ?_)
  refine AO.op rfl (AOp.box rfl rfl (ltb rfl) rfl rfl ?_)
  refine AO.op rfl (AOp.alloc rfl rfl (ltb rfl) zero32 rfl ?_)
  refine AO.nil ?_
  change AC _ _ _ _
  refine AC.seq ?_
  refine AC.region ?_
  refine AO.op rfl (AOp.loadN rfl rfl (ltb rfl) rfl agg53 size53 rfl (leb rfl) rfl ?_)
  refine AO.op rfl (AOp.loadN rfl rfl (ltb rfl) rfl agg53 size53 rfl (leb rfl) rfl ?_)
  obtain ⟨y1, q2, h0⟩ := bind_elim h0
  refine AO.op rfl (AOp.callD rfl rfl (ltb rfl) rfl rfl (w_Point3_Sub F a0 a1 y1 q2) ?_)
  rintro _ rfl
  refine AO.op rfl (AOp.alloc rfl rfl (ltb rfl) zero53 rfl ?_)
  refine AO.op rfl (AOp.store rfl rfl rfl rfl size53 rfl rfl rfl (leb rfl) ?_)
  refine AO.nil ?_
  change AC _ _ _ _
  refine AC.seq ?_
  refine AC.region ?_
  refine AO.op rfl (AOp.loadN rfl rfl (ltb rfl) rfl agg53 size53 rfl (leb rfl) rfl ?_)
  refine AO.op rfl (AOp.loadN rfl rfl (ltb rfl) rfl agg53 size53 rfl (leb rfl) rfl ?_)
  obtain ⟨y3, q4, h0⟩ := bind_elim h0
  refine AO.op rfl (AOp.callD rfl rfl (ltb rfl) rfl rfl (w_Dot3 F y1 y1 y3 q4) ?_)
  rintro _ rfl
  refine AO.op rfl (AOp.store rfl rfl rfl rfl size32 rfl rfl rfl (leb rfl) ?_)
  refine AO.nil ?_
  change AC _ _ _ _
  refine AC.ret ?_
  change RetQ _ _ _ .ret _
  obtain rfl := Option.some.inj h0
  refine retq rfl rfl

set_option maxRecDepth 100000 in
set_option maxHeartbeats 1000000 in
/-- (pub-orthodrome/spec.Dyadic).Cmp -/
theorem w_Dyadic_Cmp (F : Nat) (a0 : TSpec_Dyadic) (a1 : TSpec_Dyadic) (r0 : Int) (h0 : p_Dyadic_Cmp F a0 a1 = some r0) : FnD Try.prog 39 [e_TSpec_Dyadic a0, e_TSpec_Dyadic a1] (fun r => r = di .i64 r0) := by
  refine FnD.of (by kernel_rfl) Try.func39 rfl Try.ntmps39 rfl (leb rfl) fun W ok => ?_
  unfold p_Dyadic_Cmp at h0
  refine AC.seq ?_
  refine AC.region ?_
  refine AO.op rfl (AOp.box rfl rfl (ltb rfl) rfl rfl ?_)
  refine AO.op rfl (AOp.box rfl rfl (ltb rfl) rfl rfl ?_)
  refine AO.op rfl (AOp.assign rfl rfl (ltb rfl) rfl ?_)
  refine AO.nil ?_
  change AC _ _ _ _
  refine AC.seq ?_
  refine AC.region ?_
  refine AO.op rfl (AOp.loadN rfl rfl (ltb rfl) rfl agg32 size32 rfl (leb rfl) rfl ?_)
  refine AO.op rfl (AOp.loadN rfl rfl (ltb rfl) rfl agg32 size32 rfl (leb rfl) rfl ?_)
  obtain ⟨y1, q2, h0⟩ := bind_elim h0
  refine AO.op rfl (AOp.callD rfl rfl (ltb rfl) rfl rfl (w_Dyadic_Sub F a0 a1 y1 q2) ?_)
  rintro _ rfl
  obtain ⟨y3, q4, h0⟩ := bind_elim h0
  refine AO.op rfl (AOp.callD rfl rfl (ltb rfl) rfl rfl (w_Dyadic_Sign y1 y3 q4) ?_)
  rintro _ rfl
  refine AO.op rfl (AOp.assign rfl rfl (ltb rfl) rfl ?_)
  refine AO.nil ?_
  change AC _ _ _ _
  refine AC.ret ?_
  change RetQ _ _ _ .ret _
  obtain rfl := Option.some.inj h0
  refine retq rfl rfl

set_option maxRecDepth 100000 in
set_option maxHeartbeats 1000000 in
/-- pub-orthodrome/spec.Cross3 -/
theorem w_Cross3 (F : Nat) (a0 : TSpec_Point3) (a1 : TSpec_Point3) (r0 : TSpec_Point3) (h0 : p_Cross3 F a0 a1 = some r0) : FnD Try.prog 64 [e_TSpec_Point3 a0, e_TSpec_Point3 a1] (fun r => r = e_TSpec_Point3 r0) := by
  refine FnD.of (by kernel_rfl) Try.func64 rfl Try.ntmps64 rfl (leb rfl) fun W ok => ?_
  unfold p_Cross3 at h0
  refine AC.seq ?_
  refine AC.region ?_
  refine AO.op rfl (AOp.box rfl rfl (ltb rfl) rfl rfl ?_)
  refine AO.op rfl (AOp.box rfl rfl (ltb rfl) rfl rfl ?_)
  refine AO.op rfl (AOp.alloc rfl rfl (ltb rfl) zero53 rfl ?_)
  refine AO.nil ?_
  change AC _ _ _ _
  refine AC.seq ?_
  refine AC.draw 34 mixed (by kernel_rfl) ?_
  refine AD.op [2] rfl (by kernel_rfl) rfl rfl (fun _ _ h => AOp.fieldAddr rfl rfl (ltb rfl) rfl fo53_1 h) ?_
  refine AD.op [5] rfl (by kernel_rfl) rfl rfl (fun _ _ h => AOp.loadN rfl rfl (ltb rfl) rfl agg32 size32 rfl (leb rfl) rfl h) ?_
  refine AD.op [3] rfl (by kernel_rfl) rfl rfl (fun _ _ h => AOp.fieldAddr rfl rfl (ltb rfl) rfl fo53_2 h) ?_
  refine AD.op [7] rfl (by kernel_rfl) rfl rfl (fun _ _ h => AOp.loadN rfl rfl (ltb rfl) rfl agg32 size32 rfl (leb rfl) rfl h) ?_
  obtain ⟨y1, q2, h0⟩ := bind_elim h0
  refine AD.op [6, 8] rfl (by kernel_rfl) rfl rfl (fun _ _ h => AOp.callD rfl rfl (ltb rfl) rfl rfl (w_Dyadic_Mul F a0.Y a1.Z y1 q2) (by rintro _ rfl; exact h)) ?_
  refine AD.op [2] rfl (by kernel_rfl) rfl rfl (fun _ _ h => AOp.fieldAddr rfl rfl (ltb rfl) rfl fo53_2 h) ?_
  refine AD.op [10] rfl (by kernel_rfl) rfl rfl (fun _ _ h => AOp.loadN rfl rfl (ltb rfl) rfl agg32 size32 rfl (leb rfl) rfl h) ?_
  refine AD.op [3] rfl (by kernel_rfl) rfl rfl (fun _ _ h => AOp.fieldAddr rfl rfl (ltb rfl) rfl fo53_1 h) ?_
  refine AD.op [12] rfl (by kernel_rfl) rfl rfl (fun _ _ h => AOp.loadN rfl rfl (ltb rfl) rfl agg32 size32 rfl (leb rfl) rfl h) ?_
  obtain ⟨y3, q4, h0⟩ := bind_elim h0
  refine AD.op [11, 13] rfl (by kernel_rfl) rfl rfl (fun _ _ h => AOp.callD rfl rfl (ltb rfl) rfl rfl (w_Dyadic_Mul F a0.Z a1.Y y3 q4) (by rintro _ rfl; exact h)) ?_
  obtain ⟨y5, q6, h0⟩ := bind_elim h0
  refine AD.op [9, 14] rfl (by kernel_rfl) rfl rfl (fun _ _ h => AOp.callD rfl rfl (ltb rfl) rfl rfl (w_Dyadic_Sub F y1 y3 y5 q6) (by rintro _ rfl; exact h)) ?_
  refine AD.op [2] rfl (by kernel_rfl) rfl rfl (fun _ _ h => AOp.fieldAddr rfl rfl (ltb rfl) rfl fo53_2 h) ?_
  refine AD.op [16] rfl (by kernel_rfl) rfl rfl (fun _ _ h => AOp.loadN rfl rfl (ltb rfl) rfl agg32 size32 rfl (leb rfl) rfl h) ?_
  refine AD.op [3] rfl (by kernel_rfl) rfl rfl (fun _ _ h => AOp.fieldAddr rfl rfl (ltb rfl) rfl fo53_0 h) ?_
  refine AD.op [18] rfl (by kernel_rfl) rfl rfl (fun _ _ h => AOp.loadN rfl rfl (ltb rfl) rfl agg32 size32 rfl (leb rfl) rfl h) ?_
  obtain ⟨y7, q8, h0⟩ := bind_elim h0
  refine AD.op [17, 19] rfl (by kernel_rfl) rfl rfl (fun _ _ h => AOp.callD rfl rfl (ltb rfl) rfl rfl (w_Dyadic_Mul F a0.Z a1.X y7 q8) (by rintro _ rfl; exact h)) ?_
  refine AD.op [2] rfl (by kernel_rfl) rfl rfl (fun _ _ h => AOp.fieldAddr rfl rfl (ltb rfl) rfl fo53_0 h) ?_
  refine AD.op [21] rfl (by kernel_rfl) rfl rfl (fun _ _ h => AOp.loadN rfl rfl (ltb rfl) rfl agg32 size32 rfl (leb rfl) rfl h) ?_
  refine AD.op [3] rfl (by kernel_rfl) rfl rfl (fun _ _ h => AOp.fieldAddr rfl rfl (ltb rfl) rfl fo53_2 h) ?_
  refine AD.op [23] rfl (by kernel_rfl) rfl rfl (fun _ _ h => AOp.loadN rfl rfl (ltb rfl) rfl agg32 size32 rfl (leb rfl) rfl h) ?_
  obtain ⟨y9, q10, h0⟩ := bind_elim h0
  refine AD.op [22, 24] rfl (by kernel_rfl) rfl rfl (fun _ _ h => AOp.callD rfl rfl (ltb rfl) rfl rfl (w_Dyadic_Mul F a0.X a1.Z y9 q10) (by rintro _ rfl; exact h)) ?_
  obtain ⟨y11, q12, h0⟩ := bind_elim h0
  refine AD.op [20, 25] rfl (by kernel_rfl) rfl rfl (fun _ _ h => AOp.callD rfl rfl (ltb rfl) rfl rfl (w_Dyadic_Sub F y7 y9 y11 q12) (by rintro _ rfl; exact h)) ?_
  refine AD.op [2] rfl (by kernel_rfl) rfl rfl (fun _ _ h => AOp.fieldAddr rfl rfl (ltb rfl) rfl fo53_0 h) ?_
  refine AD.op [27] rfl (by kernel_rfl) rfl rfl (fun _ _ h => AOp.loadN rfl rfl (ltb rfl) rfl agg32 size32 rfl (leb rfl) rfl h) ?_
  refine AD.op [3] rfl (by kernel_rfl) rfl rfl (fun _ _ h => AOp.fieldAddr rfl rfl (ltb rfl) rfl fo53_1 h) ?_
  refine AD.op [29] rfl (by kernel_rfl) rfl rfl (fun _ _ h => AOp.loadN rfl rfl (ltb rfl) rfl agg32 size32 rfl (leb rfl) rfl h) ?_
  obtain ⟨y13, q14, h0⟩ := bind_elim h0
  refine AD.op [28, 30] rfl (by kernel_rfl) rfl rfl (fun _ _ h => AOp.callD rfl rfl (ltb rfl) rfl rfl (w_Dyadic_Mul F a0.X a1.Y y13 q14) (by rintro _ rfl; exact h)) ?_
  refine AD.op [2] rfl (by kernel_rfl) rfl rfl (fun _ _ h => AOp.fieldAddr rfl rfl (ltb rfl) rfl fo53_1 h) ?_
  refine AD.op [32] rfl (by kernel_rfl) rfl rfl (fun _ _ h => AOp.loadN rfl rfl (ltb rfl) rfl agg32 size32 rfl (leb rfl) rfl h) ?_
  refine AD.op [3] rfl (by kernel_rfl) rfl rfl (fun _ _ h => AOp.fieldAddr rfl rfl (ltb rfl) rfl fo53_0 h) ?_
  refine AD.op [34] rfl (by kernel_rfl) rfl rfl (fun _ _ h => AOp.loadN rfl rfl (ltb rfl) rfl agg32 size32 rfl (leb rfl) rfl h) ?_
  obtain ⟨y15, q16, h0⟩ := bind_elim h0
  refine AD.op [33, 35] rfl (by kernel_rfl) rfl rfl (fun _ _ h => AOp.callD rfl rfl (ltb rfl) rfl rfl (w_Dyadic_Mul F a0.Y a1.X y15 q16) (by rintro _ rfl; exact h)) ?_
  obtain ⟨y17, q18, h0⟩ := bind_elim h0
  refine AD.op [31, 36] rfl (by kernel_rfl) rfl rfl (fun _ _ h => AOp.callD rfl rfl (ltb rfl) rfl rfl (w_Dyadic_Sub F y13 y15 y17 q18) (by rintro _ rfl; exact h)) ?_
  refine AD.op [15, 26, 37] rfl (by kernel_rfl) rfl rfl (fun _ _ h => AOp.build rfl rfl (ltb rfl) zero53 rfl places53 rfl rfl h) ?_
  refine AD.done ?_
  refine AO.op rfl (AOp.store rfl rfl rfl rfl size53 rfl rfl rfl (leb rfl) ?_)
  refine AO.nil ?_
  change AC _ _ _ _
  refine AC.ret ?_
  change RetQ _ _ _ .ret _
  obtain rfl := Option.some.inj h0
  refine retq rfl rfl

set_option maxRecDepth 100000 in
set_option maxHeartbeats 1000000 in
/-- pub-orthodrome/spec.SquareTo3 -/
theorem w_SquareTo3 (F : Nat) (a0 : TSpec_Point3) (a1 : TSpec_Point3) (a2 : TSpec_Point3) (r0 : TSpec_Ratio) (h0 : p_SquareTo3 F a0 a1 a2 = some r0) : FnD Try.prog 28 [e_TSpec_Point3 a0, e_TSpec_Point3 a1, e_TSpec_Point3 a2] (fun r => r = e_TSpec_Ratio r0) := by
  refine FnD.of (by kernel_rfl) Try.func28 rfl Try.ntmps28 rfl (leb rfl) fun W ok => ?_
  unfold p_SquareTo3 at h0
  refine AC.seq ?_
  refine AC.region ?_
  refine AO.op rfl (AOp.box rfl rfl (ltb rfl) rfl rfl ?_)
  refine AO.op rfl (AOp.box rfl rfl (ltb rfl) rfl rfl ?_)
  refine AO.op rfl (AOp.box rfl rfl (ltb rfl) rfl rfl ?_)
  refine AO.op rfl (AOp.alloc rfl rfl (ltb rfl) zero34 rfl ?_)
  refine AO.nil ?_
  change AC _ _ _ _
  refine AC.seq ?_
  refine AC.room ?_
  refine AC.room ?_
  obtain ⟨y1, q2, h0⟩ := bind_elim h0
  obtain ⟨y3, q4, h0⟩ := bind_elim h0
  refine AC.drawS [0, 1, 2, 3, 4, 5, 6, 7] [6, 7] [8, 9] (fun L => [.fix 53 [.d (dbool a0.X.N.Neg), .d (eS2 a0.X.N.L), .d (di .i64 a0.X.E), .d (dbool a0.Y.N.Neg), .d (eS2 a0.Y.N.L), .d (di .i64 a0.Y.E), .d (dbool a0.Z.N.Neg), .d (eS2 a0.Z.N.L), .d (di .i64 a0.Z.E)], .fix 53 [.d (dbool a1.X.N.Neg), .d (eS2 a1.X.N.L), .d (di .i64 a1.X.E), .d (dbool a1.Y.N.Neg), .d (eS2 a1.Y.N.L), .d (di .i64 a1.Y.E), .d (dbool a1.Z.N.Neg), .d (eS2 a1.Z.N.L), .d (di .i64 a1.Z.E)], .fix 53 [.d (dbool a2.X.N.Neg), .d (eS2 a2.X.N.L), .d (di .i64 a2.X.E), .d (dbool a2.Y.N.Neg), .d (eS2 a2.Y.N.L), .d (di .i64 a2.Y.E), .d (dbool a2.Z.N.Neg), .d (eS2 a2.Z.N.L), .d (di .i64 a2.Z.E)], .fix 34 [.d (dbool false), .d (.v (.slice none 0 0)), .d (di .i64 (0 : Int)), .d (dbool false), .d (.v (.slice none 0 0)), .d (di .i64 (0 : Int))], bif L 6 then .fix 53 [.d (dbool false), .d (.v (.slice none 0 0)), .d (di .i64 (0 : Int)), .d (dbool false), .d (.v (.slice none 0 0)), .d (di .i64 (0 : Int)), .d (dbool false), .d (.v (.slice none 0 0)), .d (di .i64 (0 : Int))] else .dead, bif L 7 then .fix 53 [.d (dbool false), .d (.v (.slice none 0 0)), .d (di .i64 (0 : Int)), .d (dbool false), .d (.v (.slice none 0 0)), .d (di .i64 (0 : Int)), .d (dbool false), .d (.v (.slice none 0 0)), .d (di .i64 (0 : Int))] else .dead]) [(6, SV.noO2 4 6), (7, SV.noO2 5 6)] mixed (by kernel_rfl) (fun L L' h => by simp only [h 6 (by decide), h 7 (by decide)]) rfl ?_
  refine AS.op [5] [] [] [6, 7] rfl rfl rfl (by kernel_rfl) (by kernel_rfl) rfl rfl (fun _ _ _ h => AOp.loadN rfl rfl (ltb rfl) rfl agg53 size53 rfl (leb rfl) rfl h) (by kernel_rfl) ?_
  refine AS.op [4] [] [] [6, 7] rfl rfl rfl (by kernel_rfl) (by kernel_rfl) rfl rfl (fun _ _ _ h => AOp.loadN rfl rfl (ltb rfl) rfl agg53 size53 rfl (leb rfl) rfl h) (by kernel_rfl) ?_
  refine AS.op [13, 14] [] [] [6, 7] rfl rfl rfl (by kernel_rfl) (by kernel_rfl) rfl rfl (fun _ _ _ h => AOp.callD rfl rfl (ltb rfl) rfl rfl (w_Point3_Sub F a2 a1 y1 q2) (by rintro _ rfl; exact h)) (by kernel_rfl) ?_
  refine AS.op [3] [] [] [6, 7] rfl rfl rfl (by kernel_rfl) (by kernel_rfl) rfl rfl (fun _ _ _ h => AOp.loadN rfl rfl (ltb rfl) rfl agg53 size53 rfl (leb rfl) rfl h) (by kernel_rfl) ?_
  refine AS.op [4] [] [] [6, 7] rfl rfl rfl (by kernel_rfl) (by kernel_rfl) rfl rfl (fun _ _ _ h => AOp.loadN rfl rfl (ltb rfl) rfl agg53 size53 rfl (leb rfl) rfl h) (by kernel_rfl) ?_
  refine AS.op [16, 17] [] [] [6, 7] rfl rfl rfl (by kernel_rfl) (by kernel_rfl) rfl rfl (fun _ _ _ h => AOp.callD rfl rfl (ltb rfl) rfl rfl (w_Point3_Sub F a0 a1 y3 q4) (by rintro _ rfl; exact h)) (by kernel_rfl) ?_
  refine AS.mid [] [] [6] [7] rfl rfl rfl rfl (by kernel_rfl) (by kernel_rfl) rfl rfl (fun _ _ _ h => AOp.alloc rfl rfl (ltb rfl) zero53 rfl (AO.sink 4 6 rfl rfl rfl (.cons rfl (.cons rfl (.cons rfl (.cons rfl (.cons (noO2_cond rfl rfl) (.cons (noO2_cond rfl rfl) .nil)))))) rfl h)) (by kernel_rfl) rfl ?_
  refine AS.mid [] [] [7] [6] rfl rfl rfl rfl (by kernel_rfl) (by kernel_rfl) rfl rfl (fun _ _ _ h => AOp.alloc rfl rfl (ltb rfl) zero53 rfl (AO.sink 5 6 rfl rfl rfl (.cons rfl (.cons rfl (.cons rfl (.cons rfl (.cons (noO2_cond rfl rfl) (.cons (noO2_cond rfl rfl) .nil)))))) rfl h)) (by kernel_rfl) rfl ?_
  refine AS.done ?_
  refine AO.objs (obs' := [.fix 53 [.d (dbool a0.X.N.Neg), .d (eS2 a0.X.N.L), .d (di .i64 a0.X.E), .d (dbool a0.Y.N.Neg), .d (eS2 a0.Y.N.L), .d (di .i64 a0.Y.E), .d (dbool a0.Z.N.Neg), .d (eS2 a0.Z.N.L), .d (di .i64 a0.Z.E)], .fix 53 [.d (dbool a1.X.N.Neg), .d (eS2 a1.X.N.L), .d (di .i64 a1.X.E), .d (dbool a1.Y.N.Neg), .d (eS2 a1.Y.N.L), .d (di .i64 a1.Y.E), .d (dbool a1.Z.N.Neg), .d (eS2 a1.Z.N.L), .d (di .i64 a1.Z.E)], .fix 53 [.d (dbool a2.X.N.Neg), .d (eS2 a2.X.N.L), .d (di .i64 a2.X.E), .d (dbool a2.Y.N.Neg), .d (eS2 a2.Y.N.L), .d (di .i64 a2.Y.E), .d (dbool a2.Z.N.Neg), .d (eS2 a2.Z.N.L), .d (di .i64 a2.Z.E)], .fix 34 [.d (dbool false), .d (.v (.slice none 0 0)), .d (di .i64 (0 : Int)), .d (dbool false), .d (.v (.slice none 0 0)), .d (di .i64 (0 : Int))], .fix 53 [.d (dbool false), .d (.v (.slice none 0 0)), .d (di .i64 (0 : Int)), .d (dbool false), .d (.v (.slice none 0 0)), .d (di .i64 (0 : Int)), .d (dbool false), .d (.v (.slice none 0 0)), .d (di .i64 (0 : Int))], .fix 53 [.d (dbool false), .d (.v (.slice none 0 0)), .d (di .i64 (0 : Int)), .d (dbool false), .d (.v (.slice none 0 0)), .d (di .i64 (0 : Int)), .d (dbool false), .d (.v (.slice none 0 0)), .d (di .i64 (0 : Int))]]) rfl ?_
  refine AO.op rfl (AOp.store rfl rfl rfl rfl size53 rfl rfl rfl (leb rfl) ?_)
  refine AO.op rfl (AOp.store rfl rfl rfl rfl size53 rfl rfl rfl (leb rfl) ?_)
  refine AO.nil ?_
  change AC _ _ _ _
  refine AC.seq ?_
  refine AC.room ?_
  refine AC.room ?_
  obtain ⟨y5, q6, h0⟩ := bind_elim h0
  obtain ⟨y7, q8, h0⟩ := bind_elim h0
  refine AC.drawS [0, 1, 2, 3, 4, 5, 6, 7] [6, 7] [8, 9] (fun L => [.fix 53 [.d (dbool a0.X.N.Neg), .d (eS2 a0.X.N.L), .d (di .i64 a0.X.E), .d (dbool a0.Y.N.Neg), .d (eS2 a0.Y.N.L), .d (di .i64 a0.Y.E), .d (dbool a0.Z.N.Neg), .d (eS2 a0.Z.N.L), .d (di .i64 a0.Z.E)], .fix 53 [.d (dbool a1.X.N.Neg), .d (eS2 a1.X.N.L), .d (di .i64 a1.X.E), .d (dbool a1.Y.N.Neg), .d (eS2 a1.Y.N.L), .d (di .i64 a1.Y.E), .d (dbool a1.Z.N.Neg), .d (eS2 a1.Z.N.L), .d (di .i64 a1.Z.E)], .fix 53 [.d (dbool a2.X.N.Neg), .d (eS2 a2.X.N.L), .d (di .i64 a2.X.E), .d (dbool a2.Y.N.Neg), .d (eS2 a2.Y.N.L), .d (di .i64 a2.Y.E), .d (dbool a2.Z.N.Neg), .d (eS2 a2.Z.N.L), .d (di .i64 a2.Z.E)], .fix 34 [.d (dbool false), .d (.v (.slice none 0 0)), .d (di .i64 (0 : Int)), .d (dbool false), .d (.v (.slice none 0 0)), .d (di .i64 (0 : Int))], .fix 53 [.d (dbool y1.X.N.Neg), .d (eS2 y1.X.N.L), .d (di .i64 y1.X.E), .d (dbool y1.Y.N.Neg), .d (eS2 y1.Y.N.L), .d (di .i64 y1.Y.E), .d (dbool y1.Z.N.Neg), .d (eS2 y1.Z.N.L), .d (di .i64 y1.Z.E)], .fix 53 [.d (dbool y3.X.N.Neg), .d (eS2 y3.X.N.L), .d (di .i64 y3.X.E), .d (dbool y3.Y.N.Neg), .d (eS2 y3.Y.N.L), .d (di .i64 y3.Y.E), .d (dbool y3.Z.N.Neg), .d (eS2 y3.Z.N.L), .d (di .i64 y3.Z.E)], bif L 6 then .fix 32 [.d (dbool false), .d (.v (.slice none 0 0)), .d (di .i64 (0 : Int))] else .dead, bif L 7 then .fix 32 [.d (dbool false), .d (.v (.slice none 0 0)), .d (di .i64 (0 : Int))] else .dead]) [(6, SV.noO2 6 8), (7, SV.noO2 7 8)] mixed (by kernel_rfl) (fun L L' h => by simp only [h 6 (by decide), h 7 (by decide)]) rfl ?_
  refine AS.op [7] [] [] [6, 7] rfl rfl rfl (by kernel_rfl) (by kernel_rfl) rfl rfl (fun _ _ _ h => AOp.loadN rfl rfl (ltb rfl) rfl agg53 size53 rfl (leb rfl) rfl h) (by kernel_rfl) ?_
  refine AS.op [7] [] [] [6, 7] rfl rfl rfl (by kernel_rfl) (by kernel_rfl) rfl rfl (fun _ _ _ h => AOp.loadN rfl rfl (ltb rfl) rfl agg53 size53 rfl (leb rfl) rfl h) (by kernel_rfl) ?_
  refine AS.op [19, 20] [] [] [6, 7] rfl rfl rfl (by kernel_rfl) (by kernel_rfl) rfl rfl (fun _ _ _ h => AOp.callD rfl rfl (ltb rfl) rfl rfl (w_Dot3 F y1 y1 y5 q6) (by rintro _ rfl; exact h)) (by kernel_rfl) ?_
  refine AS.op [7] [] [] [6, 7] rfl rfl rfl (by kernel_rfl) (by kernel_rfl) rfl rfl (fun _ _ _ h => AOp.loadN rfl rfl (ltb rfl) rfl agg53 size53 rfl (leb rfl) rfl h) (by kernel_rfl) ?_
  refine AS.op [8] [] [] [6, 7] rfl rfl rfl (by kernel_rfl) (by kernel_rfl) rfl rfl (fun _ _ _ h => AOp.loadN rfl rfl (ltb rfl) rfl agg53 size53 rfl (leb rfl) rfl h) (by kernel_rfl) ?_
  refine AS.op [22, 23] [] [] [6, 7] rfl rfl rfl (by kernel_rfl) (by kernel_rfl) rfl rfl (fun _ _ _ h => AOp.callD rfl rfl (ltb rfl) rfl rfl (w_Dot3 F y1 y3 y7 q8) (by rintro _ rfl; exact h)) (by kernel_rfl) ?_
  refine AS.mid [] [] [6] [7] rfl rfl rfl rfl (by kernel_rfl) (by kernel_rfl) rfl rfl (fun _ _ _ h => AOp.alloc rfl rfl (ltb rfl) zero32 rfl (AO.sink 6 8 rfl rfl rfl (.cons rfl (.cons rfl (.cons rfl (.cons rfl (.cons rfl (.cons rfl (.cons (noO2_cond rfl rfl) (.cons (noO2_cond rfl rfl) .nil)))))))) rfl h)) (by kernel_rfl) rfl ?_
  refine AS.mid [] [] [7] [6] rfl rfl rfl rfl (by kernel_rfl) (by kernel_rfl) rfl rfl (fun _ _ _ h => AOp.alloc rfl rfl (ltb rfl) zero32 rfl (AO.sink 7 8 rfl rfl rfl (.cons rfl (.cons rfl (.cons rfl (.cons rfl (.cons rfl (.cons rfl (.cons (noO2_cond rfl rfl) (.cons (noO2_cond rfl rfl) .nil)))))))) rfl h)) (by kernel_rfl) rfl ?_
  refine AS.done ?_
  refine AO.objs (obs' := [.fix 53 [.d (dbool a0.X.N.Neg), .d (eS2 a0.X.N.L), .d (di .i64 a0.X.E), .d (dbool a0.Y.N.Neg), .d (eS2 a0.Y.N.L), .d (di .i64 a0.Y.E), .d (dbool a0.Z.N.Neg), .d (eS2 a0.Z.N.L), .d (di .i64 a0.Z.E)], .fix 53 [.d (dbool a1.X.N.Neg), .d (eS2 a1.X.N.L), .d (di .i64 a1.X.E), .d (dbool a1.Y.N.Neg), .d (eS2 a1.Y.N.L), .d (di .i64 a1.Y.E), .d (dbool a1.Z.N.Neg), .d (eS2 a1.Z.N.L), .d (di .i64 a1.Z.E)], .fix 53 [.d (dbool a2.X.N.Neg), .d (eS2 a2.X.N.L), .d (di .i64 a2.X.E), .d (dbool a2.Y.N.Neg), .d (eS2 a2.Y.N.L), .d (di .i64 a2.Y.E), .d (dbool a2.Z.N.Neg), .d (eS2 a2.Z.N.L), .d (di .i64 a2.Z.E)], .fix 34 [.d (dbool false), .d (.v (.slice none 0 0)), .d (di .i64 (0 : Int)), .d (dbool false), .d (.v (.slice none 0 0)), .d (di .i64 (0 : Int))], .fix 53 [.d (dbool y1.X.N.Neg), .d (eS2 y1.X.N.L), .d (di .i64 y1.X.E), .d (dbool y1.Y.N.Neg), .d (eS2 y1.Y.N.L), .d (di .i64 y1.Y.E), .d (dbool y1.Z.N.Neg), .d (eS2 y1.Z.N.L), .d (di .i64 y1.Z.E)], .fix 53 [.d (dbool y3.X.N.Neg), .d (eS2 y3.X.N.L), .d (di .i64 y3.X.E), .d (dbool y3.Y.N.Neg), .d (eS2 y3.Y.N.L), .d (di .i64 y3.Y.E), .d (dbool y3.Z.N.Neg), .d (eS2 y3.Z.N.L), .d (di .i64 y3.Z.E)], .fix 32 [.d (dbool false), .d (.v (.slice none 0 0)), .d (di .i64 (0 : Int))], .fix 32 [.d (dbool false), .d (.v (.slice none 0 0)), .d (di .i64 (0 : Int))]]) rfl ?_
  refine AO.op rfl (AOp.store rfl rfl rfl rfl size32 rfl rfl rfl (leb rfl) ?_)
  refine AO.op rfl (AOp.store rfl rfl rfl rfl size32 rfl rfl rfl (leb rfl) ?_)
  refine AO.nil ?_
  change AC _ _ _ _
  refine AC.seq ?_
  refine AC.region ?_
  obtain ⟨y9, q10, h0⟩ := bind_elim h0
  refine AO.op rfl (AOp.callD rfl rfl (ltb rfl) rfl rfl (w_IntOf F (1 : Int) y9 q10) ?_)
  rintro _ rfl
  refine AO.op rfl (AOp.alloc rfl rfl (ltb rfl) zero32 rfl ?_)
  refine AO.op rfl (AOp.store rfl rfl rfl rfl size32 rfl rfl rfl (leb rfl) ?_)
  refine AO.nil ?_
  change AC _ _ _ _
  refine AC.seq ?_
  refine AC.block ?_
  refine AC.joinP (V := Bool) [3, 4, 5, 6, 7, 8, 9, 10, 11] [26] 9 (fun g11 => [(26, .d (dbool g11))]) (fun g11 => [.fix 53 [.d (dbool a0.X.N.Neg), .d (eS2 a0.X.N.L), .d (di .i64 a0.X.E), .d (dbool a0.Y.N.Neg), .d (eS2 a0.Y.N.L), .d (di .i64 a0.Y.E), .d (dbool a0.Z.N.Neg), .d (eS2 a0.Z.N.L), .d (di .i64 a0.Z.E)], .fix 53 [.d (dbool a1.X.N.Neg), .d (eS2 a1.X.N.L), .d (di .i64 a1.X.E), .d (dbool a1.Y.N.Neg), .d (eS2 a1.Y.N.L), .d (di .i64 a1.Y.E), .d (dbool a1.Z.N.Neg), .d (eS2 a1.Z.N.L), .d (di .i64 a1.Z.E)], .fix 53 [.d (dbool a2.X.N.Neg), .d (eS2 a2.X.N.L), .d (di .i64 a2.X.E), .d (dbool a2.Y.N.Neg), .d (eS2 a2.Y.N.L), .d (di .i64 a2.Y.E), .d (dbool a2.Z.N.Neg), .d (eS2 a2.Z.N.L), .d (di .i64 a2.Z.E)], .fix 34 [.d (dbool false), .d (.v (.slice none 0 0)), .d (di .i64 (0 : Int)), .d (dbool false), .d (.v (.slice none 0 0)), .d (di .i64 (0 : Int))], .fix 53 [.d (dbool y1.X.N.Neg), .d (eS2 y1.X.N.L), .d (di .i64 y1.X.E), .d (dbool y1.Y.N.Neg), .d (eS2 y1.Y.N.L), .d (di .i64 y1.Y.E), .d (dbool y1.Z.N.Neg), .d (eS2 y1.Z.N.L), .d (di .i64 y1.Z.E)], .fix 53 [.d (dbool y3.X.N.Neg), .d (eS2 y3.X.N.L), .d (di .i64 y3.X.E), .d (dbool y3.Y.N.Neg), .d (eS2 y3.Y.N.L), .d (di .i64 y3.Y.E), .d (dbool y3.Z.N.Neg), .d (eS2 y3.Z.N.L), .d (di .i64 y3.Z.E)], .fix 32 [.d (dbool y5.N.Neg), .d (eS2 y5.N.L), .d (di .i64 y5.E)], .fix 32 [.d (dbool y7.N.Neg), .d (eS2 y7.N.L), .d (di .i64 y7.E)], .fix 32 [.d (dbool y9.N.Neg), .d (eS2 y9.N.L), .d (di .i64 y9.E)]]) (fun g11 => (p_SquareTo3_k1 a0 a1 a2 F y1 y3 y5 y7 y9) g11 = some r0) rfl ?_ ?_
  · refine AC.region ?_
    refine AO.op rfl (AOp.loadN rfl rfl (ltb rfl) rfl agg32 size32 rfl (leb rfl) rfl ?_)
    obtain ⟨y24, q25, h0⟩ := bind_elim h0
    refine AO.op rfl (AOp.callD rfl rfl (ltb rfl) rfl rfl (w_Dyadic_Sign y5 y24 q25) ?_)
    rintro _ rfl
    refine AO.op rfl (AOp.ieql rfl rfl (ltb rfl) rfl rfl ?_)
    refine AO.op rfl (AOp.move rfl rfl (ltb rfl) rfl ?_)
    refine AO.dec (decide (y24 = (0 : Int))) (fun q26 => ?_) (fun q26 => ?_)
    · replace h0 := cT h0 q26
      refine AO.guardN rfl rfl rfl (ltb rfl) rfl q26 ?_
      refine AO.guardN rfl rfl rfl (ltb rfl) rfl q26 ?_
      refine AO.guardN rfl rfl rfl (ltb rfl) rfl q26 ?_
      refine AO.op rfl (AOp.pick rfl rfl (ltb rfl) rfl q26 rfl ?_)
      refine AO.op rfl (AOp.assign rfl rfl (ltb rfl) rfl ?_)
      refine AO.nil ?_
      exact ⟨true, _, rfl, (LeL.refl _), rfl, rfl, h0⟩
    · replace h0 := cF h0 q26
      refine AO.guardY rfl rfl rfl q26 (AOp.loadN rfl rfl (ltb rfl) rfl agg32 size32 rfl (leb rfl) rfl ?_)
      obtain ⟨y27, q28, h0⟩ := bind_elim h0
      refine AO.guardY rfl rfl rfl q26 (AOp.callD rfl rfl (ltb rfl) rfl rfl (w_Dyadic_Sign y7 y27 q28) ?_)
      rintro _ rfl
      refine AO.guardY rfl rfl rfl q26 (AOp.ileq rfl rfl (ltb rfl) rfl rfl ?_)
      refine AO.op rfl (AOp.pickN rfl rfl (ltb rfl) rfl q26 rfl ?_)
      refine AO.op rfl (AOp.assign rfl rfl (ltb rfl) rfl ?_)
      refine AO.nil ?_
      exact ⟨(decide (y27 ≤ (0 : Int))), _, rfl, (LeL.refl _), rfl, rfl, h0⟩
  · intro g11 h0
    unfold p_SquareTo3_k1 at h0
    refine AC.cond rfl (fun q12 => ?_) (fun q12 => ?_)
    · replace h0 := cT h0 q12
      refine AC.seq ?_
      refine AC.draw 5 mixed (by kernel_rfl) ?_
      refine AD.op [4] rfl (by kernel_rfl) rfl rfl (fun _ _ h => AOp.loadN rfl rfl (ltb rfl) rfl agg53 size53 rfl (leb rfl) rfl h) ?_
      refine AD.op [3] rfl (by kernel_rfl) rfl rfl (fun _ _ h => AOp.loadN rfl rfl (ltb rfl) rfl agg53 size53 rfl (leb rfl) rfl h) ?_
      obtain ⟨y13, q14, h0⟩ := bind_elim h0
      refine AD.op [35, 36] rfl (by kernel_rfl) rfl rfl (fun _ _ h => AOp.callD rfl rfl (ltb rfl) rfl rfl (w_Square3 F a1 a0 y13 q14) (by rintro _ rfl; exact h)) ?_
      refine AD.op [11] rfl (by kernel_rfl) rfl rfl (fun _ _ h => AOp.loadN rfl rfl (ltb rfl) rfl agg32 size32 rfl (leb rfl) rfl h) ?_
      refine AD.op [37, 38] rfl (by kernel_rfl) rfl rfl (fun _ _ h => AOp.build rfl rfl (ltb rfl) zero34 rfl places34 rfl rfl h) ?_
      refine AD.done ?_
      refine AO.op rfl (AOp.store rfl rfl rfl rfl size34 rfl rfl rfl (leb rfl) ?_)
      refine AO.nil ?_
      change AC _ _ _ _
      refine AC.ret ?_
      change RetQ _ _ _ .ret _
      obtain rfl := Option.some.inj h0
      refine retq rfl rfl
    · replace h0 := cF h0 q12
      refine AC.seq ?_
      refine AC.region ?_
      refine AO.op rfl (AOp.loadN rfl rfl (ltb rfl) rfl agg32 size32 rfl (leb rfl) rfl ?_)
      refine AO.op rfl (AOp.loadN rfl rfl (ltb rfl) rfl agg32 size32 rfl (leb rfl) rfl ?_)
      obtain ⟨y15, q16, h0⟩ := bind_elim h0
      refine AO.op rfl (AOp.callD rfl rfl (ltb rfl) rfl rfl (w_Dyadic_Cmp F y7 y5 y15 q16) ?_)
      rintro _ rfl
      refine AO.op rfl (AOp.igeq rfl rfl (ltb rfl) rfl rfl ?_)
      refine AO.op rfl (AOp.assign rfl rfl (ltb rfl) rfl ?_)
      refine AO.nil ?_
      change AC _ _ _ _
      refine AC.cond rfl (fun q17 => ?_) (fun q17 => ?_)
      · replace h0 := cT h0 q17
        refine AC.seq ?_
        refine AC.draw 5 mixed (by kernel_rfl) ?_
        refine AD.op [5] rfl (by kernel_rfl) rfl rfl (fun _ _ h => AOp.loadN rfl rfl (ltb rfl) rfl agg53 size53 rfl (leb rfl) rfl h) ?_
        refine AD.op [3] rfl (by kernel_rfl) rfl rfl (fun _ _ h => AOp.loadN rfl rfl (ltb rfl) rfl agg53 size53 rfl (leb rfl) rfl h) ?_
        obtain ⟨y18, q19, h0⟩ := bind_elim h0
        refine AD.op [45, 46] rfl (by kernel_rfl) rfl rfl (fun _ _ h => AOp.callD rfl rfl (ltb rfl) rfl rfl (w_Square3 F a2 a0 y18 q19) (by rintro _ rfl; exact h)) ?_
        refine AD.op [11] rfl (by kernel_rfl) rfl rfl (fun _ _ h => AOp.loadN rfl rfl (ltb rfl) rfl agg32 size32 rfl (leb rfl) rfl h) ?_
        refine AD.op [47, 48] rfl (by kernel_rfl) rfl rfl (fun _ _ h => AOp.build rfl rfl (ltb rfl) zero34 rfl places34 rfl rfl h) ?_
        refine AD.done ?_
        refine AO.op rfl (AOp.store rfl rfl rfl rfl size34 rfl rfl rfl (leb rfl) ?_)
        refine AO.nil ?_
        change AC _ _ _ _
        refine AC.ret ?_
        change RetQ _ _ _ .ret _
        obtain rfl := Option.some.inj h0
        refine retq rfl rfl
      · replace h0 := cF h0 q17
        refine AC.skip ?_
        change AC _ _ _ _
        refine AC.seq ?_
        refine AC.region ?_
        refine AO.op rfl (AOp.loadN rfl rfl (ltb rfl) rfl agg53 size53 rfl (leb rfl) rfl ?_)
        refine AO.op rfl (AOp.loadN rfl rfl (ltb rfl) rfl agg53 size53 rfl (leb rfl) rfl ?_)
        obtain ⟨y20, q21, h0⟩ := bind_elim h0
        refine AO.op rfl (AOp.callD rfl rfl (ltb rfl) rfl rfl (w_Cross3 F y1 y3 y20 q21) ?_)
        rintro _ rfl
        refine AO.op rfl (AOp.alloc rfl rfl (ltb rfl) zero53 rfl ?_)
        refine AO.op rfl (AOp.store rfl rfl rfl rfl size53 rfl rfl rfl (leb rfl) ?_)
        refine AO.nil ?_
        change AC _ _ _ _
        refine AC.seq ?_
        refine AC.draw 5 mixed (by kernel_rfl) ?_
        refine AD.op [12] rfl (by kernel_rfl) rfl rfl (fun _ _ h => AOp.loadN rfl rfl (ltb rfl) rfl agg53 size53 rfl (leb rfl) rfl h) ?_
        refine AD.op [12] rfl (by kernel_rfl) rfl rfl (fun _ _ h => AOp.loadN rfl rfl (ltb rfl) rfl agg53 size53 rfl (leb rfl) rfl h) ?_
        obtain ⟨y22, q23, h0⟩ := bind_elim h0
        refine AD.op [53, 54] rfl (by kernel_rfl) rfl rfl (fun _ _ h => AOp.callD rfl rfl (ltb rfl) rfl rfl (w_Dot3 F y20 y20 y22 q23) (by rintro _ rfl; exact h)) ?_
        refine AD.op [9] rfl (by kernel_rfl) rfl rfl (fun _ _ h => AOp.loadN rfl rfl (ltb rfl) rfl agg32 size32 rfl (leb rfl) rfl h) ?_
        refine AD.op [55, 56] rfl (by kernel_rfl) rfl rfl (fun _ _ h => AOp.build rfl rfl (ltb rfl) zero34 rfl places34 rfl rfl h) ?_
        refine AD.done ?_
        refine AO.op rfl (AOp.store rfl rfl rfl rfl size34 rfl rfl rfl (leb rfl) ?_)
        refine AO.nil ?_
        change AC _ _ _ _
        refine AC.ret ?_
        change RetQ _ _ _ .ret _
        obtain rfl := Option.some.inj h0
        refine retq rfl rfl

set_option maxRecDepth 100000 in
set_option maxHeartbeats 1000000 in
/-- (pub-orthodrome/spec.Whole).top -/
theorem w_Whole_top (F : Nat) (a0 : TSpec_Whole) (r0 : Int) (h0 : p_Whole_top F a0 = some r0) : FnD Try.prog 58 [e_TSpec_Whole a0] (fun r => r = di .i64 r0) := by
  refine FnD.of (by kernel_rfl) Try.func58 rfl Try.ntmps58 rfl (leb rfl) fun W ok => ?_
  unfold p_Whole_top at h0
  refine AC.seq ?_
  refine AC.region ?_
  refine AO.op rfl (AOp.box rfl rfl (ltb rfl) rfl rfl ?_)
  refine AO.op rfl (AOp.assign rfl rfl (ltb rfl) rfl ?_)
  refine AO.nil ?_
  change AC _ _ _ _
  refine AC.seq ?_
  refine AC.seq ?_
  refine AC.region ?_
  refine AO.op rfl (AOp.fieldAddr rfl rfl (ltb rfl) rfl fo30_1 ?_)
  refine AO.op rfl (AOp.load1 rfl rfl (ltb rfl) rfl agg28 rfl rfl ?_)
  refine AO.op rfl (AOp.lenDs (n := a0.L.length) (cells := (List.map keS2 a0.L)) rfl rfl (ltb rfl) rfl el28 (by decide) (len1 _ _) ?_)
  refine AO.op rfl (AOp.ieql rfl rfl (ltb rfl) rfl rfl ?_)
  refine AO.nil ?_
  change AC _ _ _ _
  refine AC.cond rfl (fun q1 => ?_) (fun q1 => ?_)
  · replace h0 := cT h0 q1
    refine AC.seq ?_
    refine AC.region ?_
    refine AO.op rfl (AOp.assign rfl rfl (ltb rfl) rfl ?_)
    refine AO.nil ?_
    change AC _ _ _ _
    refine AC.ret ?_
    change RetQ _ _ _ .ret _
    obtain rfl := Option.some.inj h0
    refine retq rfl rfl
  · replace h0 := cF h0 q1
    refine AC.skip ?_
    change AC _ _ _ _
    refine AC.seq ?_
    refine AC.region ?_
    refine AO.op rfl (AOp.fieldAddr rfl rfl (ltb rfl) rfl fo30_1 ?_)
    refine AO.op rfl (AOp.load1 rfl rfl (ltb rfl) rfl agg28 rfl rfl ?_)
    refine AO.op rfl (AOp.lenDs (n := a0.L.length) (cells := (List.map keS2 a0.L)) rfl rfl (ltb rfl) rfl el28 (by decide) (len1 _ _) ?_)
    obtain ⟨q2, h0⟩ := need_elim h0
    refine AO.op rfl (AOp.imul rfl rfl (ltb rfl) rfl rfl rfl q2.1 q2.2 ?_)
    refine AO.op rfl (AOp.assign rfl rfl (ltb rfl) rfl ?_)
    refine AO.nil ?_
    change AC _ _ _ _
    refine AC.seq ?_
    refine AC.seq ?_
    refine AC.region ?_
    refine AO.op rfl (AOp.fieldAddr rfl rfl (ltb rfl) rfl fo30_1 ?_)
    refine AO.op rfl (AOp.load1 rfl rfl (ltb rfl) rfl agg28 rfl rfl ?_)
    refine AO.op rfl (AOp.fieldAddr rfl rfl (ltb rfl) rfl fo30_1 ?_)
    refine AO.op rfl (AOp.load1 rfl rfl (ltb rfl) rfl agg28 rfl rfl ?_)
    refine AO.op rfl (AOp.lenDs (n := a0.L.length) (cells := (List.map keS2 a0.L)) rfl rfl (ltb rfl) rfl el28 (by decide) (len1 _ _) ?_)
    obtain ⟨q3, h0⟩ := need_elim h0
    refine AO.op rfl (AOp.isub rfl rfl (ltb rfl) rfl rfl rfl q3.1 q3.2 ?_)
    obtain ⟨x4, q5, h0⟩ := idx_elim h0
    refine AO.op rfl (AOp.indexDs (cells := (List.map keS2 a0.L)) rfl rfl (ltb rfl) rfl rfl el28 (by decide) q5.1 (lt1 q5.2) ?_)
    refine AO.op rfl (AOp.loadEp rfl rfl (ltb rfl) rfl agg106 (at1 q5.2) ?_)
    refine AO.op rfl (AOp.assign rfl rfl (ltb rfl) rfl ?_)
    refine AO.nil ?_
    change AC _ _ _ _
    obtain ⟨o6, l7, h0⟩ := bind_elim h0
    refine AC.joinE (V := Int) [] [3] 1 (fun g8 => [(3, .d (di .i64 g8))]) (fun g8 => [.fix 30 [.d (dbool a0.Neg), .d (eS2 a0.L)]]) (fun g8 => p_Whole_top_k1 g8 = some r0) rfl ?_ ?_
    · refine AC.block ?_
      refine AC.loopP (V := (Int × Int)) p_Whole_top_l2 o6 [] [3, 4] 1 (fun g9 => [(3, .d (di .i64 g9.1)), (4, .d (di .u32 g9.2))]) (fun g9 => [.fix 30 [.d (dbool a0.Neg), .d (eS2 a0.L)]]) F (((32 : Int) * ((a0.L.length : Nat) : Int)), x4) l7 rfl rfl (LeL.refl _) rfl rfl ?_
      intro n11 g9 h1
      unfold p_Whole_top_l2 at h1
      refine AC.seq ?_
      refine AC.seq ?_
      refine AC.region ?_
      refine AO.op rfl (AOp.move rfl rfl (ltb rfl) rfl ?_)
      refine AO.op rfl (AOp.ilss rfl rfl (ltb rfl) rfl rfl ?_)
      refine AO.nil ?_
      change AC _ _ _ _
      refine AC.cond rfl (fun q12 => ?_) (fun q12 => ?_)
      · replace h1 := cT h1 q12
        refine AC.skip ?_
        change AC _ _ _ _
        refine AC.seq ?_
        refine AC.block ?_
        refine AC.region ?_
        refine AO.op rfl (AOp.move rfl rfl (ltb rfl) rfl ?_)
        obtain ⟨q13, h1⟩ := need_elim h1
        refine AO.op rfl (AOp.isub rfl rfl (ltb rfl) rfl rfl rfl q13.1 q13.2 ?_)
        refine AO.op rfl (AOp.assign rfl rfl (ltb rfl) rfl ?_)
        refine AO.nil ?_
        change AC _ _ _ _
        refine AC.region ?_
        refine AO.op rfl (AOp.move rfl rfl (ltb rfl) rfl ?_)
        refine AO.op rfl (AOp.ishl (n := 1) rfl rfl (ltb rfl) rfl rfl (by decide) rfl ?_)
        refine AO.op rfl (AOp.assign rfl rfl (ltb rfl) rfl ?_)
        refine AO.nil ?_
        exact ⟨((g9.1 - (1 : Int)), (IntKind.u32.wrap (g9.2 * 2 ^ 1))), _, rfl, (LeL.refl _), rfl, rfl, h1⟩
      · replace h1 := cF h1 q12
        refine AC.exit ?_
        obtain rfl := Option.some.inj h1
        exact ⟨g9.1, _, rfl, (LeL.refl _), rfl, rfl, aftL h0⟩
    · intro g8 h0
      unfold p_Whole_top_k1 at h0
      change AC _ _ _ _
      refine AC.seq ?_
      refine AC.region ?_
      refine AO.op rfl (AOp.move rfl rfl (ltb rfl) rfl ?_)
      refine AO.op rfl (AOp.assign rfl rfl (ltb rfl) rfl ?_)
      refine AO.nil ?_
      change AC _ _ _ _
      refine AC.ret ?_
      change RetQ _ _ _ .ret _
      obtain rfl := Option.some.inj h0
      refine retq rfl rfl

set_option maxRecDepth 100000 in
set_option maxHeartbeats 1000000 in
/-- (pub-orthodrome/spec.Whole).bit -/
theorem w_Whole_bit (a0 : TSpec_Whole) (a1 : Int) (r0 : Bool) (h0 : p_Whole_bit a0 a1 = some r0) : FnD Try.prog 59 [e_TSpec_Whole a0, di .i64 a1] (fun r => r = dbool r0) := by
  refine FnD.of (by kernel_rfl) Try.func59 rfl Try.ntmps59 rfl (leb rfl) fun W ok => ?_
  unfold p_Whole_bit at h0
  refine AC.seq ?_
  refine AC.region ?_
  refine AO.op rfl (AOp.box rfl rfl (ltb rfl) rfl rfl ?_)
  refine AO.op rfl (AOp.assign rfl rfl (ltb rfl) rfl ?_)
  refine AO.nil ?_
  change AC _ _ _ _
  refine AC.seq ?_
  refine AC.region ?_
  refine AO.op rfl (AOp.move rfl rfl (ltb rfl) rfl ?_)
  refine AO.op rfl (AOp.igeq rfl rfl (ltb rfl) rfl rfl ?_)
  refine AO.op rfl (AOp.move rfl rfl (ltb rfl) rfl ?_)
  refine AO.dec (decide ((0 : Int) ≤ a1)) (fun q1 => ?_) (fun q1 => ?_)
  · replace h0 := cT h0 q1
    refine AO.guardY rfl rfl rfl q1 (AOp.move rfl rfl (ltb rfl) rfl ?_)
    obtain ⟨q2, h0⟩ := need_elim h0
    refine AO.guardY rfl rfl rfl q1 (AOp.iquo rfl rfl (ltb rfl) rfl rfl q2.1 rfl q2.2.1 q2.2.2 ?_)
    refine AO.guardY rfl rfl rfl q1 (AOp.fieldAddr rfl rfl (ltb rfl) rfl fo30_1 ?_)
    refine AO.guardY rfl rfl rfl q1 (AOp.load1 rfl rfl (ltb rfl) rfl agg28 rfl rfl ?_)
    refine AO.guardY rfl rfl rfl q1 (AOp.lenDs (n := a0.L.length) (cells := (List.map keS2 a0.L)) rfl rfl (ltb rfl) rfl el28 (by decide) (len1 _ _) ?_)
    refine AO.guardY rfl rfl rfl q1 (AOp.ilss rfl rfl (ltb rfl) rfl rfl ?_)
    refine AO.op rfl (AOp.pick rfl rfl (ltb rfl) rfl q1 rfl ?_)
    refine AO.op rfl (AOp.move rfl rfl (ltb rfl) rfl ?_)
    refine AO.dec (decide ((Int.tdiv a1 (32 : Int)) < ((a0.L.length : Nat) : Int))) (fun q3 => ?_) (fun q3 => ?_)
    · replace h0 := cT h0 q3
      refine AO.guardY rfl rfl rfl q3 (AOp.fieldAddr rfl rfl (ltb rfl) rfl fo30_1 ?_)
      refine AO.guardY rfl rfl rfl q3 (AOp.load1 rfl rfl (ltb rfl) rfl agg28 rfl rfl ?_)
      refine AO.guardY rfl rfl rfl q3 (AOp.move rfl rfl (ltb rfl) rfl ?_)
      obtain ⟨q4, h0⟩ := need_elim h0
      refine AO.guardY rfl rfl rfl q3 (AOp.iquo rfl rfl (ltb rfl) rfl rfl q4.1 rfl q4.2.1 q4.2.2 ?_)
      obtain ⟨x5, q6, h0⟩ := idx_elim h0
      refine AO.guardY rfl rfl rfl q3 (AOp.indexDs (cells := (List.map keS2 a0.L)) rfl rfl (ltb rfl) rfl rfl el28 (by decide) q6.1 (lt1 q6.2) ?_)
      refine AO.guardY rfl rfl rfl q3 (AOp.loadEp rfl rfl (ltb rfl) rfl agg106 (at1 q6.2) ?_)
      refine AO.guardY rfl rfl rfl q3 (AOp.move rfl rfl (ltb rfl) rfl ?_)
      obtain ⟨q7, h0⟩ := need_elim h0
      refine AO.guardY rfl rfl rfl q3 (AOp.irem rfl rfl (ltb rfl) rfl rfl q7 rfl ?_)
      obtain ⟨q8, h0⟩ := need_elim h0
      refine AO.guardY rfl rfl rfl q3 (AOp.ishr' rfl rfl (ltb rfl) rfl rfl q8.1 q8.2 ?_)
      refine AO.guardY rfl rfl rfl q3 (AOp.ibits (by simp) rfl rfl (ltb rfl) rfl rfl rfl ?_)
      refine AO.guardY rfl rfl rfl q3 (AOp.ieql rfl rfl (ltb rfl) rfl rfl ?_)
      refine AO.op rfl (AOp.pick rfl rfl (ltb rfl) rfl q3 rfl ?_)
      refine AO.op rfl (AOp.assign rfl rfl (ltb rfl) rfl ?_)
      refine AO.nil ?_
      change AC _ _ _ _
      refine AC.ret ?_
      change RetQ _ _ _ .ret _
      obtain rfl := Option.some.inj h0
      refine retq rfl rfl
    · replace h0 := cF h0 q3
      refine AO.guardN rfl rfl rfl (ltb rfl) rfl q3 ?_
      refine AO.guardN rfl rfl rfl (ltb rfl) rfl q3 ?_
      refine AO.guardN rfl rfl rfl (ltb rfl) rfl q3 ?_
      refine AO.guardN rfl rfl rfl (ltb rfl) rfl q3 ?_
      refine AO.guardN rfl rfl rfl (ltb rfl) rfl q3 ?_
      refine AO.guardN rfl rfl rfl (ltb rfl) rfl q3 ?_
      refine AO.guardN rfl rfl rfl (ltb rfl) rfl q3 ?_
      refine AO.guardN rfl rfl rfl (ltb rfl) rfl q3 ?_
      refine AO.guardN rfl rfl rfl (ltb rfl) rfl q3 ?_
      refine AO.guardN rfl rfl rfl (ltb rfl) rfl q3 ?_
      refine AO.guardN rfl rfl rfl (ltb rfl) rfl q3 ?_
      refine AO.op rfl (AOp.pickN rfl rfl (ltb rfl) rfl q3 rfl ?_)
      refine AO.op rfl (AOp.assign rfl rfl (ltb rfl) rfl ?_)
      refine AO.nil ?_
      change AC _ _ _ _
      refine AC.ret ?_
      change RetQ _ _ _ .ret _
      obtain rfl := Option.some.inj h0
      refine retq rfl rfl
  · replace h0 := cF h0 q1
    refine AO.guardN rfl rfl rfl (ltb rfl) rfl q1 ?_
    refine AO.guardN rfl rfl rfl (ltb rfl) rfl q1 ?_
    refine AO.guardN rfl rfl rfl (ltb rfl) rfl q1 ?_
    refine AO.guardN rfl rfl rfl (ltb rfl) rfl q1 ?_
    refine AO.guardN rfl rfl rfl (ltb rfl) rfl q1 ?_
    refine AO.guardN rfl rfl rfl (ltb rfl) rfl q1 ?_
    refine AO.op rfl (AOp.pickN rfl rfl (ltb rfl) rfl q1 rfl ?_)
    refine AO.op rfl (AOp.move rfl rfl (ltb rfl) rfl ?_)
    refine AO.guardN rfl rfl rfl (ltb rfl) rfl rfl ?_
    refine AO.guardN rfl rfl rfl (ltb rfl) rfl rfl ?_
    refine AO.guardN rfl rfl rfl (ltb rfl) rfl rfl ?_
    refine AO.guardN rfl rfl rfl (ltb rfl) rfl rfl ?_
    refine AO.guardN rfl rfl rfl (ltb rfl) rfl rfl ?_
    refine AO.guardN rfl rfl rfl (ltb rfl) rfl rfl ?_
    refine AO.guardN rfl rfl rfl (ltb rfl) rfl rfl ?_
    refine AO.guardN rfl rfl rfl (ltb rfl) rfl rfl ?_
    refine AO.guardN rfl rfl rfl (ltb rfl) rfl rfl ?_
    refine AO.guardN rfl rfl rfl (ltb rfl) rfl rfl ?_
    refine AO.guardN rfl rfl rfl (ltb rfl) rfl rfl ?_
    refine AO.op rfl (AOp.pickN rfl rfl (ltb rfl) rfl rfl rfl ?_)
    refine AO.op rfl (AOp.assign rfl rfl (ltb rfl) rfl ?_)
    refine AO.nil ?_
    change AC _ _ _ _
    refine AC.ret ?_
    change RetQ _ _ _ .ret _
    obtain rfl := Option.some.inj h0
    refine retq rfl rfl

set_option maxRecDepth 100000 in
set_option maxHeartbeats 1000000 in
/-- (pub-orthodrome/spec.Whole).low -/
theorem w_Whole_low (F : Nat) (a0 : TSpec_Whole) (a1 : Int) (r0 : Bool) (h0 : p_Whole_low F a0 a1 = some r0) : FnD Try.prog 60 [e_TSpec_Whole a0, di .i64 a1] (fun r => r = dbool r0) := by
  refine FnD.of (by kernel_rfl) Try.func60 rfl Try.ntmps60 rfl (leb rfl) fun W ok => ?_
  unfold p_Whole_low at h0
  refine AC.seq ?_
  refine AC.region ?_
  refine AO.op rfl (AOp.box rfl rfl (ltb rfl) rfl rfl ?_)
  refine AO.op rfl (AOp.assign rfl rfl (ltb rfl) rfl ?_)
  refine AO.nil ?_
  change AC _ _ _ _
  refine AC.seq ?_
  refine AC.seq ?_
  refine AC.region ?_
  refine AO.op rfl (AOp.assign rfl rfl (ltb rfl) rfl ?_)
  refine AO.nil ?_
  change AC _ _ _ _
  obtain ⟨o1, l2, h0⟩ := bind_elim h0
  refine AC.joinE (V := Unit) [] [] 1 (fun g3 => []) (fun g3 => [.fix 30 [.d (dbool a0.Neg), .d (eS2 a0.L)]]) (fun g3 => p_Whole_low_k1 g3 = some r0) rfl ?_ ?_
  · refine AC.block ?_
    refine AC.loopP (V := Int) (p_Whole_low_l2 a0 a1) o1 [1, 2] [5] 1 (fun g4 => [(5, .d (di .i64 g4))]) (fun g4 => [.fix 30 [.d (dbool a0.Neg), .d (eS2 a0.L)]]) F (0 : Int) l2 rfl rfl (LeL.refl _) rfl rfl ?_
    intro n6 g4 h1
    unfold p_Whole_low_l2 at h1
    refine AC.seq ?_
    refine AC.seq ?_
    refine AC.region ?_
    refine AO.op rfl (AOp.move rfl rfl (ltb rfl) rfl ?_)
    refine AO.op rfl (AOp.move rfl rfl (ltb rfl) rfl ?_)
    refine AO.op rfl (AOp.ilss rfl rfl (ltb rfl) rfl rfl ?_)
    refine AO.nil ?_
    change AC _ _ _ _
    refine AC.cond rfl (fun q7 => ?_) (fun q7 => ?_)
    · replace h1 := cT h1 q7
      refine AC.skip ?_
      change AC _ _ _ _
      refine AC.seq ?_
      refine AC.block ?_
      refine AC.seq ?_
      refine AC.region ?_
      refine AO.op rfl (AOp.loadN rfl rfl (ltb rfl) rfl agg30 size30 rfl (leb rfl) rfl ?_)
      refine AO.op rfl (AOp.move rfl rfl (ltb rfl) rfl ?_)
      obtain ⟨y8, q9, h1⟩ := bind_elim h1
      refine AO.op rfl (AOp.callD rfl rfl (ltb rfl) rfl rfl (w_Whole_bit a0 g4 y8 q9) ?_)
      rintro _ rfl
      refine AO.nil ?_
      change AC _ _ _ _
      refine AC.cond rfl (fun q10 => ?_) (fun q10 => ?_)
      · replace h1 := cT h1 q10
        refine AC.seq ?_
        refine AC.region ?_
        refine AO.op rfl (AOp.assign rfl rfl (ltb rfl) rfl ?_)
        refine AO.nil ?_
        change AC _ _ _ _
        refine AC.ret ?_
        change RetQ _ _ _ .ret _
        obtain rfl := Option.some.inj h1
        replace h0 := aftR h0
        obtain rfl := Option.some.inj h0
        refine retq rfl rfl
      · replace h1 := cF h1 q10
        refine AC.skip ?_
        change AC _ _ _ _
        refine AC.region ?_
        refine AO.op rfl (AOp.move rfl rfl (ltb rfl) rfl ?_)
        obtain ⟨q11, h1⟩ := need_elim h1
        refine AO.op rfl (AOp.iadd rfl rfl (ltb rfl) rfl rfl rfl q11.1 q11.2 ?_)
        refine AO.op rfl (AOp.assign rfl rfl (ltb rfl) rfl ?_)
        refine AO.nil ?_
        exact ⟨(g4 + (1 : Int)), _, rfl, (LeL.refl _), rfl, rfl, h1⟩
    · replace h1 := cF h1 q7
      refine AC.exit ?_
      obtain rfl := Option.some.inj h1
      exact ⟨(), _, rfl, (LeL.refl _), rfl, rfl, aftL h0⟩
  · intro g3 h0
    unfold p_Whole_low_k1 at h0
    change AC _ _ _ _
    refine AC.seq ?_
    refine AC.region ?_
    refine AO.op rfl (AOp.assign rfl rfl (ltb rfl) rfl ?_)
    refine AO.nil ?_
    change AC _ _ _ _
    refine AC.ret ?_
    change RetQ _ _ _ .ret _
    obtain rfl := Option.some.inj h0
    refine retq rfl rfl

set_option maxRecDepth 100000 in
set_option maxHeartbeats 1000000 in
/-- math.IsInf -/
theorem w_IsInf (a0 : Nat) (a1 : Int) (r0 : Bool) (h0 : p_IsInf a0 a1 = some r0) : FnD Try.prog 91 [dfl a0, di .i64 a1] (fun r => r = dbool r0) := by
  refine FnD.of (by kernel_rfl) Try.func91 rfl Try.ntmps91 rfl (leb rfl) fun W ok => ?_
  unfold p_IsInf at h0
  refine AC.seq ?_
  refine AC.region ?_
  refine AO.op rfl (AOp.assign rfl rfl (ltb rfl) rfl ?_)
  refine AO.nil ?_
  change AC _ _ _ _
  refine AC.seq ?_
  refine AC.seq ?_
  refine AC.region ?_
  refine AO.op rfl (AOp.move rfl rfl (ltb rfl) rfl ?_)
  refine AO.op rfl (AOp.ieql rfl rfl (ltb rfl) rfl rfl ?_)
  refine AO.nil ?_
  change AC _ _ _ _
  refine AC.cond rfl (fun q1 => ?_) (fun q1 => ?_)
  · replace h0 := cT h0 q1
    refine AC.region ?_
    refine AO.op rfl (AOp.move rfl rfl (ltb rfl) rfl ?_)
    refine AO.op rfl (AOp.callD rfl rfl (ltb rfl) rfl rfl (mathAbs a0) ?_)
    rintro _ rfl
    refine AO.op rfl (AOp.assign rfl rfl (ltb rfl) rfl ?_)
    refine AO.nil ?_
    change AC _ _ _ _
    refine AC.seq ?_
    refine AC.region ?_
    refine AO.op rfl (AOp.move rfl rfl (ltb rfl) rfl ?_)
    refine AO.op rfl (AOp.fgtr rfl rfl (ltb rfl) rfl rfl ?_)
    refine AO.op rfl (AOp.assign rfl rfl (ltb rfl) rfl ?_)
    refine AO.nil ?_
    change AC _ _ _ _
    refine AC.ret ?_
    change RetQ _ _ _ .ret _
    obtain rfl := Option.some.inj h0
    refine retq rfl rfl
  · replace h0 := cF h0 q1
    refine AC.seq ?_
    refine AC.region ?_
    refine AO.op rfl (AOp.move rfl rfl (ltb rfl) rfl ?_)
    refine AO.op rfl (AOp.ilss rfl rfl (ltb rfl) rfl rfl ?_)
    refine AO.nil ?_
    change AC _ _ _ _
    refine AC.cond rfl (fun q2 => ?_) (fun q2 => ?_)
    · replace h0 := cT h0 q2
      refine AC.region ?_
      refine AO.op rfl (AOp.move rfl rfl (ltb rfl) rfl ?_)
      refine AO.op rfl (AOp.fneg rfl rfl (ltb rfl) rfl ?_)
      refine AO.op rfl (AOp.assign rfl rfl (ltb rfl) rfl ?_)
      refine AO.nil ?_
      change AC _ _ _ _
      refine AC.seq ?_
      refine AC.region ?_
      refine AO.op rfl (AOp.move rfl rfl (ltb rfl) rfl ?_)
      refine AO.op rfl (AOp.fgtr rfl rfl (ltb rfl) rfl rfl ?_)
      refine AO.op rfl (AOp.assign rfl rfl (ltb rfl) rfl ?_)
      refine AO.nil ?_
      change AC _ _ _ _
      refine AC.ret ?_
      change RetQ _ _ _ .ret _
      obtain rfl := Option.some.inj h0
      refine retq rfl rfl
    · replace h0 := cF h0 q2
      refine AC.skip ?_
      change AC _ _ _ _
      refine AC.seq ?_
      refine AC.region ?_
      refine AO.op rfl (AOp.move rfl rfl (ltb rfl) rfl ?_)
      refine AO.op rfl (AOp.fgtr rfl rfl (ltb rfl) rfl rfl ?_)
      refine AO.op rfl (AOp.assign rfl rfl (ltb rfl) rfl ?_)
      refine AO.nil ?_
      change AC _ _ _ _
      refine AC.ret ?_
      change RetQ _ _ _ .ret _
      obtain rfl := Option.some.inj h0
      refine retq rfl rfl

set_option maxRecDepth 100000 in
set_option maxHeartbeats 1000000 in
/-- math.normalize -/
theorem w_normalize (a0 : Nat) (r0 : (Nat × Int)) (h0 : p_normalize a0 = some r0) : FnD Try.prog 92 [dfl a0] (fun r => r = .tu [dfl r0.1, di .i64 r0.2]) := by
  refine FnD.of (by kernel_rfl) Try.func92 rfl Try.ntmps92 rfl (leb rfl) fun W ok => ?_
  unfold p_normalize at h0
  refine AC.seq ?_
  refine AC.region ?_
  refine AO.op rfl (AOp.assign rfl rfl (ltb rfl) rfl ?_)
  refine AO.op rfl (AOp.assign rfl rfl (ltb rfl) rfl ?_)
  refine AO.nil ?_
  change AC _ _ _ _
  refine AC.seq ?_
  refine AC.seq ?_
  refine AC.region ?_
  refine AO.op rfl (AOp.move rfl rfl (ltb rfl) rfl ?_)
  refine AO.op rfl (AOp.callD rfl rfl (ltb rfl) rfl rfl (mathAbs a0) ?_)
  rintro _ rfl
  refine AO.op rfl (AOp.flss rfl rfl (ltb rfl) rfl rfl ?_)
  refine AO.nil ?_
  change AC _ _ _ _
  refine AC.cond rfl (fun q1 => ?_) (fun q1 => ?_)
  · replace h0 := cT h0 q1
    refine AC.seq ?_
    refine AC.region ?_
    refine AO.op rfl (AOp.move rfl rfl (ltb rfl) rfl ?_)
    obtain ⟨z2, q3, h0⟩ := bind_elim h0
    refine AO.op rfl (AOp.farith rfl rfl (ltb rfl) rfl rfl q3 ?_)
    refine AO.op rfl (AOp.assign rfl rfl (ltb rfl) rfl ?_)
    refine AO.op rfl (AOp.assign rfl rfl (ltb rfl) rfl ?_)
    refine AO.nil ?_
    change AC _ _ _ _
    refine AC.ret ?_
    change RetQ _ _ _ .ret _
    obtain rfl := Option.some.inj h0
    refine retq rfl rfl
  · replace h0 := cF h0 q1
    refine AC.skip ?_
    change AC _ _ _ _
    refine AC.seq ?_
    refine AC.region ?_
    refine AO.op rfl (AOp.move rfl rfl (ltb rfl) rfl ?_)
    refine AO.op rfl (AOp.assign rfl rfl (ltb rfl) rfl ?_)
    refine AO.op rfl (AOp.assign rfl rfl (ltb rfl) rfl ?_)
    refine AO.nil ?_
    change AC _ _ _ _
    refine AC.ret ?_
    change RetQ _ _ _ .ret _
    obtain rfl := Option.some.inj h0
    refine retq rfl rfl

theorem callFromBits (x : Nat) (w : World) : (callFunc 76 #[.int .u64 x]).run Try.prog w = .ok (.value (.float .f64 x)) w := by
  rw [run_callFunc_extern Try.func76 (by kernel_rfl) (by kernel_rfl) (by kernel_rfl) (e := Extern.MathFloatBits.float64frombits) (by kernel_rfl), run_f64frombits Try.prog x]
  rfl

set_option maxRecDepth 100000 in
set_option maxHeartbeats 1000000 in
/-- math.Copysign -/
theorem w_Copysign (a0 : Nat) (a1 : Nat) (r0 : Nat) (h0 : p_Copysign a0 a1 = some r0) : FnD Try.prog 93 [dfl a0, dfl a1] (fun r => r = dfl r0) := by
  refine FnD.of (by kernel_rfl) Try.func93 rfl Try.ntmps93 rfl (leb rfl) fun W ok => ?_
  unfold p_Copysign at h0
  refine AC.seq ?_
  refine AC.region ?_
  refine AO.op rfl (AOp.assign rfl rfl (ltb rfl) rfl ?_)
  refine AO.nil ?_
  change AC _ _ _ _
  refine AC.seq ?_
  refine AC.region ?_
  refine AO.op rfl (AOp.move rfl rfl (ltb rfl) rfl ?_)
  refine AO.op rfl (AOp.callX [.float .f64 a0] rfl rfl (ltb rfl) rfl (callBits a0) ?_)
  refine AO.op rfl (AOp.ibits (by simp) rfl rfl (ltb rfl) rfl rfl rfl ?_)
  refine AO.op rfl (AOp.move rfl rfl (ltb rfl) rfl ?_)
  refine AO.op rfl (AOp.callX [.float .f64 a1] rfl rfl (ltb rfl) rfl (callBits a1) ?_)
  refine AO.op rfl (AOp.ibits (by simp) rfl rfl (ltb rfl) rfl rfl rfl ?_)
  refine AO.op rfl (AOp.ibits (by simp) rfl rfl (ltb rfl) rfl rfl rfl ?_)
  obtain ⟨q1, h0⟩ := need_elim h0
  refine AO.op rfl (AOp.callX [.int .u64 ((((bits .or .u64 (bits .andNot .u64 ((a0 : Nat) : Int) (9223372036854775808 : Int)) (bits .and .u64 ((a1 : Nat) : Int) (9223372036854775808 : Int)))).toNat : Nat) : Int)] rfl rfl (ltb rfl) (by rw [q1]; rfl) (callFromBits (((bits .or .u64 (bits .andNot .u64 ((a0 : Nat) : Int) (9223372036854775808 : Int)) (bits .and .u64 ((a1 : Nat) : Int) (9223372036854775808 : Int)))).toNat)) ?_)
  refine AO.op rfl (AOp.assign rfl rfl (ltb rfl) rfl ?_)
  refine AO.nil ?_
  change AC _ _ _ _
  refine AC.ret ?_
  change RetQ _ _ _ .ret _
  obtain rfl := Option.some.inj h0
  refine retq rfl rfl

set_option maxRecDepth 100000 in
set_option maxHeartbeats 1000000 in
/-- math.Inf -/
theorem w_Inf (a0 : Int) (r0 : Nat) (h0 : p_Inf a0 = some r0) : FnD Try.prog 94 [di .i64 a0] (fun r => r = dfl r0) := by
  refine FnD.of (by kernel_rfl) Try.func94 rfl Try.ntmps94 rfl (leb rfl) fun W ok => ?_
  unfold p_Inf at h0
  refine AC.seq ?_
  refine AC.region ?_
  refine AO.op rfl (AOp.assign rfl rfl (ltb rfl) rfl ?_)
  refine AO.nil ?_
  change AC _ _ _ _
  refine AC.seq ?_
  refine AC.region ?_
  refine AO.op rfl (AOp.assign rfl rfl (ltb rfl) rfl ?_)
  refine AO.nil ?_
  change AC _ _ _ _
  refine AC.seq ?_
  refine AC.seq ?_
  refine AC.region ?_
  refine AO.op rfl (AOp.move rfl rfl (ltb rfl) rfl ?_)
  refine AO.op rfl (AOp.igeq rfl rfl (ltb rfl) rfl rfl ?_)
  refine AO.nil ?_
  change AC _ _ _ _
  refine AC.cond rfl (fun q1 => ?_) (fun q1 => ?_)
  · replace h0 := cT h0 q1
    refine AC.region ?_
    refine AO.op rfl (AOp.assign rfl rfl (ltb rfl) rfl ?_)
    refine AO.nil ?_
    change AC _ _ _ _
    refine AC.seq ?_
    refine AC.region ?_
    refine AO.op rfl (AOp.move rfl rfl (ltb rfl) rfl ?_)
    obtain ⟨q2, h0⟩ := need_elim h0
    refine AO.op rfl (AOp.callX [.int .u64 ((((9218868437227405312 : Int)).toNat : Nat) : Int)] rfl rfl (ltb rfl) (by rw [q2]; rfl) (callFromBits (((9218868437227405312 : Int)).toNat)) ?_)
    refine AO.op rfl (AOp.assign rfl rfl (ltb rfl) rfl ?_)
    refine AO.nil ?_
    change AC _ _ _ _
    refine AC.ret ?_
    change RetQ _ _ _ .ret _
    obtain rfl := Option.some.inj h0
    refine retq rfl rfl
  · replace h0 := cF h0 q1
    refine AC.region ?_
    refine AO.op rfl (AOp.assign rfl rfl (ltb rfl) rfl ?_)
    refine AO.nil ?_
    change AC _ _ _ _
    refine AC.seq ?_
    refine AC.region ?_
    refine AO.op rfl (AOp.move rfl rfl (ltb rfl) rfl ?_)
    obtain ⟨q3, h0⟩ := need_elim h0
    refine AO.op rfl (AOp.callX [.int .u64 ((((18442240474082181120 : Int)).toNat : Nat) : Int)] rfl rfl (ltb rfl) (by rw [q3]; rfl) (callFromBits (((18442240474082181120 : Int)).toNat)) ?_)
    refine AO.op rfl (AOp.assign rfl rfl (ltb rfl) rfl ?_)
    refine AO.nil ?_
    change AC _ _ _ _
    refine AC.ret ?_
    change RetQ _ _ _ .ret _
    obtain rfl := Option.some.inj h0
    refine retq rfl rfl

set_option maxRecDepth 100000 in
set_option maxHeartbeats 1000000 in
/-- math.ldexp -/
theorem w_ldexp (a0 : Nat) (a1 : Int) (r0 : Nat) (h0 : p_ldexp a0 a1 = some r0) : FnD Try.prog 81 [dfl a0, di .i64 a1] (fun r => r = dfl r0) := by
  refine FnD.of (by kernel_rfl) Try.func81 rfl Try.ntmps81 rfl (leb rfl) fun W ok => ?_
  unfold p_ldexp at h0
  refine AC.seq ?_
  refine AC.region ?_
  refine AO.op rfl (AOp.assign rfl rfl (ltb rfl) rfl ?_)
  refine AO.nil ?_
  change AC _ _ _ _
  refine AC.seq ?_
  refine AC.block ?_
  refine AC.seq ?_
  refine AC.region ?_
  refine AO.op rfl (AOp.move rfl rfl (ltb rfl) rfl ?_)
  refine AO.op rfl (AOp.feql rfl rfl (ltb rfl) rfl rfl ?_)
  refine AO.op rfl (AOp.assign rfl rfl (ltb rfl) rfl ?_)
  refine AO.nil ?_
  change AC _ _ _ _
  refine AC.cond rfl (fun q1 => ?_) (fun q1 => ?_)
  · replace h0 := cT h0 q1
    refine AC.seq ?_
    refine AC.region ?_
    refine AO.op rfl (AOp.move rfl rfl (ltb rfl) rfl ?_)
    refine AO.op rfl (AOp.assign rfl rfl (ltb rfl) rfl ?_)
    refine AO.nil ?_
    change AC _ _ _ _
    refine AC.ret ?_
    change RetQ _ _ _ .ret _
    obtain rfl := Option.some.inj h0
    refine retq rfl rfl
  · replace h0 := cF h0 q1
    refine AC.joinP (V := Bool) [0, 1] [12] 0 (fun g2 => [(12, .d (dbool g2))]) (fun g2 => []) (fun g2 => (p_ldexp_k1 a0 a1) g2 = some r0) rfl ?_ ?_
    · refine AC.region ?_
      refine AO.op rfl (AOp.move rfl rfl (ltb rfl) rfl ?_)
      obtain ⟨y26, q27, h0⟩ := bind_elim h0
      refine AO.op rfl (AOp.callD rfl rfl (ltb rfl) rfl rfl (w_IsInf a0 (0 : Int) y26 q27) ?_)
      rintro _ rfl
      refine AO.op rfl (AOp.move rfl rfl (ltb rfl) rfl ?_)
      refine AO.dec y26 (fun q28 => ?_) (fun q28 => ?_)
      · replace h0 := cT h0 q28
        refine AO.guardN rfl rfl rfl (ltb rfl) rfl q28 ?_
        refine AO.guardN rfl rfl rfl (ltb rfl) rfl q28 ?_
        refine AO.op rfl (AOp.pick rfl rfl (ltb rfl) rfl q28 rfl ?_)
        refine AO.op rfl (AOp.assign rfl rfl (ltb rfl) rfl ?_)
        refine AO.nil ?_
        exact ⟨true, _, rfl, (LeL.refl _), rfl, rfl, h0⟩
      · replace h0 := cF h0 q28
        refine AO.guardY rfl rfl rfl q28 (AOp.move rfl rfl (ltb rfl) rfl ?_)
        obtain ⟨y29, q30, h0⟩ := bind_elim h0
        refine AO.guardY rfl rfl rfl q28 (AOp.callD rfl rfl (ltb rfl) rfl rfl (w_IsNaN a0 y29 q30) ?_)
        rintro _ rfl
        refine AO.op rfl (AOp.pickN rfl rfl (ltb rfl) rfl q28 rfl ?_)
        refine AO.op rfl (AOp.assign rfl rfl (ltb rfl) rfl ?_)
        refine AO.nil ?_
        exact ⟨y29, _, rfl, (LeL.refl _), rfl, rfl, h0⟩
    · intro g2 h0
      unfold p_ldexp_k1 at h0
      refine AC.cond rfl (fun q3 => ?_) (fun q3 => ?_)
      · replace h0 := cT h0 q3
        refine AC.seq ?_
        refine AC.region ?_
        refine AO.op rfl (AOp.move rfl rfl (ltb rfl) rfl ?_)
        refine AO.op rfl (AOp.assign rfl rfl (ltb rfl) rfl ?_)
        refine AO.nil ?_
        change AC _ _ _ _
        refine AC.ret ?_
        change RetQ _ _ _ .ret _
        obtain rfl := Option.some.inj h0
        refine retq rfl rfl
      · replace h0 := cF h0 q3
        refine AC.skip ?_
        change AC _ _ _ _
        refine AC.seq ?_
        refine AC.region ?_
        refine AO.op rfl (AOp.move rfl rfl (ltb rfl) rfl ?_)
        obtain ⟨y4, q5, h0⟩ := bind_elim h0
        refine AO.op rfl (AOp.callD rfl rfl (ltb rfl) rfl rfl (w_normalize a0 y4 q5) ?_)
        rintro _ rfl
        refine AO.op rfl (AOp.move rfl rfl (ltb rfl) rfl ?_)
        first | refine AO.op rfl (AOp.extractD rfl rfl (ltb rfl) rfl rfl ?_) | refine AO.op rfl (AOp.extract rfl rfl (ltb rfl) rfl rfl ?_)
        first | refine AO.op rfl (AOp.extractD rfl rfl (ltb rfl) rfl rfl ?_) | refine AO.op rfl (AOp.extract rfl rfl (ltb rfl) rfl rfl ?_)
        refine AO.op rfl (AOp.assign rfl rfl (ltb rfl) rfl ?_)
        refine AO.op rfl (AOp.assign rfl rfl (ltb rfl) rfl ?_)
        refine AO.nil ?_
        change AC _ _ _ _
        refine AC.seq ?_
        refine AC.region ?_
        refine AO.op rfl (AOp.move rfl rfl (ltb rfl) rfl ?_)
        refine AO.op rfl (AOp.move rfl rfl (ltb rfl) rfl ?_)
        obtain ⟨q6, h0⟩ := need_elim h0
        refine AO.op rfl (AOp.iadd rfl rfl (ltb rfl) rfl rfl rfl q6.1 q6.2 ?_)
        refine AO.op rfl (AOp.assign rfl rfl (ltb rfl) rfl ?_)
        refine AO.nil ?_
        change AC _ _ _ _
        refine AC.seq ?_
        refine AC.region ?_
        refine AO.op rfl (AOp.move rfl rfl (ltb rfl) rfl ?_)
        refine AO.op rfl (AOp.callX [.float .f64 y4.1] rfl rfl (ltb rfl) rfl (callBits y4.1) ?_)
        refine AO.op rfl (AOp.assign rfl rfl (ltb rfl) rfl ?_)
        refine AO.nil ?_
        change AC _ _ _ _
        refine AC.seq ?_
        refine AC.region ?_
        refine AO.op rfl (AOp.move rfl rfl (ltb rfl) rfl ?_)
        refine AO.op rfl (AOp.move rfl rfl (ltb rfl) rfl ?_)
        obtain ⟨q7, h0⟩ := need_elim h0
        refine AO.op rfl (AOp.ishr (n := 52) rfl rfl (ltb rfl) rfl rfl (by decide) q7 rfl ?_)
        refine AO.op rfl (AOp.i2i rfl rfl (ltb rfl) rfl Try.underlying91 Try.underlying3 rfl ?_)
        refine AO.op rfl (AOp.ibits (by simp) rfl rfl (ltb rfl) rfl rfl rfl ?_)
        obtain ⟨q8, h0⟩ := need_elim h0
        refine AO.op rfl (AOp.isub rfl rfl (ltb rfl) rfl rfl rfl q8.1 q8.2 ?_)
        obtain ⟨q9, h0⟩ := need_elim h0
        refine AO.op rfl (AOp.iadd rfl rfl (ltb rfl) rfl rfl rfl q9.1 q9.2 ?_)
        refine AO.op rfl (AOp.assign rfl rfl (ltb rfl) rfl ?_)
        refine AO.nil ?_
        change AC _ _ _ _
        refine AC.seq ?_
        refine AC.seq ?_
        refine AC.region ?_
        refine AO.op rfl (AOp.move rfl rfl (ltb rfl) rfl ?_)
        refine AO.op rfl (AOp.ilss rfl rfl (ltb rfl) rfl rfl ?_)
        refine AO.nil ?_
        change AC _ _ _ _
        refine AC.cond rfl (fun q10 => ?_) (fun q10 => ?_)
        · replace h0 := cT h0 q10
          refine AC.seq ?_
          refine AC.region ?_
          refine AO.op rfl (AOp.move rfl rfl (ltb rfl) rfl ?_)
          obtain ⟨y11, q12, h0⟩ := bind_elim h0
          refine AO.op rfl (AOp.callD rfl rfl (ltb rfl) rfl rfl (w_Copysign (0 : Nat) y4.1 y11 q12) ?_)
          rintro _ rfl
          refine AO.op rfl (AOp.assign rfl rfl (ltb rfl) rfl ?_)
          refine AO.nil ?_
          change AC _ _ _ _
          refine AC.ret ?_
          change RetQ _ _ _ .ret _
          obtain rfl := Option.some.inj h0
          refine retq rfl rfl
        · replace h0 := cF h0 q10
          refine AC.skip ?_
          change AC _ _ _ _
          refine AC.seq ?_
          refine AC.seq ?_
          refine AC.region ?_
          refine AO.op rfl (AOp.move rfl rfl (ltb rfl) rfl ?_)
          refine AO.op rfl (AOp.igtr rfl rfl (ltb rfl) rfl rfl ?_)
          refine AO.nil ?_
          change AC _ _ _ _
          refine AC.cond rfl (fun q13 => ?_) (fun q13 => ?_)
          · replace h0 := cT h0 q13
            refine AC.seq ?_
            refine AC.seq ?_
            refine AC.region ?_
            refine AO.op rfl (AOp.move rfl rfl (ltb rfl) rfl ?_)
            refine AO.op rfl (AOp.flss rfl rfl (ltb rfl) rfl rfl ?_)
            refine AO.nil ?_
            change AC _ _ _ _
            refine AC.cond rfl (fun q14 => ?_) (fun q14 => ?_)
            · replace h0 := cT h0 q14
              refine AC.seq ?_
              refine AC.region ?_
              obtain ⟨y15, q16, h0⟩ := bind_elim h0
              refine AO.op rfl (AOp.callD rfl rfl (ltb rfl) rfl rfl (w_Inf (-1 : Int) y15 q16) ?_)
              rintro _ rfl
              refine AO.op rfl (AOp.assign rfl rfl (ltb rfl) rfl ?_)
              refine AO.nil ?_
              change AC _ _ _ _
              refine AC.ret ?_
              change RetQ _ _ _ .ret _
              obtain rfl := Option.some.inj h0
              refine retq rfl rfl
            · replace h0 := cF h0 q14
              refine AC.skip ?_
              change AC _ _ _ _
              refine AC.seq ?_
              refine AC.region ?_
              obtain ⟨y17, q18, h0⟩ := bind_elim h0
              refine AO.op rfl (AOp.callD rfl rfl (ltb rfl) rfl rfl (w_Inf (1 : Int) y17 q18) ?_)
              rintro _ rfl
              refine AO.op rfl (AOp.assign rfl rfl (ltb rfl) rfl ?_)
              refine AO.nil ?_
              change AC _ _ _ _
              refine AC.ret ?_
              change RetQ _ _ _ .ret _
              obtain rfl := Option.some.inj h0
              refine retq rfl rfl
          · replace h0 := cF h0 q13
            refine AC.skip ?_
            change AC _ _ _ _
            refine AC.seq ?_
            refine AC.region ?_
            refine AO.op rfl (AOp.assign rfl rfl (ltb rfl) rfl ?_)
            refine AO.nil ?_
            change AC _ _ _ _
            refine AC.joinP (V := (Int × Nat)) [6] [1, 7] 0 (fun g19 => [(1, .d (di .i64 g19.1)), (7, .d (dfl g19.2))]) (fun g19 => []) (fun g19 => (p_ldexp_k2 y4) g19 = some r0) rfl ?_ ?_
            · refine AC.seq ?_
              refine AC.region ?_
              refine AO.op rfl (AOp.move rfl rfl (ltb rfl) rfl ?_)
              refine AO.op rfl (AOp.ilss rfl rfl (ltb rfl) rfl rfl ?_)
              refine AO.nil ?_
              change AC _ _ _ _
              refine AC.cond rfl (fun q24 => ?_) (fun q24 => ?_)
              · replace h0 := cT h0 q24
                refine AC.seq ?_
                refine AC.region ?_
                refine AO.op rfl (AOp.move rfl rfl (ltb rfl) rfl ?_)
                obtain ⟨q25, h0⟩ := need_elim h0
                refine AO.op rfl (AOp.iadd rfl rfl (ltb rfl) rfl rfl rfl q25.1 q25.2 ?_)
                refine AO.op rfl (AOp.assign rfl rfl (ltb rfl) rfl ?_)
                refine AO.nil ?_
                change AC _ _ _ _
                refine AC.region ?_
                refine AO.op rfl (AOp.assign rfl rfl (ltb rfl) rfl ?_)
                refine AO.nil ?_
                exact ⟨((((a1 + y4.2) + ((bits .and .i64 (IntKind.i64.wrap (((y4.1 : Nat) : Int) / 2 ^ 52)) (2047 : Int)) - (1023 : Int))) + (53 : Int)), (4368491638549381120 : Nat)), _, rfl, (LeL.refl _), rfl, rfl, h0⟩
              · replace h0 := cF h0 q24
                refine AC.skip ?_
                exact ⟨(((a1 + y4.2) + ((bits .and .i64 (IntKind.i64.wrap (((y4.1 : Nat) : Int) / 2 ^ 52)) (2047 : Int)) - (1023 : Int))), (4607182418800017408 : Nat)), _, rfl, (LeL.refl _), rfl, rfl, h0⟩
            · intro g19 h0
              unfold p_ldexp_k2 at h0
              refine AC.seq ?_
              refine AC.region ?_
              refine AO.op rfl (AOp.move rfl rfl (ltb rfl) rfl ?_)
              refine AO.op rfl (AOp.ibits (by simp) rfl rfl (ltb rfl) rfl rfl rfl ?_)
              refine AO.op rfl (AOp.assign rfl rfl (ltb rfl) rfl ?_)
              refine AO.nil ?_
              change AC _ _ _ _
              refine AC.seq ?_
              refine AC.region ?_
              refine AO.op rfl (AOp.move rfl rfl (ltb rfl) rfl ?_)
              refine AO.op rfl (AOp.move rfl rfl (ltb rfl) rfl ?_)
              obtain ⟨q20, h0⟩ := need_elim h0
              refine AO.op rfl (AOp.iadd rfl rfl (ltb rfl) rfl rfl rfl q20.1 q20.2 ?_)
              refine AO.op rfl (AOp.i2i rfl rfl (ltb rfl) rfl Try.underlying3 Try.underlying91 rfl ?_)
              refine AO.op rfl (AOp.ishl (n := 52) rfl rfl (ltb rfl) rfl rfl (by decide) rfl ?_)
              refine AO.op rfl (AOp.ibits (by simp) rfl rfl (ltb rfl) rfl rfl rfl ?_)
              refine AO.op rfl (AOp.assign rfl rfl (ltb rfl) rfl ?_)
              refine AO.nil ?_
              change AC _ _ _ _
              refine AC.seq ?_
              refine AC.region ?_
              refine AO.op rfl (AOp.move rfl rfl (ltb rfl) rfl ?_)
              refine AO.op rfl (AOp.move rfl rfl (ltb rfl) rfl ?_)
              obtain ⟨q21, h0⟩ := need_elim h0
              refine AO.op rfl (AOp.callX [.int .u64 ((((bits .or .u64 (bits .andNot .u64 ((y4.1 : Nat) : Int) (9218868437227405312 : Int)) (IntKind.u64.wrap ((IntKind.u64.wrap (g19.1 + (1023 : Int))) * 2 ^ 52)))).toNat : Nat) : Int)] rfl rfl (ltb rfl) (by rw [q21]; rfl) (callFromBits (((bits .or .u64 (bits .andNot .u64 ((y4.1 : Nat) : Int) (9218868437227405312 : Int)) (IntKind.u64.wrap ((IntKind.u64.wrap (g19.1 + (1023 : Int))) * 2 ^ 52)))).toNat)) ?_)
              obtain ⟨z22, q23, h0⟩ := bind_elim h0
              refine AO.op rfl (AOp.farith rfl rfl (ltb rfl) rfl rfl q23 ?_)
              refine AO.op rfl (AOp.assign rfl rfl (ltb rfl) rfl ?_)
              refine AO.nil ?_
              change AC _ _ _ _
              refine AC.ret ?_
              change RetQ _ _ _ .ret _
              obtain rfl := Option.some.inj h0
              refine retq rfl rfl

set_option maxRecDepth 100000 in
set_option maxHeartbeats 1000000 in
/-- math.Ldexp -/
theorem w_Ldexp (a0 : Nat) (a1 : Int) (r0 : Nat) (h0 : p_Ldexp a0 a1 = some r0) : FnD Try.prog 61 [dfl a0, di .i64 a1] (fun r => r = dfl r0) := by
  refine FnD.of (by kernel_rfl) Try.func61 rfl Try.ntmps61 rfl (leb rfl) fun W ok => ?_
  unfold p_Ldexp at h0
  refine AC.seq ?_
  refine AC.region ?_
  refine AO.op rfl (AOp.assign rfl rfl (ltb rfl) rfl ?_)
  refine AO.nil ?_
  change AC _ _ _ _
  refine AC.seq ?_
  refine AC.condF rfl rfl ?_
  refine AC.skip ?_
  change AC _ _ _ _
  refine AC.seq ?_
  refine AC.region ?_
  refine AO.op rfl (AOp.move rfl rfl (ltb rfl) rfl ?_)
  refine AO.op rfl (AOp.move rfl rfl (ltb rfl) rfl ?_)
  obtain ⟨y1, q2, h0⟩ := bind_elim h0
  refine AO.op rfl (AOp.callD rfl rfl (ltb rfl) rfl rfl (w_ldexp a0 a1 y1 q2) ?_)
  rintro _ rfl
  refine AO.op rfl (AOp.assign rfl rfl (ltb rfl) rfl ?_)
  refine AO.nil ?_
  change AC _ _ _ _
  refine AC.ret ?_
  change RetQ _ _ _ .ret _
  obtain rfl := Option.some.inj h0
  refine retq rfl rfl

set_option maxRecDepth 100000 in
set_option maxHeartbeats 1000000 in
/-- (pub-orthodrome/spec.Dyadic).Float -/
theorem w_Dyadic_Float (F : Nat) (a0 : TSpec_Dyadic) (r0 : Nat) (h0 : p_Dyadic_Float F a0 = some r0) : FnD Try.prog 25 [e_TSpec_Dyadic a0] (fun r => r = dfl r0) := by
  refine FnD.of (by kernel_rfl) Try.func25 rfl Try.ntmps25 rfl (leb rfl) fun W ok => ?_
  unfold p_Dyadic_Float at h0
  refine AC.seq ?_
  refine AC.region ?_
  refine AO.op rfl (AOp.box rfl rfl (ltb rfl) rfl rfl ?_)
  refine AO.op rfl (AOp.assign rfl rfl (ltb rfl) rfl ?_)
  refine AO.nil ?_
  change AC _ _ _ _
  refine AC.seq ?_
  refine AC.seq ?_
  refine AC.region ?_
  refine AO.op rfl (AOp.loadN rfl rfl (ltb rfl) rfl agg32 size32 rfl (leb rfl) rfl ?_)
  obtain ⟨y1, q2, h0⟩ := bind_elim h0
  refine AO.op rfl (AOp.callD rfl rfl (ltb rfl) rfl rfl (w_Dyadic_Sign a0 y1 q2) ?_)
  rintro _ rfl
  refine AO.op rfl (AOp.ieql rfl rfl (ltb rfl) rfl rfl ?_)
  refine AO.nil ?_
  change AC _ _ _ _
  refine AC.cond rfl (fun q3 => ?_) (fun q3 => ?_)
  · replace h0 := cT h0 q3
    refine AC.seq ?_
    refine AC.region ?_
    refine AO.op rfl (AOp.assign rfl rfl (ltb rfl) rfl ?_)
    refine AO.nil ?_
    change AC _ _ _ _
    refine AC.ret ?_
    change RetQ _ _ _ .ret _
    obtain rfl := Option.some.inj h0
    refine retq rfl rfl
  · replace h0 := cF h0 q3
    refine AC.skip ?_
    change AC _ _ _ _
    refine AC.seq ?_
    refine AC.draw 9 mixed (by kernel_rfl) ?_
    refine AD.op [1] rfl (by kernel_rfl) rfl rfl (fun _ _ h => AOp.fieldAddr rfl rfl (ltb rfl) rfl fo32_0 h) ?_
    refine AD.op [11] rfl (by kernel_rfl) rfl rfl (fun _ _ h => AOp.loadN rfl rfl (ltb rfl) rfl agg30 size30 rfl (leb rfl) rfl h) ?_
    obtain ⟨y4, q5, h0⟩ := bind_elim h0
    refine AD.op [12] rfl (by kernel_rfl) rfl rfl (fun _ _ h => AOp.callD rfl rfl (ltb rfl) rfl rfl (w_Whole_top F a0.N y4 q5) (by rintro _ rfl; exact h)) ?_
    refine AD.op [1] rfl (by kernel_rfl) rfl rfl (fun _ _ h => AOp.fieldAddr rfl rfl (ltb rfl) rfl fo32_1 h) ?_
    refine AD.op [14] rfl (by kernel_rfl) rfl rfl (fun _ _ h => AOp.load1 rfl rfl (ltb rfl) rfl agg3 rfl rfl h) ?_
    obtain ⟨q6, h0⟩ := need_elim h0
    refine AD.op [13, 15] rfl (by kernel_rfl) rfl rfl (fun _ _ h => AOp.iadd rfl rfl (ltb rfl) rfl rfl rfl q6.1 q6.2 h) ?_
    obtain ⟨q7, h0⟩ := need_elim h0
    refine AD.op [16] rfl (by kernel_rfl) rfl rfl (fun _ _ h => AOp.iadd rfl rfl (ltb rfl) rfl rfl rfl q7.1 q7.2 h) ?_
    refine AD.op [17] rfl (by kernel_rfl) rfl rfl (fun _ _ h => AOp.imin rfl rfl (ltb rfl) rfl rfl h) ?_
    refine AD.op [18] rfl (by kernel_rfl) rfl rfl (fun _ _ h => AOp.assign rfl rfl (ltb rfl) rfl h) ?_
    refine AD.done ?_
    refine AO.nil ?_
    change AC _ _ _ _
    refine AC.seq ?_
    refine AC.region ?_
    refine AO.op rfl (AOp.fieldAddr rfl rfl (ltb rfl) rfl fo32_0 ?_)
    refine AO.op rfl (AOp.loadN rfl rfl (ltb rfl) rfl agg30 size30 rfl (leb rfl) rfl ?_)
    obtain ⟨y8, q9, h0⟩ := bind_elim h0
    refine AO.op rfl (AOp.callD rfl rfl (ltb rfl) rfl rfl (w_Whole_top F a0.N y8 q9) ?_)
    rintro _ rfl
    refine AO.op rfl (AOp.move rfl rfl (ltb rfl) rfl ?_)
    obtain ⟨q10, h0⟩ := need_elim h0
    refine AO.op rfl (AOp.isub rfl rfl (ltb rfl) rfl rfl rfl q10.1 q10.2 ?_)
    refine AO.op rfl (AOp.assign rfl rfl (ltb rfl) rfl ?_)
    refine AO.nil ?_
    change AC _ _ _ _
    refine AC.seq ?_
    refine AC.region ?_
    refine AO.op rfl (AOp.assign rfl rfl (ltb rfl) rfl ?_)
    refine AO.nil ?_
    change AC _ _ _ _
    refine AC.seq ?_
    refine AC.seq ?_
    refine AC.region ?_
    refine AO.op rfl (AOp.assign rfl rfl (ltb rfl) rfl ?_)
    refine AO.nil ?_
    change AC _ _ _ _
    obtain ⟨o11, l12, h0⟩ := bind_elim h0
    refine AC.joinE (V := Int) [1, 4] [5] 1 (fun g13 => [(5, .d (di .u64 g13))]) (fun g13 => [.fix 32 [.d (dbool a0.N.Neg), .d (eS2 a0.N.L), .d (di .i64 a0.E)]]) (fun g13 => (p_Dyadic_Float_k1 a0 F y4 y8) g13 = some r0) rfl ?_ ?_
    · refine AC.block ?_
      refine AC.loopP (V := (Int × Int)) (p_Dyadic_Float_l3 a0 F y4) o11 [1, 3, 4] [5, 6] 1 (fun g32 => [(5, .d (di .u64 g32.1)), (6, .d (di .i64 g32.2))]) (fun g32 => [.fix 32 [.d (dbool a0.N.Neg), .d (eS2 a0.N.L), .d (di .i64 a0.E)]]) F ((0 : Int), (0 : Int)) l12 rfl rfl (LeL.refl _) rfl rfl ?_
      intro n34 g32 h1
      unfold p_Dyadic_Float_l3 at h1
      refine AC.seq ?_
      refine AC.seq ?_
      refine AC.region ?_
      refine AO.op rfl (AOp.move rfl rfl (ltb rfl) rfl ?_)
      refine AO.op rfl (AOp.move rfl rfl (ltb rfl) rfl ?_)
      refine AO.op rfl (AOp.ilss rfl rfl (ltb rfl) rfl rfl ?_)
      refine AO.nil ?_
      change AC _ _ _ _
      refine AC.cond rfl (fun q35 => ?_) (fun q35 => ?_)
      · replace h1 := cT h1 q35
        refine AC.skip ?_
        change AC _ _ _ _
        refine AC.seq ?_
        refine AC.block ?_
        refine AC.seq ?_
        refine AC.region ?_
        refine AO.op rfl (AOp.move rfl rfl (ltb rfl) rfl ?_)
        refine AO.op rfl (AOp.ishl (n := 1) rfl rfl (ltb rfl) rfl rfl (by decide) rfl ?_)
        refine AO.op rfl (AOp.assign rfl rfl (ltb rfl) rfl ?_)
        refine AO.nil ?_
        change AC _ _ _ _
        refine AC.seq ?_
        refine AC.draw 9 mixed (by kernel_rfl) ?_
        refine AD.op [1] rfl (by kernel_rfl) rfl rfl (fun _ _ h => AOp.fieldAddr rfl rfl (ltb rfl) rfl fo32_0 h) ?_
        refine AD.op [31] rfl (by kernel_rfl) rfl rfl (fun _ _ h => AOp.loadN rfl rfl (ltb rfl) rfl agg30 size30 rfl (leb rfl) rfl h) ?_
        refine AD.op [1] rfl (by kernel_rfl) rfl rfl (fun _ _ h => AOp.fieldAddr rfl rfl (ltb rfl) rfl fo32_0 h) ?_
        refine AD.op [33] rfl (by kernel_rfl) rfl rfl (fun _ _ h => AOp.loadN rfl rfl (ltb rfl) rfl agg30 size30 rfl (leb rfl) rfl h) ?_
        obtain ⟨y36, q37, h1⟩ := bind_elim h1
        refine AD.op [34] rfl (by kernel_rfl) rfl rfl (fun _ _ h => AOp.callD rfl rfl (ltb rfl) rfl rfl (w_Whole_top F a0.N y36 q37) (by rintro _ rfl; exact h)) ?_
        obtain ⟨q38, h1⟩ := need_elim h1
        refine AD.op [35] rfl (by kernel_rfl) rfl rfl (fun _ _ h => AOp.isub rfl rfl (ltb rfl) rfl rfl rfl q38.1 q38.2 h) ?_
        refine AD.op [6] rfl (by kernel_rfl) rfl rfl (fun _ _ h => AOp.move rfl rfl (ltb rfl) rfl h) ?_
        obtain ⟨q39, h1⟩ := need_elim h1
        refine AD.op [36, 37] rfl (by kernel_rfl) rfl rfl (fun _ _ h => AOp.isub rfl rfl (ltb rfl) rfl rfl rfl q39.1 q39.2 h) ?_
        obtain ⟨y40, q41, h1⟩ := bind_elim h1
        refine AD.op [32, 38] rfl (by kernel_rfl) rfl rfl (fun _ _ h => AOp.callD rfl rfl (ltb rfl) rfl rfl (w_Whole_bit a0.N ((y36 - (1 : Int)) - g32.2) y40 q41) (by rintro _ rfl; exact h)) ?_
        refine AD.done ?_
        refine AO.nil ?_
        change AC _ _ _ _
        refine AC.cond rfl (fun q42 => ?_) (fun q42 => ?_)
        · replace h1 := cT h1 q42
          refine AC.region ?_
          refine AO.op rfl (AOp.move rfl rfl (ltb rfl) rfl ?_)
          obtain ⟨q43, h1⟩ := need_elim h1
          refine AO.op rfl (AOp.iadd rfl rfl (ltb rfl) rfl rfl rfl q43.1 q43.2 ?_)
          refine AO.op rfl (AOp.assign rfl rfl (ltb rfl) rfl ?_)
          refine AO.nil ?_
          change AC _ _ _ _
          refine AC.region ?_
          refine AO.op rfl (AOp.move rfl rfl (ltb rfl) rfl ?_)
          obtain ⟨q44, h1⟩ := need_elim h1
          refine AO.op rfl (AOp.iadd rfl rfl (ltb rfl) rfl rfl rfl q44.1 q44.2 ?_)
          refine AO.op rfl (AOp.assign rfl rfl (ltb rfl) rfl ?_)
          refine AO.nil ?_
          exact ⟨(((IntKind.u64.wrap (g32.1 * 2 ^ 1)) + (1 : Int)), (g32.2 + (1 : Int))), _, rfl, (LeL.refl _), rfl, rfl, h1⟩
        · replace h1 := cF h1 q42
          refine AC.skip ?_
          change AC _ _ _ _
          refine AC.region ?_
          refine AO.op rfl (AOp.move rfl rfl (ltb rfl) rfl ?_)
          obtain ⟨q45, h1⟩ := need_elim h1
          refine AO.op rfl (AOp.iadd rfl rfl (ltb rfl) rfl rfl rfl q45.1 q45.2 ?_)
          refine AO.op rfl (AOp.assign rfl rfl (ltb rfl) rfl ?_)
          refine AO.nil ?_
          exact ⟨((IntKind.u64.wrap (g32.1 * 2 ^ 1)), (g32.2 + (1 : Int))), _, rfl, (LeL.refl _), rfl, rfl, h1⟩
      · replace h1 := cF h1 q35
        refine AC.exit ?_
        obtain rfl := Option.some.inj h1
        exact ⟨g32.1, _, rfl, (LeL.refl _), rfl, rfl, aftL h0⟩
    · intro g13 h0
      unfold p_Dyadic_Float_k1 at h0
      change AC _ _ _ _
      refine AC.joinP (V := Int) [1, 4] [5] 1 (fun g14 => [(5, .d (di .u64 g14))]) (fun g14 => [.fix 32 [.d (dbool a0.N.Neg), .d (eS2 a0.N.L), .d (di .i64 a0.E)]]) (fun g14 => (p_Dyadic_Float_k2 a0 y4 y8) g14 = some r0) rfl ?_ ?_
      · refine AC.seq ?_
        refine AC.region ?_
        refine AO.op rfl (AOp.move rfl rfl (ltb rfl) rfl ?_)
        refine AO.op rfl (AOp.igtr rfl rfl (ltb rfl) rfl rfl ?_)
        refine AO.op rfl (AOp.move rfl rfl (ltb rfl) rfl ?_)
        refine AO.dec (decide ((0 : Int) < (y8 - (if ((y4 + a0.E) + (1074 : Int)) < (53 : Int) then ((y4 + a0.E) + (1074 : Int)) else (53 : Int))))) (fun q19 => ?_) (fun q19 => ?_)
        · replace h0 := cT h0 q19
          refine AO.guardY rfl rfl rfl q19 (AOp.fieldAddr rfl rfl (ltb rfl) rfl fo32_0 ?_)
          refine AO.guardY rfl rfl rfl q19 (AOp.loadN rfl rfl (ltb rfl) rfl agg30 size30 rfl (leb rfl) rfl ?_)
          refine AO.guardY rfl rfl rfl q19 (AOp.move rfl rfl (ltb rfl) rfl ?_)
          obtain ⟨q20, h0⟩ := need_elim h0
          refine AO.guardY rfl rfl rfl q19 (AOp.isub rfl rfl (ltb rfl) rfl rfl rfl q20.1 q20.2 ?_)
          obtain ⟨y21, q22, h0⟩ := bind_elim h0
          refine AO.guardY rfl rfl rfl q19 (AOp.callD rfl rfl (ltb rfl) rfl rfl (w_Whole_bit a0.N ((y8 - (if ((y4 + a0.E) + (1074 : Int)) < (53 : Int) then ((y4 + a0.E) + (1074 : Int)) else (53 : Int))) - (1 : Int)) y21 q22) ?_)
          rintro _ rfl
          refine AO.op rfl (AOp.pick rfl rfl (ltb rfl) rfl q19 rfl ?_)
          refine AO.op rfl (AOp.move rfl rfl (ltb rfl) rfl ?_)
          refine AO.dec y21 (fun q23 => ?_) (fun q23 => ?_)
          · replace h0 := cT h0 q23
            refine AO.guardY rfl rfl rfl q23 (AOp.move rfl rfl (ltb rfl) rfl ?_)
            obtain ⟨q24, h0⟩ := need_elim h0
            refine AO.guardY rfl rfl rfl q23 (AOp.irem rfl rfl (ltb rfl) rfl rfl q24 rfl ?_)
            refine AO.guardY rfl rfl rfl q23 (AOp.ieql rfl rfl (ltb rfl) rfl rfl ?_)
            refine AO.guardY rfl rfl rfl q23 (AOp.move rfl rfl (ltb rfl) rfl ?_)
            refine AO.dec (decide ((Int.tmod g13 (2 : Int)) = (1 : Int))) (fun q25 => ?_) (fun q25 => ?_)
            · replace h0 := cT h0 q25
              refine AO.guardN rfl rfl rfl (ltb rfl) rfl q25 ?_
              refine AO.guardN rfl rfl rfl (ltb rfl) rfl q25 ?_
              refine AO.guardN rfl rfl rfl (ltb rfl) rfl q25 ?_
              refine AO.guardN rfl rfl rfl (ltb rfl) rfl q25 ?_
              refine AO.guardN rfl rfl rfl (ltb rfl) rfl q25 ?_
              refine AO.guardY rfl rfl rfl q23 (AOp.pick rfl rfl (ltb rfl) rfl q25 rfl ?_)
              refine AO.op rfl (AOp.pick rfl rfl (ltb rfl) rfl q23 rfl ?_)
              refine AO.nil ?_
              change AC _ _ _ _
              refine AC.condT rfl rfl ?_
              refine AC.region ?_
              refine AO.op rfl (AOp.move rfl rfl (ltb rfl) rfl ?_)
              obtain ⟨q26, h0⟩ := need_elim h0
              refine AO.op rfl (AOp.iadd rfl rfl (ltb rfl) rfl rfl rfl q26.1 q26.2 ?_)
              refine AO.op rfl (AOp.assign rfl rfl (ltb rfl) rfl ?_)
              refine AO.nil ?_
              exact ⟨(g13 + (1 : Int)), _, rfl, (LeL.refl _), rfl, rfl, h0⟩
            · replace h0 := cF h0 q25
              refine AO.guardY rfl rfl rfl q25 (AOp.fieldAddr rfl rfl (ltb rfl) rfl fo32_0 ?_)
              refine AO.guardY rfl rfl rfl q25 (AOp.loadN rfl rfl (ltb rfl) rfl agg30 size30 rfl (leb rfl) rfl ?_)
              refine AO.guardY rfl rfl rfl q25 (AOp.move rfl rfl (ltb rfl) rfl ?_)
              obtain ⟨q27, h0⟩ := need_elim h0
              refine AO.guardY rfl rfl rfl q25 (AOp.isub rfl rfl (ltb rfl) rfl rfl rfl q27.1 q27.2 ?_)
              obtain ⟨y28, q29, h0⟩ := bind_elim h0
              refine AO.guardY rfl rfl rfl q25 (AOp.callD rfl rfl (ltb rfl) rfl rfl (w_Whole_low F a0.N ((y8 - (if ((y4 + a0.E) + (1074 : Int)) < (53 : Int) then ((y4 + a0.E) + (1074 : Int)) else (53 : Int))) - (1 : Int)) y28 q29) ?_)
              rintro _ rfl
              refine AO.guardY rfl rfl rfl q23 (AOp.pickN rfl rfl (ltb rfl) rfl q25 rfl ?_)
              refine AO.op rfl (AOp.pick rfl rfl (ltb rfl) rfl q23 rfl ?_)
              refine AO.nil ?_
              change AC _ _ _ _
              refine AC.cond rfl (fun q30 => ?_) (fun q30 => ?_)
              · replace h0 := cT h0 q30
                refine AC.region ?_
                refine AO.op rfl (AOp.move rfl rfl (ltb rfl) rfl ?_)
                obtain ⟨q31, h0⟩ := need_elim h0
                refine AO.op rfl (AOp.iadd rfl rfl (ltb rfl) rfl rfl rfl q31.1 q31.2 ?_)
                refine AO.op rfl (AOp.assign rfl rfl (ltb rfl) rfl ?_)
                refine AO.nil ?_
                exact ⟨(g13 + (1 : Int)), _, rfl, (LeL.refl _), rfl, rfl, h0⟩
              · replace h0 := cF h0 q30
                refine AC.skip ?_
                exact ⟨g13, _, rfl, (LeL.refl _), rfl, rfl, h0⟩
          · replace h0 := cF h0 q23
            refine AO.guardN rfl rfl rfl (ltb rfl) rfl q23 ?_
            refine AO.guardN rfl rfl rfl (ltb rfl) rfl q23 ?_
            refine AO.guardN rfl rfl rfl (ltb rfl) rfl q23 ?_
            refine AO.guardN rfl rfl rfl (ltb rfl) rfl q23 ?_
            refine AO.guardU rfl rfl rfl (ltb rfl) rfl ?_
            refine AO.guardU rfl rfl rfl (ltb rfl) rfl ?_
            refine AO.guardU rfl rfl rfl (ltb rfl) rfl ?_
            refine AO.guardU rfl rfl rfl (ltb rfl) rfl ?_
            refine AO.guardU rfl rfl rfl (ltb rfl) rfl ?_
            refine AO.guardN rfl rfl rfl (ltb rfl) rfl q23 ?_
            refine AO.op rfl (AOp.pickN rfl rfl (ltb rfl) rfl q23 rfl ?_)
            refine AO.nil ?_
            change AC _ _ _ _
            refine AC.condF rfl rfl ?_
            refine AC.skip ?_
            exact ⟨g13, _, rfl, (LeL.refl _), rfl, rfl, h0⟩
        · replace h0 := cF h0 q19
          refine AO.guardN rfl rfl rfl (ltb rfl) rfl q19 ?_
          refine AO.guardN rfl rfl rfl (ltb rfl) rfl q19 ?_
          refine AO.guardN rfl rfl rfl (ltb rfl) rfl q19 ?_
          refine AO.guardN rfl rfl rfl (ltb rfl) rfl q19 ?_
          refine AO.guardN rfl rfl rfl (ltb rfl) rfl q19 ?_
          refine AO.op rfl (AOp.pickN rfl rfl (ltb rfl) rfl q19 rfl ?_)
          refine AO.op rfl (AOp.move rfl rfl (ltb rfl) rfl ?_)
          refine AO.guardN rfl rfl rfl (ltb rfl) rfl rfl ?_
          refine AO.guardN rfl rfl rfl (ltb rfl) rfl rfl ?_
          refine AO.guardN rfl rfl rfl (ltb rfl) rfl rfl ?_
          refine AO.guardN rfl rfl rfl (ltb rfl) rfl rfl ?_
          refine AO.guardU rfl rfl rfl (ltb rfl) rfl ?_
          refine AO.guardU rfl rfl rfl (ltb rfl) rfl ?_
          refine AO.guardU rfl rfl rfl (ltb rfl) rfl ?_
          refine AO.guardU rfl rfl rfl (ltb rfl) rfl ?_
          refine AO.guardU rfl rfl rfl (ltb rfl) rfl ?_
          refine AO.guardN rfl rfl rfl (ltb rfl) rfl rfl ?_
          refine AO.op rfl (AOp.pickN rfl rfl (ltb rfl) rfl rfl rfl ?_)
          refine AO.nil ?_
          change AC _ _ _ _
          refine AC.condF rfl rfl ?_
          refine AC.skip ?_
          exact ⟨g13, _, rfl, (LeL.refl _), rfl, rfl, h0⟩
      · intro g14 h0
        unfold p_Dyadic_Float_k2 at h0
        refine AC.seq ?_
        refine AC.region ?_
        refine AO.op rfl (AOp.move rfl rfl (ltb rfl) rfl ?_)
        refine AO.op rfl (AOp.i2f rfl rfl (ltb rfl) rfl Try.underlying91 Try.underlying22 ?_)
        refine AO.op rfl (AOp.fieldAddr rfl rfl (ltb rfl) rfl fo32_1 ?_)
        refine AO.op rfl (AOp.load1 rfl rfl (ltb rfl) rfl agg3 rfl rfl ?_)
        refine AO.op rfl (AOp.move rfl rfl (ltb rfl) rfl ?_)
        obtain ⟨q15, h0⟩ := need_elim h0
        refine AO.op rfl (AOp.iadd rfl rfl (ltb rfl) rfl rfl rfl q15.1 q15.2 ?_)
        obtain ⟨y16, q17, h0⟩ := bind_elim h0
        refine AO.op rfl (AOp.callD rfl rfl (ltb rfl) rfl rfl (w_Ldexp (ofInt g14) (a0.E + (y8 - (if ((y4 + a0.E) + (1074 : Int)) < (53 : Int) then ((y4 + a0.E) + (1074 : Int)) else (53 : Int)))) y16 q17) ?_)
        rintro _ rfl
        refine AO.op rfl (AOp.assign rfl rfl (ltb rfl) rfl ?_)
        refine AO.nil ?_
        change AC _ _ _ _
        refine AC.seq ?_
        refine AC.seq ?_
        refine AC.region ?_
        refine AO.op rfl (AOp.fieldAddr rfl rfl (ltb rfl) rfl fo32_0 ?_)
        refine AO.op rfl (AOp.fieldAddr rfl rfl (ltb rfl) rfl fo30_0 ?_)
        refine AO.op rfl (AOp.load1 rfl rfl (ltb rfl) rfl agg4 rfl rfl ?_)
        refine AO.nil ?_
        change AC _ _ _ _
        refine AC.cond rfl (fun q18 => ?_) (fun q18 => ?_)
        · replace h0 := cT h0 q18
          refine AC.seq ?_
          refine AC.region ?_
          refine AO.op rfl (AOp.move rfl rfl (ltb rfl) rfl ?_)
          refine AO.op rfl (AOp.fneg rfl rfl (ltb rfl) rfl ?_)
          refine AO.op rfl (AOp.assign rfl rfl (ltb rfl) rfl ?_)
          refine AO.nil ?_
          change AC _ _ _ _
          refine AC.ret ?_
          change RetQ _ _ _ .ret _
          obtain rfl := Option.some.inj h0
          refine retq rfl rfl
        · replace h0 := cF h0 q18
          refine AC.skip ?_
          change AC _ _ _ _
          refine AC.seq ?_
          refine AC.region ?_
          refine AO.op rfl (AOp.move rfl rfl (ltb rfl) rfl ?_)
          refine AO.op rfl (AOp.assign rfl rfl (ltb rfl) rfl ?_)
          refine AO.nil ?_
          change AC _ _ _ _
          refine AC.ret ?_
          change RetQ _ _ _ .ret _
          obtain rfl := Option.some.inj h0
          refine retq rfl rfl

set_option maxRecDepth 100000 in
set_option maxHeartbeats 1000000 in
/-- pub-orthodrome/laws.rootOf -/
theorem w_rootOf (F : Nat) (a0 : TSpec_Ratio) (r0 : Nat) (h0 : p_rootOf F a0 = some r0) : FnD Try.prog 16 [e_TSpec_Ratio a0] (fun r => r = dfl r0) := by
  refine FnD.of (by kernel_rfl) Try.func16 rfl Try.ntmps16 rfl (leb rfl) fun W ok => ?_
  unfold p_rootOf at h0
  refine AC.seq ?_
  refine AC.region ?_
  refine AO.op rfl (AOp.box rfl rfl (ltb rfl) rfl rfl ?_)
  refine AO.op rfl (AOp.assign rfl rfl (ltb rfl) rfl ?_)
  refine AO.nil ?_
  change AC _ _ _ _
  refine AC.seq ?_
  refine AC.draw 9 mixed (by kernel_rfl) ?_
  refine AD.op [1] rfl (by kernel_rfl) rfl rfl (fun _ _ h => AOp.fieldAddr rfl rfl (ltb rfl) rfl fo34_0 h) ?_
  refine AD.op [3] rfl (by kernel_rfl) rfl rfl (fun _ _ h => AOp.loadN rfl rfl (ltb rfl) rfl agg32 size32 rfl (leb rfl) rfl h) ?_
  obtain ⟨y1, q2, h0⟩ := bind_elim h0
  refine AD.op [4] rfl (by kernel_rfl) rfl rfl (fun _ _ h => AOp.callD rfl rfl (ltb rfl) rfl rfl (w_Dyadic_Float F a0.N y1 q2) (by rintro _ rfl; exact h)) ?_
  refine AD.op [1] rfl (by kernel_rfl) rfl rfl (fun _ _ h => AOp.fieldAddr rfl rfl (ltb rfl) rfl fo34_1 h) ?_
  refine AD.op [6] rfl (by kernel_rfl) rfl rfl (fun _ _ h => AOp.loadN rfl rfl (ltb rfl) rfl agg32 size32 rfl (leb rfl) rfl h) ?_
  obtain ⟨y3, q4, h0⟩ := bind_elim h0
  refine AD.op [7] rfl (by kernel_rfl) rfl rfl (fun _ _ h => AOp.callD rfl rfl (ltb rfl) rfl rfl (w_Dyadic_Float F a0.D y3 q4) (by rintro _ rfl; exact h)) ?_
  obtain ⟨z5, q6, h0⟩ := bind_elim h0
  refine AD.op [5, 8] rfl (by kernel_rfl) rfl rfl (fun _ _ h => AOp.farith rfl rfl (ltb rfl) rfl rfl q6 h) ?_
  obtain ⟨y7, q8, h0⟩ := bind_elim h0
  refine AD.op [9] rfl (by kernel_rfl) rfl rfl (fun _ _ h => AOp.callD rfl rfl (ltb rfl) rfl rfl (w_Sqrt z5 y7 q8) (by rintro _ rfl; exact h)) ?_
  refine AD.op [10] rfl (by kernel_rfl) rfl rfl (fun _ _ h => AOp.assign rfl rfl (ltb rfl) rfl h) ?_
  refine AD.done ?_
  refine AO.nil ?_
  change AC _ _ _ _
  refine AC.ret ?_
  change RetQ _ _ _ .ret _
  obtain rfl := Option.some.inj h0
  refine retq rfl rfl

set_option maxRecDepth 100000 in
set_option maxHeartbeats 1000000 in
/-- pub-orthodrome/laws.nearTo -/
theorem w_nearTo (a0 : Nat) (a1 : Nat) (r0 : Bool) (h0 : p_nearTo a0 a1 = some r0) : FnD Try.prog 14 [dfl a0, dfl a1] (fun r => r = dbool r0) := by
  refine FnD.of (by kernel_rfl) Try.func14 rfl Try.ntmps14 rfl (leb rfl) fun W ok => ?_
  unfold p_nearTo at h0
  refine AC.seq ?_
  refine AC.region ?_
  refine AO.op rfl (AOp.assign rfl rfl (ltb rfl) rfl ?_)
  refine AO.nil ?_
  change AC _ _ _ _
  refine AC.seq ?_
  refine AC.region ?_
  refine AO.op rfl (AOp.move rfl rfl (ltb rfl) rfl ?_)
  refine AO.op rfl (AOp.move rfl rfl (ltb rfl) rfl ?_)
  obtain ⟨z1, q2, h0⟩ := bind_elim h0
  refine AO.op rfl (AOp.farith rfl rfl (ltb rfl) rfl rfl q2 ?_)
  refine AO.op rfl (AOp.callD rfl rfl (ltb rfl) rfl rfl (mathAbs z1) ?_)
  rintro _ rfl
  refine AO.op rfl (AOp.flss rfl rfl (ltb rfl) rfl rfl ?_)
  refine AO.op rfl (AOp.assign rfl rfl (ltb rfl) rfl ?_)
  refine AO.nil ?_
  change AC _ _ _ _
  refine AC.ret ?_
  change RetQ _ _ _ .ret _
  obtain rfl := Option.some.inj h0
  refine retq rfl rfl

set_option maxRecDepth 100000 in
set_option maxHeartbeats 1000000 in
/-- pub-orthodrome/laws.FnSpacePointLine -/
theorem w_FnSpacePointLine (F : Nat) (a0 : TImpl_P3) (a1 : TImpl_P3) (a2 : TImpl_P3) (r0 : Bool) (h0 : p_FnSpacePointLine F a0 a1 a2 = some r0) : FnD Try.prog 6 [e_TImpl_P3 a0, e_TImpl_P3 a1, e_TImpl_P3 a2] (fun r => r = dbool r0) := by
  refine FnD.of (by kernel_rfl) Try.func6 rfl Try.ntmps6 rfl (leb rfl) fun W ok => ?_
  unfold p_FnSpacePointLine at h0
  refine AC.seq ?_
  refine AC.region ?_
  refine AO.op rfl (AOp.box rfl rfl (ltb rfl) rfl rfl ?_)
  refine AO.op rfl (AOp.box rfl rfl (ltb rfl) rfl rfl ?_)
  refine AO.op rfl (AOp.box rfl rfl (ltb rfl) rfl rfl ?_)
  refine AO.op rfl (AOp.assign rfl rfl (ltb rfl) rfl ?_)
  refine AO.nil ?_
  change AC _ _ _ _
  refine AC.seq ?_
  refine AC.seq ?_
  refine AC.region ?_
  refine AO.op rfl (AOp.loadN rfl rfl (ltb rfl) rfl agg47 size47 rfl (leb rfl) rfl ?_)
  refine AO.op rfl (AOp.loadN rfl rfl (ltb rfl) rfl agg47 size47 rfl (leb rfl) rfl ?_)
  refine AO.op rfl (AOp.loadN rfl rfl (ltb rfl) rfl agg47 size47 rfl (leb rfl) rfl ?_)
  refine AO.op rfl (AOp.buildSliceD rfl rfl (ltb rfl) el85 zero47 rfl (leb rfl) rfl rfl rfl rfl ?_)
  obtain ⟨y1, q2, h0⟩ := bind_elim h0
  refine AO.op rfl (AOp.callD rfl rfl (ltb rfl) rfl rfl (w_spaceTo F (4652218415073722368 : Nat) [a0, a1, a2] y1 q2) ?_)
  rintro _ rfl
  refine AO.op rfl (AOp.bnot rfl rfl (ltb rfl) rfl ?_)
  refine AO.nil ?_
  change AC _ _ _ _
  refine AC.cond rfl (fun q3 => ?_) (fun q3 => ?_)
  · replace h0 := cT h0 q3
    refine AC.seq ?_
    refine AC.region ?_
    refine AO.op rfl (AOp.assign rfl rfl (ltb rfl) rfl ?_)
    refine AO.nil ?_
    change AC _ _ _ _
    refine AC.ret ?_
    change RetQ _ _ _ .ret _
    obtain rfl := Option.some.inj h0
    refine retq rfl rfl
  · replace h0 := cF h0 q3
    refine AC.skip ?_
    change AC _ _ _ _
    refine AC.seq ?_
    refine AC.region ?_
    refine AO.op rfl (AOp.loadN rfl rfl (ltb rfl) rfl agg47 size47 rfl (leb rfl) rfl ?_)
    refine AO.op rfl (AOp.loadN rfl rfl (ltb rfl) rfl agg47 size47 rfl (leb rfl) rfl ?_)
    refine AO.op rfl (AOp.loadN rfl rfl (ltb rfl) rfl agg47 size47 rfl (leb rfl) rfl ?_)
    obtain ⟨y4, q5, h0⟩ := bind_elim h0
    refine AO.op rfl (AOp.callD rfl rfl (ltb rfl) rfl rfl (w_PointLine3 a0 a1 a2 y4 q5) ?_)
    rintro _ rfl
    refine AO.op rfl (AOp.move rfl rfl (ltb rfl) rfl ?_)
    first | refine AO.op rfl (AOp.extractD rfl rfl (ltb rfl) rfl rfl ?_) | refine AO.op rfl (AOp.extract rfl rfl (ltb rfl) rfl rfl ?_)
    first | refine AO.op rfl (AOp.extractD rfl rfl (ltb rfl) rfl rfl ?_) | refine AO.op rfl (AOp.extract rfl rfl (ltb rfl) rfl rfl ?_)
    refine AO.op rfl (AOp.assign rfl rfl (ltb rfl) rfl ?_)
    refine AO.op rfl (AOp.assign rfl rfl (ltb rfl) rfl ?_)
    refine AO.nil ?_
    change AC _ _ _ _
    refine AC.seq ?_
    refine AC.draw 14 mixed (by kernel_rfl) ?_
    refine AD.op [8] rfl (by kernel_rfl) rfl rfl (fun _ _ h => AOp.move rfl rfl (ltb rfl) rfl h) ?_
    refine AD.op [22] rfl (by kernel_rfl) rfl rfl (fun _ _ h => AOp.move rfl rfl (ltb rfl) rfl h) ?_
    refine AD.dec y4.2 (fun q6 => ?_) (fun q6 => ?_)
    · replace h0 := cT h0 q6
      refine AD.opY [7, 23] rfl rfl rfl q6 (by kernel_rfl) rfl rfl (fun _ _ h => AOp.move rfl rfl (ltb rfl) rfl h) ?_
      refine AD.opY [3, 23] rfl rfl rfl q6 (by kernel_rfl) rfl rfl (fun _ _ h => AOp.loadN rfl rfl (ltb rfl) rfl agg47 size47 rfl (leb rfl) rfl h) ?_
      obtain ⟨y7, q8, h0⟩ := bind_elim h0
      refine AD.opY [23, 25] rfl rfl rfl q6 (by kernel_rfl) rfl rfl (fun _ _ h => AOp.callD rfl rfl (ltb rfl) rfl rfl (w_exactly3 F a0 y7 q8) (by rintro _ rfl; exact h)) ?_
      refine AD.opY [4, 23] rfl rfl rfl q6 (by kernel_rfl) rfl rfl (fun _ _ h => AOp.loadN rfl rfl (ltb rfl) rfl agg47 size47 rfl (leb rfl) rfl h) ?_
      obtain ⟨y9, q10, h0⟩ := bind_elim h0
      refine AD.opY [23, 27] rfl rfl rfl q6 (by kernel_rfl) rfl rfl (fun _ _ h => AOp.callD rfl rfl (ltb rfl) rfl rfl (w_exactly3 F a1 y9 q10) (by rintro _ rfl; exact h)) ?_
      refine AD.opY [5, 23] rfl rfl rfl q6 (by kernel_rfl) rfl rfl (fun _ _ h => AOp.loadN rfl rfl (ltb rfl) rfl agg47 size47 rfl (leb rfl) rfl h) ?_
      obtain ⟨y11, q12, h0⟩ := bind_elim h0
      refine AD.opY [23, 29] rfl rfl rfl q6 (by kernel_rfl) rfl rfl (fun _ _ h => AOp.callD rfl rfl (ltb rfl) rfl rfl (w_exactly3 F a2 y11 q12) (by rintro _ rfl; exact h)) ?_
      obtain ⟨y13, q14, h0⟩ := bind_elim h0
      refine AD.opY [23, 26, 28, 30] rfl rfl rfl q6 (by kernel_rfl) rfl rfl (fun _ _ h => AOp.callD rfl rfl (ltb rfl) rfl rfl (w_SquareTo3 F y7 y9 y11 y13 q14) (by rintro _ rfl; exact h)) ?_
      obtain ⟨y15, q16, h0⟩ := bind_elim h0
      refine AD.opY [23, 31] rfl rfl rfl q6 (by kernel_rfl) rfl rfl (fun _ _ h => AOp.callD rfl rfl (ltb rfl) rfl rfl (w_rootOf F y13 y15 q16) (by rintro _ rfl; exact h)) ?_
      obtain ⟨y17, q18, h0⟩ := bind_elim h0
      refine AD.opY [23, 24, 32] rfl rfl rfl q6 (by kernel_rfl) rfl rfl (fun _ _ h => AOp.callD rfl rfl (ltb rfl) rfl rfl (w_nearTo y4.1 y15 y17 q18) (by rintro _ rfl; exact h)) ?_
      refine AD.op [23, 33] rfl (by kernel_rfl) rfl rfl (fun _ _ h => AOp.pick rfl rfl (ltb rfl) rfl q6 rfl h) ?_
      refine AD.op [34] rfl (by kernel_rfl) rfl rfl (fun _ _ h => AOp.assign rfl rfl (ltb rfl) rfl h) ?_
      refine AD.done ?_
      refine AO.nil ?_
      change AC _ _ _ _
      refine AC.ret ?_
      change RetQ _ _ _ .ret _
      obtain rfl := Option.some.inj h0
      refine retq rfl rfl
    · replace h0 := cF h0 q6
      refine AD.opN rfl rfl rfl (ltb rfl) rfl q6 ?_
      refine AD.opN rfl rfl rfl (ltb rfl) rfl q6 ?_
      refine AD.opN rfl rfl rfl (ltb rfl) rfl q6 ?_
      refine AD.opN rfl rfl rfl (ltb rfl) rfl q6 ?_
      refine AD.opN rfl rfl rfl (ltb rfl) rfl q6 ?_
      refine AD.opN rfl rfl rfl (ltb rfl) rfl q6 ?_
      refine AD.opN rfl rfl rfl (ltb rfl) rfl q6 ?_
      refine AD.opN rfl rfl rfl (ltb rfl) rfl q6 ?_
      refine AD.opN rfl rfl rfl (ltb rfl) rfl q6 ?_
      refine AD.opN rfl rfl rfl (ltb rfl) rfl q6 ?_
      refine AD.op [23, 33] rfl (by kernel_rfl) rfl rfl (fun _ _ h => AOp.pickN rfl rfl (ltb rfl) rfl q6 rfl h) ?_
      refine AD.op [34] rfl (by kernel_rfl) rfl rfl (fun _ _ h => AOp.assign rfl rfl (ltb rfl) rfl h) ?_
      refine AD.done ?_
      refine AO.nil ?_
      change AC _ _ _ _
      refine AC.ret ?_
      change RetQ _ _ _ .ret _
      obtain rfl := Option.some.inj h0
      refine retq rfl rfl

end Go.Proofs.Ytohpmbodfpjjmaa.Wk
