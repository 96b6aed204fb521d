/- Proved: functions of the program compute what the printed functions say, wherever these say something. -/
import Derived.Test.YtohgipjhcgblfaaGreatPLx
import Derived.Test.YtohgipjhcgblfaaGreatLibC
import Derived.Test.YtohgipjhcgblfaaGreatProg
namespace Go.Proofs.YtohgipjhcgblfaaGreat.Wk
open Go.Vm
set_option linter.unusedVariables false
set_option linter.unusedSimpArgs false
theorem agg100 : aggT Tryz.prog 100 = some false := by kernel_rfl
theorem agg22 : aggT Tryz.prog 22 = some false := by kernel_rfl
theorem agg24 : aggT Tryz.prog 24 = some true := by kernel_rfl
theorem agg26 : aggT Tryz.prog 26 = some false := by kernel_rfl
theorem agg28 : aggT Tryz.prog 28 = some true := by kernel_rfl
theorem agg3 : aggT Tryz.prog 3 = some false := by kernel_rfl
theorem agg30 : aggT Tryz.prog 30 = some true := by kernel_rfl
theorem agg32 : aggT Tryz.prog 32 = some true := by kernel_rfl
theorem agg37 : aggT Tryz.prog 37 = some true := by kernel_rfl
theorem agg4 : aggT Tryz.prog 4 = some false := by kernel_rfl
theorem agg55 : aggT Tryz.prog 55 = some false := by kernel_rfl
theorem agg56 : aggT Tryz.prog 56 = some false := by kernel_rfl
theorem agg64 : aggT Tryz.prog 64 = some false := by kernel_rfl
theorem ar80 : arrT Tryz.prog 80 = some (2, 64, 1) := by kernel_rfl
theorem ar81 : arrT Tryz.prog 81 = some (2, 80, 2) := by kernel_rfl
theorem conc87 : concT Tryz.prog 87 = true := by kernel_rfl
theorem el26 : elemT Tryz.prog 26 = some (100, 1) := by kernel_rfl
theorem el40 : elemT Tryz.prog 40 = some (24, 2) := by kernel_rfl
theorem el47 : elemT Tryz.prog 47 = some (32, 6) := by kernel_rfl
theorem el56 : elemT Tryz.prog 56 = some (64, 1) := by kernel_rfl
theorem el63 : elemT Tryz.prog 63 = some (22, 1) := by kernel_rfl
theorem el64 : elemT Tryz.prog 64 = some (22, 1) := by kernel_rfl
theorem fo24_0 : fieldOff Tryz.prog 24 0 = some 0 := by kernel_rfl
theorem fo24_1 : fieldOff Tryz.prog 24 1 = some 1 := by kernel_rfl
theorem fo28_0 : fieldOff Tryz.prog 28 0 = some 0 := by kernel_rfl
theorem fo28_1 : fieldOff Tryz.prog 28 1 = some 1 := by kernel_rfl
theorem fo30_0 : fieldOff Tryz.prog 30 0 = some 0 := by kernel_rfl
theorem fo30_1 : fieldOff Tryz.prog 30 1 = some 2 := by kernel_rfl
theorem fo32_0 : fieldOff Tryz.prog 32 0 = some 0 := by kernel_rfl
theorem fo32_1 : fieldOff Tryz.prog 32 1 = some 3 := by kernel_rfl
theorem fo37_0 : fieldOff Tryz.prog 37 0 = some 0 := by kernel_rfl
theorem fo37_1 : fieldOff Tryz.prog 37 1 = some 3 := by kernel_rfl
theorem fo58_0 : fieldOff Tryz.prog 58 0 = some 0 := by kernel_rfl
theorem fo58_1 : fieldOff Tryz.prog 58 1 = some 1 := by kernel_rfl
theorem fo83_0 : fieldOff Tryz.prog 83 0 = some 0 := by kernel_rfl
theorem fo83_1 : fieldOff Tryz.prog 83 1 = some 4 := by kernel_rfl
theorem fo83_2 : fieldOff Tryz.prog 83 2 = some 6 := by kernel_rfl
theorem fo83_3 : fieldOff Tryz.prog 83 3 = some 7 := by kernel_rfl
theorem fo83_4 : fieldOff Tryz.prog 83 4 = some 8 := by kernel_rfl
theorem fo83_5 : fieldOff Tryz.prog 83 5 = some 9 := by kernel_rfl
theorem imeth138 : Tryz.prog.underlying 138 = some (.interface (Tryz.prog.methodsAt 138)) := by kernel_rfl
theorem info100 : (Tryz.prog.info? 100).map (fun i => (i.zero, i.size, i.bytes)) = some (some (.int .u32 0), 1, 4) := by kernel_rfl
theorem info22 : (Tryz.prog.info? 22).map (fun i => (i.zero, i.size, i.bytes)) = some (some (.float .f64 0), 1, 8) := by kernel_rfl
theorem info24 : (Tryz.prog.info? 24).map (fun i => (i.zero, i.size, i.bytes)) = some (some (.agg #[.float .f64 0, .float .f64 0]), 2, 16) := by kernel_rfl
theorem info32 : (Tryz.prog.info? 32).map (fun i => (i.zero, i.size, i.bytes)) = some (some (.agg #[.bool false, .slice none 0 0, .int .i64 0, .bool false, .slice none 0 0, .int .i64 0]), 6, 80) := by kernel_rfl
theorem meth87_pub_orthodrome_pub_gogeom_xy_lineintersector_computeLineOnLineIntersection : methT Tryz.prog 87 "pub-orthodrome/pub/gogeom/xy/lineintersector.computeLineOnLineIntersection" = some (89, none) := by kernel_rfl
theorem mixed : Tryz.prog.follows .mixedOrders = true := by kernel_rfl
def pl24 : Nat → Option (Nat × Nat) := fun i => ([(0, 1), (1, 1)] : List (Nat × Nat))[i]?
theorem places24 : placesT Tryz.prog 24 = some pl24 := by kernel_rfl
def pl28 : Nat → Option (Nat × Nat) := fun i => ([(0, 1), (1, 1)] : List (Nat × Nat))[i]?
theorem places28 : placesT Tryz.prog 28 = some pl28 := by kernel_rfl
def pl30 : Nat → Option (Nat × Nat) := fun i => ([(0, 2), (2, 1)] : List (Nat × Nat))[i]?
theorem places30 : placesT Tryz.prog 30 = some pl30 := by kernel_rfl
def pl32 : Nat → Option (Nat × Nat) := fun i => ([(0, 3), (3, 3)] : List (Nat × Nat))[i]?
theorem places32 : placesT Tryz.prog 32 = some pl32 := by kernel_rfl
def pl37 : Nat → Option (Nat × Nat) := fun i => ([(0, 3), (3, 3)] : List (Nat × Nat))[i]?
theorem places37 : placesT Tryz.prog 37 = some pl37 := by kernel_rfl
def pl58 : Nat → Option (Nat × Nat) := fun i => ([(0, 1), (1, 1)] : List (Nat × Nat))[i]?
theorem places58 : placesT Tryz.prog 58 = some pl58 := by kernel_rfl
def pl80 : Nat → Option (Nat × Nat) := fun i => some (i * 1, 1)
theorem places80 : placesT Tryz.prog 80 = some pl80 := by kernel_rfl
def pl81 : Nat → Option (Nat × Nat) := fun i => some (i * 2, 2)
theorem places81 : placesT Tryz.prog 81 = some pl81 := by kernel_rfl
def pl83 : Nat → Option (Nat × Nat) := fun i => ([(0, 4), (4, 2), (6, 1), (7, 1), (8, 1), (9, 1), (10, 1)] : List (Nat × Nat))[i]?
theorem places83 : placesT Tryz.prog 83 = some pl83 := by kernel_rfl
def pl87 : Nat → Option (Nat × Nat) := fun i => ([] : List (Nat × Nat))[i]?
theorem places87 : placesT Tryz.prog 87 = some pl87 := by kernel_rfl
theorem size100 : sizeT Tryz.prog 100 = some 1 := by kernel_rfl
theorem size22 : sizeT Tryz.prog 22 = some 1 := by kernel_rfl
theorem size24 : sizeT Tryz.prog 24 = some 2 := by kernel_rfl
theorem size28 : sizeT Tryz.prog 28 = some 2 := by kernel_rfl
theorem size30 : sizeT Tryz.prog 30 = some 3 := by kernel_rfl
theorem size32 : sizeT Tryz.prog 32 = some 6 := by kernel_rfl
theorem size37 : sizeT Tryz.prog 37 = some 6 := by kernel_rfl
theorem size4 : sizeT Tryz.prog 4 = some 1 := by kernel_rfl
theorem size55 : sizeT Tryz.prog 55 = some 1 := by kernel_rfl
theorem size58 : sizeT Tryz.prog 58 = some 2 := by kernel_rfl
theorem size64 : sizeT Tryz.prog 64 = some 1 := by kernel_rfl
theorem zero100 : (Tryz.prog.info? 100).map (·.zero) = some (some (.int .u32 0)) := by kernel_rfl
theorem zero22 : (Tryz.prog.info? 22).map (·.zero) = some (some (.float .f64 0)) := by kernel_rfl
theorem zero24 : (Tryz.prog.info? 24).map (·.zero) = some (some (.agg #[.float .f64 0, .float .f64 0])) := by kernel_rfl
theorem zero28 : (Tryz.prog.info? 28).map (·.zero) = some (some (.agg #[.bool false, .slice none 0 0])) := by kernel_rfl
theorem zero30 : (Tryz.prog.info? 30).map (·.zero) = some (some (.agg #[.bool false, .slice none 0 0, .int .i64 0])) := by kernel_rfl
theorem zero32 : (Tryz.prog.info? 32).map (·.zero) = some (some (.agg #[.bool false, .slice none 0 0, .int .i64 0, .bool false, .slice none 0 0, .int .i64 0])) := by kernel_rfl
theorem zero37 : (Tryz.prog.info? 37).map (·.zero) = some (some (.agg #[.bool false, .slice none 0 0, .int .i64 0, .bool false, .slice none 0 0, .int .i64 0])) := by kernel_rfl
theorem zero58 : (Tryz.prog.info? 58).map (·.zero) = some (some (.agg #[.int .i64 0, .slice none 0 0])) := by kernel_rfl
theorem zero80 : (Tryz.prog.info? 80).map (·.zero) = some (some (.agg #[.slice none 0 0, .slice none 0 0])) := by kernel_rfl
theorem zero81 : (Tryz.prog.info? 81).map (·.zero) = some (some (.agg #[.slice none 0 0, .slice none 0 0, .slice none 0 0, .slice none 0 0])) := by kernel_rfl
theorem zero83 : (Tryz.prog.info? 83).map (·.zero) = some (some (.agg #[.slice none 0 0, .slice none 0 0, .slice none 0 0, .slice none 0 0, .slice none 0 0, .slice none 0 0, .int .i64 0, .bool false, .slice none 0 0, .slice none 0 0, .nilIface])) := by kernel_rfl
theorem zero87 : (Tryz.prog.info? 87).map (·.zero) = some (some (.agg #[])) := by kernel_rfl
open Flt (truncD okF inR K20)
def notNan (x : Nat) : Prop := (FloatKind.f64.decode x).isNaN = false
def truncS (x : Nat) (d : Ieee.Datum) : Sem Value :=
 match d with
 | .nan s t =>
  if FloatKind.f64.format.quiet t = t then pure (.float .f64 x) else do
   let kept ← choose (.extern "math.Floor,Ceil,Trunc,RoundToEven.signallingNaN kept" 2)
   pure (.float .f64 (if kept == 1 then x else FloatKind.f64.encode (.nan s (FloatKind.f64.format.quiet t))))
 | d => pure (.float .f64 (FloatKind.f64.encode (d.integral .zero)))
theorem run_trunc (P : Program) (x : Nat) (h : notNan x) (w : World) : (Extern.MathFloor.toIntegral "math.archTrunc" .zero #[.float .f64 x]).run P w = .ok (.float .f64 (truncD x)) w := by
 unfold notNan at h
 have e : Extern.MathFloor.toIntegral "math.archTrunc" .zero #[.float .f64 x] = truncS x (FloatKind.f64.decode x) := rfl
 have e2 : ∀ d : Ieee.Datum, d.isNaN = false → truncS x d = pure (.float .f64 (FloatKind.f64.encode (d.integral .zero))) := by
  intro d hd
  cases d with
  | nan s t => cases hd
  | number s m e => rfl
  | infinity s => rfl
 rw [e, e2 _ h]
 rfl

theorem callTrunc (x : Nat) (h : notNan x) (w : World) : (callFunc 48 #[.float .f64 x]).run Tryz.prog w = .ok (.value (.float .f64 (truncD x))) w := by
 rw [run_callFunc_extern Tryz.func48 (by kernel_rfl) (by kernel_rfl) (by kernel_rfl) (e := Extern.MathFloor.toIntegral "math.archTrunc" .zero) (by kernel_rfl), run_trunc Tryz.prog x h]
 rfl

set_option maxRecDepth 100000 in
/-- math.Trunc -/
theorem trunc (x : Nat) (h : notNan x) : FnD Tryz.prog 29 [dfl x] (fun r => r = dfl (truncD x)) := by
 refine FnD.of (by kernel_rfl) Tryz.func29 rfl Tryz.ntmps29 rfl (leb rfl) fun W ok => ?_
 refine AC.seq ?_
 refine AC.region ?_
 refine AO.op rfl (AOp.assign rfl rfl (ltb rfl) rfl ?_)
 refine AO.nil ?_
 change AC _ _ _ _
 refine AC.seq ?_
 refine AC.condT rfl rfl ?_
 refine AC.seq ?_
 refine AC.region ?_
 refine AO.op rfl (AOp.move rfl rfl (ltb rfl) rfl ?_)
 refine AO.op rfl (AOp.callX [.float .f64 x] rfl rfl (ltb rfl) rfl (callTrunc x h) ?_)
 refine AO.op rfl (AOp.assign rfl rfl (ltb rfl) rfl ?_)
 refine AO.nil ?_
 change AC _ _ _ _
 refine AC.ret ?_
 change RetQ _ _ _ .ret _
 refine retq rfl ?_
 exact rfl

theorem callTruncA (x : Nat) (h : Flt.isNan x = true) (w : World) : ∃ r w', (callFunc 48 #[.float .f64 x]).run Tryz.prog w = .ok (.value r) w' ∧ (w' = w ∨ w' = w.drew) ∧ ∃ z, r = .float .f64 z ∧ Flt.isNan z = true := by
 obtain ⟨r, w', h1, h2, h3⟩ := Flt.run_truncA Tryz.prog x h w
 refine ⟨r, w', ?_, h2, h3⟩
 rw [run_callFunc_extern Tryz.func48 (by kernel_rfl) (by kernel_rfl) (by kernel_rfl) (e := Extern.MathFloor.toIntegral "math.archTrunc" .zero) (by kernel_rfl), h1]
 rfl
set_option maxRecDepth 100000 in
theorem truncNN (x : Nat) (h : Flt.isNan x = true) : FnD Tryz.prog 29 [dfl x] (fun r => ∃ z, r = dfl z ∧ Flt.isNan z = true) := by
 refine FnD.of (by kernel_rfl) Tryz.func29 rfl Tryz.ntmps29 rfl (leb rfl) fun W ok => ?_
 refine AC.seq ?_
 refine AC.region ?_
 refine AO.op rfl (AOp.assign rfl rfl (ltb rfl) rfl ?_)
 refine AO.nil ?_
 change AC _ _ _ _
 refine AC.seq ?_
 refine AC.condT rfl rfl ?_
 refine AC.seq ?_
 refine AC.region ?_
 refine AO.op rfl (AOp.move rfl rfl (ltb rfl) rfl ?_)
 refine AO.op rfl (AOp.callXA [.float .f64 x] rfl rfl (ltb rfl) rfl (callTruncA x h) ?_)
 rintro _ ⟨z, rfl, hz⟩
 refine AO.op rfl (AOp.assign rfl rfl (ltb rfl) rfl ?_)
 refine AO.nil ?_
 change AC _ _ _ _
 refine AC.ret ?_
 change RetQ _ _ _ .ret _
 refine retq rfl ?_
 exact ⟨z, rfl, hz⟩

theorem truncA (x : Nat) : FnD Tryz.prog 29 [dfl x] (fun r => ∃ z, r = dfl z ∧ Flt.TruncR x z) := by
 cases h : Flt.isNan x with
 | false => exact (trunc x h).mono fun r hr => ⟨_, hr, fun _ => rfl, fun h2 => by rw [h] at h2; cases h2⟩
 | true => exact (truncNN x h).mono fun r ⟨z, h1, h2⟩ => ⟨z, h1, fun h3 => by (rw [h] at h3; cases h3), fun _ => h2⟩

theorem callBitsA (x : Nat) (w : World) : (callFunc 51 #[.float .f64 x]).run Tryz.prog w = .ok (.value (.int .u64 x)) w := by
 rw [run_callFunc_extern Tryz.func51 (by kernel_rfl) (by kernel_rfl) (by kernel_rfl) (e := Extern.MathFloatBits.float64bits) (by kernel_rfl), run_f64bits Tryz.prog x]
 rfl
theorem callFromBitsA (x : Nat) (w : World) : (callFunc 50 #[.int .u64 x]).run Tryz.prog w = .ok (.value (.float .f64 x)) w := by
 rw [run_callFunc_extern Tryz.func50 (by kernel_rfl) (by kernel_rfl) (by kernel_rfl) (e := Extern.MathFloatBits.float64frombits) (by kernel_rfl), run_f64frombits Tryz.prog x]
 rfl

set_option maxRecDepth 100000 in
/-- math.Abs -/
theorem mathAbs (x : Nat) : FnD Tryz.prog 30 [dfl x] (fun r => r = dfl (Flt.fabs x)) := by
 refine FnD.of (by kernel_rfl) Tryz.func30 rfl Tryz.ntmps30 rfl (leb rfl) fun W ok => ?_
 refine AC.seq ?_
 refine AC.region ?_
 refine AO.op rfl (AOp.assign rfl rfl (ltb rfl) rfl ?_)
 refine AO.nil ?_
 change AC _ _ _ _
 refine AC.seq ?_
 refine AC.region ?_
 refine AO.op rfl (AOp.move rfl rfl (ltb rfl) rfl ?_)
 refine AO.op rfl (AOp.callX [.float .f64 x] rfl rfl (ltb rfl) rfl (callBitsA x) ?_)
 refine AO.op rfl (AOp.ibits (by simp) rfl rfl (ltb rfl) rfl rfl (andNot_abs x) ?_)
 refine AO.op rfl (AOp.callX [.int .u64 ((Flt.fabs x : Nat) : Int)] rfl rfl (ltb rfl) rfl (callFromBitsA _) ?_)
 refine AO.op rfl (AOp.assign rfl rfl (ltb rfl) rfl ?_)
 refine AO.nil ?_
 change AC _ _ _ _
 refine AC.ret ?_
 change RetQ _ _ _ .ret _
 refine retq rfl ?_
 exact rfl

set_option maxRecDepth 100000 in
set_option maxHeartbeats 4000000 in
/-- pub-orthodrome/laws.wholeTo -/
theorem w_wholeTo (F : Nat) (a0 : Nat) (a1 : (List Nat)) (r0 : Bool) (h0 : p_wholeTo F a0 a1 = some r0) : FnD Tryz.prog 11 [dfl a0, eS1 a1] (fun r => r = dbool r0) := by
 refine FnD.of (by kernel_rfl) Tryz.func11 rfl Tryz.ntmps11 rfl (leb rfl) fun W ok => ?_
 unfold p_wholeTo at h0
 refine AC.seq ?_
 refine AC.region ?_
 refine AO.op rfl (AOp.assign rfl rfl (ltb rfl) rfl ?_)
 refine AO.nil ?_
 change AC _ _ _ _
 refine AC.seq ?_
 refine AC.seq ?_
 refine AC.region ?_
 refine AO.op rfl (AOp.move rfl rfl (ltb rfl) rfl ?_)
 refine AO.op rfl (AOp.lenDs (n := a1.length) (cells := (List.map keS1 a1)) rfl rfl (ltb rfl) rfl el63 (by decide) (len1 _ _) ?_)
 refine AO.op rfl (AOp.move rfl rfl (ltb rfl) rfl ?_)
 refine AO.nil ?_
 change AC _ _ _ _
 obtain ⟨o1, l2, h0⟩ := bind_elim h0
 refine AC.joinE (V := Unit) [] [] 0 (fun g3 => []) (fun g3 => []) (fun g3 => p_wholeTo_k1 g3 = some r0) rfl ?_ ?_
 ·refine AC.block ?_
  refine AC.loopP (V := Int) (p_wholeTo_l2 a0 a1) o1 [0, 7, 8] [9] 0 (fun g4 => [(9, .d (di .i64 g4))]) (fun g4 => []) F (0 : Int) l2 rfl rfl (LeL.refl _) rfl rfl ?_
  intro n6 g4 h1
  unfold p_wholeTo_l2 at h1
  refine AC.seq ?_
  refine AC.region ?_
  refine AO.op rfl (AOp.ilss rfl rfl (ltb rfl) rfl rfl ?_)
  refine AO.nil ?_
  change AC _ _ _ _
  refine AC.seq ?_
  refine AC.cond rfl (fun q7 => ?_) (fun q7 => ?_)
  ·replace h1 := cT h1 q7
   refine AC.skip ?_
   change AC _ _ _ _
   refine AC.seq ?_
   refine AC.block ?_
   refine AC.seq ?_
   refine AC.region ?_
   obtain ⟨x8, q9, h1⟩ := idx_elim h1
   refine AO.op rfl (AOp.indexDs (cells := (List.map keS1 a1)) rfl rfl (ltb rfl) rfl rfl el63 (by decide) q9.1 (lt1 q9.2) ?_)
   refine AO.op rfl (AOp.loadEp rfl rfl (ltb rfl) rfl agg22 (at1 q9.2) ?_)
   refine AO.op rfl (AOp.assign rfl rfl (ltb rfl) rfl ?_)
   refine AO.nil ?_
   change AC _ _ _ _
   refine AC.seq ?_
   refine AC.region ?_
   refine AO.op rfl (AOp.move rfl rfl (ltb rfl) rfl ?_)
   refine AO.op rfl (AOp.move rfl rfl (ltb rfl) rfl ?_)
   refine AO.op rfl (AOp.callD rfl rfl (ltb rfl) rfl rfl (truncA x8) ?_)
   rintro _ ⟨z10, rfl, hz11⟩
   refine AO.op rfl (AOp.fneq rfl rfl (ltb rfl) rfl rfl ?_)
   rw [hz11.feq]
   refine AO.op rfl (AOp.move rfl rfl (ltb rfl) rfl ?_)
   refine AO.dec (!feq x8 (Flt.truncN x8)) (fun q12 => ?_) (fun q12 => ?_)
   ·replace h1 := cT h1 q12
    refine AO.guardN rfl rfl rfl (ltb rfl) rfl q12 ?_
    refine AO.guardN rfl rfl rfl (ltb rfl) rfl q12 ?_
    refine AO.guardN rfl rfl rfl (ltb rfl) rfl q12 ?_
    refine AO.guardN rfl rfl rfl (ltb rfl) rfl q12 ?_
    refine AO.op rfl (AOp.pick rfl rfl (ltb rfl) rfl q12 rfl ?_)
    refine AO.nil ?_
    change AC _ _ _ _
    refine AC.condT rfl rfl ?_
    refine AC.seq ?_
    refine AC.region ?_
    refine AO.op rfl (AOp.assign rfl rfl (ltb rfl) rfl ?_)
    refine AO.nil ?_
    change AC _ _ _ _
    refine AC.ret ?_
    change RetQ _ _ _ .ret _
    obtain rfl := Option.some.inj h1
    replace h0 := aftR h0
    obtain rfl := Option.some.inj h0
    refine retq rfl rfl
   replace h1 := cF h1 q12
   refine AO.guardY rfl rfl rfl q12 (AOp.move rfl rfl (ltb rfl) rfl ?_)
   refine AO.guardY rfl rfl rfl q12 (AOp.callD rfl rfl (ltb rfl) rfl rfl (mathAbs x8) ?_)
   rintro _ rfl
   refine AO.guardY rfl rfl rfl q12 (AOp.move rfl rfl (ltb rfl) rfl ?_)
   refine AO.guardY rfl rfl rfl q12 (AOp.fgtr rfl rfl (ltb rfl) rfl rfl ?_)
   refine AO.op rfl (AOp.pickN rfl rfl (ltb rfl) rfl q12 rfl ?_)
   refine AO.nil ?_
   change AC _ _ _ _
   refine AC.cond rfl (fun q13 => ?_) (fun q13 => ?_)
   ·replace h1 := cT h1 q13
    refine AC.seq ?_
    refine AC.region ?_
    refine AO.op rfl (AOp.assign rfl rfl (ltb rfl) rfl ?_)
    refine AO.nil ?_
    change AC _ _ _ _
    refine AC.ret ?_
    change RetQ _ _ _ .ret _
    obtain rfl := Option.some.inj h1
    replace h0 := aftR h0
    obtain rfl := Option.some.inj h0
    refine retq rfl rfl
   replace h1 := cF h1 q13
   refine AC.skip ?_
   change AC _ _ _ _
   refine AC.region ?_
   obtain ⟨q14, h1⟩ := need_elim h1
   refine AO.op rfl (AOp.iadd rfl rfl (ltb rfl) rfl rfl rfl q14.1 q14.2 ?_)
   refine AO.op rfl (AOp.move rfl rfl (ltb rfl) rfl ?_)
   refine AO.nil ?_
   exact ⟨(g4 + (1 : Int)), _, rfl, (LeL.refl _), rfl, rfl, h1⟩
  replace h1 := cF h1 q7
  refine AC.exit ?_
  obtain rfl := Option.some.inj h1
  exact ⟨(), _, rfl, (LeL.refl _), rfl, rfl, aftL h0⟩
 intro g3 h0
 unfold p_wholeTo_k1 at h0
 change AC _ _ _ _
 refine AC.seq ?_
 refine AC.region ?_
 refine AO.op rfl (AOp.assign rfl rfl (ltb rfl) rfl ?_)
 refine AO.nil ?_
 change AC _ _ _ _
 refine AC.ret ?_
 change RetQ _ _ _ .ret _
 obtain rfl := Option.some.inj h0
 refine retq rfl rfl

set_option maxRecDepth 100000 in
set_option maxHeartbeats 4000000 in
/-- pub-orthodrome/laws.planeTo -/
theorem w_planeTo (F : Nat) (a0 : Nat) (a1 : (List TImpl_P2)) (r0 : Bool) (h0 : p_planeTo F a0 a1 = some r0) : FnD Tryz.prog 4 [dfl a0, eS0 a1] (fun r => r = dbool r0) := by
 refine FnD.of (by kernel_rfl) Tryz.func4 rfl Tryz.ntmps4 rfl (leb rfl) fun W ok => ?_
 unfold p_planeTo at h0
 refine AC.seq ?_
 refine AC.region ?_
 refine AO.op rfl (AOp.assign rfl rfl (ltb rfl) rfl ?_)
 refine AO.nil ?_
 change AC _ _ _ _
 refine AC.seq ?_
 refine AC.seq ?_
 refine AC.region ?_
 refine AO.op rfl (AOp.move rfl rfl (ltb rfl) rfl ?_)
 refine AO.op rfl (AOp.lenDs (n := a1.length) (cells := (List.flatMap c_TImpl_P2 a1)) rfl rfl (ltb rfl) rfl el40 (by decide) (lenN _ 2 (fun _ => rfl) _) ?_)
 refine AO.op rfl (AOp.move rfl rfl (ltb rfl) rfl ?_)
 refine AO.nil ?_
 change AC _ _ _ _
 obtain ⟨o1, l2, h0⟩ := bind_elim h0
 refine AC.joinE (V := Unit) [] [] 0 (fun g3 => []) (fun g3 => []) (fun g3 => p_planeTo_k1 g3 = some r0) rfl ?_ ?_
 ·refine AC.block ?_
  refine AC.loopP (V := Int) (p_planeTo_l2 a0 a1 F) o1 [0, 7, 8] [9] 0 (fun g4 => [(9, .d (di .i64 g4))]) (fun g4 => []) F (0 : Int) l2 rfl rfl (LeL.refl _) rfl rfl ?_
  intro n6 g4 h1
  unfold p_planeTo_l2 at h1
  refine AC.seq ?_
  refine AC.region ?_
  refine AO.op rfl (AOp.ilss rfl rfl (ltb rfl) rfl rfl ?_)
  refine AO.nil ?_
  change AC _ _ _ _
  refine AC.seq ?_
  refine AC.cond rfl (fun q7 => ?_) (fun q7 => ?_)
  ·replace h1 := cT h1 q7
   refine AC.skip ?_
   change AC _ _ _ _
   refine AC.seq ?_
   refine AC.block ?_
   refine AC.seq ?_
   refine AC.region ?_
   obtain ⟨x8, q9, h1⟩ := idx_elim h1
   refine AO.op rfl (AOp.indexDs (cells := (List.flatMap c_TImpl_P2 a1)) rfl rfl (ltb rfl) rfl rfl el40 (by decide) q9.1 (ltN 2 (fun _ => rfl) (by decide) q9.2) ?_)
   refine AO.op rfl (AOp.loadEpN rfl rfl (ltb rfl) rfl agg24 size24 (leN 2 (fun _ => rfl) q9.2) (atN 2 (fun _ => rfl) q9.2) ?_)
   refine AO.op rfl (AOp.alloc rfl rfl (ltb rfl) zero24 rfl ?_)
   refine AO.op rfl (AOp.store rfl rfl rfl rfl size24 rfl rfl rfl (leb rfl) ?_)
   refine AO.nil ?_
   change AC _ _ _ _
   refine AC.seq ?_
   refine AC.region ?_
   refine AO.op rfl (AOp.move rfl rfl (ltb rfl) rfl ?_)
   refine AO.op rfl (AOp.fieldAddr rfl rfl (ltb rfl) rfl fo24_0 ?_)
   refine AO.op rfl (AOp.load1 rfl rfl (ltb rfl) rfl agg22 rfl rfl ?_)
   refine AO.op rfl (AOp.fieldAddr rfl rfl (ltb rfl) rfl fo24_1 ?_)
   refine AO.op rfl (AOp.load1 rfl rfl (ltb rfl) rfl agg22 rfl rfl ?_)
   refine AO.op rfl (AOp.buildSliceD rfl rfl (ltb rfl) el63 zero22 rfl (leb rfl) rfl rfl rfl rfl ?_)
   obtain ⟨y10, q11, h1⟩ := bind_elim h1
   refine AO.op rfl (AOp.callD rfl rfl (ltb rfl) rfl rfl (w_wholeTo F a0 [x8.X, x8.Y] y10 q11) ?_)
   rintro _ rfl
   refine AO.op rfl (AOp.bnot rfl rfl (ltb rfl) rfl ?_)
   refine AO.nil ?_
   change AC _ _ _ _
   refine AC.cond rfl (fun q12 => ?_) (fun q12 => ?_)
   ·replace h1 := cT h1 q12
    refine AC.seq ?_
    refine AC.region ?_
    refine AO.op rfl (AOp.assign rfl rfl (ltb rfl) rfl ?_)
    refine AO.nil ?_
    change AC _ _ _ _
    refine AC.ret ?_
    change RetQ _ _ _ .ret _
    obtain rfl := Option.some.inj h1
    replace h0 := aftR h0
    obtain rfl := Option.some.inj h0
    refine retq rfl rfl
   replace h1 := cF h1 q12
   refine AC.skip ?_
   change AC _ _ _ _
   refine AC.region ?_
   obtain ⟨q13, h1⟩ := need_elim h1
   refine AO.op rfl (AOp.iadd rfl rfl (ltb rfl) rfl rfl rfl q13.1 q13.2 ?_)
   refine AO.op rfl (AOp.move rfl rfl (ltb rfl) rfl ?_)
   refine AO.nil ?_
   exact ⟨(g4 + (1 : Int)), _, rfl, (LeL.refl _), rfl, rfl, h1⟩
  replace h1 := cF h1 q7
  refine AC.exit ?_
  obtain rfl := Option.some.inj h1
  exact ⟨(), _, rfl, (LeL.refl _), rfl, rfl, aftL h0⟩
 intro g3 h0
 unfold p_planeTo_k1 at h0
 change AC _ _ _ _
 refine AC.seq ?_
 refine AC.region ?_
 refine AO.op rfl (AOp.assign rfl rfl (ltb rfl) rfl ?_)
 refine AO.nil ?_
 change AC _ _ _ _
 refine AC.ret ?_
 change RetQ _ _ _ .ret _
 obtain rfl := Option.some.inj h0
 refine retq rfl rfl

theorem callBits (x : Nat) (w : World) : (callFunc 51 #[.float .f64 x]).run Tryz.prog w = .ok (.value (.int .u64 x)) w := by
 rw [run_callFunc_extern Tryz.func51 (by kernel_rfl) (by kernel_rfl) (by kernel_rfl) (e := Extern.MathFloatBits.float64bits) (by kernel_rfl), run_f64bits Tryz.prog x]
 rfl

set_option maxRecDepth 100000 in
set_option maxHeartbeats 4000000 in
/-- pub-orthodrome/spec.trim -/
theorem w_trim (F : Nat) (a0 : (List Int)) (r0 : (List Int)) (h0 : p_trim F a0 = some r0) : FnD Tryz.prog 54 [eS2 a0] (fun r => r = eS2 r0) := by
 refine FnD.of (by kernel_rfl) Tryz.func54 rfl Tryz.ntmps54 rfl (leb rfl) fun W ok => ?_
 unfold p_trim at h0
 refine AC.seq ?_
 refine AC.region ?_
 refine AO.op rfl (AOp.assign rfl rfl (ltb rfl) rfl ?_)
 refine AO.nil ?_
 change AC _ _ _ _
 obtain ⟨o1, l2, h0⟩ := bind_elim h0
 refine AC.joinP (V := (List Int)) [] [0] 0 (fun g3 => [(0, .d (eS2 g3))]) (fun g3 => []) (fun g3 => p_trim_k1 g3 = some r0) rfl ?_ ?_
 ·refine AC.block ?_
  refine AC.loopP (V := (List Int)) p_trim_l2 o1 [] [0] 0 (fun g4 => [(0, .d (eS2 g4))]) (fun g4 => []) F a0 l2 rfl rfl (LeL.refl _) rfl rfl ?_
  intro n6 g4 h1
  unfold p_trim_l2 at h1
  refine AC.seq ?_
  refine AC.seq ?_
  refine AC.region ?_
  refine AO.op rfl (AOp.move rfl rfl (ltb rfl) rfl ?_)
  refine AO.op rfl (AOp.lenDs (n := g4.length) (cells := (List.map keS2 g4)) rfl rfl (ltb rfl) rfl el26 (by decide) (len1 _ _) ?_)
  refine AO.op rfl (AOp.igtr rfl rfl (ltb rfl) rfl rfl ?_)
  refine AO.op rfl (AOp.move rfl rfl (ltb rfl) rfl ?_)
  refine AO.dec (decide ((0 : Int) < ((g4.length : Nat) : Int))) (fun q7 => ?_) (fun q7 => ?_)
  ·replace h1 := cT h1 q7
   refine AO.guardY rfl rfl rfl q7 (AOp.move rfl rfl (ltb rfl) rfl ?_)
   refine AO.guardY rfl rfl rfl q7 (AOp.move rfl rfl (ltb rfl) rfl ?_)
   refine AO.guardY rfl rfl rfl q7 (AOp.lenDs (n := g4.length) (cells := (List.map keS2 g4)) rfl rfl (ltb rfl) rfl el26 (by decide) (len1 _ _) ?_)
   obtain ⟨q8, h1⟩ := need_elim h1
   refine AO.guardY rfl rfl rfl q7 (AOp.isub rfl rfl (ltb rfl) rfl rfl rfl q8.1 q8.2 ?_)
   obtain ⟨x9, q10, h1⟩ := idx_elim h1
   refine AO.guardY rfl rfl rfl q7 (AOp.indexDs (cells := (List.map keS2 g4)) rfl rfl (ltb rfl) rfl rfl el26 (by decide) q10.1 (lt1 q10.2) ?_)
   refine AO.guardY rfl rfl rfl q7 (AOp.loadEp rfl rfl (ltb rfl) rfl agg100 (at1 q10.2) ?_)
   refine AO.guardY rfl rfl rfl q7 (AOp.ieql rfl rfl (ltb rfl) rfl rfl ?_)
   refine AO.op rfl (AOp.pick rfl rfl (ltb rfl) rfl q7 rfl ?_)
   refine AO.nil ?_
   change AC _ _ _ _
   refine AC.cond rfl (fun q11 => ?_) (fun q11 => ?_)
   ·replace h1 := cT h1 q11
    refine AC.skip ?_
    change AC _ _ _ _
    refine AC.block ?_
    refine AC.region ?_
    refine AO.op rfl (AOp.move rfl rfl (ltb rfl) rfl ?_)
    refine AO.op rfl (AOp.move rfl rfl (ltb rfl) rfl ?_)
    refine AO.op rfl (AOp.lenDs (n := g4.length) (cells := (List.map keS2 g4)) rfl rfl (ltb rfl) rfl el26 (by decide) (len1 _ _) ?_)
    obtain ⟨q12, h1⟩ := need_elim h1
    refine AO.op rfl (AOp.isub rfl rfl (ltb rfl) rfl rfl rfl q12.1 q12.2 ?_)
    obtain ⟨q13, h1⟩ := need_elim h1
    refine AO.op rfl (AOp.sliceD (cells := (List.map keS2 g4)) (n := g4.length) (l := 0) (hh := ((((g4.length : Nat) : Int) - (1 : Int))).toNat) rfl rfl (ltb rfl) rfl (.inl ⟨rfl, rfl⟩) (.inr ⟨_, _, _, rfl, rfl, q13.1.2, rfl⟩) el26 (by decide) (len1 _ _) q13.2.1 q13.2.2 (sub1 _ _ _ _) ?_)
    refine AO.op rfl (AOp.assign rfl rfl (ltb rfl) rfl ?_)
    refine AO.nil ?_
    exact ⟨((g4.drop 0).take (((((g4.length : Nat) : Int) - (1 : Int))).toNat - 0)), _, rfl, (LeL.refl _), rfl, rfl, h1⟩
   replace h1 := cF h1 q11
   refine AC.exit ?_
   obtain rfl := Option.some.inj h1
   exact ⟨g4, _, rfl, (LeL.refl _), rfl, rfl, aftL h0⟩
  replace h1 := cF h1 q7
  refine AO.guardN rfl rfl rfl (ltb rfl) rfl q7 ?_
  refine AO.guardN rfl rfl rfl (ltb rfl) rfl q7 ?_
  refine AO.guardN rfl rfl rfl (ltb rfl) rfl q7 ?_
  refine AO.guardN rfl rfl rfl (ltb rfl) rfl q7 ?_
  refine AO.guardN rfl rfl rfl (ltb rfl) rfl q7 ?_
  refine AO.guardN rfl rfl rfl (ltb rfl) rfl q7 ?_
  refine AO.guardN rfl rfl rfl (ltb rfl) rfl q7 ?_
  refine AO.op rfl (AOp.pickN rfl rfl (ltb rfl) rfl q7 rfl ?_)
  refine AO.nil ?_
  change AC _ _ _ _
  refine AC.condF rfl rfl ?_
  refine AC.exit ?_
  obtain rfl := Option.some.inj h1
  exact ⟨g4, _, rfl, (LeL.refl _), rfl, rfl, aftL h0⟩
 intro g3 h0
 unfold p_trim_k1 at h0
 refine AC.seq ?_
 refine AC.region ?_
 refine AO.op rfl (AOp.move rfl rfl (ltb rfl) rfl ?_)
 refine AO.op rfl (AOp.assign rfl rfl (ltb rfl) rfl ?_)
 refine AO.nil ?_
 change AC _ _ _ _
 refine AC.ret ?_
 change RetQ _ _ _ .ret _
 obtain rfl := Option.some.inj h0
 refine retq rfl rfl

set_option maxRecDepth 100000 in
set_option maxHeartbeats 4000000 in
/-- pub-orthodrome/spec.WholeOf -/
theorem w_WholeOf (F : Nat) (a0 : Int) (r0 : TSpec_Whole) (h0 : p_WholeOf F a0 = some r0) : FnD Tryz.prog 52 [di .i64 a0] (fun r => r = e_TSpec_Whole r0) := by
 refine FnD.of (by kernel_rfl) Tryz.func52 rfl Tryz.ntmps52 rfl (leb rfl) fun W ok => ?_
 unfold p_WholeOf at h0
 refine AC.seq ?_
 refine AC.region ?_
 refine AO.op rfl (AOp.alloc rfl rfl (ltb rfl) zero28 rfl ?_)
 refine AO.nil ?_
 change AC _ _ _ _
 refine AC.seq ?_
 refine AC.region ?_
 refine AO.op rfl (AOp.move rfl rfl (ltb rfl) rfl ?_)
 refine AO.op rfl (AOp.i2i rfl rfl (ltb rfl) rfl Tryz.underlying2 Tryz.underlying95 rfl ?_)
 refine AO.op rfl (AOp.assign rfl rfl (ltb rfl) rfl ?_)
 refine AO.nil ?_
 change AC _ _ _ _
 refine AC.joinP (V := Int) [0, 2] [3] 1 (fun g1 => [(3, .d (di .u64 g1))]) (fun g1 => [.fix 28 [.d (dbool false), .d (.v (.slice none 0 0))]]) (fun g1 => (p_WholeOf_k1 a0 F) g1 = some r0) rfl ?_ ?_
 ·refine AC.seq ?_
  refine AC.region ?_
  refine AO.op rfl (AOp.move rfl rfl (ltb rfl) rfl ?_)
  refine AO.op rfl (AOp.ilss rfl rfl (ltb rfl) rfl rfl ?_)
  refine AO.nil ?_
  change AC _ _ _ _
  refine AC.cond rfl (fun q5 => ?_) (fun q5 => ?_)
  ·replace h0 := cT h0 q5
   refine AC.region ?_
   refine AO.op rfl (AOp.move rfl rfl (ltb rfl) rfl ?_)
   refine AO.op rfl (AOp.inegW rfl rfl (ltb rfl) rfl ?_)
   refine AO.op rfl (AOp.assign rfl rfl (ltb rfl) rfl ?_)
   refine AO.nil ?_
   exact ⟨(IntKind.u64.wrap (-(IntKind.u64.wrap a0))), _, rfl, (LeL.refl _), rfl, rfl, h0⟩
  replace h0 := cF h0 q5
  refine AC.skip ?_
  exact ⟨(IntKind.u64.wrap a0), _, rfl, (LeL.refl _), rfl, rfl, h0⟩
 intro g1 h0
 unfold p_WholeOf_k1 at h0
 refine AC.seq ?_
 refine AC.region ?_
 refine AO.op rfl (AOp.move rfl rfl (ltb rfl) rfl ?_)
 refine AO.op rfl (AOp.ilss rfl rfl (ltb rfl) rfl rfl ?_)
 refine AO.op rfl (AOp.move rfl rfl (ltb rfl) rfl ?_)
 refine AO.op rfl (AOp.i2i rfl rfl (ltb rfl) rfl Tryz.underlying95 Tryz.underlying100 rfl ?_)
 refine AO.op rfl (AOp.move rfl rfl (ltb rfl) rfl ?_)
 obtain ⟨q2, h0⟩ := need_elim h0
 refine AO.op rfl (AOp.ishr (n := 32) rfl rfl (ltb rfl) rfl rfl (by decide) q2 rfl ?_)
 refine AO.op rfl (AOp.i2i rfl rfl (ltb rfl) rfl Tryz.underlying95 Tryz.underlying100 rfl ?_)
 refine AO.op rfl (AOp.buildSliceD rfl rfl (ltb rfl) el26 zero100 rfl (leb rfl) rfl rfl rfl rfl ?_)
 obtain ⟨y3, q4, h0⟩ := bind_elim h0
 refine AO.op rfl (AOp.callD rfl rfl (ltb rfl) rfl rfl (w_trim F [(IntKind.u32.wrap g1), (IntKind.u32.wrap (g1 / 2 ^ 32))] y3 q4) ?_)
 rintro _ rfl
 refine AO.op rfl (AOp.build rfl rfl (ltb rfl) zero28 rfl places28 rfl rfl ?_)
 refine AO.op rfl (AOp.store rfl rfl rfl rfl size28 rfl rfl rfl (leb rfl) ?_)
 refine AO.nil ?_
 change AC _ _ _ _
 refine AC.ret ?_
 change RetQ _ _ _ .ret _
 obtain rfl := Option.some.inj h0
 refine retq rfl rfl

set_option maxRecDepth 100000 in
set_option maxHeartbeats 4000000 in
/-- pub-orthodrome/spec.DyadicOf -/
theorem w_DyadicOf (F : Nat) (a0 : Nat) (r0 : TSpec_Dyadic) (h0 : p_DyadicOf F a0 = some r0) : FnD Tryz.prog 35 [dfl a0] (fun r => r = e_TSpec_Dyadic r0) := by
 refine FnD.of (by kernel_rfl) Tryz.func35 rfl Tryz.ntmps35 rfl (leb rfl) fun W ok => ?_
 unfold p_DyadicOf at h0
 refine AC.seq ?_
 refine AC.region ?_
 refine AO.op rfl (AOp.alloc rfl rfl (ltb rfl) zero30 rfl ?_)
 refine AO.nil ?_
 change AC _ _ _ _
 refine AC.seq ?_
 refine AC.region ?_
 refine AO.op rfl (AOp.move rfl rfl (ltb rfl) rfl ?_)
 refine AO.op rfl (AOp.callX [.float .f64 a0] rfl rfl (ltb rfl) rfl (callBits a0) ?_)
 refine AO.op rfl (AOp.assign rfl rfl (ltb rfl) rfl ?_)
 refine AO.nil ?_
 change AC _ _ _ _
 refine AC.seq ?_
 refine AC.region ?_
 refine AO.op rfl (AOp.move rfl rfl (ltb rfl) rfl ?_)
 refine AO.op rfl (AOp.ibits (by simp) rfl rfl (ltb rfl) rfl rfl rfl ?_)
 refine AO.op rfl (AOp.i2i rfl rfl (ltb rfl) rfl Tryz.underlying95 Tryz.underlying2 rfl ?_)
 refine AO.op rfl (AOp.move rfl rfl (ltb rfl) rfl ?_)
 obtain ⟨q1, h0⟩ := need_elim h0
 refine AO.op rfl (AOp.ishr (n := 52) rfl rfl (ltb rfl) rfl rfl (by decide) q1 rfl ?_)
 refine AO.op rfl (AOp.ibits (by simp) rfl rfl (ltb rfl) rfl rfl rfl ?_)
 refine AO.op rfl (AOp.i2i rfl rfl (ltb rfl) rfl Tryz.underlying95 Tryz.underlying3 rfl ?_)
 refine AO.op rfl (AOp.assign rfl rfl (ltb rfl) rfl ?_)
 refine AO.op rfl (AOp.assign rfl rfl (ltb rfl) rfl ?_)
 refine AO.nil ?_
 change AC _ _ _ _
 refine AC.joinP (V := (Int × Int)) [2, 3] [4, 5] 1 (fun g2 => [(4, .d (di .i64 g2.1)), (5, .d (di .i64 g2.2))]) (fun g2 => [.fix 30 [.d (dbool false), .d (.v (.slice none 0 0)), .d (di .i64 (0 : Int))]]) (fun g2 => (p_DyadicOf_k1 a0 F) g2 = some r0) rfl ?_ ?_
 ·refine AC.seq ?_
  refine AC.region ?_
  refine AO.op rfl (AOp.move rfl rfl (ltb rfl) rfl ?_)
  refine AO.nil ?_
  change AC _ _ _ _
  refine AC.block ?_
  refine AC.seq ?_
  refine AC.region ?_
  refine AO.op rfl (AOp.ieql rfl rfl (ltb rfl) rfl rfl ?_)
  refine AO.op rfl (AOp.assign rfl rfl (ltb rfl) rfl ?_)
  refine AO.nil ?_
  change AC _ _ _ _
  refine AC.cond rfl (fun q12 => ?_) (fun q12 => ?_)
  ·replace h0 := cT h0 q12
   refine AC.seq ?_
   refine AC.region ?_
   refine AO.op rfl (AOp.build rfl rfl (ltb rfl) zero30 rfl places30 rfl rfl ?_)
   refine AO.op rfl (AOp.store rfl rfl rfl rfl size30 rfl rfl rfl (leb rfl) ?_)
   refine AO.nil ?_
   change AC _ _ _ _
   refine AC.subO 0 rfl (.cons (SVLe.refl _) (.cons (SVLe.nil 1) (.cons (SVLe.refl _) .nil))) ?_
   refine AC.ret ?_
   change RetQ _ _ _ .ret _
   obtain rfl := Option.some.inj h0
   refine retq rfl rfl
  replace h0 := cF h0 q12
  refine AC.seq ?_
  refine AC.region ?_
  refine AO.op rfl (AOp.ieql rfl rfl (ltb rfl) rfl rfl ?_)
  refine AO.op rfl (AOp.assign rfl rfl (ltb rfl) rfl ?_)
  refine AO.nil ?_
  change AC _ _ _ _
  refine AC.cond rfl (fun q13 => ?_) (fun q13 => ?_)
  ·replace h0 := cT h0 q13
   refine AC.region ?_
   refine AO.op rfl (AOp.assign rfl rfl (ltb rfl) rfl ?_)
   refine AO.nil ?_
   exact ⟨((IntKind.i64.wrap (bits .and .u64 ((a0 : Nat) : Int) (4503599627370495 : Int))), (1 : Int)), _, rfl, (LeL.refl _), rfl, rfl, h0⟩
  replace h0 := cF h0 q13
  refine AC.region ?_
  refine AO.op rfl (AOp.move rfl rfl (ltb rfl) rfl ?_)
  obtain ⟨q14, h0⟩ := need_elim h0
  refine AO.op rfl (AOp.iadd rfl rfl (ltb rfl) rfl rfl rfl q14.1 q14.2 ?_)
  refine AO.op rfl (AOp.assign rfl rfl (ltb rfl) rfl ?_)
  refine AO.nil ?_
  exact ⟨(((IntKind.i64.wrap (bits .and .u64 ((a0 : Nat) : Int) (4503599627370495 : Int))) + (4503599627370496 : Int)), (IntKind.i64.wrap (bits .and .u64 (((a0 : Nat) : Int) / 2 ^ 52) (2047 : Int)))), _, rfl, (LeL.refl _), rfl, rfl, h0⟩
 intro g2 h0
 unfold p_DyadicOf_k1 at h0
 refine AC.seq ?_
 refine AC.seq ?_
 refine AC.region ?_
 refine AO.op rfl (AOp.move rfl rfl (ltb rfl) rfl ?_)
 obtain ⟨q3, h0⟩ := need_elim h0
 refine AO.op rfl (AOp.ishr (n := 63) rfl rfl (ltb rfl) rfl rfl (by decide) q3 rfl ?_)
 refine AO.op rfl (AOp.ieql rfl rfl (ltb rfl) rfl rfl ?_)
 refine AO.nil ?_
 change AC _ _ _ _
 refine AC.cond rfl (fun q4 => ?_) (fun q4 => ?_)
 ·replace h0 := cT h0 q4
  refine AC.region ?_
  refine AO.op rfl (AOp.move rfl rfl (ltb rfl) rfl ?_)
  obtain ⟨q5, h0⟩ := need_elim h0
  refine AO.op rfl (AOp.ineg rfl rfl (ltb rfl) rfl rfl q5.1 q5.2 ?_)
  refine AO.op rfl (AOp.assign rfl rfl (ltb rfl) rfl ?_)
  refine AO.nil ?_
  change AC _ _ _ _
  refine AC.seq ?_
  refine AC.region ?_
  refine AO.op rfl (AOp.move rfl rfl (ltb rfl) rfl ?_)
  obtain ⟨y6, q7, h0⟩ := bind_elim h0
  refine AO.op rfl (AOp.callD rfl rfl (ltb rfl) rfl rfl (w_WholeOf F (-g2.1) y6 q7) ?_)
  rintro _ rfl
  refine AO.op rfl (AOp.move rfl rfl (ltb rfl) rfl ?_)
  obtain ⟨q8, h0⟩ := need_elim h0
  refine AO.op rfl (AOp.isub rfl rfl (ltb rfl) rfl rfl rfl q8.1 q8.2 ?_)
  refine AO.op rfl (AOp.build rfl rfl (ltb rfl) zero30 rfl places30 rfl rfl ?_)
  refine AO.op rfl (AOp.store rfl rfl rfl rfl size30 rfl rfl rfl (leb rfl) ?_)
  refine AO.nil ?_
  change AC _ _ _ _
  refine AC.ret ?_
  change RetQ _ _ _ .ret _
  obtain rfl := Option.some.inj h0
  refine retq rfl rfl
 replace h0 := cF h0 q4
 refine AC.skip ?_
 change AC _ _ _ _
 refine AC.seq ?_
 refine AC.region ?_
 refine AO.op rfl (AOp.move rfl rfl (ltb rfl) rfl ?_)
 obtain ⟨y9, q10, h0⟩ := bind_elim h0
 refine AO.op rfl (AOp.callD rfl rfl (ltb rfl) rfl rfl (w_WholeOf F g2.1 y9 q10) ?_)
 rintro _ rfl
 refine AO.op rfl (AOp.move rfl rfl (ltb rfl) rfl ?_)
 obtain ⟨q11, h0⟩ := need_elim h0
 refine AO.op rfl (AOp.isub rfl rfl (ltb rfl) rfl rfl rfl q11.1 q11.2 ?_)
 refine AO.op rfl (AOp.build rfl rfl (ltb rfl) zero30 rfl places30 rfl rfl ?_)
 refine AO.op rfl (AOp.store rfl rfl rfl rfl size30 rfl rfl rfl (leb rfl) ?_)
 refine AO.nil ?_
 change AC _ _ _ _
 refine AC.ret ?_
 change RetQ _ _ _ .ret _
 obtain rfl := Option.some.inj h0
 refine retq rfl rfl

set_option maxRecDepth 100000 in
set_option maxHeartbeats 4000000 in
/-- pub-orthodrome/spec.PointOf -/
theorem w_PointOf (F : Nat) (a0 : Nat) (a1 : Nat) (r0 : TSpec_Point) (h0 : p_PointOf F a0 a1 = some r0) : FnD Tryz.prog 15 [dfl a0, dfl a1] (fun r => r = e_TSpec_Point r0) := by
 refine FnD.of (by kernel_rfl) Tryz.func15 rfl Tryz.ntmps15 rfl (leb rfl) fun W ok => ?_
 unfold p_PointOf at h0
 refine AC.seq ?_
 refine AC.region ?_
 refine AO.op rfl (AOp.alloc rfl rfl (ltb rfl) zero32 rfl ?_)
 refine AO.nil ?_
 change AC _ _ _ _
 refine AC.seq ?_
 refine AC.region ?_
 refine AO.op rfl (AOp.move rfl rfl (ltb rfl) rfl ?_)
 obtain ⟨y1, q2, h0⟩ := bind_elim h0
 refine AO.op rfl (AOp.callD rfl rfl (ltb rfl) rfl rfl (w_DyadicOf F a0 y1 q2) ?_)
 rintro _ rfl
 refine AO.op rfl (AOp.move rfl rfl (ltb rfl) rfl ?_)
 obtain ⟨y3, q4, h0⟩ := bind_elim h0
 refine AO.op rfl (AOp.callD rfl rfl (ltb rfl) rfl rfl (w_DyadicOf F a1 y3 q4) ?_)
 rintro _ rfl
 refine AO.op rfl (AOp.build rfl rfl (ltb rfl) zero32 rfl places32 rfl rfl ?_)
 refine AO.op rfl (AOp.store rfl rfl rfl rfl size32 rfl rfl rfl (leb rfl) ?_)
 refine AO.nil ?_
 change AC _ _ _ _
 refine AC.ret ?_
 change RetQ _ _ _ .ret _
 obtain rfl := Option.some.inj h0
 refine retq rfl rfl

set_option maxRecDepth 100000 in
set_option maxHeartbeats 4000000 in
/-- pub-orthodrome/laws.exactly -/
theorem w_exactly (F : Nat) (a0 : TImpl_P2) (r0 : TSpec_Point) (h0 : p_exactly F a0 = some r0) : FnD Tryz.prog 6 [e_TImpl_P2 a0] (fun r => r = e_TSpec_Point r0) := by
 refine FnD.of (by kernel_rfl) Tryz.func6 rfl Tryz.ntmps6 rfl (leb rfl) fun W ok => ?_
 unfold p_exactly at h0
 refine AC.seq ?_
 refine AC.region ?_
 refine AO.op rfl (AOp.box rfl rfl (ltb rfl) rfl rfl ?_)
 refine AO.op rfl (AOp.alloc rfl rfl (ltb rfl) zero32 rfl ?_)
 refine AO.nil ?_
 change AC _ _ _ _
 refine AC.seq ?_
 refine AC.region ?_
 refine AO.op rfl (AOp.fieldAddr rfl rfl (ltb rfl) rfl fo24_0 ?_)
 refine AO.op rfl (AOp.load1 rfl rfl (ltb rfl) rfl agg22 rfl rfl ?_)
 refine AO.op rfl (AOp.fieldAddr rfl rfl (ltb rfl) rfl fo24_1 ?_)
 refine AO.op rfl (AOp.load1 rfl rfl (ltb rfl) rfl agg22 rfl rfl ?_)
 obtain ⟨y1, q2, h0⟩ := bind_elim h0
 refine AO.op rfl (AOp.callD rfl rfl (ltb rfl) rfl rfl (w_PointOf F a0.X a0.Y y1 q2) ?_)
 rintro _ rfl
 refine AO.op rfl (AOp.store rfl rfl rfl rfl size32 rfl rfl rfl (leb rfl) ?_)
 refine AO.nil ?_
 change AC _ _ _ _
 refine AC.ret ?_
 change RetQ _ _ _ .ret _
 obtain rfl := Option.some.inj h0
 refine retq rfl rfl

set_option maxRecDepth 100000 in
set_option maxHeartbeats 4000000 in
/-- (pub-orthodrome/spec.Whole).Minus -/
theorem w_Whole_Minus (a0 : TSpec_Whole) (r0 : TSpec_Whole) (h0 : p_Whole_Minus a0 = some r0) : FnD Tryz.prog 53 [e_TSpec_Whole a0] (fun r => r = e_TSpec_Whole r0) := by
 refine FnD.of (by kernel_rfl) Tryz.func53 rfl Tryz.ntmps53 rfl (leb rfl) fun W ok => ?_
 unfold p_Whole_Minus at h0
 refine AC.seq ?_
 refine AC.region ?_
 refine AO.op rfl (AOp.box rfl rfl (ltb rfl) rfl rfl ?_)
 refine AO.op rfl (AOp.alloc rfl rfl (ltb rfl) zero28 rfl ?_)
 refine AO.nil ?_
 change AC _ _ _ _
 refine AC.seq ?_
 refine AC.region ?_
 refine AO.op rfl (AOp.fieldAddr rfl rfl (ltb rfl) rfl fo28_0 ?_)
 refine AO.op rfl (AOp.load1 rfl rfl (ltb rfl) rfl agg4 rfl rfl ?_)
 refine AO.op rfl (AOp.bnot rfl rfl (ltb rfl) rfl ?_)
 refine AO.op rfl (AOp.move rfl rfl (ltb rfl) rfl ?_)
 refine AO.dec (!a0.Neg) (fun q1 => ?_) (fun q1 => ?_)
 ·replace h0 := cT h0 q1
  refine AO.guardY rfl rfl rfl q1 (AOp.fieldAddr rfl rfl (ltb rfl) rfl fo28_1 ?_)
  refine AO.guardY rfl rfl rfl q1 (AOp.load1 rfl rfl (ltb rfl) rfl agg26 rfl rfl ?_)
  refine AO.guardY rfl rfl rfl q1 (AOp.lenDs (n := a0.L.length) (cells := (List.map keS2 a0.L)) rfl rfl (ltb rfl) rfl el26 (by decide) (len1 _ _) ?_)
  refine AO.guardY rfl rfl rfl q1 (AOp.igtr rfl rfl (ltb rfl) rfl rfl ?_)
  refine AO.op rfl (AOp.pick rfl rfl (ltb rfl) rfl q1 rfl ?_)
  refine AO.op rfl (AOp.fieldAddr rfl rfl (ltb rfl) rfl fo28_1 ?_)
  refine AO.op rfl (AOp.load1 rfl rfl (ltb rfl) rfl agg26 rfl rfl ?_)
  refine AO.op rfl (AOp.build rfl rfl (ltb rfl) zero28 rfl places28 rfl rfl ?_)
  refine AO.op rfl (AOp.store rfl rfl rfl rfl size28 rfl rfl rfl (leb rfl) ?_)
  refine AO.nil ?_
  change AC _ _ _ _
  refine AC.ret ?_
  change RetQ _ _ _ .ret _
  obtain rfl := Option.some.inj h0
  refine retq rfl rfl
 replace h0 := cF h0 q1
 refine AO.guardN rfl rfl rfl (ltb rfl) rfl q1 ?_
 refine AO.guardN rfl rfl rfl (ltb rfl) rfl q1 ?_
 refine AO.guardN rfl rfl rfl (ltb rfl) rfl q1 ?_
 refine AO.guardN rfl rfl rfl (ltb rfl) rfl q1 ?_
 refine AO.op rfl (AOp.pickN rfl rfl (ltb rfl) rfl q1 rfl ?_)
 refine AO.op rfl (AOp.fieldAddr rfl rfl (ltb rfl) rfl fo28_1 ?_)
 refine AO.op rfl (AOp.load1 rfl rfl (ltb rfl) rfl agg26 rfl rfl ?_)
 refine AO.op rfl (AOp.build rfl rfl (ltb rfl) zero28 rfl places28 rfl rfl ?_)
 refine AO.op rfl (AOp.store rfl rfl rfl rfl size28 rfl rfl rfl (leb rfl) ?_)
 refine AO.nil ?_
 change AC _ _ _ _
 refine AC.ret ?_
 change RetQ _ _ _ .ret _
 obtain rfl := Option.some.inj h0
 refine retq rfl rfl

set_option maxRecDepth 100000 in
set_option maxHeartbeats 4000000 in
/-- (pub-orthodrome/spec.Dyadic).Minus -/
theorem w_Dyadic_Minus (a0 : TSpec_Dyadic) (r0 : TSpec_Dyadic) (h0 : p_Dyadic_Minus a0 = some r0) : FnD Tryz.prog 36 [e_TSpec_Dyadic a0] (fun r => r = e_TSpec_Dyadic r0) := by
 refine FnD.of (by kernel_rfl) Tryz.func36 rfl Tryz.ntmps36 rfl (leb rfl) fun W ok => ?_
 unfold p_Dyadic_Minus at h0
 refine AC.seq ?_
 refine AC.region ?_
 refine AO.op rfl (AOp.box rfl rfl (ltb rfl) rfl rfl ?_)
 refine AO.op rfl (AOp.alloc rfl rfl (ltb rfl) zero30 rfl ?_)
 refine AO.nil ?_
 change AC _ _ _ _
 refine AC.seq ?_
 refine AC.draw 6 mixed (by kernel_rfl) ?_
 refine AD.op [1] rfl (by kernel_rfl) rfl rfl (fun _ _ h => AOp.fieldAddr rfl rfl (ltb rfl) rfl fo30_0 h) ?_
 refine AD.op [3] rfl (by kernel_rfl) rfl rfl (fun _ _ h => AOp.loadN rfl rfl (ltb rfl) rfl agg28 size28 rfl (leb rfl) rfl h) ?_
 obtain ⟨y1, q2, h0⟩ := bind_elim h0
 refine AD.op [4] rfl (by kernel_rfl) rfl rfl (fun _ _ h => AOp.callD rfl rfl (ltb rfl) rfl rfl (w_Whole_Minus a0.N y1 q2) (by rintro _ rfl; exact h)) ?_
 refine AD.op [1] rfl (by kernel_rfl) rfl rfl (fun _ _ h => AOp.fieldAddr rfl rfl (ltb rfl) rfl fo30_1 h) ?_
 refine AD.op [6] rfl (by kernel_rfl) rfl rfl (fun _ _ h => AOp.load1 rfl rfl (ltb rfl) rfl agg3 rfl rfl h) ?_
 refine AD.op [5, 7] rfl (by kernel_rfl) rfl rfl (fun _ _ h => AOp.build rfl rfl (ltb rfl) zero30 rfl places30 rfl rfl h) ?_
 refine AD.done ?_
 refine AO.op rfl (AOp.store rfl rfl rfl rfl size30 rfl rfl rfl (leb rfl) ?_)
 refine AO.nil ?_
 change AC _ _ _ _
 refine AC.ret ?_
 change RetQ _ _ _ .ret _
 obtain rfl := Option.some.inj h0
 refine retq rfl rfl

set_option maxRecDepth 100000 in
set_option maxHeartbeats 4000000 in
/-- (pub-orthodrome/spec.Whole).Sign -/
theorem w_Whole_Sign (a0 : TSpec_Whole) (r0 : Int) (h0 : p_Whole_Sign a0 = some r0) : FnD Tryz.prog 38 [e_TSpec_Whole a0] (fun r => r = di .i64 r0) := by
 refine FnD.of (by kernel_rfl) Tryz.func38 rfl Tryz.ntmps38 rfl (leb rfl) fun W ok => ?_
 unfold p_Whole_Sign at h0
 refine AC.seq ?_
 refine AC.region ?_
 refine AO.op rfl (AOp.box rfl rfl (ltb rfl) rfl rfl ?_)
 refine AO.op rfl (AOp.assign rfl rfl (ltb rfl) rfl ?_)
 refine AO.nil ?_
 change AC _ _ _ _
 refine AC.seq ?_
 refine AC.block ?_
 refine AC.seq ?_
 refine AC.region ?_
 refine AO.op rfl (AOp.fieldAddr rfl rfl (ltb rfl) rfl fo28_1 ?_)
 refine AO.op rfl (AOp.load1 rfl rfl (ltb rfl) rfl agg26 rfl rfl ?_)
 refine AO.op rfl (AOp.lenDs (n := a0.L.length) (cells := (List.map keS2 a0.L)) rfl rfl (ltb rfl) rfl el26 (by decide) (len1 _ _) ?_)
 refine AO.op rfl (AOp.ieql rfl rfl (ltb rfl) rfl rfl ?_)
 refine AO.op rfl (AOp.assign rfl rfl (ltb rfl) rfl ?_)
 refine AO.nil ?_
 change AC _ _ _ _
 refine AC.cond rfl (fun q1 => ?_) (fun q1 => ?_)
 ·replace h0 := cT h0 q1
  refine AC.seq ?_
  refine AC.region ?_
  refine AO.op rfl (AOp.assign rfl rfl (ltb rfl) rfl ?_)
  refine AO.nil ?_
  change AC _ _ _ _
  refine AC.ret ?_
  change RetQ _ _ _ .ret _
  obtain rfl := Option.some.inj h0
  refine retq rfl rfl
 replace h0 := cF h0 q1
 refine AC.seq ?_
 refine AC.region ?_
 refine AO.op rfl (AOp.fieldAddr rfl rfl (ltb rfl) rfl fo28_0 ?_)
 refine AO.op rfl (AOp.load1 rfl rfl (ltb rfl) rfl agg4 rfl rfl ?_)
 refine AO.op rfl (AOp.assign rfl rfl (ltb rfl) rfl ?_)
 refine AO.nil ?_
 change AC _ _ _ _
 refine AC.cond rfl (fun q2 => ?_) (fun q2 => ?_)
 ·replace h0 := cT h0 q2
  refine AC.seq ?_
  refine AC.region ?_
  refine AO.op rfl (AOp.assign rfl rfl (ltb rfl) rfl ?_)
  refine AO.nil ?_
  change AC _ _ _ _
  refine AC.ret ?_
  change RetQ _ _ _ .ret _
  obtain rfl := Option.some.inj h0
  refine retq rfl rfl
 replace h0 := cF h0 q2
 refine AC.skip ?_
 change AC _ _ _ _
 refine AC.seq ?_
 refine AC.region ?_
 refine AO.op rfl (AOp.assign rfl rfl (ltb rfl) rfl ?_)
 refine AO.nil ?_
 change AC _ _ _ _
 refine AC.ret ?_
 change RetQ _ _ _ .ret _
 obtain rfl := Option.some.inj h0
 refine retq rfl rfl

set_option maxRecDepth 100000 in
set_option maxHeartbeats 4000000 in
/-- (pub-orthodrome/spec.Dyadic).Sign -/
theorem w_Dyadic_Sign (a0 : TSpec_Dyadic) (r0 : Int) (h0 : p_Dyadic_Sign a0 = some r0) : FnD Tryz.prog 18 [e_TSpec_Dyadic a0] (fun r => r = di .i64 r0) := by
 refine FnD.of (by kernel_rfl) Tryz.func18 rfl Tryz.ntmps18 rfl (leb rfl) fun W ok => ?_
 unfold p_Dyadic_Sign at h0
 refine AC.seq ?_
 refine AC.region ?_
 refine AO.op rfl (AOp.box rfl rfl (ltb rfl) rfl rfl ?_)
 refine AO.op rfl (AOp.assign rfl rfl (ltb rfl) rfl ?_)
 refine AO.nil ?_
 change AC _ _ _ _
 refine AC.seq ?_
 refine AC.region ?_
 refine AO.op rfl (AOp.fieldAddr rfl rfl (ltb rfl) rfl fo30_0 ?_)
 refine AO.op rfl (AOp.loadN rfl rfl (ltb rfl) rfl agg28 size28 rfl (leb rfl) rfl ?_)
 obtain ⟨y1, q2, h0⟩ := bind_elim h0
 refine AO.op rfl (AOp.callD rfl rfl (ltb rfl) rfl rfl (w_Whole_Sign a0.N y1 q2) ?_)
 rintro _ rfl
 refine AO.op rfl (AOp.assign rfl rfl (ltb rfl) rfl ?_)
 refine AO.nil ?_
 change AC _ _ _ _
 refine AC.ret ?_
 change RetQ _ _ _ .ret _
 obtain rfl := Option.some.inj h0
 refine retq rfl rfl

set_option maxRecDepth 100000 in
set_option maxHeartbeats 4000000 in
/-- (pub-orthodrome/spec.Whole).Up -/
theorem w_Whole_Up (F : Nat) (a0 : TSpec_Whole) (a1 : Int) (r0 : TSpec_Whole) (h0 : p_Whole_Up F a0 a1 = some r0) : FnD Tryz.prog 39 [e_TSpec_Whole a0, di .i64 a1] (fun r => r = e_TSpec_Whole r0) := by
 refine FnD.of (by kernel_rfl) Tryz.func39 rfl Tryz.ntmps39 rfl (leb rfl) fun W ok => ?_
 unfold p_Whole_Up at h0
 refine AC.seq ?_
 refine AC.region ?_
 refine AO.op rfl (AOp.box rfl rfl (ltb rfl) rfl rfl ?_)
 refine AO.op rfl (AOp.alloc rfl rfl (ltb rfl) zero28 rfl ?_)
 refine AO.nil ?_
 change AC _ _ _ _
 refine AC.seq ?_
 refine AC.seq ?_
 refine AC.region ?_
 refine AO.op rfl (AOp.fieldAddr rfl rfl (ltb rfl) rfl fo28_1 ?_)
 refine AO.op rfl (AOp.load1 rfl rfl (ltb rfl) rfl agg26 rfl rfl ?_)
 refine AO.op rfl (AOp.lenDs (n := a0.L.length) (cells := (List.map keS2 a0.L)) rfl rfl (ltb rfl) rfl el26 (by decide) (len1 _ _) ?_)
 refine AO.op rfl (AOp.ieql rfl rfl (ltb rfl) rfl rfl ?_)
 refine AO.nil ?_
 change AC _ _ _ _
 refine AC.cond rfl (fun q1 => ?_) (fun q1 => ?_)
 ·replace h0 := cT h0 q1
  refine AC.seq ?_
  refine AC.region ?_
  refine AO.op rfl (AOp.loadN rfl rfl (ltb rfl) rfl agg28 size28 rfl (leb rfl) rfl ?_)
  refine AO.op rfl (AOp.store rfl rfl rfl rfl size28 rfl rfl rfl (leb rfl) ?_)
  refine AO.nil ?_
  change AC _ _ _ _
  refine AC.ret ?_
  change RetQ _ _ _ .ret _
  obtain rfl := Option.some.inj h0
  refine retq rfl rfl
 replace h0 := cF h0 q1
 refine AC.skip ?_
 change AC _ _ _ _
 refine AC.seq ?_
 refine AC.region ?_
 refine AO.op rfl (AOp.move rfl rfl (ltb rfl) rfl ?_)
 obtain ⟨q2, h0⟩ := need_elim h0
 refine AO.op rfl (AOp.iquo rfl rfl (ltb rfl) rfl rfl q2.1 rfl q2.2.1 q2.2.2 ?_)
 refine AO.op rfl (AOp.move rfl rfl (ltb rfl) rfl ?_)
 obtain ⟨q3, h0⟩ := need_elim h0
 refine AO.op rfl (AOp.iquo rfl rfl (ltb rfl) rfl rfl q3.1 rfl q3.2.1 q3.2.2 ?_)
 refine AO.op rfl (AOp.fieldAddr rfl rfl (ltb rfl) rfl fo28_1 ?_)
 refine AO.op rfl (AOp.load1 rfl rfl (ltb rfl) rfl agg26 rfl rfl ?_)
 refine AO.op rfl (AOp.lenDs (n := a0.L.length) (cells := (List.map keS2 a0.L)) rfl rfl (ltb rfl) rfl el26 (by decide) (len1 _ _) ?_)
 obtain ⟨q4, h0⟩ := need_elim h0
 refine AO.op rfl (AOp.iadd rfl rfl (ltb rfl) rfl rfl rfl q4.1 q4.2 ?_)
 obtain ⟨q5, h0⟩ := need_elim h0
 refine AO.op rfl (AOp.iadd rfl rfl (ltb rfl) rfl rfl rfl q5.1 q5.2 ?_)
 obtain ⟨q6, h0⟩ := need_elim h0
 refine AO.op rfl (AOp.makeOwnN (f := keS2) (z0 := (0 : Int)) rfl rfl (ltb rfl) rfl rfl el26 info100 rfl rfl (by decide) q6 rfl ?_)
 refine AO.op rfl (AOp.assign rfl rfl (ltb rfl) rfl ?_)
 refine AO.nil ?_
 change AC _ _ _ _
 refine AC.seq ?_
 refine AC.region ?_
 refine AO.op rfl (AOp.assign rfl rfl (ltb rfl) rfl ?_)
 refine AO.nil ?_
 change AC _ _ _ _
 refine AC.seq ?_
 refine AC.seq ?_
 refine AC.region ?_
 refine AO.op rfl (AOp.fieldAddr rfl rfl (ltb rfl) rfl fo28_1 ?_)
 refine AO.op rfl (AOp.load1 rfl rfl (ltb rfl) rfl agg26 rfl rfl ?_)
 refine AO.op rfl (AOp.lenDs (n := a0.L.length) (cells := (List.map keS2 a0.L)) rfl rfl (ltb rfl) rfl el26 (by decide) (len1 _ _) ?_)
 refine AO.op rfl (AOp.move rfl rfl (ltb rfl) rfl ?_)
 refine AO.nil ?_
 change AC _ _ _ _
 obtain ⟨o7, l8, h0⟩ := bind_elim h0
 refine AC.joinE (V := (Int × (List Int))) [2, 4] [5, 6] 3 (fun g9 => [(5, .own 2), (6, .d (di .u32 g9.1))]) (fun g9 => [.fix 28 [.d (dbool a0.Neg), .d (eS2 a0.L)], .fix 28 [.d (dbool false), .d (.v (.slice none 0 0))], .grow 100 1 (List.map keS2 g9.2)]) (fun g9 => (p_Whole_Up_k1 a0 F) g9 = some r0) rfl ?_ ?_
 ·refine AC.block ?_
  refine AC.loopP (V := (Int × Int × (List Int))) (p_Whole_Up_l2 a0 a1) o7 [1, 2, 4, 26, 27] [5, 6, 28] 3 (fun g13 => [(5, .own 2), (6, .d (di .u32 g13.1)), (28, .d (di .i64 g13.2.1))]) (fun g13 => [.fix 28 [.d (dbool a0.Neg), .d (eS2 a0.L)], .fix 28 [.d (dbool false), .d (.v (.slice none 0 0))], .grow 100 1 (List.map keS2 g13.2.2)]) F ((0 : Int), (0 : Int), (List.replicate ((Int.tdiv a1 (32 : Int))).toNat (0 : Int))) l8 rfl rfl (LeL.refl _) rfl rfl ?_
  intro n15 g13 h1
  unfold p_Whole_Up_l2 at h1
  refine AC.seq ?_
  refine AC.region ?_
  refine AO.op rfl (AOp.ilss rfl rfl (ltb rfl) rfl rfl ?_)
  refine AO.nil ?_
  change AC _ _ _ _
  refine AC.seq ?_
  refine AC.cond rfl (fun q16 => ?_) (fun q16 => ?_)
  ·replace h1 := cT h1 q16
   refine AC.skip ?_
   change AC _ _ _ _
   refine AC.seq ?_
   refine AC.block ?_
   refine AC.seq ?_
   refine AC.region ?_
   obtain ⟨x17, q18, h1⟩ := idx_elim h1
   refine AO.op rfl (AOp.indexDs (cells := (List.map keS2 a0.L)) rfl rfl (ltb rfl) rfl rfl el26 (by decide) q18.1 (lt1 q18.2) ?_)
   refine AO.op rfl (AOp.loadEp rfl rfl (ltb rfl) rfl agg100 (at1 q18.2) ?_)
   refine AO.op rfl (AOp.assign rfl rfl (ltb rfl) rfl ?_)
   refine AO.nil ?_
   change AC _ _ _ _
   refine AC.seq ?_
   refine AC.region ?_
   refine AO.op rfl (AOp.move rfl rfl (ltb rfl) rfl ?_)
   refine AO.op rfl (AOp.i2i rfl rfl (ltb rfl) rfl Tryz.underlying100 Tryz.underlying95 rfl ?_)
   refine AO.op rfl (AOp.move rfl rfl (ltb rfl) rfl ?_)
   obtain ⟨q19, h1⟩ := need_elim h1
   refine AO.op rfl (AOp.irem rfl rfl (ltb rfl) rfl rfl q19 rfl ?_)
   obtain ⟨q20, h1⟩ := need_elim h1
   refine AO.op rfl (AOp.ishl' rfl rfl (ltb rfl) rfl rfl q20 ?_)
   refine AO.op rfl (AOp.assign rfl rfl (ltb rfl) rfl ?_)
   refine AO.nil ?_
   change AC _ _ _ _
   refine AC.seq ?_
   refine AC.region ?_
   refine AO.op rfl (AOp.move rfl rfl (ltb rfl) rfl ?_)
   refine AO.op rfl (AOp.move rfl rfl (ltb rfl) rfl ?_)
   refine AO.op rfl (AOp.i2i rfl rfl (ltb rfl) rfl Tryz.underlying95 Tryz.underlying100 rfl ?_)
   refine AO.op rfl (AOp.move rfl rfl (ltb rfl) rfl ?_)
   refine AO.op rfl (AOp.ibits (by simp) rfl rfl (ltb rfl) rfl rfl rfl ?_)
   refine AO.op rfl (AOp.buildSliceD rfl rfl (ltb rfl) el26 zero100 rfl (leb rfl) rfl rfl rfl rfl ?_)
   obtain ⟨q21, h1⟩ := need_elim h1
   refine AO.op rfl (AOp.appendOwn' (p := 2) (n := g13.2.2.length) (m := [(bits .or .u32 (IntKind.u32.wrap (IntKind.u64.wrap ((IntKind.u64.wrap x17) * 2 ^ ((Int.tmod a1 (32 : Int))).toNat))) g13.1)].length) (news := (List.map keS2 [(bits .or .u32 (IntKind.u32.wrap (IntKind.u64.wrap ((IntKind.u64.wrap x17) * 2 ^ ((Int.tmod a1 (32 : Int))).toNat))) g13.1)])) rfl rfl (ltb rfl) rfl rfl el26 info100 rfl (by decide) rfl (len1 _ _) (len1 _ _) (one1 _ (fun _ => rfl) _) q21 (by decide) rfl rfl (cat1 _ _ _) ?_)
   refine AO.op rfl (AOp.assign rfl rfl (ltb rfl) rfl ?_)
   refine AO.nil ?_
   change AC _ _ _ _
   refine AC.region ?_
   refine AO.op rfl (AOp.move rfl rfl (ltb rfl) rfl ?_)
   obtain ⟨q22, h1⟩ := need_elim h1
   refine AO.op rfl (AOp.ishr (n := 32) rfl rfl (ltb rfl) rfl rfl (by decide) q22 rfl ?_)
   refine AO.op rfl (AOp.i2i rfl rfl (ltb rfl) rfl Tryz.underlying95 Tryz.underlying100 rfl ?_)
   refine AO.op rfl (AOp.assign rfl rfl (ltb rfl) rfl ?_)
   refine AO.nil ?_
   change AC _ _ _ _
   refine AC.region ?_
   obtain ⟨q23, h1⟩ := need_elim h1
   refine AO.op rfl (AOp.iadd rfl rfl (ltb rfl) rfl rfl rfl q23.1 q23.2 ?_)
   refine AO.op rfl (AOp.move rfl rfl (ltb rfl) rfl ?_)
   refine AO.nil ?_
   exact ⟨((IntKind.u32.wrap ((IntKind.u64.wrap ((IntKind.u64.wrap x17) * 2 ^ ((Int.tmod a1 (32 : Int))).toNat)) / 2 ^ 32)), (g13.2.1 + (1 : Int)), (g13.2.2 ++ [(bits .or .u32 (IntKind.u32.wrap (IntKind.u64.wrap ((IntKind.u64.wrap x17) * 2 ^ ((Int.tmod a1 (32 : Int))).toNat))) g13.1)])), _, rfl, (LeL.refl _), rfl, rfl, h1⟩
  replace h1 := cF h1 q16
  refine AC.exit ?_
  obtain rfl := Option.some.inj h1
  exact ⟨(g13.1, g13.2.2), _, rfl, (LeL.refl _), rfl, rfl, aftL h0⟩
 intro g9 h0
 unfold p_Whole_Up_k1 at h0
 change AC _ _ _ _
 refine AC.seq ?_
 obtain ⟨q10, h0⟩ := need_elim h0
 obtain ⟨y11, q12, h0⟩ := bind_elim h0
 refine AC.drawS [0, 1, 2, 3, 4, 5, 6] [5, 6] [7, 8] (fun L => [.fix 28 [.d (dbool a0.Neg), .d (eS2 a0.L)], .fix 28 [.d (dbool false), .d (.v (.slice none 0 0))], bif L 6 then .dead else bif L 5 then .grow 100 1 (List.map keS2 (g9.2 ++ [g9.1])) else .grow 100 1 (List.map keS2 g9.2)]) [(5, SV.noO 2), (6, SV.noO 2)] mixed (by kernel_rfl) (fun L L' h => by simp only [h 5 (by decide), h 6 (by decide)]) rfl ?_
 refine AS.op [2] [] [] [5, 6] rfl rfl rfl (by kernel_rfl) (by kernel_rfl) rfl rfl (fun _ _ _ h => AOp.fieldAddr rfl rfl (ltb rfl) rfl fo28_0 h) (by kernel_rfl) ?_
 refine AS.op [48] [] [] [5, 6] rfl rfl rfl (by kernel_rfl) (by kernel_rfl) rfl rfl (fun _ _ _ h => AOp.load1 rfl rfl (ltb rfl) rfl agg4 rfl rfl h) (by kernel_rfl) ?_
 refine AS.op [5] [] [5, 6] [] rfl rfl rfl (by kernel_rfl) (by kernel_rfl) rfl rfl (fun _ _ _ h => AOp.move rfl rfl (ltb rfl) rfl h) (by kernel_rfl) ?_
 refine AS.op [6] [] [5, 6] [] rfl rfl rfl (by kernel_rfl) (by kernel_rfl) rfl rfl (fun _ _ _ h => AOp.move rfl rfl (ltb rfl) rfl h) (by kernel_rfl) ?_
 refine AS.op [51] [] [5, 6] [] rfl rfl rfl (by kernel_rfl) (by kernel_rfl) rfl rfl (fun _ _ _ h => AOp.buildSliceD rfl rfl (ltb rfl) el26 zero100 rfl (leb rfl) rfl rfl rfl rfl h) (by kernel_rfl) ?_
 refine AS.mid [50, 52] [] [6, 5] [] rfl rfl rfl rfl (by kernel_rfl) (by kernel_rfl) rfl rfl (fun _ _ _ h => AOp.appendOwn' (p := 2) (n := g9.2.length) (m := [g9.1].length) (news := (List.map keS2 [g9.1])) rfl rfl (ltb rfl) rfl rfl el26 info100 rfl (by decide) rfl (len1 _ _) (len1 _ _) (one1 _ (fun _ => rfl) _) q10 (by decide) (allNo (.cons rfl (.cons rfl (.cons rfl .nil)))) rfl (cat1 _ _ _) (AO.dropped h)) (by kernel_rfl) rfl ?_
 refine AS.mid [53] [5] [6] [] rfl rfl rfl rfl (by kernel_rfl) (by kernel_rfl) rfl rfl (fun _ _ _ h => AOp.freezeDrop 53 2 rfl rfl rfl (AOp.callD rfl rfl (ltb rfl) rfl rfl (w_trim F (g9.2 ++ [g9.1]) y11 q12) (by rintro _ rfl; exact AO.forget1 (.inr trivial) h (.inl (dropped_none rfl rfl))))) (by kernel_rfl) rfl ?_
 refine AS.done ?_
 refine AO.objs (obs' := [.fix 28 [.d (dbool a0.Neg), .d (eS2 a0.L)], .fix 28 [.d (dbool false), .d (.v (.slice none 0 0))], .dead]) rfl ?_
 refine AO.op rfl (AOp.build rfl rfl (ltb rfl) zero28 rfl places28 rfl rfl ?_)
 refine AO.op rfl (AOp.store rfl rfl rfl rfl size28 rfl rfl rfl (leb rfl) ?_)
 refine AO.nil ?_
 change AC _ _ _ _
 refine AC.ret ?_
 change RetQ _ _ _ .ret _
 obtain rfl := Option.some.inj h0
 refine retq rfl rfl

set_option maxRecDepth 100000 in
set_option maxHeartbeats 4000000 in
/-- pub-orthodrome/spec.addLimbs -/
theorem w_addLimbs (F : Nat) (a0 : (List Int)) (a1 : (List Int)) (r0 : (List Int)) (h0 : p_addLimbs F a0 a1 = some r0) : FnD Tryz.prog 55 [eS2 a0, eS2 a1] (fun r => r = eS2 r0) := by
 refine FnD.of (by kernel_rfl) Tryz.func55 rfl Tryz.ntmps55 rfl (leb rfl) fun W ok => ?_
 unfold p_addLimbs at h0
 refine AC.seq ?_
 refine AC.region ?_
 refine AO.op rfl (AOp.assign rfl rfl (ltb rfl) rfl ?_)
 refine AO.nil ?_
 change AC _ _ _ _
 refine AC.joinP (V := ((List Int) × (List Int))) [] [0, 1] 0 (fun g1 => [(0, .d (eS2 g1.1)), (1, .d (eS2 g1.2))]) (fun g1 => []) (fun g1 => (p_addLimbs_k1 F) g1 = some r0) rfl ?_ ?_
 ·refine AC.seq ?_
  refine AC.region ?_
  refine AO.op rfl (AOp.move rfl rfl (ltb rfl) rfl ?_)
  refine AO.op rfl (AOp.lenDs (n := a0.length) (cells := (List.map keS2 a0)) rfl rfl (ltb rfl) rfl el26 (by decide) (len1 _ _) ?_)
  refine AO.op rfl (AOp.move rfl rfl (ltb rfl) rfl ?_)
  refine AO.op rfl (AOp.lenDs (n := a1.length) (cells := (List.map keS2 a1)) rfl rfl (ltb rfl) rfl el26 (by decide) (len1 _ _) ?_)
  refine AO.op rfl (AOp.ilss rfl rfl (ltb rfl) rfl rfl ?_)
  refine AO.nil ?_
  change AC _ _ _ _
  refine AC.cond rfl (fun q25 => ?_) (fun q25 => ?_)
  ·replace h0 := cT h0 q25
   refine AC.region ?_
   refine AO.op rfl (AOp.move rfl rfl (ltb rfl) rfl ?_)
   refine AO.op rfl (AOp.move rfl rfl (ltb rfl) rfl ?_)
   refine AO.op rfl (AOp.assign rfl rfl (ltb rfl) rfl ?_)
   refine AO.op rfl (AOp.assign rfl rfl (ltb rfl) rfl ?_)
   refine AO.nil ?_
   exact ⟨(a1, a0), _, rfl, (LeL.refl _), rfl, rfl, h0⟩
  replace h0 := cF h0 q25
  refine AC.skip ?_
  exact ⟨(a0, a1), _, rfl, (LeL.refl _), rfl, rfl, h0⟩
 intro g1 h0
 unfold p_addLimbs_k1 at h0
 refine AC.seq ?_
 refine AC.region ?_
 refine AO.op rfl (AOp.move rfl rfl (ltb rfl) rfl ?_)
 refine AO.op rfl (AOp.lenDs (n := g1.1.length) (cells := (List.map keS2 g1.1)) rfl rfl (ltb rfl) rfl el26 (by decide) (len1 _ _) ?_)
 obtain ⟨q2, h0⟩ := need_elim h0
 refine AO.op rfl (AOp.iadd rfl rfl (ltb rfl) rfl rfl rfl q2.1 q2.2 ?_)
 obtain ⟨q3, h0⟩ := need_elim h0
 refine AO.op rfl (AOp.makeOwn0 rfl rfl (ltb rfl) rfl rfl el26 info100 (by decide) q3 ?_)
 refine AO.op rfl (AOp.assign rfl rfl (ltb rfl) rfl ?_)
 refine AO.nil ?_
 change AC _ _ _ _
 refine AC.seq ?_
 refine AC.region ?_
 refine AO.op rfl (AOp.assign rfl rfl (ltb rfl) rfl ?_)
 refine AO.nil ?_
 change AC _ _ _ _
 refine AC.seq ?_
 refine AC.seq ?_
 refine AC.region ?_
 refine AO.op rfl (AOp.move rfl rfl (ltb rfl) rfl ?_)
 refine AO.op rfl (AOp.lenDs (n := g1.1.length) (cells := (List.map keS2 g1.1)) rfl rfl (ltb rfl) rfl el26 (by decide) (len1 _ _) ?_)
 refine AO.op rfl (AOp.move rfl rfl (ltb rfl) rfl ?_)
 refine AO.nil ?_
 change AC _ _ _ _
 obtain ⟨o4, l5, h0⟩ := bind_elim h0
 refine AC.joinE (V := (Int × (List Int))) [] [5, 6] 1 (fun g6 => [(5, .own 0), (6, .d (di .u64 g6.1))]) (fun g6 => [.grow 100 1 (List.map keS2 g6.2)]) (fun g6 => (p_addLimbs_k2 F) g6 = some r0) rfl ?_ ?_
 ·refine AC.block ?_
  refine AC.loopP (V := (Int × Int × (List Int))) (p_addLimbs_l3 g1) o4 [1, 21, 22] [5, 6, 23] 1 (fun g10 => [(5, .own 0), (6, .d (di .u64 g10.1)), (23, .d (di .i64 g10.2.1))]) (fun g10 => [.grow 100 1 (List.map keS2 g10.2.2)]) F ((0 : Int), (0 : Int), []) l5 rfl rfl (LeL.refl _) rfl rfl ?_
  intro n12 g10 h1
  unfold p_addLimbs_l3 at h1
  refine AC.seq ?_
  refine AC.region ?_
  refine AO.op rfl (AOp.ilss rfl rfl (ltb rfl) rfl rfl ?_)
  refine AO.nil ?_
  change AC _ _ _ _
  refine AC.seq ?_
  refine AC.cond rfl (fun q13 => ?_) (fun q13 => ?_)
  ·replace h1 := cT h1 q13
   refine AC.skip ?_
   change AC _ _ _ _
   refine AC.seq ?_
   refine AC.block ?_
   refine AC.seq ?_
   refine AC.region ?_
   refine AO.op rfl (AOp.move rfl rfl (ltb rfl) rfl ?_)
   obtain ⟨x14, q15, h1⟩ := idx_elim h1
   refine AO.op rfl (AOp.indexDs (cells := (List.map keS2 g1.1)) rfl rfl (ltb rfl) rfl rfl el26 (by decide) q15.1 (lt1 q15.2) ?_)
   refine AO.op rfl (AOp.loadEp rfl rfl (ltb rfl) rfl agg100 (at1 q15.2) ?_)
   refine AO.op rfl (AOp.assign rfl rfl (ltb rfl) rfl ?_)
   refine AO.op rfl (AOp.assign rfl rfl (ltb rfl) rfl ?_)
   refine AO.nil ?_
   change AC _ _ _ _
   refine AC.seq ?_
   refine AC.region ?_
   refine AO.op rfl (AOp.move rfl rfl (ltb rfl) rfl ?_)
   refine AO.op rfl (AOp.i2i rfl rfl (ltb rfl) rfl Tryz.underlying100 Tryz.underlying95 rfl ?_)
   refine AO.op rfl (AOp.move rfl rfl (ltb rfl) rfl ?_)
   obtain ⟨q16, h1⟩ := need_elim h1
   refine AO.op rfl (AOp.iadd rfl rfl (ltb rfl) rfl rfl rfl q16.1 q16.2 ?_)
   refine AO.op rfl (AOp.assign rfl rfl (ltb rfl) rfl ?_)
   refine AO.nil ?_
   change AC _ _ _ _
   refine AC.joinP (V := Int) [1, 5, 21, 22, 23] [9] 1 (fun g17 => [(9, .d (di .u64 g17))]) (fun g17 => [.grow 100 1 (List.map keS2 g10.2.2)]) (fun g17 => (p_addLimbs_k4 g10 (iter (p_addLimbs_l3 g1) n12)) g17 = some o4) rfl ?_ ?_
   ·refine AC.seq ?_
    refine AC.region ?_
    refine AO.op rfl (AOp.move rfl rfl (ltb rfl) rfl ?_)
    refine AO.op rfl (AOp.move rfl rfl (ltb rfl) rfl ?_)
    refine AO.op rfl (AOp.lenDs (n := g1.2.length) (cells := (List.map keS2 g1.2)) rfl rfl (ltb rfl) rfl el26 (by decide) (len1 _ _) ?_)
    refine AO.op rfl (AOp.ilss rfl rfl (ltb rfl) rfl rfl ?_)
    refine AO.nil ?_
    change AC _ _ _ _
    refine AC.cond rfl (fun q21 => ?_) (fun q21 => ?_)
    ·replace h1 := cT h1 q21
     refine AC.region ?_
     refine AO.op rfl (AOp.move rfl rfl (ltb rfl) rfl ?_)
     refine AO.op rfl (AOp.move rfl rfl (ltb rfl) rfl ?_)
     refine AO.op rfl (AOp.move rfl rfl (ltb rfl) rfl ?_)
     obtain ⟨x22, q23, h1⟩ := idx_elim h1
     refine AO.op rfl (AOp.indexDs (cells := (List.map keS2 g1.2)) rfl rfl (ltb rfl) rfl rfl el26 (by decide) q23.1 (lt1 q23.2) ?_)
     refine AO.op rfl (AOp.loadEp rfl rfl (ltb rfl) rfl agg100 (at1 q23.2) ?_)
     refine AO.op rfl (AOp.i2i rfl rfl (ltb rfl) rfl Tryz.underlying100 Tryz.underlying95 rfl ?_)
     obtain ⟨q24, h1⟩ := need_elim h1
     refine AO.op rfl (AOp.iadd rfl rfl (ltb rfl) rfl rfl rfl q24.1 q24.2 ?_)
     refine AO.op rfl (AOp.assign rfl rfl (ltb rfl) rfl ?_)
     refine AO.nil ?_
     exact ⟨(((IntKind.u64.wrap x14) + g10.1) + (IntKind.u64.wrap x22)), _, rfl, (LeL.refl _), rfl, rfl, h1⟩
    replace h1 := cF h1 q21
    refine AC.skip ?_
    exact ⟨((IntKind.u64.wrap x14) + g10.1), _, rfl, (LeL.refl _), rfl, rfl, h1⟩
   intro g17 h1
   unfold p_addLimbs_k4 at h1
   refine AC.seq ?_
   refine AC.region ?_
   refine AO.op rfl (AOp.move rfl rfl (ltb rfl) rfl ?_)
   refine AO.op rfl (AOp.move rfl rfl (ltb rfl) rfl ?_)
   refine AO.op rfl (AOp.i2i rfl rfl (ltb rfl) rfl Tryz.underlying95 Tryz.underlying100 rfl ?_)
   refine AO.op rfl (AOp.buildSliceD rfl rfl (ltb rfl) el26 zero100 rfl (leb rfl) rfl rfl rfl rfl ?_)
   obtain ⟨q18, h1⟩ := need_elim h1
   refine AO.op rfl (AOp.appendOwn' (p := 0) (n := g10.2.2.length) (m := [(IntKind.u32.wrap g17)].length) (news := (List.map keS2 [(IntKind.u32.wrap g17)])) rfl rfl (ltb rfl) rfl rfl el26 info100 rfl (by decide) rfl (len1 _ _) (len1 _ _) (one1 _ (fun _ => rfl) _) q18 (by decide) rfl rfl (cat1 _ _ _) ?_)
   refine AO.op rfl (AOp.assign rfl rfl (ltb rfl) rfl ?_)
   refine AO.nil ?_
   change AC _ _ _ _
   refine AC.region ?_
   refine AO.op rfl (AOp.move rfl rfl (ltb rfl) rfl ?_)
   obtain ⟨q19, h1⟩ := need_elim h1
   refine AO.op rfl (AOp.ishr (n := 32) rfl rfl (ltb rfl) rfl rfl (by decide) q19 rfl ?_)
   refine AO.op rfl (AOp.assign rfl rfl (ltb rfl) rfl ?_)
   refine AO.nil ?_
   change AC _ _ _ _
   refine AC.region ?_
   obtain ⟨q20, h1⟩ := need_elim h1
   refine AO.op rfl (AOp.iadd rfl rfl (ltb rfl) rfl rfl rfl q20.1 q20.2 ?_)
   refine AO.op rfl (AOp.move rfl rfl (ltb rfl) rfl ?_)
   refine AO.nil ?_
   exact ⟨((g17 / 2 ^ 32), (g10.2.1 + (1 : Int)), (g10.2.2 ++ [(IntKind.u32.wrap g17)])), _, rfl, (LeL.refl _), rfl, rfl, h1⟩
  replace h1 := cF h1 q13
  refine AC.exit ?_
  obtain rfl := Option.some.inj h1
  exact ⟨(g10.1, g10.2.2), _, rfl, (LeL.refl _), rfl, rfl, aftL h0⟩
 intro g6 h0
 unfold p_addLimbs_k2 at h0
 change AC _ _ _ _
 refine AC.seq ?_
 refine AC.region ?_
 refine AO.op rfl (AOp.move rfl rfl (ltb rfl) rfl ?_)
 refine AO.op rfl (AOp.move rfl rfl (ltb rfl) rfl ?_)
 refine AO.op rfl (AOp.i2i rfl rfl (ltb rfl) rfl Tryz.underlying95 Tryz.underlying100 rfl ?_)
 refine AO.op rfl (AOp.buildSliceD rfl rfl (ltb rfl) el26 zero100 rfl (leb rfl) rfl rfl rfl rfl ?_)
 obtain ⟨q7, h0⟩ := need_elim h0
 refine AO.op rfl (AOp.appendOwn' (p := 0) (n := g6.2.length) (m := [(IntKind.u32.wrap g6.1)].length) (news := (List.map keS2 [(IntKind.u32.wrap g6.1)])) rfl rfl (ltb rfl) rfl rfl el26 info100 rfl (by decide) rfl (len1 _ _) (len1 _ _) (one1 _ (fun _ => rfl) _) q7 (by decide) rfl rfl (cat1 _ _ _) ?_)
 refine AO.freezeG 0 rfl rfl rfl ?_
 obtain ⟨y8, q9, h0⟩ := bind_elim h0
 refine AO.op rfl (AOp.callD rfl rfl (ltb rfl) rfl rfl (w_trim F (g6.2 ++ [(IntKind.u32.wrap g6.1)]) y8 q9) ?_)
 rintro _ rfl
 refine AO.op rfl (AOp.assign rfl rfl (ltb rfl) rfl ?_)
 refine AO.nil ?_
 change AC _ _ _ _
 refine AC.ret ?_
 change RetQ _ _ _ .ret _
 obtain rfl := Option.some.inj h0
 refine retq rfl rfl

set_option maxRecDepth 100000 in
set_option maxHeartbeats 4000000 in
/-- pub-orthodrome/spec.cmpLimbs -/
theorem w_cmpLimbs (F : Nat) (a0 : (List Int)) (a1 : (List Int)) (r0 : Int) (h0 : p_cmpLimbs F a0 a1 = some r0) : FnD Tryz.prog 56 [eS2 a0, eS2 a1] (fun r => r = di .i64 r0) := by
 refine FnD.of (by kernel_rfl) Tryz.func56 rfl Tryz.ntmps56 rfl (leb rfl) fun W ok => ?_
 unfold p_cmpLimbs at h0
 refine AC.seq ?_
 refine AC.region ?_
 refine AO.op rfl (AOp.assign rfl rfl (ltb rfl) rfl ?_)
 refine AO.nil ?_
 change AC _ _ _ _
 refine AC.seq ?_
 refine AC.seq ?_
 refine AC.region ?_
 refine AO.op rfl (AOp.move rfl rfl (ltb rfl) rfl ?_)
 refine AO.op rfl (AOp.lenDs (n := a0.length) (cells := (List.map keS2 a0)) rfl rfl (ltb rfl) rfl el26 (by decide) (len1 _ _) ?_)
 refine AO.op rfl (AOp.move rfl rfl (ltb rfl) rfl ?_)
 refine AO.op rfl (AOp.lenDs (n := a1.length) (cells := (List.map keS2 a1)) rfl rfl (ltb rfl) rfl el26 (by decide) (len1 _ _) ?_)
 refine AO.op rfl (AOp.ineq rfl rfl (ltb rfl) rfl rfl ?_)
 refine AO.nil ?_
 change AC _ _ _ _
 refine AC.cond rfl (fun q1 => ?_) (fun q1 => ?_)
 ·replace h0 := cT h0 q1
  refine AC.seq ?_
  refine AC.seq ?_
  refine AC.region ?_
  refine AO.op rfl (AOp.move rfl rfl (ltb rfl) rfl ?_)
  refine AO.op rfl (AOp.lenDs (n := a0.length) (cells := (List.map keS2 a0)) rfl rfl (ltb rfl) rfl el26 (by decide) (len1 _ _) ?_)
  refine AO.op rfl (AOp.move rfl rfl (ltb rfl) rfl ?_)
  refine AO.op rfl (AOp.lenDs (n := a1.length) (cells := (List.map keS2 a1)) rfl rfl (ltb rfl) rfl el26 (by decide) (len1 _ _) ?_)
  refine AO.op rfl (AOp.ilss rfl rfl (ltb rfl) rfl rfl ?_)
  refine AO.nil ?_
  change AC _ _ _ _
  refine AC.cond rfl (fun q2 => ?_) (fun q2 => ?_)
  ·replace h0 := cT h0 q2
   refine AC.seq ?_
   refine AC.region ?_
   refine AO.op rfl (AOp.assign rfl rfl (ltb rfl) rfl ?_)
   refine AO.nil ?_
   change AC _ _ _ _
   refine AC.ret ?_
   change RetQ _ _ _ .ret _
   obtain rfl := Option.some.inj h0
   refine retq rfl rfl
  replace h0 := cF h0 q2
  refine AC.skip ?_
  change AC _ _ _ _
  refine AC.seq ?_
  refine AC.region ?_
  refine AO.op rfl (AOp.assign rfl rfl (ltb rfl) rfl ?_)
  refine AO.nil ?_
  change AC _ _ _ _
  refine AC.ret ?_
  change RetQ _ _ _ .ret _
  obtain rfl := Option.some.inj h0
  refine retq rfl rfl
 replace h0 := cF h0 q1
 refine AC.skip ?_
 change AC _ _ _ _
 refine AC.seq ?_
 refine AC.seq ?_
 refine AC.region ?_
 refine AO.op rfl (AOp.move rfl rfl (ltb rfl) rfl ?_)
 refine AO.op rfl (AOp.lenDs (n := a0.length) (cells := (List.map keS2 a0)) rfl rfl (ltb rfl) rfl el26 (by decide) (len1 _ _) ?_)
 obtain ⟨q3, h0⟩ := need_elim h0
 refine AO.op rfl (AOp.isub rfl rfl (ltb rfl) rfl rfl rfl q3.1 q3.2 ?_)
 refine AO.op rfl (AOp.assign rfl rfl (ltb rfl) rfl ?_)
 refine AO.nil ?_
 change AC _ _ _ _
 obtain ⟨o4, l5, h0⟩ := bind_elim h0
 refine AC.joinE (V := Unit) [] [] 0 (fun g6 => []) (fun g6 => []) (fun g6 => p_cmpLimbs_k1 g6 = some r0) rfl ?_ ?_
 ·refine AC.block ?_
  refine AC.loopP (V := Int) (p_cmpLimbs_l2 a0 a1) o4 [0, 1] [5] 0 (fun g7 => [(5, .d (di .i64 g7))]) (fun g7 => []) F (((a0.length : Nat) : Int) - (1 : Int)) l5 rfl rfl (LeL.refl _) rfl rfl ?_
  intro n9 g7 h1
  unfold p_cmpLimbs_l2 at h1
  refine AC.seq ?_
  refine AC.seq ?_
  refine AC.region ?_
  refine AO.op rfl (AOp.move rfl rfl (ltb rfl) rfl ?_)
  refine AO.op rfl (AOp.igeq rfl rfl (ltb rfl) rfl rfl ?_)
  refine AO.nil ?_
  change AC _ _ _ _
  refine AC.cond rfl (fun q10 => ?_) (fun q10 => ?_)
  ·replace h1 := cT h1 q10
   refine AC.skip ?_
   change AC _ _ _ _
   refine AC.seq ?_
   refine AC.block ?_
   refine AC.seq ?_
   refine AC.draw 9 mixed (by kernel_rfl) ?_
   refine AD.op [0] rfl (by kernel_rfl) rfl rfl (fun _ _ h => AOp.move rfl rfl (ltb rfl) rfl h) ?_
   refine AD.op [5] rfl (by kernel_rfl) rfl rfl (fun _ _ h => AOp.move rfl rfl (ltb rfl) rfl h) ?_
   obtain ⟨x11, q12, h1⟩ := idx_elim h1
   refine AD.op [23, 24] rfl (by kernel_rfl) rfl rfl (fun _ _ h => AOp.indexDs (cells := (List.map keS2 a0)) rfl rfl (ltb rfl) rfl rfl el26 (by decide) q12.1 (lt1 q12.2) h) ?_
   refine AD.op [25] rfl (by kernel_rfl) rfl rfl (fun _ _ h => AOp.loadEp rfl rfl (ltb rfl) rfl agg100 (at1 q12.2) h) ?_
   refine AD.op [1] rfl (by kernel_rfl) rfl rfl (fun _ _ h => AOp.move rfl rfl (ltb rfl) rfl h) ?_
   refine AD.op [5] rfl (by kernel_rfl) rfl rfl (fun _ _ h => AOp.move rfl rfl (ltb rfl) rfl h) ?_
   obtain ⟨x13, q14, h1⟩ := idx_elim h1
   refine AD.op [27, 28] rfl (by kernel_rfl) rfl rfl (fun _ _ h => AOp.indexDs (cells := (List.map keS2 a1)) rfl rfl (ltb rfl) rfl rfl el26 (by decide) q14.1 (lt1 q14.2) h) ?_
   refine AD.op [29] rfl (by kernel_rfl) rfl rfl (fun _ _ h => AOp.loadEp rfl rfl (ltb rfl) rfl agg100 (at1 q14.2) h) ?_
   refine AD.op [26, 30] rfl (by kernel_rfl) rfl rfl (fun _ _ h => AOp.ineq rfl rfl (ltb rfl) rfl rfl h) ?_
   refine AD.done ?_
   refine AO.nil ?_
   change AC _ _ _ _
   refine AC.cond rfl (fun q15 => ?_) (fun q15 => ?_)
   ·replace h1 := cT h1 q15
    refine AC.seq ?_
    refine AC.seq ?_
    refine AC.draw 9 mixed (by kernel_rfl) ?_
    refine AD.op [0] rfl (by kernel_rfl) rfl rfl (fun _ _ h => AOp.move rfl rfl (ltb rfl) rfl h) ?_
    refine AD.op [5] rfl (by kernel_rfl) rfl rfl (fun _ _ h => AOp.move rfl rfl (ltb rfl) rfl h) ?_
    obtain ⟨x16, q17, h1⟩ := idx_elim h1
    refine AD.op [32, 33] rfl (by kernel_rfl) rfl rfl (fun _ _ h => AOp.indexDs (cells := (List.map keS2 a0)) rfl rfl (ltb rfl) rfl rfl el26 (by decide) q17.1 (lt1 q17.2) h) ?_
    refine AD.op [34] rfl (by kernel_rfl) rfl rfl (fun _ _ h => AOp.loadEp rfl rfl (ltb rfl) rfl agg100 (at1 q17.2) h) ?_
    refine AD.op [1] rfl (by kernel_rfl) rfl rfl (fun _ _ h => AOp.move rfl rfl (ltb rfl) rfl h) ?_
    refine AD.op [5] rfl (by kernel_rfl) rfl rfl (fun _ _ h => AOp.move rfl rfl (ltb rfl) rfl h) ?_
    obtain ⟨x18, q19, h1⟩ := idx_elim h1
    refine AD.op [36, 37] rfl (by kernel_rfl) rfl rfl (fun _ _ h => AOp.indexDs (cells := (List.map keS2 a1)) rfl rfl (ltb rfl) rfl rfl el26 (by decide) q19.1 (lt1 q19.2) h) ?_
    refine AD.op [38] rfl (by kernel_rfl) rfl rfl (fun _ _ h => AOp.loadEp rfl rfl (ltb rfl) rfl agg100 (at1 q19.2) h) ?_
    refine AD.op [35, 39] rfl (by kernel_rfl) rfl rfl (fun _ _ h => AOp.ilss rfl rfl (ltb rfl) rfl rfl h) ?_
    refine AD.done ?_
    refine AO.nil ?_
    change AC _ _ _ _
    refine AC.cond rfl (fun q20 => ?_) (fun q20 => ?_)
    ·replace h1 := cT h1 q20
     refine AC.seq ?_
     refine AC.region ?_
     refine AO.op rfl (AOp.assign rfl rfl (ltb rfl) rfl ?_)
     refine AO.nil ?_
     change AC _ _ _ _
     refine AC.ret ?_
     change RetQ _ _ _ .ret _
     obtain rfl := Option.some.inj h1
     replace h0 := aftR h0
     obtain rfl := Option.some.inj h0
     refine retq rfl rfl
    replace h1 := cF h1 q20
    refine AC.skip ?_
    change AC _ _ _ _
    refine AC.seq ?_
    refine AC.region ?_
    refine AO.op rfl (AOp.assign rfl rfl (ltb rfl) rfl ?_)
    refine AO.nil ?_
    change AC _ _ _ _
    refine AC.ret ?_
    change RetQ _ _ _ .ret _
    obtain rfl := Option.some.inj h1
    replace h0 := aftR h0
    obtain rfl := Option.some.inj h0
    refine retq rfl rfl
   replace h1 := cF h1 q15
   refine AC.skip ?_
   change AC _ _ _ _
   refine AC.region ?_
   refine AO.op rfl (AOp.move rfl rfl (ltb rfl) rfl ?_)
   obtain ⟨q21, h1⟩ := need_elim h1
   refine AO.op rfl (AOp.isub rfl rfl (ltb rfl) rfl rfl rfl q21.1 q21.2 ?_)
   refine AO.op rfl (AOp.assign rfl rfl (ltb rfl) rfl ?_)
   refine AO.nil ?_
   exact ⟨(g7 - (1 : Int)), _, rfl, (LeL.refl _), rfl, rfl, h1⟩
  replace h1 := cF h1 q10
  refine AC.exit ?_
  obtain rfl := Option.some.inj h1
  exact ⟨(), _, rfl, (LeL.refl _), rfl, rfl, aftL h0⟩
 intro g6 h0
 unfold p_cmpLimbs_k1 at h0
 change AC _ _ _ _
 refine AC.seq ?_
 refine AC.region ?_
 refine AO.op rfl (AOp.assign rfl rfl (ltb rfl) rfl ?_)
 refine AO.nil ?_
 change AC _ _ _ _
 refine AC.ret ?_
 change RetQ _ _ _ .ret _
 obtain rfl := Option.some.inj h0
 refine retq rfl rfl

set_option maxRecDepth 100000 in
set_option maxHeartbeats 4000000 in
/-- pub-orthodrome/spec.subLimbs -/
theorem w_subLimbs (F : Nat) (a0 : (List Int)) (a1 : (List Int)) (r0 : (List Int)) (h0 : p_subLimbs F a0 a1 = some r0) : FnD Tryz.prog 57 [eS2 a0, eS2 a1] (fun r => r = eS2 r0) := by
 refine FnD.of (by kernel_rfl) Tryz.func57 rfl Tryz.ntmps57 rfl (leb rfl) fun W ok => ?_
 unfold p_subLimbs at h0
 refine AC.seq ?_
 refine AC.region ?_
 refine AO.op rfl (AOp.assign rfl rfl (ltb rfl) rfl ?_)
 refine AO.nil ?_
 change AC _ _ _ _
 refine AC.seq ?_
 refine AC.region ?_
 refine AO.op rfl (AOp.move rfl rfl (ltb rfl) rfl ?_)
 refine AO.op rfl (AOp.lenDs (n := a0.length) (cells := (List.map keS2 a0)) rfl rfl (ltb rfl) rfl el26 (by decide) (len1 _ _) ?_)
 obtain ⟨q1, h0⟩ := need_elim h0
 refine AO.op rfl (AOp.makeOwn0 rfl rfl (ltb rfl) rfl rfl el26 info100 (by decide) q1 ?_)
 refine AO.op rfl (AOp.assign rfl rfl (ltb rfl) rfl ?_)
 refine AO.nil ?_
 change AC _ _ _ _
 refine AC.seq ?_
 refine AC.region ?_
 refine AO.op rfl (AOp.assign rfl rfl (ltb rfl) rfl ?_)
 refine AO.nil ?_
 change AC _ _ _ _
 refine AC.seq ?_
 refine AC.seq ?_
 refine AC.region ?_
 refine AO.op rfl (AOp.move rfl rfl (ltb rfl) rfl ?_)
 refine AO.op rfl (AOp.lenDs (n := a0.length) (cells := (List.map keS2 a0)) rfl rfl (ltb rfl) rfl el26 (by decide) (len1 _ _) ?_)
 refine AO.op rfl (AOp.move rfl rfl (ltb rfl) rfl ?_)
 refine AO.nil ?_
 change AC _ _ _ _
 obtain ⟨o2, l3, h0⟩ := bind_elim h0
 refine AC.joinE (V := (List Int)) [] [5] 1 (fun g4 => [(5, .own 0)]) (fun g4 => [.grow 100 1 (List.map keS2 g4)]) (fun g4 => (p_subLimbs_k1 F) g4 = some r0) rfl ?_ ?_
 ·refine AC.block ?_
  refine AC.loopP (V := (Int × Int × (List Int))) (p_subLimbs_l2 a0 a1) o2 [1, 13, 14] [5, 6, 15] 1 (fun g7 => [(5, .own 0), (6, .d (di .u64 g7.1)), (15, .d (di .i64 g7.2.1))]) (fun g7 => [.grow 100 1 (List.map keS2 g7.2.2)]) F ((0 : Int), (0 : Int), []) l3 rfl rfl (LeL.refl _) rfl rfl ?_
  intro n9 g7 h1
  unfold p_subLimbs_l2 at h1
  refine AC.seq ?_
  refine AC.region ?_
  refine AO.op rfl (AOp.ilss rfl rfl (ltb rfl) rfl rfl ?_)
  refine AO.nil ?_
  change AC _ _ _ _
  refine AC.seq ?_
  refine AC.cond rfl (fun q10 => ?_) (fun q10 => ?_)
  ·replace h1 := cT h1 q10
   refine AC.skip ?_
   change AC _ _ _ _
   refine AC.seq ?_
   refine AC.block ?_
   refine AC.seq ?_
   refine AC.region ?_
   refine AO.op rfl (AOp.move rfl rfl (ltb rfl) rfl ?_)
   obtain ⟨x11, q12, h1⟩ := idx_elim h1
   refine AO.op rfl (AOp.indexDs (cells := (List.map keS2 a0)) rfl rfl (ltb rfl) rfl rfl el26 (by decide) q12.1 (lt1 q12.2) ?_)
   refine AO.op rfl (AOp.loadEp rfl rfl (ltb rfl) rfl agg100 (at1 q12.2) ?_)
   refine AO.op rfl (AOp.assign rfl rfl (ltb rfl) rfl ?_)
   refine AO.op rfl (AOp.assign rfl rfl (ltb rfl) rfl ?_)
   refine AO.nil ?_
   change AC _ _ _ _
   refine AC.seq ?_
   refine AC.region ?_
   refine AO.op rfl (AOp.move rfl rfl (ltb rfl) rfl ?_)
   refine AO.op rfl (AOp.assign rfl rfl (ltb rfl) rfl ?_)
   refine AO.nil ?_
   change AC _ _ _ _
   refine AC.joinP (V := Int) [1, 5, 8, 13, 14, 15] [9] 1 (fun g13 => [(9, .d (di .u64 g13))]) (fun g13 => [.grow 100 1 (List.map keS2 g7.2.2)]) (fun g13 => (p_subLimbs_k3 g7 (iter (p_subLimbs_l2 a0 a1) n9) x11) g13 = some o2) rfl ?_ ?_
   ·refine AC.seq ?_
    refine AC.region ?_
    refine AO.op rfl (AOp.move rfl rfl (ltb rfl) rfl ?_)
    refine AO.op rfl (AOp.move rfl rfl (ltb rfl) rfl ?_)
    refine AO.op rfl (AOp.lenDs (n := a1.length) (cells := (List.map keS2 a1)) rfl rfl (ltb rfl) rfl el26 (by decide) (len1 _ _) ?_)
    refine AO.op rfl (AOp.ilss rfl rfl (ltb rfl) rfl rfl ?_)
    refine AO.nil ?_
    change AC _ _ _ _
    refine AC.cond rfl (fun q20 => ?_) (fun q20 => ?_)
    ·replace h1 := cT h1 q20
     refine AC.region ?_
     refine AO.op rfl (AOp.move rfl rfl (ltb rfl) rfl ?_)
     refine AO.op rfl (AOp.move rfl rfl (ltb rfl) rfl ?_)
     refine AO.op rfl (AOp.move rfl rfl (ltb rfl) rfl ?_)
     obtain ⟨x21, q22, h1⟩ := idx_elim h1
     refine AO.op rfl (AOp.indexDs (cells := (List.map keS2 a1)) rfl rfl (ltb rfl) rfl rfl el26 (by decide) q22.1 (lt1 q22.2) ?_)
     refine AO.op rfl (AOp.loadEp rfl rfl (ltb rfl) rfl agg100 (at1 q22.2) ?_)
     refine AO.op rfl (AOp.i2i rfl rfl (ltb rfl) rfl Tryz.underlying100 Tryz.underlying95 rfl ?_)
     obtain ⟨q23, h1⟩ := need_elim h1
     refine AO.op rfl (AOp.iadd rfl rfl (ltb rfl) rfl rfl rfl q23.1 q23.2 ?_)
     refine AO.op rfl (AOp.assign rfl rfl (ltb rfl) rfl ?_)
     refine AO.nil ?_
     exact ⟨(g7.1 + (IntKind.u64.wrap x21)), _, rfl, (LeL.refl _), rfl, rfl, h1⟩
    replace h1 := cF h1 q20
    refine AC.skip ?_
    exact ⟨g7.1, _, rfl, (LeL.refl _), rfl, rfl, h1⟩
   intro g13 h1
   unfold p_subLimbs_k3 at h1
   refine AC.seq ?_
   refine AC.region ?_
   refine AO.op rfl (AOp.assign rfl rfl (ltb rfl) rfl ?_)
   refine AO.nil ?_
   change AC _ _ _ _
   refine AC.joinP (V := Int) [1, 5, 8, 9, 13, 14, 15] [6] 1 (fun g14 => [(6, .d (di .u64 g14))]) (fun g14 => [.grow 100 1 (List.map keS2 g7.2.2)]) (fun g14 => (p_subLimbs_k4 g7 (iter (p_subLimbs_l2 a0 a1) n9) x11 g13) g14 = some o2) rfl ?_ ?_
   ·refine AC.seq ?_
    refine AC.region ?_
    refine AO.op rfl (AOp.move rfl rfl (ltb rfl) rfl ?_)
    refine AO.op rfl (AOp.i2i rfl rfl (ltb rfl) rfl Tryz.underlying100 Tryz.underlying95 rfl ?_)
    refine AO.op rfl (AOp.move rfl rfl (ltb rfl) rfl ?_)
    refine AO.op rfl (AOp.ilss rfl rfl (ltb rfl) rfl rfl ?_)
    refine AO.nil ?_
    change AC _ _ _ _
    refine AC.cond rfl (fun q19 => ?_) (fun q19 => ?_)
    ·replace h1 := cT h1 q19
     refine AC.region ?_
     refine AO.op rfl (AOp.assign rfl rfl (ltb rfl) rfl ?_)
     refine AO.nil ?_
     exact ⟨(1 : Int), _, rfl, (LeL.refl _), rfl, rfl, h1⟩
    replace h1 := cF h1 q19
    refine AC.skip ?_
    exact ⟨(0 : Int), _, rfl, (LeL.refl _), rfl, rfl, h1⟩
   intro g14 h1
   unfold p_subLimbs_k4 at h1
   refine AC.region ?_
   refine AO.op rfl (AOp.move rfl rfl (ltb rfl) rfl ?_)
   refine AO.op rfl (AOp.move rfl rfl (ltb rfl) rfl ?_)
   refine AO.op rfl (AOp.i2i rfl rfl (ltb rfl) rfl Tryz.underlying100 Tryz.underlying95 rfl ?_)
   refine AO.op rfl (AOp.move rfl rfl (ltb rfl) rfl ?_)
   refine AO.op rfl (AOp.ishl (n := 32) rfl rfl (ltb rfl) rfl rfl (by decide) rfl ?_)
   obtain ⟨q15, h1⟩ := need_elim h1
   refine AO.op rfl (AOp.iadd rfl rfl (ltb rfl) rfl rfl rfl q15.1 q15.2 ?_)
   refine AO.op rfl (AOp.move rfl rfl (ltb rfl) rfl ?_)
   obtain ⟨q16, h1⟩ := need_elim h1
   refine AO.op rfl (AOp.isub rfl rfl (ltb rfl) rfl rfl rfl q16.1 q16.2 ?_)
   refine AO.op rfl (AOp.i2i rfl rfl (ltb rfl) rfl Tryz.underlying95 Tryz.underlying100 rfl ?_)
   refine AO.op rfl (AOp.buildSliceD rfl rfl (ltb rfl) el26 zero100 rfl (leb rfl) rfl rfl rfl rfl ?_)
   obtain ⟨q17, h1⟩ := need_elim h1
   refine AO.op rfl (AOp.appendOwn' (p := 0) (n := g7.2.2.length) (m := [(IntKind.u32.wrap (((IntKind.u64.wrap x11) + (IntKind.u64.wrap (g14 * 2 ^ 32))) - g13))].length) (news := (List.map keS2 [(IntKind.u32.wrap (((IntKind.u64.wrap x11) + (IntKind.u64.wrap (g14 * 2 ^ 32))) - g13))])) rfl rfl (ltb rfl) rfl rfl el26 info100 rfl (by decide) rfl (len1 _ _) (len1 _ _) (one1 _ (fun _ => rfl) _) q17 (by decide) rfl rfl (cat1 _ _ _) ?_)
   refine AO.op rfl (AOp.assign rfl rfl (ltb rfl) rfl ?_)
   refine AO.nil ?_
   change AC _ _ _ _
   refine AC.region ?_
   obtain ⟨q18, h1⟩ := need_elim h1
   refine AO.op rfl (AOp.iadd rfl rfl (ltb rfl) rfl rfl rfl q18.1 q18.2 ?_)
   refine AO.op rfl (AOp.move rfl rfl (ltb rfl) rfl ?_)
   refine AO.nil ?_
   exact ⟨(g14, (g7.2.1 + (1 : Int)), (g7.2.2 ++ [(IntKind.u32.wrap (((IntKind.u64.wrap x11) + (IntKind.u64.wrap (g14 * 2 ^ 32))) - g13))])), _, rfl, (LeL.refl _), rfl, rfl, h1⟩
  replace h1 := cF h1 q10
  refine AC.exit ?_
  obtain rfl := Option.some.inj h1
  exact ⟨g7.2.2, _, rfl, (LeL.refl _), rfl, rfl, aftL h0⟩
 intro g4 h0
 unfold p_subLimbs_k1 at h0
 change AC _ _ _ _
 refine AC.seq ?_
 refine AC.region ?_
 refine AO.op rfl (AOp.move rfl rfl (ltb rfl) rfl ?_)
 refine AO.freezeG 0 rfl rfl rfl ?_
 obtain ⟨y5, q6, h0⟩ := bind_elim h0
 refine AO.op rfl (AOp.callD rfl rfl (ltb rfl) rfl rfl (w_trim F g4 y5 q6) ?_)
 rintro _ rfl
 refine AO.op rfl (AOp.assign rfl rfl (ltb rfl) rfl ?_)
 refine AO.nil ?_
 change AC _ _ _ _
 refine AC.ret ?_
 change RetQ _ _ _ .ret _
 obtain rfl := Option.some.inj h0
 refine retq rfl rfl

set_option maxRecDepth 100000 in
set_option maxHeartbeats 4000000 in
/-- (pub-orthodrome/spec.Whole).Add -/
theorem w_Whole_Add (F : Nat) (a0 : TSpec_Whole) (a1 : TSpec_Whole) (r0 : TSpec_Whole) (h0 : p_Whole_Add F a0 a1 = some r0) : FnD Tryz.prog 40 [e_TSpec_Whole a0, e_TSpec_Whole a1] (fun r => r = e_TSpec_Whole r0) := by
 refine FnD.of (by kernel_rfl) Tryz.func40 rfl Tryz.ntmps40 rfl (leb rfl) fun W ok => ?_
 unfold p_Whole_Add at h0
 refine AC.seq ?_
 refine AC.region ?_
 refine AO.op rfl (AOp.box rfl rfl (ltb rfl) rfl rfl ?_)
 refine AO.op rfl (AOp.box rfl rfl (ltb rfl) rfl rfl ?_)
 refine AO.op rfl (AOp.alloc rfl rfl (ltb rfl) zero28 rfl ?_)
 refine AO.nil ?_
 change AC _ _ _ _
 refine AC.seq ?_
 refine AC.seq ?_
 refine AC.region ?_
 refine AO.op rfl (AOp.fieldAddr rfl rfl (ltb rfl) rfl fo28_0 ?_)
 refine AO.op rfl (AOp.load1 rfl rfl (ltb rfl) rfl agg4 rfl rfl ?_)
 refine AO.op rfl (AOp.fieldAddr rfl rfl (ltb rfl) rfl fo28_0 ?_)
 refine AO.op rfl (AOp.load1 rfl rfl (ltb rfl) rfl agg4 rfl rfl ?_)
 refine AO.op rfl (AOp.beql Tryz.underlying4 rfl rfl (ltb rfl) rfl rfl ?_)
 refine AO.nil ?_
 change AC _ _ _ _
 refine AC.cond rfl (fun q1 => ?_) (fun q1 => ?_)
 ·replace h0 := cT h0 q1
  refine AC.seq ?_
  refine AC.draw 8 mixed (by kernel_rfl) ?_
  refine AD.op [2] rfl (by kernel_rfl) rfl rfl (fun _ _ h => AOp.fieldAddr rfl rfl (ltb rfl) rfl fo28_0 h) ?_
  refine AD.op [10] rfl (by kernel_rfl) rfl rfl (fun _ _ h => AOp.load1 rfl rfl (ltb rfl) rfl agg4 rfl rfl h) ?_
  refine AD.op [2] rfl (by kernel_rfl) rfl rfl (fun _ _ h => AOp.fieldAddr rfl rfl (ltb rfl) rfl fo28_1 h) ?_
  refine AD.op [12] rfl (by kernel_rfl) rfl rfl (fun _ _ h => AOp.load1 rfl rfl (ltb rfl) rfl agg26 rfl rfl h) ?_
  refine AD.op [3] rfl (by kernel_rfl) rfl rfl (fun _ _ h => AOp.fieldAddr rfl rfl (ltb rfl) rfl fo28_1 h) ?_
  refine AD.op [14] rfl (by kernel_rfl) rfl rfl (fun _ _ h => AOp.load1 rfl rfl (ltb rfl) rfl agg26 rfl rfl h) ?_
  obtain ⟨y2, q3, h0⟩ := bind_elim h0
  refine AD.op [13, 15] rfl (by kernel_rfl) rfl rfl (fun _ _ h => AOp.callD rfl rfl (ltb rfl) rfl rfl (w_addLimbs F a0.L a1.L y2 q3) (by rintro _ rfl; exact h)) ?_
  refine AD.op [11, 16] rfl (by kernel_rfl) rfl rfl (fun _ _ h => AOp.build rfl rfl (ltb rfl) zero28 rfl places28 rfl rfl h) ?_
  refine AD.done ?_
  refine AO.op rfl (AOp.store rfl rfl rfl rfl size28 rfl rfl rfl (leb rfl) ?_)
  refine AO.nil ?_
  change AC _ _ _ _
  refine AC.ret ?_
  change RetQ _ _ _ .ret _
  obtain rfl := Option.some.inj h0
  refine retq rfl rfl
 replace h0 := cF h0 q1
 refine AC.skip ?_
 change AC _ _ _ _
 refine AC.seq ?_
 refine AC.seq ?_
 refine AC.region ?_
 refine AO.op rfl (AOp.fieldAddr rfl rfl (ltb rfl) rfl fo28_1 ?_)
 refine AO.op rfl (AOp.load1 rfl rfl (ltb rfl) rfl agg26 rfl rfl ?_)
 refine AO.op rfl (AOp.fieldAddr rfl rfl (ltb rfl) rfl fo28_1 ?_)
 refine AO.op rfl (AOp.load1 rfl rfl (ltb rfl) rfl agg26 rfl rfl ?_)
 obtain ⟨y4, q5, h0⟩ := bind_elim h0
 refine AO.op rfl (AOp.callD rfl rfl (ltb rfl) rfl rfl (w_cmpLimbs F a0.L a1.L y4 q5) ?_)
 rintro _ rfl
 refine AO.nil ?_
 change AC _ _ _ _
 refine AC.block ?_
 refine AC.seq ?_
 refine AC.region ?_
 refine AO.op rfl (AOp.ieql rfl rfl (ltb rfl) rfl rfl ?_)
 refine AO.op rfl (AOp.assign rfl rfl (ltb rfl) rfl ?_)
 refine AO.nil ?_
 change AC _ _ _ _
 refine AC.cond rfl (fun q6 => ?_) (fun q6 => ?_)
 ·replace h0 := cT h0 q6
  refine AC.seq ?_
  refine AC.region ?_
  refine AO.op rfl (AOp.build rfl rfl (ltb rfl) zero28 rfl places28 rfl rfl ?_)
  refine AO.op rfl (AOp.store rfl rfl rfl rfl size28 rfl rfl rfl (leb rfl) ?_)
  refine AO.nil ?_
  change AC _ _ _ _
  refine AC.subO 2 rfl (.cons (SVLe.refl _) (.cons (SVLe.nil 1) .nil)) ?_
  refine AC.ret ?_
  change RetQ _ _ _ .ret _
  obtain rfl := Option.some.inj h0
  refine retq rfl rfl
 replace h0 := cF h0 q6
 refine AC.seq ?_
 refine AC.region ?_
 refine AO.op rfl (AOp.ieql rfl rfl (ltb rfl) rfl rfl ?_)
 refine AO.op rfl (AOp.assign rfl rfl (ltb rfl) rfl ?_)
 refine AO.nil ?_
 change AC _ _ _ _
 refine AC.cond rfl (fun q7 => ?_) (fun q7 => ?_)
 ·replace h0 := cT h0 q7
  refine AC.seq ?_
  refine AC.draw 8 mixed (by kernel_rfl) ?_
  refine AD.op [2] rfl (by kernel_rfl) rfl rfl (fun _ _ h => AOp.fieldAddr rfl rfl (ltb rfl) rfl fo28_0 h) ?_
  refine AD.op [28] rfl (by kernel_rfl) rfl rfl (fun _ _ h => AOp.load1 rfl rfl (ltb rfl) rfl agg4 rfl rfl h) ?_
  refine AD.op [2] rfl (by kernel_rfl) rfl rfl (fun _ _ h => AOp.fieldAddr rfl rfl (ltb rfl) rfl fo28_1 h) ?_
  refine AD.op [30] rfl (by kernel_rfl) rfl rfl (fun _ _ h => AOp.load1 rfl rfl (ltb rfl) rfl agg26 rfl rfl h) ?_
  refine AD.op [3] rfl (by kernel_rfl) rfl rfl (fun _ _ h => AOp.fieldAddr rfl rfl (ltb rfl) rfl fo28_1 h) ?_
  refine AD.op [32] rfl (by kernel_rfl) rfl rfl (fun _ _ h => AOp.load1 rfl rfl (ltb rfl) rfl agg26 rfl rfl h) ?_
  obtain ⟨y8, q9, h0⟩ := bind_elim h0
  refine AD.op [31, 33] rfl (by kernel_rfl) rfl rfl (fun _ _ h => AOp.callD rfl rfl (ltb rfl) rfl rfl (w_subLimbs F a0.L a1.L y8 q9) (by rintro _ rfl; exact h)) ?_
  refine AD.op [29, 34] rfl (by kernel_rfl) rfl rfl (fun _ _ h => AOp.build rfl rfl (ltb rfl) zero28 rfl places28 rfl rfl h) ?_
  refine AD.done ?_
  refine AO.op rfl (AOp.store rfl rfl rfl rfl size28 rfl rfl rfl (leb rfl) ?_)
  refine AO.nil ?_
  change AC _ _ _ _
  refine AC.ret ?_
  change RetQ _ _ _ .ret _
  obtain rfl := Option.some.inj h0
  refine retq rfl rfl
 replace h0 := cF h0 q7
 refine AC.skip ?_
 change AC _ _ _ _
 refine AC.seq ?_
 refine AC.draw 8 mixed (by kernel_rfl) ?_
 refine AD.op [3] rfl (by kernel_rfl) rfl rfl (fun _ _ h => AOp.fieldAddr rfl rfl (ltb rfl) rfl fo28_0 h) ?_
 refine AD.op [36] rfl (by kernel_rfl) rfl rfl (fun _ _ h => AOp.load1 rfl rfl (ltb rfl) rfl agg4 rfl rfl h) ?_
 refine AD.op [3] rfl (by kernel_rfl) rfl rfl (fun _ _ h => AOp.fieldAddr rfl rfl (ltb rfl) rfl fo28_1 h) ?_
 refine AD.op [38] rfl (by kernel_rfl) rfl rfl (fun _ _ h => AOp.load1 rfl rfl (ltb rfl) rfl agg26 rfl rfl h) ?_
 refine AD.op [2] rfl (by kernel_rfl) rfl rfl (fun _ _ h => AOp.fieldAddr rfl rfl (ltb rfl) rfl fo28_1 h) ?_
 refine AD.op [40] rfl (by kernel_rfl) rfl rfl (fun _ _ h => AOp.load1 rfl rfl (ltb rfl) rfl agg26 rfl rfl h) ?_
 obtain ⟨y10, q11, h0⟩ := bind_elim h0
 refine AD.op [39, 41] rfl (by kernel_rfl) rfl rfl (fun _ _ h => AOp.callD rfl rfl (ltb rfl) rfl rfl (w_subLimbs F a1.L a0.L y10 q11) (by rintro _ rfl; exact h)) ?_
 refine AD.op [37, 42] rfl (by kernel_rfl) rfl rfl (fun _ _ h => AOp.build rfl rfl (ltb rfl) zero28 rfl places28 rfl rfl h) ?_
 refine AD.done ?_
 refine AO.op rfl (AOp.store rfl rfl rfl rfl size28 rfl rfl rfl (leb rfl) ?_)
 refine AO.nil ?_
 change AC _ _ _ _
 refine AC.ret ?_
 change RetQ _ _ _ .ret _
 obtain rfl := Option.some.inj h0
 refine retq rfl rfl

set_option maxRecDepth 100000 in
set_option maxHeartbeats 4000000 in
/-- (pub-orthodrome/spec.Dyadic).Add -/
theorem w_Dyadic_Add (F : Nat) (a0 : TSpec_Dyadic) (a1 : TSpec_Dyadic) (r0 : TSpec_Dyadic) (h0 : p_Dyadic_Add F a0 a1 = some r0) : FnD Tryz.prog 20 [e_TSpec_Dyadic a0, e_TSpec_Dyadic a1] (fun r => r = e_TSpec_Dyadic r0) := by
 refine FnD.of (by kernel_rfl) Tryz.func20 rfl Tryz.ntmps20 rfl (leb rfl) fun W ok => ?_
 unfold p_Dyadic_Add at h0
 refine AC.seq ?_
 refine AC.region ?_
 refine AO.op rfl (AOp.box rfl rfl (ltb rfl) rfl rfl ?_)
 refine AO.op rfl (AOp.box rfl rfl (ltb rfl) rfl rfl ?_)
 refine AO.op rfl (AOp.alloc rfl rfl (ltb rfl) zero30 rfl ?_)
 refine AO.nil ?_
 change AC _ _ _ _
 refine AC.seq ?_
 refine AC.block ?_
 refine AC.seq ?_
 refine AC.region ?_
 refine AO.op rfl (AOp.loadN rfl rfl (ltb rfl) rfl agg30 size30 rfl (leb rfl) rfl ?_)
 obtain ⟨y1, q2, h0⟩ := bind_elim h0
 refine AO.op rfl (AOp.callD rfl rfl (ltb rfl) rfl rfl (w_Dyadic_Sign a0 y1 q2) ?_)
 rintro _ rfl
 refine AO.op rfl (AOp.ieql rfl rfl (ltb rfl) rfl rfl ?_)
 refine AO.op rfl (AOp.assign rfl rfl (ltb rfl) rfl ?_)
 refine AO.nil ?_
 change AC _ _ _ _
 refine AC.cond rfl (fun q3 => ?_) (fun q3 => ?_)
 ·replace h0 := cT h0 q3
  refine AC.seq ?_
  refine AC.region ?_
  refine AO.op rfl (AOp.loadN rfl rfl (ltb rfl) rfl agg30 size30 rfl (leb rfl) rfl ?_)
  refine AO.op rfl (AOp.store rfl rfl rfl rfl size30 rfl rfl rfl (leb rfl) ?_)
  refine AO.nil ?_
  change AC _ _ _ _
  refine AC.ret ?_
  change RetQ _ _ _ .ret _
  obtain rfl := Option.some.inj h0
  refine retq rfl rfl
 replace h0 := cF h0 q3
 refine AC.seq ?_
 refine AC.region ?_
 refine AO.op rfl (AOp.loadN rfl rfl (ltb rfl) rfl agg30 size30 rfl (leb rfl) rfl ?_)
 obtain ⟨y4, q5, h0⟩ := bind_elim h0
 refine AO.op rfl (AOp.callD rfl rfl (ltb rfl) rfl rfl (w_Dyadic_Sign a1 y4 q5) ?_)
 rintro _ rfl
 refine AO.op rfl (AOp.ieql rfl rfl (ltb rfl) rfl rfl ?_)
 refine AO.op rfl (AOp.assign rfl rfl (ltb rfl) rfl ?_)
 refine AO.nil ?_
 change AC _ _ _ _
 refine AC.cond rfl (fun q6 => ?_) (fun q6 => ?_)
 ·replace h0 := cT h0 q6
  refine AC.seq ?_
  refine AC.region ?_
  refine AO.op rfl (AOp.loadN rfl rfl (ltb rfl) rfl agg30 size30 rfl (leb rfl) rfl ?_)
  refine AO.op rfl (AOp.store rfl rfl rfl rfl size30 rfl rfl rfl (leb rfl) ?_)
  refine AO.nil ?_
  change AC _ _ _ _
  refine AC.ret ?_
  change RetQ _ _ _ .ret _
  obtain rfl := Option.some.inj h0
  refine retq rfl rfl
 replace h0 := cF h0 q6
 refine AC.seq ?_
 refine AC.region ?_
 refine AO.op rfl (AOp.fieldAddr rfl rfl (ltb rfl) rfl fo30_1 ?_)
 refine AO.op rfl (AOp.load1 rfl rfl (ltb rfl) rfl agg3 rfl rfl ?_)
 refine AO.op rfl (AOp.fieldAddr rfl rfl (ltb rfl) rfl fo30_1 ?_)
 refine AO.op rfl (AOp.load1 rfl rfl (ltb rfl) rfl agg3 rfl rfl ?_)
 refine AO.op rfl (AOp.igtr rfl rfl (ltb rfl) rfl rfl ?_)
 refine AO.op rfl (AOp.assign rfl rfl (ltb rfl) rfl ?_)
 refine AO.nil ?_
 change AC _ _ _ _
 refine AC.cond rfl (fun q7 => ?_) (fun q7 => ?_)
 ·replace h0 := cT h0 q7
  refine AC.seq ?_
  refine AC.draw 14 mixed (by kernel_rfl) ?_
  refine AD.op [2] rfl (by kernel_rfl) rfl rfl (fun _ _ h => AOp.fieldAddr rfl rfl (ltb rfl) rfl fo30_0 h) ?_
  refine AD.op [21] rfl (by kernel_rfl) rfl rfl (fun _ _ h => AOp.loadN rfl rfl (ltb rfl) rfl agg28 size28 rfl (leb rfl) rfl h) ?_
  refine AD.op [2] rfl (by kernel_rfl) rfl rfl (fun _ _ h => AOp.fieldAddr rfl rfl (ltb rfl) rfl fo30_1 h) ?_
  refine AD.op [23] rfl (by kernel_rfl) rfl rfl (fun _ _ h => AOp.load1 rfl rfl (ltb rfl) rfl agg3 rfl rfl h) ?_
  refine AD.op [3] rfl (by kernel_rfl) rfl rfl (fun _ _ h => AOp.fieldAddr rfl rfl (ltb rfl) rfl fo30_1 h) ?_
  refine AD.op [25] rfl (by kernel_rfl) rfl rfl (fun _ _ h => AOp.load1 rfl rfl (ltb rfl) rfl agg3 rfl rfl h) ?_
  obtain ⟨q8, h0⟩ := need_elim h0
  refine AD.op [24, 26] rfl (by kernel_rfl) rfl rfl (fun _ _ h => AOp.isub rfl rfl (ltb rfl) rfl rfl rfl q8.1 q8.2 h) ?_
  obtain ⟨y9, q10, h0⟩ := bind_elim h0
  refine AD.op [22, 27] rfl (by kernel_rfl) rfl rfl (fun _ _ h => AOp.callD rfl rfl (ltb rfl) rfl rfl (w_Whole_Up F a0.N (a0.E - a1.E) y9 q10) (by rintro _ rfl; exact h)) ?_
  refine AD.op [3] rfl (by kernel_rfl) rfl rfl (fun _ _ h => AOp.fieldAddr rfl rfl (ltb rfl) rfl fo30_0 h) ?_
  refine AD.op [29] rfl (by kernel_rfl) rfl rfl (fun _ _ h => AOp.loadN rfl rfl (ltb rfl) rfl agg28 size28 rfl (leb rfl) rfl h) ?_
  obtain ⟨y11, q12, h0⟩ := bind_elim h0
  refine AD.op [28, 30] rfl (by kernel_rfl) rfl rfl (fun _ _ h => AOp.callD rfl rfl (ltb rfl) rfl rfl (w_Whole_Add F y9 a1.N y11 q12) (by rintro _ rfl; exact h)) ?_
  refine AD.op [3] rfl (by kernel_rfl) rfl rfl (fun _ _ h => AOp.fieldAddr rfl rfl (ltb rfl) rfl fo30_1 h) ?_
  refine AD.op [32] rfl (by kernel_rfl) rfl rfl (fun _ _ h => AOp.load1 rfl rfl (ltb rfl) rfl agg3 rfl rfl h) ?_
  refine AD.op [31, 33] rfl (by kernel_rfl) rfl rfl (fun _ _ h => AOp.build rfl rfl (ltb rfl) zero30 rfl places30 rfl rfl h) ?_
  refine AD.done ?_
  refine AO.op rfl (AOp.store rfl rfl rfl rfl size30 rfl rfl rfl (leb rfl) ?_)
  refine AO.nil ?_
  change AC _ _ _ _
  refine AC.ret ?_
  change RetQ _ _ _ .ret _
  obtain rfl := Option.some.inj h0
  refine retq rfl rfl
 replace h0 := cF h0 q7
 refine AC.skip ?_
 change AC _ _ _ _
 refine AC.seq ?_
 refine AC.draw 14 mixed (by kernel_rfl) ?_
 refine AD.op [3] rfl (by kernel_rfl) rfl rfl (fun _ _ h => AOp.fieldAddr rfl rfl (ltb rfl) rfl fo30_0 h) ?_
 refine AD.op [35] rfl (by kernel_rfl) rfl rfl (fun _ _ h => AOp.loadN rfl rfl (ltb rfl) rfl agg28 size28 rfl (leb rfl) rfl h) ?_
 refine AD.op [3] rfl (by kernel_rfl) rfl rfl (fun _ _ h => AOp.fieldAddr rfl rfl (ltb rfl) rfl fo30_1 h) ?_
 refine AD.op [37] rfl (by kernel_rfl) rfl rfl (fun _ _ h => AOp.load1 rfl rfl (ltb rfl) rfl agg3 rfl rfl h) ?_
 refine AD.op [2] rfl (by kernel_rfl) rfl rfl (fun _ _ h => AOp.fieldAddr rfl rfl (ltb rfl) rfl fo30_1 h) ?_
 refine AD.op [39] rfl (by kernel_rfl) rfl rfl (fun _ _ h => AOp.load1 rfl rfl (ltb rfl) rfl agg3 rfl rfl h) ?_
 obtain ⟨q13, h0⟩ := need_elim h0
 refine AD.op [38, 40] rfl (by kernel_rfl) rfl rfl (fun _ _ h => AOp.isub rfl rfl (ltb rfl) rfl rfl rfl q13.1 q13.2 h) ?_
 obtain ⟨y14, q15, h0⟩ := bind_elim h0
 refine AD.op [36, 41] rfl (by kernel_rfl) rfl rfl (fun _ _ h => AOp.callD rfl rfl (ltb rfl) rfl rfl (w_Whole_Up F a1.N (a1.E - a0.E) y14 q15) (by rintro _ rfl; exact h)) ?_
 refine AD.op [2] rfl (by kernel_rfl) rfl rfl (fun _ _ h => AOp.fieldAddr rfl rfl (ltb rfl) rfl fo30_0 h) ?_
 refine AD.op [43] rfl (by kernel_rfl) rfl rfl (fun _ _ h => AOp.loadN rfl rfl (ltb rfl) rfl agg28 size28 rfl (leb rfl) rfl h) ?_
 obtain ⟨y16, q17, h0⟩ := bind_elim h0
 refine AD.op [42, 44] rfl (by kernel_rfl) rfl rfl (fun _ _ h => AOp.callD rfl rfl (ltb rfl) rfl rfl (w_Whole_Add F y14 a0.N y16 q17) (by rintro _ rfl; exact h)) ?_
 refine AD.op [2] rfl (by kernel_rfl) rfl rfl (fun _ _ h => AOp.fieldAddr rfl rfl (ltb rfl) rfl fo30_1 h) ?_
 refine AD.op [46] rfl (by kernel_rfl) rfl rfl (fun _ _ h => AOp.load1 rfl rfl (ltb rfl) rfl agg3 rfl rfl h) ?_
 refine AD.op [45, 47] rfl (by kernel_rfl) rfl rfl (fun _ _ h => AOp.build rfl rfl (ltb rfl) zero30 rfl places30 rfl rfl h) ?_
 refine AD.done ?_
 refine AO.op rfl (AOp.store rfl rfl rfl rfl size30 rfl rfl rfl (leb rfl) ?_)
 refine AO.nil ?_
 change AC _ _ _ _
 refine AC.ret ?_
 change RetQ _ _ _ .ret _
 obtain rfl := Option.some.inj h0
 refine retq rfl rfl

set_option maxRecDepth 100000 in
set_option maxHeartbeats 4000000 in
/-- (pub-orthodrome/spec.Dyadic).Sub -/
theorem w_Dyadic_Sub (F : Nat) (a0 : TSpec_Dyadic) (a1 : TSpec_Dyadic) (r0 : TSpec_Dyadic) (h0 : p_Dyadic_Sub F a0 a1 = some r0) : FnD Tryz.prog 16 [e_TSpec_Dyadic a0, e_TSpec_Dyadic a1] (fun r => r = e_TSpec_Dyadic r0) := by
 refine FnD.of (by kernel_rfl) Tryz.func16 rfl Tryz.ntmps16 rfl (leb rfl) fun W ok => ?_
 unfold p_Dyadic_Sub at h0
 refine AC.seq ?_
 refine AC.region ?_
 refine AO.op rfl (AOp.box rfl rfl (ltb rfl) rfl rfl ?_)
 refine AO.op rfl (AOp.box rfl rfl (ltb rfl) rfl rfl ?_)
 refine AO.op rfl (AOp.alloc rfl rfl (ltb rfl) zero30 rfl ?_)
 refine AO.nil ?_
 change AC _ _ _ _
 refine AC.seq ?_
 refine AC.draw 4 mixed (by kernel_rfl) ?_
 refine AD.op [2] rfl (by kernel_rfl) rfl rfl (fun _ _ h => AOp.loadN rfl rfl (ltb rfl) rfl agg30 size30 rfl (leb rfl) rfl h) ?_
 refine AD.op [3] rfl (by kernel_rfl) rfl rfl (fun _ _ h => AOp.loadN rfl rfl (ltb rfl) rfl agg30 size30 rfl (leb rfl) rfl h) ?_
 obtain ⟨y1, q2, h0⟩ := bind_elim h0
 refine AD.op [6] rfl (by kernel_rfl) rfl rfl (fun _ _ h => AOp.callD rfl rfl (ltb rfl) rfl rfl (w_Dyadic_Minus a1 y1 q2) (by rintro _ rfl; exact h)) ?_
 obtain ⟨y3, q4, h0⟩ := bind_elim h0
 refine AD.op [5, 7] rfl (by kernel_rfl) rfl rfl (fun _ _ h => AOp.callD rfl rfl (ltb rfl) rfl rfl (w_Dyadic_Add F a0 y1 y3 q4) (by rintro _ rfl; exact h)) ?_
 refine AD.done ?_
 refine AO.op rfl (AOp.store rfl rfl rfl rfl size30 rfl rfl rfl (leb rfl) ?_)
 refine AO.nil ?_
 change AC _ _ _ _
 refine AC.ret ?_
 change RetQ _ _ _ .ret _
 obtain rfl := Option.some.inj h0
 refine retq rfl rfl

set_option maxRecDepth 100000 in
set_option maxHeartbeats 4000000 in
/-- (pub-orthodrome/spec.Whole).Mul -/
theorem w_Whole_Mul (F : Nat) (a0 : TSpec_Whole) (a1 : TSpec_Whole) (r0 : TSpec_Whole) (h0 : p_Whole_Mul F a0 a1 = some r0) : FnD Tryz.prog 37 [e_TSpec_Whole a0, e_TSpec_Whole a1] (fun r => r = e_TSpec_Whole r0) := by
 refine FnD.of (by kernel_rfl) Tryz.func37 rfl Tryz.ntmps37 rfl (leb rfl) fun W ok => ?_
 unfold p_Whole_Mul at h0
 refine AC.seq ?_
 refine AC.region ?_
 refine AO.op rfl (AOp.box rfl rfl (ltb rfl) rfl rfl ?_)
 refine AO.op rfl (AOp.box rfl rfl (ltb rfl) rfl rfl ?_)
 refine AO.op rfl (AOp.alloc rfl rfl (ltb rfl) zero28 rfl ?_)
 refine AO.nil ?_
 change AC _ _ _ _
 refine AC.seq ?_
 refine AC.region ?_
 refine AO.op rfl (AOp.fieldAddr rfl rfl (ltb rfl) rfl fo28_1 ?_)
 refine AO.op rfl (AOp.load1 rfl rfl (ltb rfl) rfl agg26 rfl rfl ?_)
 refine AO.op rfl (AOp.lenDs (n := a0.L.length) (cells := (List.map keS2 a0.L)) rfl rfl (ltb rfl) rfl el26 (by decide) (len1 _ _) ?_)
 refine AO.op rfl (AOp.fieldAddr rfl rfl (ltb rfl) rfl fo28_1 ?_)
 refine AO.op rfl (AOp.load1 rfl rfl (ltb rfl) rfl agg26 rfl rfl ?_)
 refine AO.op rfl (AOp.lenDs (n := a1.L.length) (cells := (List.map keS2 a1.L)) rfl rfl (ltb rfl) rfl el26 (by decide) (len1 _ _) ?_)
 obtain ⟨q1, h0⟩ := need_elim h0
 refine AO.op rfl (AOp.iadd rfl rfl (ltb rfl) rfl rfl rfl q1.1 q1.2 ?_)
 obtain ⟨q2, h0⟩ := need_elim h0
 refine AO.op rfl (AOp.makeL (f := fun z => SV.d (keS2 z)) (z0 := (0 : Int)) rfl rfl (ltb rfl) rfl rfl el26 info100 rfl rfl (by decide) q2.1 q2.2 rfl ?_)
 refine AO.op rfl (AOp.assign rfl rfl (ltb rfl) rfl ?_)
 refine AO.nil ?_
 change AC _ _ _ _
 refine AC.seq ?_
 refine AC.seq ?_
 refine AC.region ?_
 refine AO.op rfl (AOp.fieldAddr rfl rfl (ltb rfl) rfl fo28_1 ?_)
 refine AO.op rfl (AOp.load1 rfl rfl (ltb rfl) rfl agg26 rfl rfl ?_)
 refine AO.op rfl (AOp.lenDs (n := a0.L.length) (cells := (List.map keS2 a0.L)) rfl rfl (ltb rfl) rfl el26 (by decide) (len1 _ _) ?_)
 refine AO.op rfl (AOp.move rfl rfl (ltb rfl) rfl ?_)
 refine AO.nil ?_
 change AC _ _ _ _
 obtain ⟨o3, l4, h0⟩ := bind_elim h0
 refine AC.joinE (V := (List Int)) [2, 3, 4, 5] [] 4 (fun g5 => []) (fun g5 => [.fix 28 [.d (dbool a0.Neg), .d (eS2 a0.L)], .fix 28 [.d (dbool a1.Neg), .d (eS2 a1.L)], .fix 28 [.d (dbool false), .d (.v (.slice none 0 0))], .fix 100 (List.map (fun z => SV.d (keS2 z)) g5)]) (fun g5 => (p_Whole_Mul_k1 a0 a1 F) g5 = some r0) rfl ?_ ?_
 ·refine AC.block ?_
  refine AC.loopP (V := (Int × (List Int))) (p_Whole_Mul_l2 a0 a1 F) o3 [2, 3, 4, 5, 21, 22] [23] 4 (fun g10 => [(23, .d (di .i64 g10.1))]) (fun g10 => [.fix 28 [.d (dbool a0.Neg), .d (eS2 a0.L)], .fix 28 [.d (dbool a1.Neg), .d (eS2 a1.L)], .fix 28 [.d (dbool false), .d (.v (.slice none 0 0))], .fix 100 (List.map (fun z => SV.d (keS2 z)) g10.2)]) F ((0 : Int), (List.replicate ((((a0.L.length : Nat) : Int) + ((a1.L.length : Nat) : Int))).toNat (0 : Int))) l4 rfl rfl (LeL.refl _) rfl (okU_mk rfl (okU_cons rfl (okU_cons rfl (okU_cons rfl (okU_cons (okU_fixl (fun _ => rfl)) okU_nil))))) ?_
  intro n12 g10 h1
  unfold p_Whole_Mul_l2 at h1
  refine AC.seq ?_
  refine AC.region ?_
  refine AO.op rfl (AOp.ilss rfl rfl (ltb rfl) rfl rfl ?_)
  refine AO.nil ?_
  change AC _ _ _ _
  refine AC.seq ?_
  refine AC.cond rfl (fun q13 => ?_) (fun q13 => ?_)
  ·replace h1 := cT h1 q13
   refine AC.skip ?_
   change AC _ _ _ _
   refine AC.seq ?_
   refine AC.block ?_
   refine AC.seq ?_
   refine AC.region ?_
   refine AO.op rfl (AOp.move rfl rfl (ltb rfl) rfl ?_)
   obtain ⟨x14, q15, h1⟩ := idx_elim h1
   refine AO.op rfl (AOp.indexDs (cells := (List.map keS2 a0.L)) rfl rfl (ltb rfl) rfl rfl el26 (by decide) q15.1 (lt1 q15.2) ?_)
   refine AO.op rfl (AOp.loadEp rfl rfl (ltb rfl) rfl agg100 (at1 q15.2) ?_)
   refine AO.op rfl (AOp.assign rfl rfl (ltb rfl) rfl ?_)
   refine AO.op rfl (AOp.assign rfl rfl (ltb rfl) rfl ?_)
   refine AO.nil ?_
   change AC _ _ _ _
   refine AC.seq ?_
   refine AC.region ?_
   refine AO.op rfl (AOp.assign rfl rfl (ltb rfl) rfl ?_)
   refine AO.nil ?_
   change AC _ _ _ _
   refine AC.seq ?_
   refine AC.seq ?_
   refine AC.region ?_
   refine AO.op rfl (AOp.fieldAddr rfl rfl (ltb rfl) rfl fo28_1 ?_)
   refine AO.op rfl (AOp.load1 rfl rfl (ltb rfl) rfl agg26 rfl rfl ?_)
   refine AO.op rfl (AOp.lenDs (n := a1.L.length) (cells := (List.map keS2 a1.L)) rfl rfl (ltb rfl) rfl el26 (by decide) (len1 _ _) ?_)
   refine AO.op rfl (AOp.move rfl rfl (ltb rfl) rfl ?_)
   refine AO.nil ?_
   change AC _ _ _ _
   obtain ⟨o16, l17, h1⟩ := bind_elim h1
   refine AC.joinE (V := (Int × (List Int))) [2, 3, 4, 5, 6, 21, 22, 23] [8] 4 (fun g18 => [(8, .d (di .u64 g18.1))]) (fun g18 => [.fix 28 [.d (dbool a0.Neg), .d (eS2 a0.L)], .fix 28 [.d (dbool a1.Neg), .d (eS2 a1.L)], .fix 28 [.d (dbool false), .d (.v (.slice none 0 0))], .fix 100 (List.map (fun z => SV.d (keS2 z)) g18.2)]) (fun g18 => (p_Whole_Mul_k3 a0 a1 g10 (iter (p_Whole_Mul_l2 a0 a1 F) n12)) g18 = some o3) rfl ?_ ?_
   ·refine AC.block ?_
    refine AC.loopP (V := (Int × Int × (List Int))) (p_Whole_Mul_l4 a0 a1 g10 x14) o16 [2, 3, 4, 5, 6, 7, 21, 22, 23, 29, 30] [8, 31] 4 (fun g23 => [(8, .d (di .u64 g23.1)), (31, .d (di .i64 g23.2.1))]) (fun g23 => [.fix 28 [.d (dbool a0.Neg), .d (eS2 a0.L)], .fix 28 [.d (dbool a1.Neg), .d (eS2 a1.L)], .fix 28 [.d (dbool false), .d (.v (.slice none 0 0))], .fix 100 (List.map (fun z => SV.d (keS2 z)) g23.2.2)]) F ((0 : Int), (0 : Int), g10.2) l17 rfl rfl (LeL.refl _) rfl (okU_mk rfl (okU_cons rfl (okU_cons rfl (okU_cons rfl (okU_cons (okU_fixl (fun _ => rfl)) okU_nil))))) ?_
    intro n25 g23 h2
    unfold p_Whole_Mul_l4 at h2
    refine AC.seq ?_
    refine AC.region ?_
    refine AO.op rfl (AOp.ilss rfl rfl (ltb rfl) rfl rfl ?_)
    refine AO.nil ?_
    change AC _ _ _ _
    refine AC.seq ?_
    refine AC.cond rfl (fun q26 => ?_) (fun q26 => ?_)
    ·replace h2 := cT h2 q26
     refine AC.skip ?_
     change AC _ _ _ _
     refine AC.seq ?_
     refine AC.block ?_
     refine AC.seq ?_
     refine AC.region ?_
     refine AO.op rfl (AOp.move rfl rfl (ltb rfl) rfl ?_)
     obtain ⟨x27, q28, h2⟩ := idx_elim h2
     refine AO.op rfl (AOp.indexDs (cells := (List.map keS2 a1.L)) rfl rfl (ltb rfl) rfl rfl el26 (by decide) q28.1 (lt1 q28.2) ?_)
     refine AO.op rfl (AOp.loadEp rfl rfl (ltb rfl) rfl agg100 (at1 q28.2) ?_)
     refine AO.op rfl (AOp.assign rfl rfl (ltb rfl) rfl ?_)
     refine AO.op rfl (AOp.assign rfl rfl (ltb rfl) rfl ?_)
     refine AO.nil ?_
     change AC _ _ _ _
     refine AC.seq ?_
     refine AC.region ?_
     refine AO.op rfl (AOp.move rfl rfl (ltb rfl) rfl ?_)
     refine AO.op rfl (AOp.i2i rfl rfl (ltb rfl) rfl Tryz.underlying100 Tryz.underlying95 rfl ?_)
     refine AO.op rfl (AOp.move rfl rfl (ltb rfl) rfl ?_)
     refine AO.op rfl (AOp.i2i rfl rfl (ltb rfl) rfl Tryz.underlying100 Tryz.underlying95 rfl ?_)
     obtain ⟨q29, h2⟩ := need_elim h2
     refine AO.op rfl (AOp.imul rfl rfl (ltb rfl) rfl rfl rfl q29.1 q29.2 ?_)
     refine AO.op rfl (AOp.move rfl rfl (ltb rfl) rfl ?_)
     refine AO.op rfl (AOp.move rfl rfl (ltb rfl) rfl ?_)
     refine AO.op rfl (AOp.move rfl rfl (ltb rfl) rfl ?_)
     obtain ⟨q30, h2⟩ := need_elim h2
     refine AO.op rfl (AOp.iadd rfl rfl (ltb rfl) rfl rfl rfl q30.1 q30.2 ?_)
     obtain ⟨q31, h2⟩ := need_elim h2
     refine AO.op rfl (AOp.indexSl rfl rfl (ltb rfl) rfl rfl el26 q31.1 q31.2 ?_)
     obtain ⟨x32, q33, h2⟩ := idx_elim h2
     refine AO.op rfl (AOp.load1 rfl rfl (ltb rfl) rfl agg100 rfl (atO q33.2) ?_)
     refine AO.op rfl (AOp.i2i rfl rfl (ltb rfl) rfl Tryz.underlying100 Tryz.underlying95 rfl ?_)
     obtain ⟨q34, h2⟩ := need_elim h2
     refine AO.op rfl (AOp.iadd rfl rfl (ltb rfl) rfl rfl rfl q34.1 q34.2 ?_)
     refine AO.op rfl (AOp.move rfl rfl (ltb rfl) rfl ?_)
     obtain ⟨q35, h2⟩ := need_elim h2
     refine AO.op rfl (AOp.iadd rfl rfl (ltb rfl) rfl rfl rfl q35.1 q35.2 ?_)
     refine AO.op rfl (AOp.assign rfl rfl (ltb rfl) rfl ?_)
     refine AO.nil ?_
     change AC _ _ _ _
     refine AC.seq ?_
     refine AC.region ?_
     refine AO.op rfl (AOp.move rfl rfl (ltb rfl) rfl ?_)
     refine AO.op rfl (AOp.move rfl rfl (ltb rfl) rfl ?_)
     refine AO.op rfl (AOp.move rfl rfl (ltb rfl) rfl ?_)
     obtain ⟨q36, h2⟩ := need_elim h2
     refine AO.op rfl (AOp.iadd rfl rfl (ltb rfl) rfl rfl rfl q36.1 q36.2 ?_)
     refine AO.op rfl (AOp.move rfl rfl (ltb rfl) rfl ?_)
     refine AO.op rfl (AOp.i2i rfl rfl (ltb rfl) rfl Tryz.underlying95 Tryz.underlying100 rfl ?_)
     obtain ⟨q37, h2⟩ := need_elim h2
     refine AO.op rfl (AOp.indexSl rfl rfl (ltb rfl) rfl rfl el26 q37.1 q37.2 ?_)
     obtain ⟨q38, h2⟩ := need_elim h2
     refine AO.op rfl (AOp.storeL (f := fun z => SV.d (keS2 z)) (l := g23.2.2) (i := ((g10.1 + g23.2.1)).toNat) (v := (IntKind.u32.wrap ((((IntKind.u64.wrap x14) * (IntKind.u64.wrap x27)) + (IntKind.u64.wrap x32)) + g23.1))) rfl rfl rfl rfl size100 rfl rfl rfl q38 ?_)
     refine AO.nil ?_
     change AC _ _ _ _
     refine AC.region ?_
     refine AO.op rfl (AOp.move rfl rfl (ltb rfl) rfl ?_)
     obtain ⟨q39, h2⟩ := need_elim h2
     refine AO.op rfl (AOp.ishr (n := 32) rfl rfl (ltb rfl) rfl rfl (by decide) q39 rfl ?_)
     refine AO.op rfl (AOp.assign rfl rfl (ltb rfl) rfl ?_)
     refine AO.nil ?_
     change AC _ _ _ _
     refine AC.region ?_
     obtain ⟨q40, h2⟩ := need_elim h2
     refine AO.op rfl (AOp.iadd rfl rfl (ltb rfl) rfl rfl rfl q40.1 q40.2 ?_)
     refine AO.op rfl (AOp.move rfl rfl (ltb rfl) rfl ?_)
     refine AO.nil ?_
     exact ⟨((((((IntKind.u64.wrap x14) * (IntKind.u64.wrap x27)) + (IntKind.u64.wrap x32)) + g23.1) / 2 ^ 32), (g23.2.1 + (1 : Int)), (g23.2.2.set ((g10.1 + g23.2.1)).toNat (IntKind.u32.wrap ((((IntKind.u64.wrap x14) * (IntKind.u64.wrap x27)) + (IntKind.u64.wrap x32)) + g23.1)))), _, rfl, (LeL.refl _), rfl, (okU_mk rfl (okU_cons rfl (okU_cons rfl (okU_cons rfl (okU_cons (okU_fixl (fun _ => rfl)) okU_nil))))), h2⟩
    replace h2 := cF h2 q26
    refine AC.exit ?_
    obtain rfl := Option.some.inj h2
    exact ⟨(g23.1, g23.2.2), _, rfl, (LeL.refl _), rfl, (okU_mk rfl (okU_cons rfl (okU_cons rfl (okU_cons rfl (okU_cons (okU_fixl (fun _ => rfl)) okU_nil))))), aftL h1⟩
   intro g18 h1
   unfold p_Whole_Mul_k3 at h1
   change AC _ _ _ _
   refine AC.region ?_
   refine AO.op rfl (AOp.move rfl rfl (ltb rfl) rfl ?_)
   refine AO.op rfl (AOp.move rfl rfl (ltb rfl) rfl ?_)
   refine AO.op rfl (AOp.fieldAddr rfl rfl (ltb rfl) rfl fo28_1 ?_)
   refine AO.op rfl (AOp.load1 rfl rfl (ltb rfl) rfl agg26 rfl rfl ?_)
   refine AO.op rfl (AOp.lenDs (n := a1.L.length) (cells := (List.map keS2 a1.L)) rfl rfl (ltb rfl) rfl el26 (by decide) (len1 _ _) ?_)
   obtain ⟨q19, h1⟩ := need_elim h1
   refine AO.op rfl (AOp.iadd rfl rfl (ltb rfl) rfl rfl rfl q19.1 q19.2 ?_)
   refine AO.op rfl (AOp.move rfl rfl (ltb rfl) rfl ?_)
   refine AO.op rfl (AOp.i2i rfl rfl (ltb rfl) rfl Tryz.underlying95 Tryz.underlying100 rfl ?_)
   obtain ⟨q20, h1⟩ := need_elim h1
   refine AO.op rfl (AOp.indexSl rfl rfl (ltb rfl) rfl rfl el26 q20.1 q20.2 ?_)
   obtain ⟨q21, h1⟩ := need_elim h1
   refine AO.op rfl (AOp.storeL (f := fun z => SV.d (keS2 z)) (l := g18.2) (i := ((g10.1 + ((a1.L.length : Nat) : Int))).toNat) (v := (IntKind.u32.wrap g18.1)) rfl rfl rfl rfl size100 rfl rfl rfl q21 ?_)
   refine AO.nil ?_
   change AC _ _ _ _
   refine AC.region ?_
   obtain ⟨q22, h1⟩ := need_elim h1
   refine AO.op rfl (AOp.iadd rfl rfl (ltb rfl) rfl rfl rfl q22.1 q22.2 ?_)
   refine AO.op rfl (AOp.move rfl rfl (ltb rfl) rfl ?_)
   refine AO.nil ?_
   exact ⟨((g10.1 + (1 : Int)), (g18.2.set ((g10.1 + ((a1.L.length : Nat) : Int))).toNat (IntKind.u32.wrap g18.1))), _, rfl, (LeL.refl _), rfl, (okU_mk rfl (okU_cons rfl (okU_cons rfl (okU_cons rfl (okU_cons (okU_fixl (fun _ => rfl)) okU_nil))))), h1⟩
  replace h1 := cF h1 q13
  refine AC.exit ?_
  obtain rfl := Option.some.inj h1
  exact ⟨g10.2, _, rfl, (LeL.refl _), rfl, (okU_mk rfl (okU_cons rfl (okU_cons rfl (okU_cons rfl (okU_cons (okU_fixl (fun _ => rfl)) okU_nil))))), aftL h0⟩
 intro g5 h0
 unfold p_Whole_Mul_k1 at h0
 change AC _ _ _ _
 refine AC.seq ?_
 refine AC.region ?_
 refine AO.op rfl (AOp.move rfl rfl (ltb rfl) rfl ?_)
 obtain ⟨q6, h0⟩ := need_elim h0
 refine AO.freezeF (ds := (List.map keS2 g5)) 71 3 rfl rfl rfl (by rw [List.map_map]; rfl) (lenq q6 (len1 _ _)) (Nat.le_refl _) ?_
 obtain ⟨y7, q8, h0⟩ := bind_elim h0
 refine AO.op rfl (AOp.callD rfl rfl (ltb rfl) rfl rfl (w_trim F g5 y7 q8) ?_)
 rintro _ rfl
 refine AO.op rfl (AOp.assign rfl rfl (ltb rfl) rfl ?_)
 refine AO.nil ?_
 change AC _ _ _ _
 refine AC.seq ?_
 refine AC.region ?_
 refine AO.op rfl (AOp.move rfl rfl (ltb rfl) rfl ?_)
 refine AO.op rfl (AOp.lenDs (n := y7.length) (cells := (List.map keS2 y7)) rfl rfl (ltb rfl) rfl el26 (by decide) (len1 _ _) ?_)
 refine AO.op rfl (AOp.igtr rfl rfl (ltb rfl) rfl rfl ?_)
 refine AO.op rfl (AOp.move rfl rfl (ltb rfl) rfl ?_)
 refine AO.dec (decide ((0 : Int) < ((y7.length : Nat) : Int))) (fun q9 => ?_) (fun q9 => ?_)
 ·replace h0 := cT h0 q9
  refine AO.guardY rfl rfl rfl q9 (AOp.fieldAddr rfl rfl (ltb rfl) rfl fo28_0 ?_)
  refine AO.guardY rfl rfl rfl q9 (AOp.load1 rfl rfl (ltb rfl) rfl agg4 rfl rfl ?_)
  refine AO.guardY rfl rfl rfl q9 (AOp.fieldAddr rfl rfl (ltb rfl) rfl fo28_0 ?_)
  refine AO.guardY rfl rfl rfl q9 (AOp.load1 rfl rfl (ltb rfl) rfl agg4 rfl rfl ?_)
  refine AO.guardY rfl rfl rfl q9 (AOp.bneq Tryz.underlying4 rfl rfl (ltb rfl) rfl rfl ?_)
  refine AO.op rfl (AOp.pick rfl rfl (ltb rfl) rfl q9 rfl ?_)
  refine AO.op rfl (AOp.move rfl rfl (ltb rfl) rfl ?_)
  refine AO.op rfl (AOp.build rfl rfl (ltb rfl) zero28 rfl places28 rfl rfl ?_)
  refine AO.op rfl (AOp.store rfl rfl rfl rfl size28 rfl rfl rfl (leb rfl) ?_)
  refine AO.nil ?_
  change AC _ _ _ _
  refine AC.ret ?_
  change RetQ _ _ _ .ret _
  obtain rfl := Option.some.inj h0
  refine retq rfl rfl
 replace h0 := cF h0 q9
 refine AO.guardN rfl rfl rfl (ltb rfl) rfl q9 ?_
 refine AO.guardN rfl rfl rfl (ltb rfl) rfl q9 ?_
 refine AO.guardN rfl rfl rfl (ltb rfl) rfl q9 ?_
 refine AO.guardN rfl rfl rfl (ltb rfl) rfl q9 ?_
 refine AO.guardN rfl rfl rfl (ltb rfl) rfl q9 ?_
 refine AO.op rfl (AOp.pickN rfl rfl (ltb rfl) rfl q9 rfl ?_)
 refine AO.op rfl (AOp.move rfl rfl (ltb rfl) rfl ?_)
 refine AO.op rfl (AOp.build rfl rfl (ltb rfl) zero28 rfl places28 rfl rfl ?_)
 refine AO.op rfl (AOp.store rfl rfl rfl rfl size28 rfl rfl rfl (leb rfl) ?_)
 refine AO.nil ?_
 change AC _ _ _ _
 refine AC.ret ?_
 change RetQ _ _ _ .ret _
 obtain rfl := Option.some.inj h0
 refine retq rfl rfl

set_option maxRecDepth 100000 in
set_option maxHeartbeats 4000000 in
/-- (pub-orthodrome/spec.Dyadic).Mul -/
theorem w_Dyadic_Mul (F : Nat) (a0 : TSpec_Dyadic) (a1 : TSpec_Dyadic) (r0 : TSpec_Dyadic) (h0 : p_Dyadic_Mul F a0 a1 = some r0) : FnD Tryz.prog 17 [e_TSpec_Dyadic a0, e_TSpec_Dyadic a1] (fun r => r = e_TSpec_Dyadic r0) := by
 refine FnD.of (by kernel_rfl) Tryz.func17 rfl Tryz.ntmps17 rfl (leb rfl) fun W ok => ?_
 unfold p_Dyadic_Mul at h0
 refine AC.seq ?_
 refine AC.region ?_
 refine AO.op rfl (AOp.box rfl rfl (ltb rfl) rfl rfl ?_)
 refine AO.op rfl (AOp.box rfl rfl (ltb rfl) rfl rfl ?_)
 refine AO.op rfl (AOp.alloc rfl rfl (ltb rfl) zero30 rfl ?_)
 refine AO.nil ?_
 change AC _ _ _ _
 refine AC.seq ?_
 refine AC.draw 11 mixed (by kernel_rfl) ?_
 refine AD.op [2] rfl (by kernel_rfl) rfl rfl (fun _ _ h => AOp.fieldAddr rfl rfl (ltb rfl) rfl fo30_0 h) ?_
 refine AD.op [5] rfl (by kernel_rfl) rfl rfl (fun _ _ h => AOp.loadN rfl rfl (ltb rfl) rfl agg28 size28 rfl (leb rfl) rfl h) ?_
 refine AD.op [3] rfl (by kernel_rfl) rfl rfl (fun _ _ h => AOp.fieldAddr rfl rfl (ltb rfl) rfl fo30_0 h) ?_
 refine AD.op [7] rfl (by kernel_rfl) rfl rfl (fun _ _ h => AOp.loadN rfl rfl (ltb rfl) rfl agg28 size28 rfl (leb rfl) rfl h) ?_
 obtain ⟨y1, q2, h0⟩ := bind_elim h0
 refine AD.op [6, 8] rfl (by kernel_rfl) rfl rfl (fun _ _ h => AOp.callD rfl rfl (ltb rfl) rfl rfl (w_Whole_Mul F a0.N a1.N y1 q2) (by rintro _ rfl; exact h)) ?_
 refine AD.op [2] rfl (by kernel_rfl) rfl rfl (fun _ _ h => AOp.fieldAddr rfl rfl (ltb rfl) rfl fo30_1 h) ?_
 refine AD.op [10] rfl (by kernel_rfl) rfl rfl (fun _ _ h => AOp.load1 rfl rfl (ltb rfl) rfl agg3 rfl rfl h) ?_
 refine AD.op [3] rfl (by kernel_rfl) rfl rfl (fun _ _ h => AOp.fieldAddr rfl rfl (ltb rfl) rfl fo30_1 h) ?_
 refine AD.op [12] rfl (by kernel_rfl) rfl rfl (fun _ _ h => AOp.load1 rfl rfl (ltb rfl) rfl agg3 rfl rfl h) ?_
 obtain ⟨q3, h0⟩ := need_elim h0
 refine AD.op [11, 13] rfl (by kernel_rfl) rfl rfl (fun _ _ h => AOp.iadd rfl rfl (ltb rfl) rfl rfl rfl q3.1 q3.2 h) ?_
 refine AD.op [9, 14] rfl (by kernel_rfl) rfl rfl (fun _ _ h => AOp.build rfl rfl (ltb rfl) zero30 rfl places30 rfl rfl h) ?_
 refine AD.done ?_
 refine AO.op rfl (AOp.store rfl rfl rfl rfl size30 rfl rfl rfl (leb rfl) ?_)
 refine AO.nil ?_
 change AC _ _ _ _
 refine AC.ret ?_
 change RetQ _ _ _ .ret _
 obtain rfl := Option.some.inj h0
 refine retq rfl rfl

set_option maxRecDepth 100000 in
set_option maxHeartbeats 4000000 in
/-- pub-orthodrome/spec.Cross -/
theorem w_Cross (F : Nat) (a0 : TSpec_Point) (a1 : TSpec_Point) (a2 : TSpec_Point) (r0 : TSpec_Dyadic) (h0 : p_Cross F a0 a1 a2 = some r0) : FnD Tryz.prog 34 [e_TSpec_Point a0, e_TSpec_Point a1, e_TSpec_Point a2] (fun r => r = e_TSpec_Dyadic r0) := by
 refine FnD.of (by kernel_rfl) Tryz.func34 rfl Tryz.ntmps34 rfl (leb rfl) fun W ok => ?_
 unfold p_Cross at h0
 refine AC.seq ?_
 refine AC.region ?_
 refine AO.op rfl (AOp.box rfl rfl (ltb rfl) rfl rfl ?_)
 refine AO.op rfl (AOp.box rfl rfl (ltb rfl) rfl rfl ?_)
 refine AO.op rfl (AOp.box rfl rfl (ltb rfl) rfl rfl ?_)
 refine AO.op rfl (AOp.alloc rfl rfl (ltb rfl) zero30 rfl ?_)
 refine AO.nil ?_
 change AC _ _ _ _
 refine AC.seq ?_
 refine AC.draw 23 mixed (by kernel_rfl) ?_
 refine AD.op [4] rfl (by kernel_rfl) rfl rfl (fun _ _ h => AOp.fieldAddr rfl rfl (ltb rfl) rfl fo32_0 h) ?_
 refine AD.op [7] rfl (by kernel_rfl) rfl rfl (fun _ _ h => AOp.loadN rfl rfl (ltb rfl) rfl agg30 size30 rfl (leb rfl) rfl h) ?_
 refine AD.op [3] rfl (by kernel_rfl) rfl rfl (fun _ _ h => AOp.fieldAddr rfl rfl (ltb rfl) rfl fo32_0 h) ?_
 refine AD.op [9] rfl (by kernel_rfl) rfl rfl (fun _ _ h => AOp.loadN rfl rfl (ltb rfl) rfl agg30 size30 rfl (leb rfl) rfl h) ?_
 obtain ⟨y1, q2, h0⟩ := bind_elim h0
 refine AD.op [8, 10] rfl (by kernel_rfl) rfl rfl (fun _ _ h => AOp.callD rfl rfl (ltb rfl) rfl rfl (w_Dyadic_Sub F a1.X a0.X y1 q2) (by rintro _ rfl; exact h)) ?_
 refine AD.op [5] rfl (by kernel_rfl) rfl rfl (fun _ _ h => AOp.fieldAddr rfl rfl (ltb rfl) rfl fo32_1 h) ?_
 refine AD.op [12] rfl (by kernel_rfl) rfl rfl (fun _ _ h => AOp.loadN rfl rfl (ltb rfl) rfl agg30 size30 rfl (leb rfl) rfl h) ?_
 refine AD.op [3] rfl (by kernel_rfl) rfl rfl (fun _ _ h => AOp.fieldAddr rfl rfl (ltb rfl) rfl fo32_1 h) ?_
 refine AD.op [14] rfl (by kernel_rfl) rfl rfl (fun _ _ h => AOp.loadN rfl rfl (ltb rfl) rfl agg30 size30 rfl (leb rfl) rfl h) ?_
 obtain ⟨y3, q4, h0⟩ := bind_elim h0
 refine AD.op [13, 15] rfl (by kernel_rfl) rfl rfl (fun _ _ h => AOp.callD rfl rfl (ltb rfl) rfl rfl (w_Dyadic_Sub F a2.Y a0.Y y3 q4) (by rintro _ rfl; exact h)) ?_
 obtain ⟨y5, q6, h0⟩ := bind_elim h0
 refine AD.op [11, 16] rfl (by kernel_rfl) rfl rfl (fun _ _ h => AOp.callD rfl rfl (ltb rfl) rfl rfl (w_Dyadic_Mul F y1 y3 y5 q6) (by rintro _ rfl; exact h)) ?_
 refine AD.op [4] rfl (by kernel_rfl) rfl rfl (fun _ _ h => AOp.fieldAddr rfl rfl (ltb rfl) rfl fo32_1 h) ?_
 refine AD.op [18] rfl (by kernel_rfl) rfl rfl (fun _ _ h => AOp.loadN rfl rfl (ltb rfl) rfl agg30 size30 rfl (leb rfl) rfl h) ?_
 refine AD.op [3] rfl (by kernel_rfl) rfl rfl (fun _ _ h => AOp.fieldAddr rfl rfl (ltb rfl) rfl fo32_1 h) ?_
 refine AD.op [20] rfl (by kernel_rfl) rfl rfl (fun _ _ h => AOp.loadN rfl rfl (ltb rfl) rfl agg30 size30 rfl (leb rfl) rfl h) ?_
 obtain ⟨y7, q8, h0⟩ := bind_elim h0
 refine AD.op [19, 21] rfl (by kernel_rfl) rfl rfl (fun _ _ h => AOp.callD rfl rfl (ltb rfl) rfl rfl (w_Dyadic_Sub F a1.Y a0.Y y7 q8) (by rintro _ rfl; exact h)) ?_
 refine AD.op [5] rfl (by kernel_rfl) rfl rfl (fun _ _ h => AOp.fieldAddr rfl rfl (ltb rfl) rfl fo32_0 h) ?_
 refine AD.op [23] rfl (by kernel_rfl) rfl rfl (fun _ _ h => AOp.loadN rfl rfl (ltb rfl) rfl agg30 size30 rfl (leb rfl) rfl h) ?_
 refine AD.op [3] rfl (by kernel_rfl) rfl rfl (fun _ _ h => AOp.fieldAddr rfl rfl (ltb rfl) rfl fo32_0 h) ?_
 refine AD.op [25] rfl (by kernel_rfl) rfl rfl (fun _ _ h => AOp.loadN rfl rfl (ltb rfl) rfl agg30 size30 rfl (leb rfl) rfl h) ?_
 obtain ⟨y9, q10, h0⟩ := bind_elim h0
 refine AD.op [24, 26] rfl (by kernel_rfl) rfl rfl (fun _ _ h => AOp.callD rfl rfl (ltb rfl) rfl rfl (w_Dyadic_Sub F a2.X a0.X y9 q10) (by rintro _ rfl; exact h)) ?_
 obtain ⟨y11, q12, h0⟩ := bind_elim h0
 refine AD.op [22, 27] rfl (by kernel_rfl) rfl rfl (fun _ _ h => AOp.callD rfl rfl (ltb rfl) rfl rfl (w_Dyadic_Mul F y7 y9 y11 q12) (by rintro _ rfl; exact h)) ?_
 obtain ⟨y13, q14, h0⟩ := bind_elim h0
 refine AD.op [17, 28] rfl (by kernel_rfl) rfl rfl (fun _ _ h => AOp.callD rfl rfl (ltb rfl) rfl rfl (w_Dyadic_Sub F y5 y11 y13 q14) (by rintro _ rfl; exact h)) ?_
 refine AD.done ?_
 refine AO.op rfl (AOp.store rfl rfl rfl rfl size30 rfl rfl rfl (leb rfl) ?_)
 refine AO.nil ?_
 change AC _ _ _ _
 refine AC.ret ?_
 change RetQ _ _ _ .ret _
 obtain rfl := Option.some.inj h0
 refine retq rfl rfl

set_option maxRecDepth 100000 in
set_option maxHeartbeats 4000000 in
/-- pub-orthodrome/spec.Orient -/
theorem w_Orient (F : Nat) (a0 : TSpec_Point) (a1 : TSpec_Point) (a2 : TSpec_Point) (r0 : Int) (h0 : p_Orient F a0 a1 a2 = some r0) : FnD Tryz.prog 14 [e_TSpec_Point a0, e_TSpec_Point a1, e_TSpec_Point a2] (fun r => r = di .i64 r0) := by
 refine FnD.of (by kernel_rfl) Tryz.func14 rfl Tryz.ntmps14 rfl (leb rfl) fun W ok => ?_
 unfold p_Orient at h0
 refine AC.seq ?_
 refine AC.region ?_
 refine AO.op rfl (AOp.box rfl rfl (ltb rfl) rfl rfl ?_)
 refine AO.op rfl (AOp.box rfl rfl (ltb rfl) rfl rfl ?_)
 refine AO.op rfl (AOp.box rfl rfl (ltb rfl) rfl rfl ?_)
 refine AO.op rfl (AOp.assign rfl rfl (ltb rfl) rfl ?_)
 refine AO.nil ?_
 change AC _ _ _ _
 refine AC.seq ?_
 refine AC.region ?_
 refine AO.op rfl (AOp.loadN rfl rfl (ltb rfl) rfl agg32 size32 rfl (leb rfl) rfl ?_)
 refine AO.op rfl (AOp.loadN rfl rfl (ltb rfl) rfl agg32 size32 rfl (leb rfl) rfl ?_)
 refine AO.op rfl (AOp.loadN rfl rfl (ltb rfl) rfl agg32 size32 rfl (leb rfl) rfl ?_)
 obtain ⟨y1, q2, h0⟩ := bind_elim h0
 refine AO.op rfl (AOp.callD rfl rfl (ltb rfl) rfl rfl (w_Cross F a0 a1 a2 y1 q2) ?_)
 rintro _ rfl
 obtain ⟨y3, q4, h0⟩ := bind_elim h0
 refine AO.op rfl (AOp.callD rfl rfl (ltb rfl) rfl rfl (w_Dyadic_Sign y1 y3 q4) ?_)
 rintro _ rfl
 refine AO.op rfl (AOp.assign rfl rfl (ltb rfl) rfl ?_)
 refine AO.nil ?_
 change AC _ _ _ _
 refine AC.ret ?_
 change RetQ _ _ _ .ret _
 obtain rfl := Option.some.inj h0
 refine retq rfl rfl

set_option maxRecDepth 100000 in
set_option maxHeartbeats 4000000 in
/-- (pub-orthodrome/spec.Dyadic).Cmp -/
theorem w_Dyadic_Cmp (F : Nat) (a0 : TSpec_Dyadic) (a1 : TSpec_Dyadic) (r0 : Int) (h0 : p_Dyadic_Cmp F a0 a1 = some r0) : FnD Tryz.prog 45 [e_TSpec_Dyadic a0, e_TSpec_Dyadic a1] (fun r => r = di .i64 r0) := by
 refine FnD.of (by kernel_rfl) Tryz.func45 rfl Tryz.ntmps45 rfl (leb rfl) fun W ok => ?_
 unfold p_Dyadic_Cmp at h0
 refine AC.seq ?_
 refine AC.region ?_
 refine AO.op rfl (AOp.box rfl rfl (ltb rfl) rfl rfl ?_)
 refine AO.op rfl (AOp.box rfl rfl (ltb rfl) rfl rfl ?_)
 refine AO.op rfl (AOp.assign rfl rfl (ltb rfl) rfl ?_)
 refine AO.nil ?_
 change AC _ _ _ _
 refine AC.seq ?_
 refine AC.region ?_
 refine AO.op rfl (AOp.loadN rfl rfl (ltb rfl) rfl agg30 size30 rfl (leb rfl) rfl ?_)
 refine AO.op rfl (AOp.loadN rfl rfl (ltb rfl) rfl agg30 size30 rfl (leb rfl) rfl ?_)
 obtain ⟨y1, q2, h0⟩ := bind_elim h0
 refine AO.op rfl (AOp.callD rfl rfl (ltb rfl) rfl rfl (w_Dyadic_Sub F a0 a1 y1 q2) ?_)
 rintro _ rfl
 obtain ⟨y3, q4, h0⟩ := bind_elim h0
 refine AO.op rfl (AOp.callD rfl rfl (ltb rfl) rfl rfl (w_Dyadic_Sign y1 y3 q4) ?_)
 rintro _ rfl
 refine AO.op rfl (AOp.assign rfl rfl (ltb rfl) rfl ?_)
 refine AO.nil ?_
 change AC _ _ _ _
 refine AC.ret ?_
 change RetQ _ _ _ .ret _
 obtain rfl := Option.some.inj h0
 refine retq rfl rfl

set_option maxRecDepth 100000 in
set_option maxHeartbeats 4000000 in
/-- pub-orthodrome/spec.Between -/
theorem w_Between (F : Nat) (a0 : TSpec_Dyadic) (a1 : TSpec_Dyadic) (a2 : TSpec_Dyadic) (r0 : Bool) (h0 : p_Between F a0 a1 a2 = some r0) : FnD Tryz.prog 31 [e_TSpec_Dyadic a0, e_TSpec_Dyadic a1, e_TSpec_Dyadic a2] (fun r => r = dbool r0) := by
 refine FnD.of (by kernel_rfl) Tryz.func31 rfl Tryz.ntmps31 rfl (leb rfl) fun W ok => ?_
 unfold p_Between at h0
 refine AC.seq ?_
 refine AC.region ?_
 refine AO.op rfl (AOp.box rfl rfl (ltb rfl) rfl rfl ?_)
 refine AO.op rfl (AOp.box rfl rfl (ltb rfl) rfl rfl ?_)
 refine AO.op rfl (AOp.box rfl rfl (ltb rfl) rfl rfl ?_)
 refine AO.op rfl (AOp.assign rfl rfl (ltb rfl) rfl ?_)
 refine AO.nil ?_
 change AC _ _ _ _
 refine AC.seq ?_
 refine AC.region ?_
 refine AO.op rfl (AOp.loadN rfl rfl (ltb rfl) rfl agg30 size30 rfl (leb rfl) rfl ?_)
 refine AO.op rfl (AOp.loadN rfl rfl (ltb rfl) rfl agg30 size30 rfl (leb rfl) rfl ?_)
 obtain ⟨y1, q2, h0⟩ := bind_elim h0
 refine AO.op rfl (AOp.callD rfl rfl (ltb rfl) rfl rfl (w_Dyadic_Cmp F a0 a2 y1 q2) ?_)
 rintro _ rfl
 refine AO.op rfl (AOp.ileq rfl rfl (ltb rfl) rfl rfl ?_)
 refine AO.op rfl (AOp.move rfl rfl (ltb rfl) rfl ?_)
 refine AO.dec (decide (y1 ≤ (0 : Int))) (fun q3 => ?_) (fun q3 => ?_)
 ·replace h0 := cT h0 q3
  refine AO.guardY rfl rfl rfl q3 (AOp.loadN rfl rfl (ltb rfl) rfl agg30 size30 rfl (leb rfl) rfl ?_)
  refine AO.guardY rfl rfl rfl q3 (AOp.loadN rfl rfl (ltb rfl) rfl agg30 size30 rfl (leb rfl) rfl ?_)
  obtain ⟨y4, q5, h0⟩ := bind_elim h0
  refine AO.guardY rfl rfl rfl q3 (AOp.callD rfl rfl (ltb rfl) rfl rfl (w_Dyadic_Cmp F a2 a1 y4 q5) ?_)
  rintro _ rfl
  refine AO.guardY rfl rfl rfl q3 (AOp.ileq rfl rfl (ltb rfl) rfl rfl ?_)
  refine AO.op rfl (AOp.pick rfl rfl (ltb rfl) rfl q3 rfl ?_)
  refine AO.op rfl (AOp.move rfl rfl (ltb rfl) rfl ?_)
  refine AO.dec (decide (y4 ≤ (0 : Int))) (fun q6 => ?_) (fun q6 => ?_)
  ·replace h0 := cT h0 q6
   refine AO.guardN rfl rfl rfl (ltb rfl) rfl q6 ?_
   refine AO.guardN rfl rfl rfl (ltb rfl) rfl q6 ?_
   refine AO.guardN rfl rfl rfl (ltb rfl) rfl q6 ?_
   refine AO.guardN rfl rfl rfl (ltb rfl) rfl q6 ?_
   refine AO.guardN rfl rfl rfl (ltb rfl) rfl q6 ?_
   refine AO.guardU rfl rfl rfl (ltb rfl) rfl ?_
   refine AO.guardU rfl rfl rfl (ltb rfl) rfl ?_
   refine AO.guardU rfl rfl rfl (ltb rfl) rfl ?_
   refine AO.guardU rfl rfl rfl (ltb rfl) rfl ?_
   refine AO.guardN rfl rfl rfl (ltb rfl) rfl q6 ?_
   refine AO.op rfl (AOp.pick rfl rfl (ltb rfl) rfl q6 rfl ?_)
   refine AO.op rfl (AOp.assign rfl rfl (ltb rfl) rfl ?_)
   refine AO.nil ?_
   change AC _ _ _ _
   refine AC.ret ?_
   change RetQ _ _ _ .ret _
   obtain rfl := Option.some.inj h0
   refine retq rfl rfl
  replace h0 := cF h0 q6
  refine AO.guardY rfl rfl rfl q6 (AOp.loadN rfl rfl (ltb rfl) rfl agg30 size30 rfl (leb rfl) rfl ?_)
  refine AO.guardY rfl rfl rfl q6 (AOp.loadN rfl rfl (ltb rfl) rfl agg30 size30 rfl (leb rfl) rfl ?_)
  obtain ⟨y7, q8, h0⟩ := bind_elim h0
  refine AO.guardY rfl rfl rfl q6 (AOp.callD rfl rfl (ltb rfl) rfl rfl (w_Dyadic_Cmp F a1 a2 y7 q8) ?_)
  rintro _ rfl
  refine AO.guardY rfl rfl rfl q6 (AOp.ileq rfl rfl (ltb rfl) rfl rfl ?_)
  refine AO.guardY rfl rfl rfl q6 (AOp.move rfl rfl (ltb rfl) rfl ?_)
  refine AO.dec (decide (y7 ≤ (0 : Int))) (fun q9 => ?_) (fun q9 => ?_)
  ·replace h0 := cT h0 q9
   refine AO.guardY rfl rfl rfl q9 (AOp.loadN rfl rfl (ltb rfl) rfl agg30 size30 rfl (leb rfl) rfl ?_)
   refine AO.guardY rfl rfl rfl q9 (AOp.loadN rfl rfl (ltb rfl) rfl agg30 size30 rfl (leb rfl) rfl ?_)
   obtain ⟨y10, q11, h0⟩ := bind_elim h0
   refine AO.guardY rfl rfl rfl q9 (AOp.callD rfl rfl (ltb rfl) rfl rfl (w_Dyadic_Cmp F a2 a0 y10 q11) ?_)
   rintro _ rfl
   refine AO.guardY rfl rfl rfl q9 (AOp.ileq rfl rfl (ltb rfl) rfl rfl ?_)
   refine AO.guardY rfl rfl rfl q6 (AOp.pick rfl rfl (ltb rfl) rfl q9 rfl ?_)
   refine AO.op rfl (AOp.pickN rfl rfl (ltb rfl) rfl q6 rfl ?_)
   refine AO.op rfl (AOp.assign rfl rfl (ltb rfl) rfl ?_)
   refine AO.nil ?_
   change AC _ _ _ _
   refine AC.ret ?_
   change RetQ _ _ _ .ret _
   obtain rfl := Option.some.inj h0
   refine retq rfl rfl
  replace h0 := cF h0 q9
  refine AO.guardN rfl rfl rfl (ltb rfl) rfl q9 ?_
  refine AO.guardN rfl rfl rfl (ltb rfl) rfl q9 ?_
  refine AO.guardN rfl rfl rfl (ltb rfl) rfl q9 ?_
  refine AO.guardN rfl rfl rfl (ltb rfl) rfl q9 ?_
  refine AO.guardY rfl rfl rfl q6 (AOp.pickN rfl rfl (ltb rfl) rfl q9 rfl ?_)
  refine AO.op rfl (AOp.pickN rfl rfl (ltb rfl) rfl q6 rfl ?_)
  refine AO.op rfl (AOp.assign rfl rfl (ltb rfl) rfl ?_)
  refine AO.nil ?_
  change AC _ _ _ _
  refine AC.ret ?_
  change RetQ _ _ _ .ret _
  obtain rfl := Option.some.inj h0
  refine retq rfl rfl
 replace h0 := cF h0 q3
 refine AO.guardN rfl rfl rfl (ltb rfl) rfl q3 ?_
 refine AO.guardN rfl rfl rfl (ltb rfl) rfl q3 ?_
 refine AO.guardN rfl rfl rfl (ltb rfl) rfl q3 ?_
 refine AO.guardN rfl rfl rfl (ltb rfl) rfl q3 ?_
 refine AO.op rfl (AOp.pickN rfl rfl (ltb rfl) rfl q3 rfl ?_)
 refine AO.op rfl (AOp.move rfl rfl (ltb rfl) rfl ?_)
 refine AO.guardY rfl rfl rfl rfl (AOp.loadN rfl rfl (ltb rfl) rfl agg30 size30 rfl (leb rfl) rfl ?_)
 refine AO.guardY rfl rfl rfl rfl (AOp.loadN rfl rfl (ltb rfl) rfl agg30 size30 rfl (leb rfl) rfl ?_)
 obtain ⟨y12, q13, h0⟩ := bind_elim h0
 refine AO.guardY rfl rfl rfl rfl (AOp.callD rfl rfl (ltb rfl) rfl rfl (w_Dyadic_Cmp F a1 a2 y12 q13) ?_)
 rintro _ rfl
 refine AO.guardY rfl rfl rfl rfl (AOp.ileq rfl rfl (ltb rfl) rfl rfl ?_)
 refine AO.guardY rfl rfl rfl rfl (AOp.move rfl rfl (ltb rfl) rfl ?_)
 refine AO.dec (decide (y12 ≤ (0 : Int))) (fun q14 => ?_) (fun q14 => ?_)
 ·replace h0 := cT h0 q14
  refine AO.guardY rfl rfl rfl q14 (AOp.loadN rfl rfl (ltb rfl) rfl agg30 size30 rfl (leb rfl) rfl ?_)
  refine AO.guardY rfl rfl rfl q14 (AOp.loadN rfl rfl (ltb rfl) rfl agg30 size30 rfl (leb rfl) rfl ?_)
  obtain ⟨y15, q16, h0⟩ := bind_elim h0
  refine AO.guardY rfl rfl rfl q14 (AOp.callD rfl rfl (ltb rfl) rfl rfl (w_Dyadic_Cmp F a2 a0 y15 q16) ?_)
  rintro _ rfl
  refine AO.guardY rfl rfl rfl q14 (AOp.ileq rfl rfl (ltb rfl) rfl rfl ?_)
  refine AO.guardY rfl rfl rfl rfl (AOp.pick rfl rfl (ltb rfl) rfl q14 rfl ?_)
  refine AO.op rfl (AOp.pickN rfl rfl (ltb rfl) rfl rfl rfl ?_)
  refine AO.op rfl (AOp.assign rfl rfl (ltb rfl) rfl ?_)
  refine AO.nil ?_
  change AC _ _ _ _
  refine AC.ret ?_
  change RetQ _ _ _ .ret _
  obtain rfl := Option.some.inj h0
  refine retq rfl rfl
 replace h0 := cF h0 q14
 refine AO.guardN rfl rfl rfl (ltb rfl) rfl q14 ?_
 refine AO.guardN rfl rfl rfl (ltb rfl) rfl q14 ?_
 refine AO.guardN rfl rfl rfl (ltb rfl) rfl q14 ?_
 refine AO.guardN rfl rfl rfl (ltb rfl) rfl q14 ?_
 refine AO.guardY rfl rfl rfl rfl (AOp.pickN rfl rfl (ltb rfl) rfl q14 rfl ?_)
 refine AO.op rfl (AOp.pickN rfl rfl (ltb rfl) rfl rfl rfl ?_)
 refine AO.op rfl (AOp.assign rfl rfl (ltb rfl) rfl ?_)
 refine AO.nil ?_
 change AC _ _ _ _
 refine AC.ret ?_
 change RetQ _ _ _ .ret _
 obtain rfl := Option.some.inj h0
 refine retq rfl rfl

set_option maxRecDepth 100000 in
set_option maxHeartbeats 4000000 in
/-- pub-orthodrome/spec.OnSegment -/
theorem w_OnSegment (F : Nat) (a0 : TSpec_Point) (a1 : TSpec_Point) (a2 : TSpec_Point) (r0 : Bool) (h0 : p_OnSegment F a0 a1 a2 = some r0) : FnD Tryz.prog 12 [e_TSpec_Point a0, e_TSpec_Point a1, e_TSpec_Point a2] (fun r => r = dbool r0) := by
 refine FnD.of (by kernel_rfl) Tryz.func12 rfl Tryz.ntmps12 rfl (leb rfl) fun W ok => ?_
 unfold p_OnSegment at h0
 refine AC.seq ?_
 refine AC.region ?_
 refine AO.op rfl (AOp.box rfl rfl (ltb rfl) rfl rfl ?_)
 refine AO.op rfl (AOp.box rfl rfl (ltb rfl) rfl rfl ?_)
 refine AO.op rfl (AOp.box rfl rfl (ltb rfl) rfl rfl ?_)
 refine AO.op rfl (AOp.assign rfl rfl (ltb rfl) rfl ?_)
 refine AO.nil ?_
 change AC _ _ _ _
 refine AC.seq ?_
 refine AC.region ?_
 refine AO.op rfl (AOp.loadN rfl rfl (ltb rfl) rfl agg32 size32 rfl (leb rfl) rfl ?_)
 refine AO.op rfl (AOp.loadN rfl rfl (ltb rfl) rfl agg32 size32 rfl (leb rfl) rfl ?_)
 refine AO.op rfl (AOp.loadN rfl rfl (ltb rfl) rfl agg32 size32 rfl (leb rfl) rfl ?_)
 obtain ⟨y1, q2, h0⟩ := bind_elim h0
 refine AO.op rfl (AOp.callD rfl rfl (ltb rfl) rfl rfl (w_Orient F a1 a2 a0 y1 q2) ?_)
 rintro _ rfl
 refine AO.op rfl (AOp.ieql rfl rfl (ltb rfl) rfl rfl ?_)
 refine AO.op rfl (AOp.move rfl rfl (ltb rfl) rfl ?_)
 refine AO.dec (decide (y1 = (0 : Int))) (fun q3 => ?_) (fun q3 => ?_)
 ·replace h0 := cT h0 q3
  refine AO.guardY rfl rfl rfl q3 (AOp.fieldAddr rfl rfl (ltb rfl) rfl fo32_0 ?_)
  refine AO.guardY rfl rfl rfl q3 (AOp.loadN rfl rfl (ltb rfl) rfl agg30 size30 rfl (leb rfl) rfl ?_)
  refine AO.guardY rfl rfl rfl q3 (AOp.fieldAddr rfl rfl (ltb rfl) rfl fo32_0 ?_)
  refine AO.guardY rfl rfl rfl q3 (AOp.loadN rfl rfl (ltb rfl) rfl agg30 size30 rfl (leb rfl) rfl ?_)
  refine AO.guardY rfl rfl rfl q3 (AOp.fieldAddr rfl rfl (ltb rfl) rfl fo32_0 ?_)
  refine AO.guardY rfl rfl rfl q3 (AOp.loadN rfl rfl (ltb rfl) rfl agg30 size30 rfl (leb rfl) rfl ?_)
  obtain ⟨y4, q5, h0⟩ := bind_elim h0
  refine AO.guardY rfl rfl rfl q3 (AOp.callD rfl rfl (ltb rfl) rfl rfl (w_Between F a1.X a2.X a0.X y4 q5) ?_)
  rintro _ rfl
  refine AO.op rfl (AOp.pick rfl rfl (ltb rfl) rfl q3 rfl ?_)
  refine AO.op rfl (AOp.move rfl rfl (ltb rfl) rfl ?_)
  refine AO.dec y4 (fun q6 => ?_) (fun q6 => ?_)
  ·replace h0 := cT h0 q6
   refine AO.guardY rfl rfl rfl q6 (AOp.fieldAddr rfl rfl (ltb rfl) rfl fo32_1 ?_)
   refine AO.guardY rfl rfl rfl q6 (AOp.loadN rfl rfl (ltb rfl) rfl agg30 size30 rfl (leb rfl) rfl ?_)
   refine AO.guardY rfl rfl rfl q6 (AOp.fieldAddr rfl rfl (ltb rfl) rfl fo32_1 ?_)
   refine AO.guardY rfl rfl rfl q6 (AOp.loadN rfl rfl (ltb rfl) rfl agg30 size30 rfl (leb rfl) rfl ?_)
   refine AO.guardY rfl rfl rfl q6 (AOp.fieldAddr rfl rfl (ltb rfl) rfl fo32_1 ?_)
   refine AO.guardY rfl rfl rfl q6 (AOp.loadN rfl rfl (ltb rfl) rfl agg30 size30 rfl (leb rfl) rfl ?_)
   obtain ⟨y7, q8, h0⟩ := bind_elim h0
   refine AO.guardY rfl rfl rfl q6 (AOp.callD rfl rfl (ltb rfl) rfl rfl (w_Between F a1.Y a2.Y a0.Y y7 q8) ?_)
   rintro _ rfl
   refine AO.op rfl (AOp.pick rfl rfl (ltb rfl) rfl q6 rfl ?_)
   refine AO.op rfl (AOp.assign rfl rfl (ltb rfl) rfl ?_)
   refine AO.nil ?_
   change AC _ _ _ _
   refine AC.ret ?_
   change RetQ _ _ _ .ret _
   obtain rfl := Option.some.inj h0
   refine retq rfl rfl
  replace h0 := cF h0 q6
  refine AO.guardN rfl rfl rfl (ltb rfl) rfl q6 ?_
  refine AO.guardN rfl rfl rfl (ltb rfl) rfl q6 ?_
  refine AO.guardN rfl rfl rfl (ltb rfl) rfl q6 ?_
  refine AO.guardN rfl rfl rfl (ltb rfl) rfl q6 ?_
  refine AO.guardN rfl rfl rfl (ltb rfl) rfl q6 ?_
  refine AO.guardN rfl rfl rfl (ltb rfl) rfl q6 ?_
  refine AO.guardN rfl rfl rfl (ltb rfl) rfl q6 ?_
  refine AO.op rfl (AOp.pickN rfl rfl (ltb rfl) rfl q6 rfl ?_)
  refine AO.op rfl (AOp.assign rfl rfl (ltb rfl) rfl ?_)
  refine AO.nil ?_
  change AC _ _ _ _
  refine AC.ret ?_
  change RetQ _ _ _ .ret _
  obtain rfl := Option.some.inj h0
  refine retq rfl rfl
 replace h0 := cF h0 q3
 refine AO.guardN rfl rfl rfl (ltb rfl) rfl q3 ?_
 refine AO.guardN rfl rfl rfl (ltb rfl) rfl q3 ?_
 refine AO.guardN rfl rfl rfl (ltb rfl) rfl q3 ?_
 refine AO.guardN rfl rfl rfl (ltb rfl) rfl q3 ?_
 refine AO.guardN rfl rfl rfl (ltb rfl) rfl q3 ?_
 refine AO.guardN rfl rfl rfl (ltb rfl) rfl q3 ?_
 refine AO.guardN rfl rfl rfl (ltb rfl) rfl q3 ?_
 refine AO.op rfl (AOp.pickN rfl rfl (ltb rfl) rfl q3 rfl ?_)
 refine AO.op rfl (AOp.move rfl rfl (ltb rfl) rfl ?_)
 refine AO.guardN rfl rfl rfl (ltb rfl) rfl rfl ?_
 refine AO.guardN rfl rfl rfl (ltb rfl) rfl rfl ?_
 refine AO.guardN rfl rfl rfl (ltb rfl) rfl rfl ?_
 refine AO.guardN rfl rfl rfl (ltb rfl) rfl rfl ?_
 refine AO.guardN rfl rfl rfl (ltb rfl) rfl rfl ?_
 refine AO.guardN rfl rfl rfl (ltb rfl) rfl rfl ?_
 refine AO.guardN rfl rfl rfl (ltb rfl) rfl rfl ?_
 refine AO.op rfl (AOp.pickN rfl rfl (ltb rfl) rfl rfl rfl ?_)
 refine AO.op rfl (AOp.assign rfl rfl (ltb rfl) rfl ?_)
 refine AO.nil ?_
 change AC _ _ _ _
 refine AC.ret ?_
 change RetQ _ _ _ .ret _
 obtain rfl := Option.some.inj h0
 refine retq rfl rfl

set_option maxRecDepth 100000 in
set_option maxHeartbeats 4000000 in
/-- pub-orthodrome/spec.Less -/
theorem w_Less (F : Nat) (a0 : TSpec_Point) (a1 : TSpec_Point) (r0 : Bool) (h0 : p_Less F a0 a1 = some r0) : FnD Tryz.prog 32 [e_TSpec_Point a0, e_TSpec_Point a1] (fun r => r = dbool r0) := by
 refine FnD.of (by kernel_rfl) Tryz.func32 rfl Tryz.ntmps32 rfl (leb rfl) fun W ok => ?_
 unfold p_Less at h0
 refine AC.seq ?_
 refine AC.region ?_
 refine AO.op rfl (AOp.box rfl rfl (ltb rfl) rfl rfl ?_)
 refine AO.op rfl (AOp.box rfl rfl (ltb rfl) rfl rfl ?_)
 refine AO.op rfl (AOp.assign rfl rfl (ltb rfl) rfl ?_)
 refine AO.nil ?_
 change AC _ _ _ _
 refine AC.seq ?_
 refine AC.region ?_
 refine AO.op rfl (AOp.fieldAddr rfl rfl (ltb rfl) rfl fo32_0 ?_)
 refine AO.op rfl (AOp.loadN rfl rfl (ltb rfl) rfl agg30 size30 rfl (leb rfl) rfl ?_)
 refine AO.op rfl (AOp.fieldAddr rfl rfl (ltb rfl) rfl fo32_0 ?_)
 refine AO.op rfl (AOp.loadN rfl rfl (ltb rfl) rfl agg30 size30 rfl (leb rfl) rfl ?_)
 obtain ⟨y1, q2, h0⟩ := bind_elim h0
 refine AO.op rfl (AOp.callD rfl rfl (ltb rfl) rfl rfl (w_Dyadic_Cmp F a0.X a1.X y1 q2) ?_)
 rintro _ rfl
 refine AO.op rfl (AOp.assign rfl rfl (ltb rfl) rfl ?_)
 refine AO.nil ?_
 change AC _ _ _ _
 refine AC.seq ?_
 refine AC.region ?_
 refine AO.op rfl (AOp.move rfl rfl (ltb rfl) rfl ?_)
 refine AO.op rfl (AOp.ilss rfl rfl (ltb rfl) rfl rfl ?_)
 refine AO.op rfl (AOp.move rfl rfl (ltb rfl) rfl ?_)
 refine AO.dec (decide (y1 < (0 : Int))) (fun q3 => ?_) (fun q3 => ?_)
 ·replace h0 := cT h0 q3
  refine AO.guardN rfl rfl rfl (ltb rfl) rfl q3 ?_
  refine AO.guardN rfl rfl rfl (ltb rfl) rfl q3 ?_
  refine AO.guardN rfl rfl rfl (ltb rfl) rfl q3 ?_
  refine AO.guardU rfl rfl rfl (ltb rfl) rfl ?_
  refine AO.guardU rfl rfl rfl (ltb rfl) rfl ?_
  refine AO.guardU rfl rfl rfl (ltb rfl) rfl ?_
  refine AO.guardU rfl rfl rfl (ltb rfl) rfl ?_
  refine AO.guardU rfl rfl rfl (ltb rfl) rfl ?_
  refine AO.guardU rfl rfl rfl (ltb rfl) rfl ?_
  refine AO.guardN rfl rfl rfl (ltb rfl) rfl q3 ?_
  refine AO.op rfl (AOp.pick rfl rfl (ltb rfl) rfl q3 rfl ?_)
  refine AO.op rfl (AOp.assign rfl rfl (ltb rfl) rfl ?_)
  refine AO.nil ?_
  change AC _ _ _ _
  refine AC.ret ?_
  change RetQ _ _ _ .ret _
  obtain rfl := Option.some.inj h0
  refine retq rfl rfl
 replace h0 := cF h0 q3
 refine AO.guardY rfl rfl rfl q3 (AOp.move rfl rfl (ltb rfl) rfl ?_)
 refine AO.guardY rfl rfl rfl q3 (AOp.ieql rfl rfl (ltb rfl) rfl rfl ?_)
 refine AO.guardY rfl rfl rfl q3 (AOp.move rfl rfl (ltb rfl) rfl ?_)
 refine AO.dec (decide (y1 = (0 : Int))) (fun q4 => ?_) (fun q4 => ?_)
 ·replace h0 := cT h0 q4
  refine AO.guardY rfl rfl rfl q4 (AOp.fieldAddr rfl rfl (ltb rfl) rfl fo32_1 ?_)
  refine AO.guardY rfl rfl rfl q4 (AOp.loadN rfl rfl (ltb rfl) rfl agg30 size30 rfl (leb rfl) rfl ?_)
  refine AO.guardY rfl rfl rfl q4 (AOp.fieldAddr rfl rfl (ltb rfl) rfl fo32_1 ?_)
  refine AO.guardY rfl rfl rfl q4 (AOp.loadN rfl rfl (ltb rfl) rfl agg30 size30 rfl (leb rfl) rfl ?_)
  obtain ⟨y5, q6, h0⟩ := bind_elim h0
  refine AO.guardY rfl rfl rfl q4 (AOp.callD rfl rfl (ltb rfl) rfl rfl (w_Dyadic_Cmp F a0.Y a1.Y y5 q6) ?_)
  rintro _ rfl
  refine AO.guardY rfl rfl rfl q4 (AOp.ilss rfl rfl (ltb rfl) rfl rfl ?_)
  refine AO.guardY rfl rfl rfl q3 (AOp.pick rfl rfl (ltb rfl) rfl q4 rfl ?_)
  refine AO.op rfl (AOp.pickN rfl rfl (ltb rfl) rfl q3 rfl ?_)
  refine AO.op rfl (AOp.assign rfl rfl (ltb rfl) rfl ?_)
  refine AO.nil ?_
  change AC _ _ _ _
  refine AC.ret ?_
  change RetQ _ _ _ .ret _
  obtain rfl := Option.some.inj h0
  refine retq rfl rfl
 replace h0 := cF h0 q4
 refine AO.guardN rfl rfl rfl (ltb rfl) rfl q4 ?_
 refine AO.guardN rfl rfl rfl (ltb rfl) rfl q4 ?_
 refine AO.guardN rfl rfl rfl (ltb rfl) rfl q4 ?_
 refine AO.guardN rfl rfl rfl (ltb rfl) rfl q4 ?_
 refine AO.guardN rfl rfl rfl (ltb rfl) rfl q4 ?_
 refine AO.guardN rfl rfl rfl (ltb rfl) rfl q4 ?_
 refine AO.guardY rfl rfl rfl q3 (AOp.pickN rfl rfl (ltb rfl) rfl q4 rfl ?_)
 refine AO.op rfl (AOp.pickN rfl rfl (ltb rfl) rfl q3 rfl ?_)
 refine AO.op rfl (AOp.assign rfl rfl (ltb rfl) rfl ?_)
 refine AO.nil ?_
 change AC _ _ _ _
 refine AC.ret ?_
 change RetQ _ _ _ .ret _
 obtain rfl := Option.some.inj h0
 refine retq rfl rfl

set_option maxRecDepth 100000 in
set_option maxHeartbeats 4000000 in
/-- pub-orthodrome/spec.Same -/
theorem w_Same (F : Nat) (a0 : TSpec_Point) (a1 : TSpec_Point) (r0 : Bool) (h0 : p_Same F a0 a1 = some r0) : FnD Tryz.prog 33 [e_TSpec_Point a0, e_TSpec_Point a1] (fun r => r = dbool r0) := by
 refine FnD.of (by kernel_rfl) Tryz.func33 rfl Tryz.ntmps33 rfl (leb rfl) fun W ok => ?_
 unfold p_Same at h0
 refine AC.seq ?_
 refine AC.region ?_
 refine AO.op rfl (AOp.box rfl rfl (ltb rfl) rfl rfl ?_)
 refine AO.op rfl (AOp.box rfl rfl (ltb rfl) rfl rfl ?_)
 refine AO.op rfl (AOp.assign rfl rfl (ltb rfl) rfl ?_)
 refine AO.nil ?_
 change AC _ _ _ _
 refine AC.seq ?_
 refine AC.region ?_
 refine AO.op rfl (AOp.fieldAddr rfl rfl (ltb rfl) rfl fo32_0 ?_)
 refine AO.op rfl (AOp.loadN rfl rfl (ltb rfl) rfl agg30 size30 rfl (leb rfl) rfl ?_)
 refine AO.op rfl (AOp.fieldAddr rfl rfl (ltb rfl) rfl fo32_0 ?_)
 refine AO.op rfl (AOp.loadN rfl rfl (ltb rfl) rfl agg30 size30 rfl (leb rfl) rfl ?_)
 obtain ⟨y1, q2, h0⟩ := bind_elim h0
 refine AO.op rfl (AOp.callD rfl rfl (ltb rfl) rfl rfl (w_Dyadic_Cmp F a0.X a1.X y1 q2) ?_)
 rintro _ rfl
 refine AO.op rfl (AOp.ieql rfl rfl (ltb rfl) rfl rfl ?_)
 refine AO.op rfl (AOp.move rfl rfl (ltb rfl) rfl ?_)
 refine AO.dec (decide (y1 = (0 : Int))) (fun q3 => ?_) (fun q3 => ?_)
 ·replace h0 := cT h0 q3
  refine AO.guardY rfl rfl rfl q3 (AOp.fieldAddr rfl rfl (ltb rfl) rfl fo32_1 ?_)
  refine AO.guardY rfl rfl rfl q3 (AOp.loadN rfl rfl (ltb rfl) rfl agg30 size30 rfl (leb rfl) rfl ?_)
  refine AO.guardY rfl rfl rfl q3 (AOp.fieldAddr rfl rfl (ltb rfl) rfl fo32_1 ?_)
  refine AO.guardY rfl rfl rfl q3 (AOp.loadN rfl rfl (ltb rfl) rfl agg30 size30 rfl (leb rfl) rfl ?_)
  obtain ⟨y4, q5, h0⟩ := bind_elim h0
  refine AO.guardY rfl rfl rfl q3 (AOp.callD rfl rfl (ltb rfl) rfl rfl (w_Dyadic_Cmp F a0.Y a1.Y y4 q5) ?_)
  rintro _ rfl
  refine AO.guardY rfl rfl rfl q3 (AOp.ieql rfl rfl (ltb rfl) rfl rfl ?_)
  refine AO.op rfl (AOp.pick rfl rfl (ltb rfl) rfl q3 rfl ?_)
  refine AO.op rfl (AOp.assign rfl rfl (ltb rfl) rfl ?_)
  refine AO.nil ?_
  change AC _ _ _ _
  refine AC.ret ?_
  change RetQ _ _ _ .ret _
  obtain rfl := Option.some.inj h0
  refine retq rfl rfl
 replace h0 := cF h0 q3
 refine AO.guardN rfl rfl rfl (ltb rfl) rfl q3 ?_
 refine AO.guardN rfl rfl rfl (ltb rfl) rfl q3 ?_
 refine AO.guardN rfl rfl rfl (ltb rfl) rfl q3 ?_
 refine AO.guardN rfl rfl rfl (ltb rfl) rfl q3 ?_
 refine AO.guardN rfl rfl rfl (ltb rfl) rfl q3 ?_
 refine AO.guardN rfl rfl rfl (ltb rfl) rfl q3 ?_
 refine AO.op rfl (AOp.pickN rfl rfl (ltb rfl) rfl q3 rfl ?_)
 refine AO.op rfl (AOp.assign rfl rfl (ltb rfl) rfl ?_)
 refine AO.nil ?_
 change AC _ _ _ _
 refine AC.ret ?_
 change RetQ _ _ _ .ret _
 obtain rfl := Option.some.inj h0
 refine retq rfl rfl

set_option maxRecDepth 100000 in
set_option maxHeartbeats 4000000 in
/-- pub-orthodrome/spec.Distinct -/
theorem w_Distinct (F : Nat) (a0 : (List TSpec_Point)) (r0 : (List TSpec_Point)) (h0 : p_Distinct F a0 = some r0) : FnD Tryz.prog 13 [eS3 a0] (fun r => r = eS3 r0) := by
 refine FnD.of (by kernel_rfl) Tryz.func13 rfl Tryz.ntmps13 rfl (leb rfl) fun W ok => ?_
 unfold p_Distinct at h0
 refine AC.seq ?_
 refine AC.region ?_
 refine AO.op rfl (AOp.assign rfl rfl (ltb rfl) rfl ?_)
 refine AO.sub 2 rfl (SVLe.nil 6) ?_
 refine AO.nil ?_
 change AC _ _ _ _
 refine AC.seq ?_
 refine AC.region ?_
 refine AO.op rfl (AOp.assign rfl rfl (ltb rfl) rfl ?_)
 refine AO.sub 3 rfl (SVLe.nil 6) ?_
 refine AO.nil ?_
 change AC _ _ _ _
 refine AC.seq ?_
 refine AC.seq ?_
 refine AC.region ?_
 refine AO.op rfl (AOp.move rfl rfl (ltb rfl) rfl ?_)
 refine AO.op rfl (AOp.lenDs (n := a0.length) (cells := (List.flatMap c_TSpec_Point a0)) rfl rfl (ltb rfl) rfl el47 (by decide) (lenN _ 6 (fun _ => rfl) _) ?_)
 refine AO.op rfl (AOp.move rfl rfl (ltb rfl) rfl ?_)
 refine AO.nil ?_
 change AC _ _ _ _
 obtain ⟨o1, l2, h0⟩ := bind_elim h0
 refine AC.joinE (V := (List TSpec_Point)) [] [3] 0 (fun g3 => [(3, .d (eS3 g3))]) (fun g3 => []) (fun g3 => p_Distinct_k1 g3 = some r0) rfl ?_ ?_
 ·refine AC.block ?_
  refine AC.loopP (V := ((List TSpec_Point) × Int)) (p_Distinct_l2 a0 F) o1 [7, 8] [3, 9] 0 (fun g4 => [(3, .d (eS3 g4.1)), (9, .d (di .i64 g4.2))]) (fun g4 => []) F ([], (0 : Int)) l2 rfl rfl (LeL.refl _) rfl rfl ?_
  intro n6 g4 h1
  unfold p_Distinct_l2 at h1
  refine AC.seq ?_
  refine AC.region ?_
  refine AO.op rfl (AOp.ilss rfl rfl (ltb rfl) rfl rfl ?_)
  refine AO.nil ?_
  change AC _ _ _ _
  refine AC.seq ?_
  refine AC.cond rfl (fun q7 => ?_) (fun q7 => ?_)
  ·replace h1 := cT h1 q7
   refine AC.skip ?_
   change AC _ _ _ _
   refine AC.seq ?_
   refine AC.block ?_
   refine AC.seq ?_
   refine AC.region ?_
   obtain ⟨x8, q9, h1⟩ := idx_elim h1
   refine AO.op rfl (AOp.indexDs (cells := (List.flatMap c_TSpec_Point a0)) rfl rfl (ltb rfl) rfl rfl el47 (by decide) q9.1 (ltN 6 (fun _ => rfl) (by decide) q9.2) ?_)
   refine AO.op rfl (AOp.loadEpN rfl rfl (ltb rfl) rfl agg32 size32 (leN 6 (fun _ => rfl) q9.2) (atN 6 (fun _ => rfl) q9.2) ?_)
   refine AO.op rfl (AOp.alloc rfl rfl (ltb rfl) zero32 rfl ?_)
   refine AO.op rfl (AOp.store rfl rfl rfl rfl size32 rfl rfl rfl (leb rfl) ?_)
   refine AO.nil ?_
   change AC _ _ _ _
   refine AC.seq ?_
   refine AC.region ?_
   refine AO.op rfl (AOp.assign rfl rfl (ltb rfl) rfl ?_)
   refine AO.nil ?_
   change AC _ _ _ _
   obtain ⟨o10, l11, h1⟩ := bind_elim h1
   refine AC.joinP (V := Int) [3, 5, 7, 8, 9] [6] 1 (fun g12 => [(6, .d (di .i64 g12))]) (fun g12 => [.fix 32 [.d (dbool x8.X.N.Neg), .d (eS2 x8.X.N.L), .d (di .i64 x8.X.E), .d (dbool x8.Y.N.Neg), .d (eS2 x8.Y.N.L), .d (di .i64 x8.Y.E)]]) (fun g12 => (p_Distinct_k3 F g4 (iter (p_Distinct_l2 a0 F) n6) x8) g12 = some o1) rfl ?_ ?_
   ·refine AC.block ?_
    refine AC.loopP (V := Int) (p_Distinct_l5 F g4 x8) o10 [3, 5, 7, 8, 9] [6] 1 (fun g26 => [(6, .d (di .i64 g26))]) (fun g26 => [.fix 32 [.d (dbool x8.X.N.Neg), .d (eS2 x8.X.N.L), .d (di .i64 x8.X.E), .d (dbool x8.Y.N.Neg), .d (eS2 x8.Y.N.L), .d (di .i64 x8.Y.E)]]) F (0 : Int) l11 rfl rfl (LeL.refl _) rfl rfl ?_
    intro n28 g26 h2
    unfold p_Distinct_l5 at h2
    refine AC.seq ?_
    refine AC.seq ?_
    refine AC.draw 12 mixed (by kernel_rfl) ?_
    refine AD.op [6] rfl (by kernel_rfl) rfl rfl (fun _ _ h => AOp.move rfl rfl (ltb rfl) rfl h) ?_
    refine AD.op [3] rfl (by kernel_rfl) rfl rfl (fun _ _ h => AOp.move rfl rfl (ltb rfl) rfl h) ?_
    refine AD.op [14] rfl (by kernel_rfl) rfl rfl (fun _ _ h => AOp.lenDs (n := g4.1.length) (cells := (List.flatMap c_TSpec_Point g4.1)) rfl rfl (ltb rfl) rfl el47 (by decide) (lenN _ 6 (fun _ => rfl) _) h) ?_
    refine AD.op [13, 15] rfl (by kernel_rfl) rfl rfl (fun _ _ h => AOp.ilss rfl rfl (ltb rfl) rfl rfl h) ?_
    refine AD.op [16] rfl (by kernel_rfl) rfl rfl (fun _ _ h => AOp.move rfl rfl (ltb rfl) rfl h) ?_
    refine AD.dec (decide (g26 < ((g4.1.length : Nat) : Int))) (fun q29 => ?_) (fun q29 => ?_)
    ·replace h2 := cT h2 q29
     refine AD.opY [3, 17] rfl rfl rfl q29 (by kernel_rfl) rfl rfl (fun _ _ h => AOp.move rfl rfl (ltb rfl) rfl h) ?_
     refine AD.opY [6, 17] rfl rfl rfl q29 (by kernel_rfl) rfl rfl (fun _ _ h => AOp.move rfl rfl (ltb rfl) rfl h) ?_
     obtain ⟨x30, q31, h2⟩ := idx_elim h2
     refine AD.opY [17, 18, 19] rfl rfl rfl q29 (by kernel_rfl) rfl rfl (fun _ _ h => AOp.indexDs (cells := (List.flatMap c_TSpec_Point g4.1)) rfl rfl (ltb rfl) rfl rfl el47 (by decide) q31.1 (ltN 6 (fun _ => rfl) (by decide) q31.2) h) ?_
     refine AD.opY [17, 20] rfl rfl rfl q29 (by kernel_rfl) rfl rfl (fun _ _ h => AOp.loadEpN rfl rfl (ltb rfl) rfl agg32 size32 (leN 6 (fun _ => rfl) q31.2) (atN 6 (fun _ => rfl) q31.2) h) ?_
     refine AD.opY [5, 17] rfl rfl rfl q29 (by kernel_rfl) rfl rfl (fun _ _ h => AOp.loadN rfl rfl (ltb rfl) rfl agg32 size32 rfl (leb rfl) rfl h) ?_
     obtain ⟨y32, q33, h2⟩ := bind_elim h2
     refine AD.opY [17, 21, 22] rfl rfl rfl q29 (by kernel_rfl) rfl rfl (fun _ _ h => AOp.callD rfl rfl (ltb rfl) rfl rfl (w_Less F x30 x8 y32 q33) (by rintro _ rfl; exact h)) ?_
     refine AD.op [17, 23] rfl (by kernel_rfl) rfl rfl (fun _ _ h => AOp.pick rfl rfl (ltb rfl) rfl q29 rfl h) ?_
     refine AD.done ?_
     refine AO.nil ?_
     change AC _ _ _ _
     refine AC.cond rfl (fun q34 => ?_) (fun q34 => ?_)
     ·replace h2 := cT h2 q34
      refine AC.skip ?_
      change AC _ _ _ _
      refine AC.block ?_
      refine AC.region ?_
      refine AO.op rfl (AOp.move rfl rfl (ltb rfl) rfl ?_)
      obtain ⟨q35, h2⟩ := need_elim h2
      refine AO.op rfl (AOp.iadd rfl rfl (ltb rfl) rfl rfl rfl q35.1 q35.2 ?_)
      refine AO.op rfl (AOp.assign rfl rfl (ltb rfl) rfl ?_)
      refine AO.nil ?_
      exact ⟨(g26 + (1 : Int)), _, rfl, (LeL.refl _), rfl, rfl, h2⟩
     replace h2 := cF h2 q34
     refine AC.exit ?_
     obtain rfl := Option.some.inj h2
     exact ⟨g26, _, rfl, (LeL.refl _), rfl, rfl, aftL h1⟩
    replace h2 := cF h2 q29
    refine AD.opN rfl rfl rfl (ltb rfl) rfl q29 ?_
    refine AD.opN rfl rfl rfl (ltb rfl) rfl q29 ?_
    refine AD.opN rfl rfl rfl (ltb rfl) rfl q29 ?_
    refine AD.opN rfl rfl rfl (ltb rfl) rfl q29 ?_
    refine AD.opN rfl rfl rfl (ltb rfl) rfl q29 ?_
    refine AD.opN rfl rfl rfl (ltb rfl) rfl q29 ?_
    refine AD.op [17, 23] rfl (by kernel_rfl) rfl rfl (fun _ _ h => AOp.pickN rfl rfl (ltb rfl) rfl q29 rfl h) ?_
    refine AD.done ?_
    refine AO.nil ?_
    change AC _ _ _ _
    refine AC.condF rfl rfl ?_
    refine AC.exit ?_
    obtain rfl := Option.some.inj h2
    exact ⟨g26, _, rfl, (LeL.refl _), rfl, rfl, aftL h1⟩
   intro g12 h1
   unfold p_Distinct_k3 at h1
   refine AC.joinP (V := Unit) [3, 5, 6, 7, 8, 9] [] 1 (fun g13 => []) (fun g13 => [.fix 32 [.d (dbool x8.X.N.Neg), .d (eS2 x8.X.N.L), .d (di .i64 x8.X.E), .d (dbool x8.Y.N.Neg), .d (eS2 x8.Y.N.L), .d (di .i64 x8.Y.E)]]) (fun g13 => (p_Distinct_k4 g4 (iter (p_Distinct_l2 a0 F) n6) x8 g12) g13 = some o1) rfl ?_ ?_
   ·refine AC.seq ?_
    refine AC.draw 12 mixed (by kernel_rfl) ?_
    refine AD.op [6] rfl (by kernel_rfl) rfl rfl (fun _ _ h => AOp.move rfl rfl (ltb rfl) rfl h) ?_
    refine AD.op [3] rfl (by kernel_rfl) rfl rfl (fun _ _ h => AOp.move rfl rfl (ltb rfl) rfl h) ?_
    refine AD.op [28] rfl (by kernel_rfl) rfl rfl (fun _ _ h => AOp.lenDs (n := g4.1.length) (cells := (List.flatMap c_TSpec_Point g4.1)) rfl rfl (ltb rfl) rfl el47 (by decide) (lenN _ 6 (fun _ => rfl) _) h) ?_
    refine AD.op [27, 29] rfl (by kernel_rfl) rfl rfl (fun _ _ h => AOp.ilss rfl rfl (ltb rfl) rfl rfl h) ?_
    refine AD.op [30] rfl (by kernel_rfl) rfl rfl (fun _ _ h => AOp.move rfl rfl (ltb rfl) rfl h) ?_
    refine AD.dec (decide (g12 < ((g4.1.length : Nat) : Int))) (fun q19 => ?_) (fun q19 => ?_)
    ·replace h1 := cT h1 q19
     refine AD.opY [3, 31] rfl rfl rfl q19 (by kernel_rfl) rfl rfl (fun _ _ h => AOp.move rfl rfl (ltb rfl) rfl h) ?_
     refine AD.opY [6, 31] rfl rfl rfl q19 (by kernel_rfl) rfl rfl (fun _ _ h => AOp.move rfl rfl (ltb rfl) rfl h) ?_
     obtain ⟨x20, q21, h1⟩ := idx_elim h1
     refine AD.opY [31, 32, 33] rfl rfl rfl q19 (by kernel_rfl) rfl rfl (fun _ _ h => AOp.indexDs (cells := (List.flatMap c_TSpec_Point g4.1)) rfl rfl (ltb rfl) rfl rfl el47 (by decide) q21.1 (ltN 6 (fun _ => rfl) (by decide) q21.2) h) ?_
     refine AD.opY [31, 34] rfl rfl rfl q19 (by kernel_rfl) rfl rfl (fun _ _ h => AOp.loadEpN rfl rfl (ltb rfl) rfl agg32 size32 (leN 6 (fun _ => rfl) q21.2) (atN 6 (fun _ => rfl) q21.2) h) ?_
     refine AD.opY [5, 31] rfl rfl rfl q19 (by kernel_rfl) rfl rfl (fun _ _ h => AOp.loadN rfl rfl (ltb rfl) rfl agg32 size32 rfl (leb rfl) rfl h) ?_
     obtain ⟨y22, q23, h1⟩ := bind_elim h1
     refine AD.opY [31, 35, 36] rfl rfl rfl q19 (by kernel_rfl) rfl rfl (fun _ _ h => AOp.callD rfl rfl (ltb rfl) rfl rfl (w_Same F x20 x8 y22 q23) (by rintro _ rfl; exact h)) ?_
     refine AD.op [31, 37] rfl (by kernel_rfl) rfl rfl (fun _ _ h => AOp.pick rfl rfl (ltb rfl) rfl q19 rfl h) ?_
     refine AD.done ?_
     refine AO.nil ?_
     change AC _ _ _ _
     refine AC.cond rfl (fun q24 => ?_) (fun q24 => ?_)
     ·replace h1 := cT h1 q24
      refine AC.exit ?_
      change AC _ _ _ _
      refine AC.region ?_
      obtain ⟨q25, h1⟩ := need_elim h1
      refine AO.op rfl (AOp.iadd rfl rfl (ltb rfl) rfl rfl rfl q25.1 q25.2 ?_)
      refine AO.op rfl (AOp.move rfl rfl (ltb rfl) rfl ?_)
      refine AO.nil ?_
      exact ⟨(g4.1, (g4.2 + (1 : Int))), _, rfl, (LeL.refl _), rfl, rfl, h1⟩
     replace h1 := cF h1 q24
     refine AC.skip ?_
     exact ⟨(), _, rfl, (LeL.refl _), rfl, rfl, h1⟩
    replace h1 := cF h1 q19
    refine AD.opN rfl rfl rfl (ltb rfl) rfl q19 ?_
    refine AD.opN rfl rfl rfl (ltb rfl) rfl q19 ?_
    refine AD.opN rfl rfl rfl (ltb rfl) rfl q19 ?_
    refine AD.opN rfl rfl rfl (ltb rfl) rfl q19 ?_
    refine AD.opN rfl rfl rfl (ltb rfl) rfl q19 ?_
    refine AD.opN rfl rfl rfl (ltb rfl) rfl q19 ?_
    refine AD.op [31, 37] rfl (by kernel_rfl) rfl rfl (fun _ _ h => AOp.pickN rfl rfl (ltb rfl) rfl q19 rfl h) ?_
    refine AD.done ?_
    refine AO.nil ?_
    change AC _ _ _ _
    refine AC.condF rfl rfl ?_
    refine AC.skip ?_
    exact ⟨(), _, rfl, (LeL.refl _), rfl, rfl, h1⟩
   intro g13 h1
   unfold p_Distinct_k4 at h1
   obtain ⟨q14, h1⟩ := need_elim h1
   obtain ⟨q15, h1⟩ := need_elim h1
   obtain ⟨q16, h1⟩ := need_elim h1
   refine AC.drawS [0, 1, 2, 3, 4, 5, 6, 7, 8, 9] [] [10, 11] (fun L => [.fix 32 [.d (dbool x8.X.N.Neg), .d (eS2 x8.X.N.L), .d (di .i64 x8.X.E), .d (dbool x8.Y.N.Neg), .d (eS2 x8.Y.N.L), .d (di .i64 x8.Y.E)]]) [] mixed (by kernel_rfl) (fun _ _ _ => rfl) rfl ?_
   refine AS.op [3] [] [] [] rfl rfl rfl (by kernel_rfl) (by kernel_rfl) rfl rfl (fun _ _ _ h => AOp.move rfl rfl (ltb rfl) rfl h) (by kernel_rfl) ?_
   refine AS.op [6] [] [] [] rfl rfl rfl (by kernel_rfl) (by kernel_rfl) rfl rfl (fun _ _ _ h => AOp.move rfl rfl (ltb rfl) rfl h) (by kernel_rfl) ?_
   refine AS.op [6] [] [] [] rfl rfl rfl (by kernel_rfl) (by kernel_rfl) rfl rfl (fun _ _ _ h => AOp.move rfl rfl (ltb rfl) rfl h) (by kernel_rfl) ?_
   refine AS.op [39, 40, 41] [] [] [] rfl rfl rfl (by kernel_rfl) (by kernel_rfl) rfl rfl (fun _ _ _ h => AOp.slice3D (cells := (List.flatMap c_TSpec_Point g4.1)) (n := g4.1.length) (k := (g12).toNat) rfl rfl (ltb rfl) rfl rfl rfl el47 (by decide) (lenN _ 6 (fun _ => rfl) _) q14.1 rfl q14.2 (tkN _ 6 (fun _ => rfl) _ _) h) (by kernel_rfl) ?_
   refine AS.op [5] [] [] [] rfl rfl rfl (by kernel_rfl) (by kernel_rfl) rfl rfl (fun _ _ _ h => AOp.loadN rfl rfl (ltb rfl) rfl agg32 size32 rfl (leb rfl) rfl h) (by kernel_rfl) ?_
   refine AS.op [43] [] [] [] rfl rfl rfl (by kernel_rfl) (by kernel_rfl) rfl rfl (fun _ _ _ h => AOp.buildSliceF rfl rfl (ltb rfl) el47 zero32 rfl (leb rfl) rfl rfl rfl rfl h) (by kernel_rfl) ?_
   refine AS.op [3] [] [] [] rfl rfl rfl (by kernel_rfl) (by kernel_rfl) rfl rfl (fun _ _ _ h => AOp.move rfl rfl (ltb rfl) rfl h) (by kernel_rfl) ?_
   refine AS.op [6] [] [] [] rfl rfl rfl (by kernel_rfl) (by kernel_rfl) rfl rfl (fun _ _ _ h => AOp.move rfl rfl (ltb rfl) rfl h) (by kernel_rfl) ?_
   refine AS.op [45, 46] [] [] [] rfl rfl rfl (by kernel_rfl) (by kernel_rfl) rfl rfl (fun _ _ _ h => AOp.sliceD (cells := (List.flatMap c_TSpec_Point g4.1)) (n := g4.1.length) (l := (g12).toNat) (hh := g4.1.length) rfl rfl (ltb rfl) rfl (.inr ⟨_, _, _, rfl, rfl, q15.1.1, rfl⟩) (.inl ⟨rfl, rfl⟩) el47 (by decide) (lenN _ 6 (fun _ => rfl) _) q15.2.1 q15.2.2 (subN _ 6 (fun _ => rfl) _ _ _) h) (by kernel_rfl) ?_
   refine AS.op [44, 47] [] [] [] rfl rfl rfl (by kernel_rfl) (by kernel_rfl) rfl rfl (fun _ _ _ h => AOp.appendFullD (n := [x8].length) (m := ((g4.1.drop (g12).toNat).take (g4.1.length - (g12).toNat)).length) (cells := (List.flatMap c_TSpec_Point [x8])) (news := (List.flatMap c_TSpec_Point ((g4.1.drop (g12).toNat).take (g4.1.length - (g12).toNat)))) rfl rfl (ltb rfl) rfl rfl el47 info32 rfl (by decide) rfl (lenN _ 6 (fun _ => rfl) _) q16 (by decide) (catN c_TSpec_Point [x8] _) h) (by kernel_rfl) ?_
   refine AS.done ?_
   refine AO.objs (obs' := [.fix 32 [.d (dbool x8.X.N.Neg), .d (eS2 x8.X.N.L), .d (di .i64 x8.X.E), .d (dbool x8.Y.N.Neg), .d (eS2 x8.Y.N.L), .d (di .i64 x8.Y.E)]]) rfl ?_
   obtain ⟨q17, h1⟩ := need_elim h1
   refine AO.op rfl (AOp.appendFullD (n := (g4.1.take (g12).toNat).length) (m := ([x8] ++ ((g4.1.drop (g12).toNat).take (g4.1.length - (g12).toNat))).length) (cells := (List.flatMap c_TSpec_Point (g4.1.take (g12).toNat))) (news := (List.flatMap c_TSpec_Point ([x8] ++ ((g4.1.drop (g12).toNat).take (g4.1.length - (g12).toNat))))) rfl rfl (ltb rfl) rfl rfl el47 info32 rfl (by decide) (lenN _ 6 (fun _ => rfl) _) (lenN _ 6 (fun _ => rfl) _) q17 (by decide) (catN _ _ _) ?_)
   refine AO.op rfl (AOp.assign rfl rfl (ltb rfl) rfl ?_)
   refine AO.nil ?_
   change AC _ _ _ _
   refine AC.region ?_
   obtain ⟨q18, h1⟩ := need_elim h1
   refine AO.op rfl (AOp.iadd rfl rfl (ltb rfl) rfl rfl rfl q18.1 q18.2 ?_)
   refine AO.op rfl (AOp.move rfl rfl (ltb rfl) rfl ?_)
   refine AO.nil ?_
   exact ⟨(((g4.1.take (g12).toNat) ++ ([x8] ++ ((g4.1.drop (g12).toNat).take (g4.1.length - (g12).toNat)))), (g4.2 + (1 : Int))), _, rfl, (LeL.refl _), rfl, rfl, h1⟩
  replace h1 := cF h1 q7
  refine AC.exit ?_
  obtain rfl := Option.some.inj h1
  exact ⟨g4.1, _, rfl, (LeL.refl _), rfl, rfl, aftL h0⟩
 intro g3 h0
 unfold p_Distinct_k1 at h0
 change AC _ _ _ _
 refine AC.seq ?_
 refine AC.region ?_
 refine AO.op rfl (AOp.move rfl rfl (ltb rfl) rfl ?_)
 refine AO.op rfl (AOp.assign rfl rfl (ltb rfl) rfl ?_)
 refine AO.nil ?_
 change AC _ _ _ _
 refine AC.ret ?_
 change RetQ _ _ _ .ret _
 obtain rfl := Option.some.inj h0
 refine retq rfl rfl

set_option maxRecDepth 100000 in
set_option maxHeartbeats 4000000 in
/-- pub-orthodrome/spec.Meet -/
theorem w_Meet (F : Nat) (a0 : TSpec_Point) (a1 : TSpec_Point) (a2 : TSpec_Point) (a3 : TSpec_Point) (r0 : (Int × TSpec_Point × TSpec_Point × Bool)) (h0 : p_Meet F a0 a1 a2 a3 = some r0) : FnD Tryz.prog 5 [e_TSpec_Point a0, e_TSpec_Point a1, e_TSpec_Point a2, e_TSpec_Point a3] (fun r => r = .tu [di .i64 r0.1, e_TSpec_Point r0.2.1, e_TSpec_Point r0.2.2.1, dbool r0.2.2.2]) := by
 refine FnD.of (by kernel_rfl) Tryz.func5 rfl Tryz.ntmps5 rfl (leb rfl) fun W ok => ?_
 unfold p_Meet at h0
 refine AC.seq ?_
 refine AC.region ?_
 refine AO.op rfl (AOp.box rfl rfl (ltb rfl) rfl rfl ?_)
 refine AO.op rfl (AOp.box rfl rfl (ltb rfl) rfl rfl ?_)
 refine AO.op rfl (AOp.box rfl rfl (ltb rfl) rfl rfl ?_)
 refine AO.op rfl (AOp.box rfl rfl (ltb rfl) rfl rfl ?_)
 refine AO.op rfl (AOp.assign rfl rfl (ltb rfl) rfl ?_)
 refine AO.op rfl (AOp.alloc rfl rfl (ltb rfl) zero32 rfl ?_)
 refine AO.op rfl (AOp.alloc rfl rfl (ltb rfl) zero32 rfl ?_)
 refine AO.op rfl (AOp.assign rfl rfl (ltb rfl) rfl ?_)
 refine AO.objs (obs' := [.fix 32 [.d (dbool a0.X.N.Neg), .d (eS2 a0.X.N.L), .d (di .i64 a0.X.E), .d (dbool a0.Y.N.Neg), .d (eS2 a0.Y.N.L), .d (di .i64 a0.Y.E)], .fix 32 [.d (dbool a1.X.N.Neg), .d (eS2 a1.X.N.L), .d (di .i64 a1.X.E), .d (dbool a1.Y.N.Neg), .d (eS2 a1.Y.N.L), .d (di .i64 a1.Y.E)], .fix 32 [.d (dbool a2.X.N.Neg), .d (eS2 a2.X.N.L), .d (di .i64 a2.X.E), .d (dbool a2.Y.N.Neg), .d (eS2 a2.Y.N.L), .d (di .i64 a2.Y.E)], .fix 32 [.d (dbool a3.X.N.Neg), .d (eS2 a3.X.N.L), .d (di .i64 a3.X.E), .d (dbool a3.Y.N.Neg), .d (eS2 a3.Y.N.L), .d (di .i64 a3.Y.E)], .fix 32 [.d (dbool false), .d (.v (.slice none 0 0)), .d (di .i64 (0 : Int)), .d (dbool false), .d (.v (.slice none 0 0)), .d (di .i64 (0 : Int))], .fix 32 [.d (dbool false), .d (.v (.slice none 0 0)), .d (di .i64 (0 : Int)), .d (dbool false), .d (.v (.slice none 0 0)), .d (di .i64 (0 : Int))]]) rfl ?_
 refine AO.nil ?_
 change AC _ _ _ _
 refine AC.seq ?_
 refine AC.region ?_
 refine AO.op rfl (AOp.assign rfl rfl (ltb rfl) rfl ?_)
 refine AO.nil ?_
 change AC _ _ _ _
 refine AC.seq ?_
 refine AC.seq ?_
 refine AC.region ?_
 refine AO.op rfl (AOp.loadN rfl rfl (ltb rfl) rfl agg32 size32 rfl (leb rfl) rfl ?_)
 refine AO.op rfl (AOp.loadN rfl rfl (ltb rfl) rfl agg32 size32 rfl (leb rfl) rfl ?_)
 refine AO.op rfl (AOp.buildSliceD rfl rfl (ltb rfl) el47 zero32 rfl (leb rfl) rfl rfl rfl rfl ?_)
 refine AO.op rfl (AOp.lenDs (n := 2) (cells := (List.flatMap c_TSpec_Point [a0, a1])) rfl rfl (ltb rfl) rfl el47 (by decide) rfl ?_)
 refine AO.op rfl (AOp.move rfl rfl (ltb rfl) rfl ?_)
 refine AO.nil ?_
 change AC _ _ _ _
 refine AC.adopt 12 32 6 rfl ?_
 obtain ⟨o1, l2, h0⟩ := bind_elim h0
 refine AC.joinE (V := (List TSpec_Point)) [4, 5, 6, 7, 9, 10] [12] 7 (fun g3 => [(12, .own 6)]) (fun g3 => [.fix 32 [.d (dbool a0.X.N.Neg), .d (eS2 a0.X.N.L), .d (di .i64 a0.X.E), .d (dbool a0.Y.N.Neg), .d (eS2 a0.Y.N.L), .d (di .i64 a0.Y.E)], .fix 32 [.d (dbool a1.X.N.Neg), .d (eS2 a1.X.N.L), .d (di .i64 a1.X.E), .d (dbool a1.Y.N.Neg), .d (eS2 a1.Y.N.L), .d (di .i64 a1.Y.E)], .fix 32 [.d (dbool a2.X.N.Neg), .d (eS2 a2.X.N.L), .d (di .i64 a2.X.E), .d (dbool a2.Y.N.Neg), .d (eS2 a2.Y.N.L), .d (di .i64 a2.Y.E)], .fix 32 [.d (dbool a3.X.N.Neg), .d (eS2 a3.X.N.L), .d (di .i64 a3.X.E), .d (dbool a3.Y.N.Neg), .d (eS2 a3.Y.N.L), .d (di .i64 a3.Y.E)], .fix 32 [.d (dbool false), .d (.v (.slice none 0 0)), .d (di .i64 (0 : Int)), .d (dbool false), .d (.v (.slice none 0 0)), .d (di .i64 (0 : Int))], .fix 32 [.d (dbool false), .d (.v (.slice none 0 0)), .d (di .i64 (0 : Int)), .d (dbool false), .d (.v (.slice none 0 0)), .d (di .i64 (0 : Int))], .grow 32 6 (List.flatMap c_TSpec_Point g3)]) (fun g3 => (p_Meet_k1 a0 a1 a2 a3 F) g3 = some r0) rfl ?_ ?_
 ·refine AC.block ?_
  refine AC.loopP (V := (Int × (List TSpec_Point))) (p_Meet_l5 a0 a1 a2 a3 F) o1 [4, 5, 6, 7, 9, 10, 19, 20] [12, 21] 7 (fun g45 => [(12, .own 6), (21, .d (di .i64 g45.1))]) (fun g45 => [.fix 32 [.d (dbool a0.X.N.Neg), .d (eS2 a0.X.N.L), .d (di .i64 a0.X.E), .d (dbool a0.Y.N.Neg), .d (eS2 a0.Y.N.L), .d (di .i64 a0.Y.E)], .fix 32 [.d (dbool a1.X.N.Neg), .d (eS2 a1.X.N.L), .d (di .i64 a1.X.E), .d (dbool a1.Y.N.Neg), .d (eS2 a1.Y.N.L), .d (di .i64 a1.Y.E)], .fix 32 [.d (dbool a2.X.N.Neg), .d (eS2 a2.X.N.L), .d (di .i64 a2.X.E), .d (dbool a2.Y.N.Neg), .d (eS2 a2.Y.N.L), .d (di .i64 a2.Y.E)], .fix 32 [.d (dbool a3.X.N.Neg), .d (eS2 a3.X.N.L), .d (di .i64 a3.X.E), .d (dbool a3.Y.N.Neg), .d (eS2 a3.Y.N.L), .d (di .i64 a3.Y.E)], .fix 32 [.d (dbool false), .d (.v (.slice none 0 0)), .d (di .i64 (0 : Int)), .d (dbool false), .d (.v (.slice none 0 0)), .d (di .i64 (0 : Int))], .fix 32 [.d (dbool false), .d (.v (.slice none 0 0)), .d (di .i64 (0 : Int)), .d (dbool false), .d (.v (.slice none 0 0)), .d (di .i64 (0 : Int))], .grow 32 6 (List.flatMap c_TSpec_Point g45.2)]) F ((0 : Int), []) l2 rfl rfl (LeL.refl _) rfl rfl ?_
  intro n47 g45 h1
  unfold p_Meet_l5 at h1
  refine AC.seq ?_
  refine AC.region ?_
  refine AO.op rfl (AOp.ilss rfl rfl (ltb rfl) rfl rfl ?_)
  refine AO.nil ?_
  change AC _ _ _ _
  refine AC.seq ?_
  refine AC.cond rfl (fun q48 => ?_) (fun q48 => ?_)
  ·replace h1 := cT h1 q48
   refine AC.skip ?_
   change AC _ _ _ _
   refine AC.seq ?_
   refine AC.block ?_
   refine AC.seq ?_
   refine AC.region ?_
   obtain ⟨x49, q50, h1⟩ := idx_elim h1
   refine AO.op rfl (AOp.indexDs (cells := (List.flatMap c_TSpec_Point [a0, a1])) rfl rfl (ltb rfl) rfl rfl el47 (by decide) q50.1 (ltN 6 (fun _ => rfl) (by decide) q50.2) ?_)
   refine AO.op rfl (AOp.loadEpN rfl rfl (ltb rfl) rfl agg32 size32 (leN 6 (fun _ => rfl) q50.2) (atN 6 (fun _ => rfl) q50.2) ?_)
   refine AO.op rfl (AOp.alloc rfl rfl (ltb rfl) zero32 rfl ?_)
   refine AO.op rfl (AOp.store rfl rfl rfl rfl size32 rfl rfl rfl (leb rfl) ?_)
   refine AO.nil ?_
   change AC _ _ _ _
   refine AC.seq ?_
   refine AC.region ?_
   refine AO.op rfl (AOp.loadN rfl rfl (ltb rfl) rfl agg32 size32 rfl (leb rfl) rfl ?_)
   refine AO.op rfl (AOp.loadN rfl rfl (ltb rfl) rfl agg32 size32 rfl (leb rfl) rfl ?_)
   refine AO.op rfl (AOp.loadN rfl rfl (ltb rfl) rfl agg32 size32 rfl (leb rfl) rfl ?_)
   obtain ⟨y51, q52, h1⟩ := bind_elim h1
   refine AO.op rfl (AOp.callD rfl rfl (ltb rfl) rfl rfl (w_OnSegment F x49 a2 a3 y51 q52) ?_)
   rintro _ rfl
   refine AO.nil ?_
   change AC _ _ _ _
   refine AC.cond rfl (fun q53 => ?_) (fun q53 => ?_)
   ·replace h1 := cT h1 q53
    refine AC.region ?_
    refine AO.op rfl (AOp.move rfl rfl (ltb rfl) rfl ?_)
    refine AO.op rfl (AOp.loadN rfl rfl (ltb rfl) rfl agg32 size32 rfl (leb rfl) rfl ?_)
    refine AO.op rfl (AOp.buildSliceD rfl rfl (ltb rfl) el47 zero32 rfl (leb rfl) rfl rfl rfl rfl ?_)
    obtain ⟨q54, h1⟩ := need_elim h1
    refine AO.op rfl (AOp.appendOwn' (p := 6) (n := g45.2.length) (m := [x49].length) (news := (List.flatMap c_TSpec_Point [x49])) rfl rfl (ltb rfl) rfl rfl el47 info32 rfl (by decide) rfl (lenN _ 6 (fun _ => rfl) _) (lenN _ 6 (fun _ => rfl) _) (oneN _ (fun _ => rfl) _) q54 (by decide) rfl rfl (catN _ _ _) ?_)
    refine AO.op rfl (AOp.assign rfl rfl (ltb rfl) rfl ?_)
    refine AO.nil ?_
    change AC _ _ _ _
    refine AC.region ?_
    obtain ⟨q55, h1⟩ := need_elim h1
    refine AO.op rfl (AOp.iadd rfl rfl (ltb rfl) rfl rfl rfl q55.1 q55.2 ?_)
    refine AO.op rfl (AOp.move rfl rfl (ltb rfl) rfl ?_)
    refine AO.nil ?_
    exact ⟨((g45.1 + (1 : Int)), (g45.2 ++ [x49])), _, rfl, (LeL.refl _), rfl, rfl, h1⟩
   replace h1 := cF h1 q53
   refine AC.skip ?_
   change AC _ _ _ _
   refine AC.region ?_
   obtain ⟨q56, h1⟩ := need_elim h1
   refine AO.op rfl (AOp.iadd rfl rfl (ltb rfl) rfl rfl rfl q56.1 q56.2 ?_)
   refine AO.op rfl (AOp.move rfl rfl (ltb rfl) rfl ?_)
   refine AO.nil ?_
   exact ⟨((g45.1 + (1 : Int)), g45.2), _, rfl, (LeL.refl _), rfl, rfl, h1⟩
  replace h1 := cF h1 q48
  refine AC.exit ?_
  obtain rfl := Option.some.inj h1
  exact ⟨g45.2, _, rfl, (LeL.refl _), rfl, rfl, aftL h0⟩
 intro g3 h0
 unfold p_Meet_k1 at h0
 change AC _ _ _ _
 refine AC.seq ?_
 refine AC.seq ?_
 refine AC.region ?_
 refine AO.op rfl (AOp.loadN rfl rfl (ltb rfl) rfl agg32 size32 rfl (leb rfl) rfl ?_)
 refine AO.op rfl (AOp.loadN rfl rfl (ltb rfl) rfl agg32 size32 rfl (leb rfl) rfl ?_)
 refine AO.op rfl (AOp.buildSliceD rfl rfl (ltb rfl) el47 zero32 rfl (leb rfl) rfl rfl rfl rfl ?_)
 refine AO.op rfl (AOp.lenDs (n := 2) (cells := (List.flatMap c_TSpec_Point [a2, a3])) rfl rfl (ltb rfl) rfl el47 (by decide) rfl ?_)
 refine AO.op rfl (AOp.move rfl rfl (ltb rfl) rfl ?_)
 refine AO.nil ?_
 change AC _ _ _ _
 obtain ⟨o4, l5, h0⟩ := bind_elim h0
 refine AC.joinE (V := (List TSpec_Point)) [4, 5, 6, 7, 9, 10] [12] 7 (fun g6 => [(12, .own 6)]) (fun g6 => [.fix 32 [.d (dbool a0.X.N.Neg), .d (eS2 a0.X.N.L), .d (di .i64 a0.X.E), .d (dbool a0.Y.N.Neg), .d (eS2 a0.Y.N.L), .d (di .i64 a0.Y.E)], .fix 32 [.d (dbool a1.X.N.Neg), .d (eS2 a1.X.N.L), .d (di .i64 a1.X.E), .d (dbool a1.Y.N.Neg), .d (eS2 a1.Y.N.L), .d (di .i64 a1.Y.E)], .fix 32 [.d (dbool a2.X.N.Neg), .d (eS2 a2.X.N.L), .d (di .i64 a2.X.E), .d (dbool a2.Y.N.Neg), .d (eS2 a2.Y.N.L), .d (di .i64 a2.Y.E)], .fix 32 [.d (dbool a3.X.N.Neg), .d (eS2 a3.X.N.L), .d (di .i64 a3.X.E), .d (dbool a3.Y.N.Neg), .d (eS2 a3.Y.N.L), .d (di .i64 a3.Y.E)], .fix 32 [.d (dbool false), .d (.v (.slice none 0 0)), .d (di .i64 (0 : Int)), .d (dbool false), .d (.v (.slice none 0 0)), .d (di .i64 (0 : Int))], .fix 32 [.d (dbool false), .d (.v (.slice none 0 0)), .d (di .i64 (0 : Int)), .d (dbool false), .d (.v (.slice none 0 0)), .d (di .i64 (0 : Int))], .grow 32 6 (List.flatMap c_TSpec_Point g6)]) (fun g6 => (p_Meet_k2 a0 a1 a2 a3 F) g6 = some r0) rfl ?_ ?_
 ·refine AC.block ?_
  refine AC.loopP (V := (Int × (List TSpec_Point))) (p_Meet_l4 a0 a1 a2 a3 F) o4 [4, 5, 6, 7, 9, 10, 36, 37] [12, 38] 7 (fun g33 => [(12, .own 6), (38, .d (di .i64 g33.1))]) (fun g33 => [.fix 32 [.d (dbool a0.X.N.Neg), .d (eS2 a0.X.N.L), .d (di .i64 a0.X.E), .d (dbool a0.Y.N.Neg), .d (eS2 a0.Y.N.L), .d (di .i64 a0.Y.E)], .fix 32 [.d (dbool a1.X.N.Neg), .d (eS2 a1.X.N.L), .d (di .i64 a1.X.E), .d (dbool a1.Y.N.Neg), .d (eS2 a1.Y.N.L), .d (di .i64 a1.Y.E)], .fix 32 [.d (dbool a2.X.N.Neg), .d (eS2 a2.X.N.L), .d (di .i64 a2.X.E), .d (dbool a2.Y.N.Neg), .d (eS2 a2.Y.N.L), .d (di .i64 a2.Y.E)], .fix 32 [.d (dbool a3.X.N.Neg), .d (eS2 a3.X.N.L), .d (di .i64 a3.X.E), .d (dbool a3.Y.N.Neg), .d (eS2 a3.Y.N.L), .d (di .i64 a3.Y.E)], .fix 32 [.d (dbool false), .d (.v (.slice none 0 0)), .d (di .i64 (0 : Int)), .d (dbool false), .d (.v (.slice none 0 0)), .d (di .i64 (0 : Int))], .fix 32 [.d (dbool false), .d (.v (.slice none 0 0)), .d (di .i64 (0 : Int)), .d (dbool false), .d (.v (.slice none 0 0)), .d (di .i64 (0 : Int))], .grow 32 6 (List.flatMap c_TSpec_Point g33.2)]) F ((0 : Int), g3) l5 rfl rfl (LeL.refl _) rfl rfl ?_
  intro n35 g33 h1
  unfold p_Meet_l4 at h1
  refine AC.seq ?_
  refine AC.region ?_
  refine AO.op rfl (AOp.ilss rfl rfl (ltb rfl) rfl rfl ?_)
  refine AO.nil ?_
  change AC _ _ _ _
  refine AC.seq ?_
  refine AC.cond rfl (fun q36 => ?_) (fun q36 => ?_)
  ·replace h1 := cT h1 q36
   refine AC.skip ?_
   change AC _ _ _ _
   refine AC.seq ?_
   refine AC.block ?_
   refine AC.seq ?_
   refine AC.region ?_
   obtain ⟨x37, q38, h1⟩ := idx_elim h1
   refine AO.op rfl (AOp.indexDs (cells := (List.flatMap c_TSpec_Point [a2, a3])) rfl rfl (ltb rfl) rfl rfl el47 (by decide) q38.1 (ltN 6 (fun _ => rfl) (by decide) q38.2) ?_)
   refine AO.op rfl (AOp.loadEpN rfl rfl (ltb rfl) rfl agg32 size32 (leN 6 (fun _ => rfl) q38.2) (atN 6 (fun _ => rfl) q38.2) ?_)
   refine AO.op rfl (AOp.alloc rfl rfl (ltb rfl) zero32 rfl ?_)
   refine AO.op rfl (AOp.store rfl rfl rfl rfl size32 rfl rfl rfl (leb rfl) ?_)
   refine AO.nil ?_
   change AC _ _ _ _
   refine AC.seq ?_
   refine AC.region ?_
   refine AO.op rfl (AOp.loadN rfl rfl (ltb rfl) rfl agg32 size32 rfl (leb rfl) rfl ?_)
   refine AO.op rfl (AOp.loadN rfl rfl (ltb rfl) rfl agg32 size32 rfl (leb rfl) rfl ?_)
   refine AO.op rfl (AOp.loadN rfl rfl (ltb rfl) rfl agg32 size32 rfl (leb rfl) rfl ?_)
   obtain ⟨y39, q40, h1⟩ := bind_elim h1
   refine AO.op rfl (AOp.callD rfl rfl (ltb rfl) rfl rfl (w_OnSegment F x37 a0 a1 y39 q40) ?_)
   rintro _ rfl
   refine AO.nil ?_
   change AC _ _ _ _
   refine AC.cond rfl (fun q41 => ?_) (fun q41 => ?_)
   ·replace h1 := cT h1 q41
    refine AC.region ?_
    refine AO.op rfl (AOp.move rfl rfl (ltb rfl) rfl ?_)
    refine AO.op rfl (AOp.loadN rfl rfl (ltb rfl) rfl agg32 size32 rfl (leb rfl) rfl ?_)
    refine AO.op rfl (AOp.buildSliceD rfl rfl (ltb rfl) el47 zero32 rfl (leb rfl) rfl rfl rfl rfl ?_)
    obtain ⟨q42, h1⟩ := need_elim h1
    refine AO.op rfl (AOp.appendOwn' (p := 6) (n := g33.2.length) (m := [x37].length) (news := (List.flatMap c_TSpec_Point [x37])) rfl rfl (ltb rfl) rfl rfl el47 info32 rfl (by decide) rfl (lenN _ 6 (fun _ => rfl) _) (lenN _ 6 (fun _ => rfl) _) (oneN _ (fun _ => rfl) _) q42 (by decide) rfl rfl (catN _ _ _) ?_)
    refine AO.op rfl (AOp.assign rfl rfl (ltb rfl) rfl ?_)
    refine AO.nil ?_
    change AC _ _ _ _
    refine AC.region ?_
    obtain ⟨q43, h1⟩ := need_elim h1
    refine AO.op rfl (AOp.iadd rfl rfl (ltb rfl) rfl rfl rfl q43.1 q43.2 ?_)
    refine AO.op rfl (AOp.move rfl rfl (ltb rfl) rfl ?_)
    refine AO.nil ?_
    exact ⟨((g33.1 + (1 : Int)), (g33.2 ++ [x37])), _, rfl, (LeL.refl _), rfl, rfl, h1⟩
   replace h1 := cF h1 q41
   refine AC.skip ?_
   change AC _ _ _ _
   refine AC.region ?_
   obtain ⟨q44, h1⟩ := need_elim h1
   refine AO.op rfl (AOp.iadd rfl rfl (ltb rfl) rfl rfl rfl q44.1 q44.2 ?_)
   refine AO.op rfl (AOp.move rfl rfl (ltb rfl) rfl ?_)
   refine AO.nil ?_
   exact ⟨((g33.1 + (1 : Int)), g33.2), _, rfl, (LeL.refl _), rfl, rfl, h1⟩
  replace h1 := cF h1 q36
  refine AC.exit ?_
  obtain rfl := Option.some.inj h1
  exact ⟨g33.2, _, rfl, (LeL.refl _), rfl, rfl, aftL h0⟩
 intro g6 h0
 unfold p_Meet_k2 at h0
 change AC _ _ _ _
 refine AC.seq ?_
 refine AC.region ?_
 refine AO.op rfl (AOp.move rfl rfl (ltb rfl) rfl ?_)
 refine AO.freezeG 6 rfl rfl rfl ?_
 obtain ⟨y7, q8, h0⟩ := bind_elim h0
 refine AO.op rfl (AOp.callD rfl rfl (ltb rfl) rfl rfl (w_Distinct F g6 y7 q8) ?_)
 rintro _ rfl
 refine AO.op rfl (AOp.assign rfl rfl (ltb rfl) rfl ?_)
 refine AO.nil ?_
 change AC _ _ _ _
 refine AC.seq ?_
 refine AC.block ?_
 refine AC.seq ?_
 refine AC.region ?_
 refine AO.op rfl (AOp.move rfl rfl (ltb rfl) rfl ?_)
 refine AO.op rfl (AOp.lenDs (n := y7.length) (cells := (List.flatMap c_TSpec_Point y7)) rfl rfl (ltb rfl) rfl el47 (by decide) (lenN _ 6 (fun _ => rfl) _) ?_)
 refine AO.op rfl (AOp.igtr rfl rfl (ltb rfl) rfl rfl ?_)
 refine AO.op rfl (AOp.assign rfl rfl (ltb rfl) rfl ?_)
 refine AO.nil ?_
 change AC _ _ _ _
 refine AC.cond rfl (fun q9 => ?_) (fun q9 => ?_)
 ·replace h0 := cT h0 q9
  refine AC.seq ?_
  obtain ⟨x10, q11, h0⟩ := idx_elim h0
  obtain ⟨q12, h0⟩ := need_elim h0
  obtain ⟨x13, q14, h0⟩ := idx_elim h0
  refine AC.drawS [0, 1, 2, 3, 4, 5, 6, 7, 8, 9, 10] [10] [11, 12] (fun L => [.fix 32 [.d (dbool a0.X.N.Neg), .d (eS2 a0.X.N.L), .d (di .i64 a0.X.E), .d (dbool a0.Y.N.Neg), .d (eS2 a0.Y.N.L), .d (di .i64 a0.Y.E)], .fix 32 [.d (dbool a1.X.N.Neg), .d (eS2 a1.X.N.L), .d (di .i64 a1.X.E), .d (dbool a1.Y.N.Neg), .d (eS2 a1.Y.N.L), .d (di .i64 a1.Y.E)], .fix 32 [.d (dbool a2.X.N.Neg), .d (eS2 a2.X.N.L), .d (di .i64 a2.X.E), .d (dbool a2.Y.N.Neg), .d (eS2 a2.Y.N.L), .d (di .i64 a2.Y.E)], .fix 32 [.d (dbool a3.X.N.Neg), .d (eS2 a3.X.N.L), .d (di .i64 a3.X.E), .d (dbool a3.Y.N.Neg), .d (eS2 a3.Y.N.L), .d (di .i64 a3.Y.E)], .fix 32 [(bif L 10 then .d (dbool x10.X.N.Neg) else .d (dbool false)), (bif L 10 then .d (eS2 x10.X.N.L) else .d (.v (.slice none 0 0))), (bif L 10 then .d (di .i64 x10.X.E) else .d (di .i64 (0 : Int))), (bif L 10 then .d (dbool x10.Y.N.Neg) else .d (dbool false)), (bif L 10 then .d (eS2 x10.Y.N.L) else .d (.v (.slice none 0 0))), (bif L 10 then .d (di .i64 x10.Y.E) else .d (di .i64 (0 : Int)))], .fix 32 [.d (dbool false), .d (.v (.slice none 0 0)), .d (di .i64 (0 : Int)), .d (dbool false), .d (.v (.slice none 0 0)), .d (di .i64 (0 : Int))], .dead]) [(10, (fun _ => true))] mixed (by kernel_rfl) (fun L L' h => by simp only [h 10 (by decide)]) rfl ?_
  refine AS.op [12] [] [10] [] rfl rfl rfl (by kernel_rfl) (by kernel_rfl) rfl rfl (fun _ _ _ h => AOp.move rfl rfl (ltb rfl) rfl h) (by kernel_rfl) ?_
  refine AS.op [57] [] [10] [] rfl rfl rfl (by kernel_rfl) (by kernel_rfl) rfl rfl (fun _ _ _ h => AOp.indexDs (cells := (List.flatMap c_TSpec_Point y7)) rfl rfl (ltb rfl) rfl rfl el47 (by decide) q11.1 (ltN 6 (fun _ => rfl) (by decide) q11.2) h) (by kernel_rfl) ?_
  refine AS.op [58] [] [10] [] rfl rfl rfl (by kernel_rfl) (by kernel_rfl) rfl rfl (fun _ _ _ h => AOp.loadEpN rfl rfl (ltb rfl) rfl agg32 size32 (leN 6 (fun _ => rfl) q11.2) (atN 6 (fun _ => rfl) q11.2) h) (by kernel_rfl) ?_
  refine AS.op [12] [] [] [10] rfl rfl rfl (by kernel_rfl) (by kernel_rfl) rfl rfl (fun _ _ _ h => AOp.move rfl rfl (ltb rfl) rfl h) (by kernel_rfl) ?_
  refine AS.op [12] [] [] [10] rfl rfl rfl (by kernel_rfl) (by kernel_rfl) rfl rfl (fun _ _ _ h => AOp.move rfl rfl (ltb rfl) rfl h) (by kernel_rfl) ?_
  refine AS.op [61] [] [] [10] rfl rfl rfl (by kernel_rfl) (by kernel_rfl) rfl rfl (fun _ _ _ h => AOp.lenDs (n := y7.length) (cells := (List.flatMap c_TSpec_Point y7)) rfl rfl (ltb rfl) rfl el47 (by decide) (lenN _ 6 (fun _ => rfl) _) h) (by kernel_rfl) ?_
  refine AS.op [62] [] [] [10] rfl rfl rfl (by kernel_rfl) (by kernel_rfl) rfl rfl (fun _ _ _ h => AOp.isub rfl rfl (ltb rfl) rfl rfl rfl q12.1 q12.2 h) (by kernel_rfl) ?_
  refine AS.op [60, 63] [] [] [10] rfl rfl rfl (by kernel_rfl) (by kernel_rfl) rfl rfl (fun _ _ _ h => AOp.indexDs (cells := (List.flatMap c_TSpec_Point y7)) rfl rfl (ltb rfl) rfl rfl el47 (by decide) q14.1 (ltN 6 (fun _ => rfl) (by decide) q14.2) h) (by kernel_rfl) ?_
  refine AS.op [64] [] [] [10] rfl rfl rfl (by kernel_rfl) (by kernel_rfl) rfl rfl (fun _ _ _ h => AOp.loadEpN rfl rfl (ltb rfl) rfl agg32 size32 (leN 6 (fun _ => rfl) q14.2) (atN 6 (fun _ => rfl) q14.2) h) (by kernel_rfl) ?_
  refine AS.op [] [] [10] [] rfl rfl rfl (by kernel_rfl) (by kernel_rfl) rfl rfl (fun _ _ _ h => AOp.assign rfl rfl (ltb rfl) rfl h) (by kernel_rfl) ?_
  refine AS.mid0 [9, 59] [] [10] [] rfl rfl rfl rfl (by kernel_rfl) (by kernel_rfl) rfl rfl (fun _ _ _ h => AOp.store rfl rfl rfl rfl size32 rfl rfl rfl (leb rfl) (AO.dropT h)) (by kernel_rfl) rfl ?_
  refine AS.done ?_
  refine AO.objs (obs' := [.fix 32 [.d (dbool a0.X.N.Neg), .d (eS2 a0.X.N.L), .d (di .i64 a0.X.E), .d (dbool a0.Y.N.Neg), .d (eS2 a0.Y.N.L), .d (di .i64 a0.Y.E)], .fix 32 [.d (dbool a1.X.N.Neg), .d (eS2 a1.X.N.L), .d (di .i64 a1.X.E), .d (dbool a1.Y.N.Neg), .d (eS2 a1.Y.N.L), .d (di .i64 a1.Y.E)], .fix 32 [.d (dbool a2.X.N.Neg), .d (eS2 a2.X.N.L), .d (di .i64 a2.X.E), .d (dbool a2.Y.N.Neg), .d (eS2 a2.Y.N.L), .d (di .i64 a2.Y.E)], .fix 32 [.d (dbool a3.X.N.Neg), .d (eS2 a3.X.N.L), .d (di .i64 a3.X.E), .d (dbool a3.Y.N.Neg), .d (eS2 a3.Y.N.L), .d (di .i64 a3.Y.E)], .fix 32 [.d (dbool x10.X.N.Neg), .d (eS2 x10.X.N.L), .d (di .i64 x10.X.E), .d (dbool x10.Y.N.Neg), .d (eS2 x10.Y.N.L), .d (di .i64 x10.Y.E)], .fix 32 [.d (dbool false), .d (.v (.slice none 0 0)), .d (di .i64 (0 : Int)), .d (dbool false), .d (.v (.slice none 0 0)), .d (di .i64 (0 : Int))], .dead]) rfl ?_
  refine AO.op rfl (AOp.store rfl rfl rfl rfl size32 rfl rfl rfl (leb rfl) ?_)
  refine AO.op rfl (AOp.assign rfl rfl (ltb rfl) rfl ?_)
  refine AO.nil ?_
  change AC _ _ _ _
  refine AC.ret ?_
  change RetQ _ _ _ .ret _
  obtain rfl := Option.some.inj h0
  refine retq rfl rfl
 replace h0 := cF h0 q9
 refine AC.seq ?_
 refine AC.region ?_
 refine AO.op rfl (AOp.move rfl rfl (ltb rfl) rfl ?_)
 refine AO.op rfl (AOp.lenDs (n := y7.length) (cells := (List.flatMap c_TSpec_Point y7)) rfl rfl (ltb rfl) rfl el47 (by decide) (lenN _ 6 (fun _ => rfl) _) ?_)
 refine AO.op rfl (AOp.ieql rfl rfl (ltb rfl) rfl rfl ?_)
 refine AO.op rfl (AOp.assign rfl rfl (ltb rfl) rfl ?_)
 refine AO.nil ?_
 change AC _ _ _ _
 refine AC.cond rfl (fun q15 => ?_) (fun q15 => ?_)
 ·replace h0 := cT h0 q15
  refine AC.seq ?_
  obtain ⟨x16, q17, h0⟩ := idx_elim h0
  obtain ⟨x18, q19, h0⟩ := idx_elim h0
  refine AC.drawS [0, 1, 2, 3, 4, 5, 6, 7] [7] [8, 9] (fun L => [.fix 32 [.d (dbool a0.X.N.Neg), .d (eS2 a0.X.N.L), .d (di .i64 a0.X.E), .d (dbool a0.Y.N.Neg), .d (eS2 a0.Y.N.L), .d (di .i64 a0.Y.E)], .fix 32 [.d (dbool a1.X.N.Neg), .d (eS2 a1.X.N.L), .d (di .i64 a1.X.E), .d (dbool a1.Y.N.Neg), .d (eS2 a1.Y.N.L), .d (di .i64 a1.Y.E)], .fix 32 [.d (dbool a2.X.N.Neg), .d (eS2 a2.X.N.L), .d (di .i64 a2.X.E), .d (dbool a2.Y.N.Neg), .d (eS2 a2.Y.N.L), .d (di .i64 a2.Y.E)], .fix 32 [.d (dbool a3.X.N.Neg), .d (eS2 a3.X.N.L), .d (di .i64 a3.X.E), .d (dbool a3.Y.N.Neg), .d (eS2 a3.Y.N.L), .d (di .i64 a3.Y.E)], .fix 32 [(bif L 7 then .d (dbool x16.X.N.Neg) else .d (dbool false)), (bif L 7 then .d (eS2 x16.X.N.L) else .d (.v (.slice none 0 0))), (bif L 7 then .d (di .i64 x16.X.E) else .d (di .i64 (0 : Int))), (bif L 7 then .d (dbool x16.Y.N.Neg) else .d (dbool false)), (bif L 7 then .d (eS2 x16.Y.N.L) else .d (.v (.slice none 0 0))), (bif L 7 then .d (di .i64 x16.Y.E) else .d (di .i64 (0 : Int)))], .fix 32 [.d (dbool false), .d (.v (.slice none 0 0)), .d (di .i64 (0 : Int)), .d (dbool false), .d (.v (.slice none 0 0)), .d (di .i64 (0 : Int))], .dead]) [(7, (fun _ => true))] mixed (by kernel_rfl) (fun L L' h => by simp only [h 7 (by decide)]) rfl ?_
  refine AS.op [12] [] [7] [] rfl rfl rfl (by kernel_rfl) (by kernel_rfl) rfl rfl (fun _ _ _ h => AOp.move rfl rfl (ltb rfl) rfl h) (by kernel_rfl) ?_
  refine AS.op [70] [] [7] [] rfl rfl rfl (by kernel_rfl) (by kernel_rfl) rfl rfl (fun _ _ _ h => AOp.indexDs (cells := (List.flatMap c_TSpec_Point y7)) rfl rfl (ltb rfl) rfl rfl el47 (by decide) q17.1 (ltN 6 (fun _ => rfl) (by decide) q17.2) h) (by kernel_rfl) ?_
  refine AS.op [71] [] [7] [] rfl rfl rfl (by kernel_rfl) (by kernel_rfl) rfl rfl (fun _ _ _ h => AOp.loadEpN rfl rfl (ltb rfl) rfl agg32 size32 (leN 6 (fun _ => rfl) q17.2) (atN 6 (fun _ => rfl) q17.2) h) (by kernel_rfl) ?_
  refine AS.op [12] [] [] [7] rfl rfl rfl (by kernel_rfl) (by kernel_rfl) rfl rfl (fun _ _ _ h => AOp.move rfl rfl (ltb rfl) rfl h) (by kernel_rfl) ?_
  refine AS.op [73] [] [] [7] rfl rfl rfl (by kernel_rfl) (by kernel_rfl) rfl rfl (fun _ _ _ h => AOp.indexDs (cells := (List.flatMap c_TSpec_Point y7)) rfl rfl (ltb rfl) rfl rfl el47 (by decide) q19.1 (ltN 6 (fun _ => rfl) (by decide) q19.2) h) (by kernel_rfl) ?_
  refine AS.op [74] [] [] [7] rfl rfl rfl (by kernel_rfl) (by kernel_rfl) rfl rfl (fun _ _ _ h => AOp.loadEpN rfl rfl (ltb rfl) rfl agg32 size32 (leN 6 (fun _ => rfl) q19.2) (atN 6 (fun _ => rfl) q19.2) h) (by kernel_rfl) ?_
  refine AS.op [] [] [7] [] rfl rfl rfl (by kernel_rfl) (by kernel_rfl) rfl rfl (fun _ _ _ h => AOp.assign rfl rfl (ltb rfl) rfl h) (by kernel_rfl) ?_
  refine AS.mid0 [9, 72] [] [7] [] rfl rfl rfl rfl (by kernel_rfl) (by kernel_rfl) rfl rfl (fun _ _ _ h => AOp.store rfl rfl rfl rfl size32 rfl rfl rfl (leb rfl) (AO.dropT h)) (by kernel_rfl) rfl ?_
  refine AS.done ?_
  refine AO.objs (obs' := [.fix 32 [.d (dbool a0.X.N.Neg), .d (eS2 a0.X.N.L), .d (di .i64 a0.X.E), .d (dbool a0.Y.N.Neg), .d (eS2 a0.Y.N.L), .d (di .i64 a0.Y.E)], .fix 32 [.d (dbool a1.X.N.Neg), .d (eS2 a1.X.N.L), .d (di .i64 a1.X.E), .d (dbool a1.Y.N.Neg), .d (eS2 a1.Y.N.L), .d (di .i64 a1.Y.E)], .fix 32 [.d (dbool a2.X.N.Neg), .d (eS2 a2.X.N.L), .d (di .i64 a2.X.E), .d (dbool a2.Y.N.Neg), .d (eS2 a2.Y.N.L), .d (di .i64 a2.Y.E)], .fix 32 [.d (dbool a3.X.N.Neg), .d (eS2 a3.X.N.L), .d (di .i64 a3.X.E), .d (dbool a3.Y.N.Neg), .d (eS2 a3.Y.N.L), .d (di .i64 a3.Y.E)], .fix 32 [.d (dbool x16.X.N.Neg), .d (eS2 x16.X.N.L), .d (di .i64 x16.X.E), .d (dbool x16.Y.N.Neg), .d (eS2 x16.Y.N.L), .d (di .i64 x16.Y.E)], .fix 32 [.d (dbool false), .d (.v (.slice none 0 0)), .d (di .i64 (0 : Int)), .d (dbool false), .d (.v (.slice none 0 0)), .d (di .i64 (0 : Int))], .dead]) rfl ?_
  refine AO.op rfl (AOp.store rfl rfl rfl rfl size32 rfl rfl rfl (leb rfl) ?_)
  refine AO.op rfl (AOp.assign rfl rfl (ltb rfl) rfl ?_)
  refine AO.nil ?_
  change AC _ _ _ _
  refine AC.ret ?_
  change RetQ _ _ _ .ret _
  obtain rfl := Option.some.inj h0
  refine retq rfl rfl
 replace h0 := cF h0 q15
 refine AC.joinP (V := Bool) [9, 10] [76] 7 (fun g20 => [(76, .d (dbool g20))]) (fun g20 => [.fix 32 [.d (dbool a0.X.N.Neg), .d (eS2 a0.X.N.L), .d (di .i64 a0.X.E), .d (dbool a0.Y.N.Neg), .d (eS2 a0.Y.N.L), .d (di .i64 a0.Y.E)], .fix 32 [.d (dbool a1.X.N.Neg), .d (eS2 a1.X.N.L), .d (di .i64 a1.X.E), .d (dbool a1.Y.N.Neg), .d (eS2 a1.Y.N.L), .d (di .i64 a1.Y.E)], .fix 32 [.d (dbool a2.X.N.Neg), .d (eS2 a2.X.N.L), .d (di .i64 a2.X.E), .d (dbool a2.Y.N.Neg), .d (eS2 a2.Y.N.L), .d (di .i64 a2.Y.E)], .fix 32 [.d (dbool a3.X.N.Neg), .d (eS2 a3.X.N.L), .d (di .i64 a3.X.E), .d (dbool a3.Y.N.Neg), .d (eS2 a3.Y.N.L), .d (di .i64 a3.Y.E)], .fix 32 [.d (dbool false), .d (.v (.slice none 0 0)), .d (di .i64 (0 : Int)), .d (dbool false), .d (.v (.slice none 0 0)), .d (di .i64 (0 : Int))], .fix 32 [.d (dbool false), .d (.v (.slice none 0 0)), .d (di .i64 (0 : Int)), .d (dbool false), .d (.v (.slice none 0 0)), .d (di .i64 (0 : Int))], .dead]) (fun g20 => p_Meet_k3 g20 = some r0) rfl ?_ ?_
 ·refine AC.draw 23 mixed (by kernel_rfl) ?_
  refine AD.op [4] rfl (by kernel_rfl) rfl rfl (fun _ _ h => AOp.loadN rfl rfl (ltb rfl) rfl agg32 size32 rfl (leb rfl) rfl h) ?_
  refine AD.op [5] rfl (by kernel_rfl) rfl rfl (fun _ _ h => AOp.loadN rfl rfl (ltb rfl) rfl agg32 size32 rfl (leb rfl) rfl h) ?_
  refine AD.op [6] rfl (by kernel_rfl) rfl rfl (fun _ _ h => AOp.loadN rfl rfl (ltb rfl) rfl agg32 size32 rfl (leb rfl) rfl h) ?_
  obtain ⟨y22, q23, h0⟩ := bind_elim h0
  refine AD.op [77, 78, 79] rfl (by kernel_rfl) rfl rfl (fun _ _ h => AOp.callD rfl rfl (ltb rfl) rfl rfl (w_Orient F a0 a1 a2 y22 q23) (by rintro _ rfl; exact h)) ?_
  refine AD.op [4] rfl (by kernel_rfl) rfl rfl (fun _ _ h => AOp.loadN rfl rfl (ltb rfl) rfl agg32 size32 rfl (leb rfl) rfl h) ?_
  refine AD.op [5] rfl (by kernel_rfl) rfl rfl (fun _ _ h => AOp.loadN rfl rfl (ltb rfl) rfl agg32 size32 rfl (leb rfl) rfl h) ?_
  refine AD.op [7] rfl (by kernel_rfl) rfl rfl (fun _ _ h => AOp.loadN rfl rfl (ltb rfl) rfl agg32 size32 rfl (leb rfl) rfl h) ?_
  obtain ⟨y24, q25, h0⟩ := bind_elim h0
  refine AD.op [81, 82, 83] rfl (by kernel_rfl) rfl rfl (fun _ _ h => AOp.callD rfl rfl (ltb rfl) rfl rfl (w_Orient F a0 a1 a3 y24 q25) (by rintro _ rfl; exact h)) ?_
  obtain ⟨q26, h0⟩ := need_elim h0
  refine AD.op [80, 84] rfl (by kernel_rfl) rfl rfl (fun _ _ h => AOp.imul rfl rfl (ltb rfl) rfl rfl rfl q26.1 q26.2 h) ?_
  refine AD.op [85] rfl (by kernel_rfl) rfl rfl (fun _ _ h => AOp.ilss rfl rfl (ltb rfl) rfl rfl h) ?_
  refine AD.op [86] rfl (by kernel_rfl) rfl rfl (fun _ _ h => AOp.move rfl rfl (ltb rfl) rfl h) ?_
  refine AD.dec (decide ((y22 * y24) < (0 : Int))) (fun q27 => ?_) (fun q27 => ?_)
  ·replace h0 := cT h0 q27
   refine AD.opY [6, 87] rfl rfl rfl q27 (by kernel_rfl) rfl rfl (fun _ _ h => AOp.loadN rfl rfl (ltb rfl) rfl agg32 size32 rfl (leb rfl) rfl h) ?_
   refine AD.opY [7, 87] rfl rfl rfl q27 (by kernel_rfl) rfl rfl (fun _ _ h => AOp.loadN rfl rfl (ltb rfl) rfl agg32 size32 rfl (leb rfl) rfl h) ?_
   refine AD.opY [4, 87] rfl rfl rfl q27 (by kernel_rfl) rfl rfl (fun _ _ h => AOp.loadN rfl rfl (ltb rfl) rfl agg32 size32 rfl (leb rfl) rfl h) ?_
   obtain ⟨y28, q29, h0⟩ := bind_elim h0
   refine AD.opY [87, 88, 89, 90] rfl rfl rfl q27 (by kernel_rfl) rfl rfl (fun _ _ h => AOp.callD rfl rfl (ltb rfl) rfl rfl (w_Orient F a2 a3 a0 y28 q29) (by rintro _ rfl; exact h)) ?_
   refine AD.opY [6, 87] rfl rfl rfl q27 (by kernel_rfl) rfl rfl (fun _ _ h => AOp.loadN rfl rfl (ltb rfl) rfl agg32 size32 rfl (leb rfl) rfl h) ?_
   refine AD.opY [7, 87] rfl rfl rfl q27 (by kernel_rfl) rfl rfl (fun _ _ h => AOp.loadN rfl rfl (ltb rfl) rfl agg32 size32 rfl (leb rfl) rfl h) ?_
   refine AD.opY [5, 87] rfl rfl rfl q27 (by kernel_rfl) rfl rfl (fun _ _ h => AOp.loadN rfl rfl (ltb rfl) rfl agg32 size32 rfl (leb rfl) rfl h) ?_
   obtain ⟨y30, q31, h0⟩ := bind_elim h0
   refine AD.opY [87, 92, 93, 94] rfl rfl rfl q27 (by kernel_rfl) rfl rfl (fun _ _ h => AOp.callD rfl rfl (ltb rfl) rfl rfl (w_Orient F a2 a3 a1 y30 q31) (by rintro _ rfl; exact h)) ?_
   obtain ⟨q32, h0⟩ := need_elim h0
   refine AD.opY [87, 91, 95] rfl rfl rfl q27 (by kernel_rfl) rfl rfl (fun _ _ h => AOp.imul rfl rfl (ltb rfl) rfl rfl rfl q32.1 q32.2 h) ?_
   refine AD.opY [87, 96] rfl rfl rfl q27 (by kernel_rfl) rfl rfl (fun _ _ h => AOp.ilss rfl rfl (ltb rfl) rfl rfl h) ?_
   refine AD.op [87, 97] rfl (by kernel_rfl) rfl rfl (fun _ _ h => AOp.pick rfl rfl (ltb rfl) rfl q27 rfl h) ?_
   refine AD.op [98] rfl (by kernel_rfl) rfl rfl (fun _ _ h => AOp.assign rfl rfl (ltb rfl) rfl h) ?_
   refine AD.done ?_
   refine AO.nil ?_
   exact ⟨(decide ((y28 * y30) < (0 : Int))), _, rfl, (LeL.refl _), rfl, rfl, h0⟩
  replace h0 := cF h0 q27
  refine AD.opN rfl rfl rfl (ltb rfl) rfl q27 ?_
  refine AD.opN rfl rfl rfl (ltb rfl) rfl q27 ?_
  refine AD.opN rfl rfl rfl (ltb rfl) rfl q27 ?_
  refine AD.opN rfl rfl rfl (ltb rfl) rfl q27 ?_
  refine AD.opN rfl rfl rfl (ltb rfl) rfl q27 ?_
  refine AD.opN rfl rfl rfl (ltb rfl) rfl q27 ?_
  refine AD.opN rfl rfl rfl (ltb rfl) rfl q27 ?_
  refine AD.opN rfl rfl rfl (ltb rfl) rfl q27 ?_
  refine AD.opN rfl rfl rfl (ltb rfl) rfl q27 ?_
  refine AD.opN rfl rfl rfl (ltb rfl) rfl q27 ?_
  refine AD.op [87, 97] rfl (by kernel_rfl) rfl rfl (fun _ _ h => AOp.pickN rfl rfl (ltb rfl) rfl q27 rfl h) ?_
  refine AD.op [98] rfl (by kernel_rfl) rfl rfl (fun _ _ h => AOp.assign rfl rfl (ltb rfl) rfl h) ?_
  refine AD.done ?_
  refine AO.nil ?_
  exact ⟨false, _, rfl, (LeL.refl _), rfl, rfl, h0⟩
 intro g20 h0
 unfold p_Meet_k3 at h0
 refine AC.cond rfl (fun q21 => ?_) (fun q21 => ?_)
 ·replace h0 := cT h0 q21
  refine AC.seq ?_
  refine AC.region ?_
  refine AO.op rfl (AOp.build rfl rfl (ltb rfl) zero32 rfl places32 rfl rfl ?_)
  refine AO.op rfl (AOp.build rfl rfl (ltb rfl) zero32 rfl places32 rfl rfl ?_)
  refine AO.op rfl (AOp.assign rfl rfl (ltb rfl) rfl ?_)
  refine AO.op rfl (AOp.store rfl rfl rfl rfl size32 rfl rfl rfl (leb rfl) ?_)
  refine AO.op rfl (AOp.store rfl rfl rfl rfl size32 rfl rfl rfl (leb rfl) ?_)
  refine AO.op rfl (AOp.assign rfl rfl (ltb rfl) rfl ?_)
  refine AO.nil ?_
  change AC _ _ _ _
  refine AC.subO 4 rfl (.cons (SVLe.refl _) (.cons (SVLe.nil 1) (.cons (SVLe.refl _) (.cons (SVLe.refl _) (.cons (SVLe.nil 1) (.cons (SVLe.refl _) .nil)))))) ?_
  refine AC.subO 5 rfl (.cons (SVLe.refl _) (.cons (SVLe.nil 1) (.cons (SVLe.refl _) (.cons (SVLe.refl _) (.cons (SVLe.nil 1) (.cons (SVLe.refl _) .nil)))))) ?_
  refine AC.ret ?_
  change RetQ _ _ _ .ret _
  obtain rfl := Option.some.inj h0
  refine retq rfl rfl
 replace h0 := cF h0 q21
 refine AC.skip ?_
 change AC _ _ _ _
 refine AC.seq ?_
 refine AC.region ?_
 refine AO.op rfl (AOp.build rfl rfl (ltb rfl) zero32 rfl places32 rfl rfl ?_)
 refine AO.op rfl (AOp.build rfl rfl (ltb rfl) zero32 rfl places32 rfl rfl ?_)
 refine AO.op rfl (AOp.assign rfl rfl (ltb rfl) rfl ?_)
 refine AO.op rfl (AOp.store rfl rfl rfl rfl size32 rfl rfl rfl (leb rfl) ?_)
 refine AO.op rfl (AOp.store rfl rfl rfl rfl size32 rfl rfl rfl (leb rfl) ?_)
 refine AO.op rfl (AOp.assign rfl rfl (ltb rfl) rfl ?_)
 refine AO.nil ?_
 change AC _ _ _ _
 refine AC.subO 4 rfl (.cons (SVLe.refl _) (.cons (SVLe.nil 1) (.cons (SVLe.refl _) (.cons (SVLe.refl _) (.cons (SVLe.nil 1) (.cons (SVLe.refl _) .nil)))))) ?_
 refine AC.subO 5 rfl (.cons (SVLe.refl _) (.cons (SVLe.nil 1) (.cons (SVLe.refl _) (.cons (SVLe.refl _) (.cons (SVLe.nil 1) (.cons (SVLe.refl _) .nil)))))) ?_
 refine AC.ret ?_
 change RetQ _ _ _ .ret _
 obtain rfl := Option.some.inj h0
 refine retq rfl rfl

set_option maxRecDepth 100000 in
set_option maxHeartbeats 4000000 in
/-- pub-orthodrome/spec.RatioOf -/
theorem w_RatioOf (a0 : TSpec_Dyadic) (a1 : TSpec_Dyadic) (r0 : TSpec_Ratio) (h0 : p_RatioOf a0 a1 = some r0) : FnD Tryz.prog 19 [e_TSpec_Dyadic a0, e_TSpec_Dyadic a1] (fun r => r = e_TSpec_Ratio r0) := by
 refine FnD.of (by kernel_rfl) Tryz.func19 rfl Tryz.ntmps19 rfl (leb rfl) fun W ok => ?_
 unfold p_RatioOf at h0
 refine AC.seq ?_
 refine AC.region ?_
 refine AO.op rfl (AOp.box rfl rfl (ltb rfl) rfl rfl ?_)
 refine AO.op rfl (AOp.box rfl rfl (ltb rfl) rfl rfl ?_)
 refine AO.op rfl (AOp.alloc rfl rfl (ltb rfl) zero37 rfl ?_)
 refine AO.nil ?_
 change AC _ _ _ _
 refine AC.seq ?_
 refine AC.seq ?_
 refine AC.region ?_
 refine AO.op rfl (AOp.loadN rfl rfl (ltb rfl) rfl agg30 size30 rfl (leb rfl) rfl ?_)
 obtain ⟨y1, q2, h0⟩ := bind_elim h0
 refine AO.op rfl (AOp.callD rfl rfl (ltb rfl) rfl rfl (w_Dyadic_Sign a1 y1 q2) ?_)
 rintro _ rfl
 refine AO.op rfl (AOp.ilss rfl rfl (ltb rfl) rfl rfl ?_)
 refine AO.nil ?_
 change AC _ _ _ _
 refine AC.cond rfl (fun q3 => ?_) (fun q3 => ?_)
 ·replace h0 := cT h0 q3
  refine AC.seq ?_
  refine AC.draw 5 mixed (by kernel_rfl) ?_
  refine AD.op [2] rfl (by kernel_rfl) rfl rfl (fun _ _ h => AOp.loadN rfl rfl (ltb rfl) rfl agg30 size30 rfl (leb rfl) rfl h) ?_
  obtain ⟨y4, q5, h0⟩ := bind_elim h0
  refine AD.op [8] rfl (by kernel_rfl) rfl rfl (fun _ _ h => AOp.callD rfl rfl (ltb rfl) rfl rfl (w_Dyadic_Minus a0 y4 q5) (by rintro _ rfl; exact h)) ?_
  refine AD.op [3] rfl (by kernel_rfl) rfl rfl (fun _ _ h => AOp.loadN rfl rfl (ltb rfl) rfl agg30 size30 rfl (leb rfl) rfl h) ?_
  obtain ⟨y6, q7, h0⟩ := bind_elim h0
  refine AD.op [10] rfl (by kernel_rfl) rfl rfl (fun _ _ h => AOp.callD rfl rfl (ltb rfl) rfl rfl (w_Dyadic_Minus a1 y6 q7) (by rintro _ rfl; exact h)) ?_
  refine AD.op [9, 11] rfl (by kernel_rfl) rfl rfl (fun _ _ h => AOp.build rfl rfl (ltb rfl) zero37 rfl places37 rfl rfl h) ?_
  refine AD.done ?_
  refine AO.op rfl (AOp.store rfl rfl rfl rfl size37 rfl rfl rfl (leb rfl) ?_)
  refine AO.nil ?_
  change AC _ _ _ _
  refine AC.ret ?_
  change RetQ _ _ _ .ret _
  obtain rfl := Option.some.inj h0
  refine retq rfl rfl
 replace h0 := cF h0 q3
 refine AC.skip ?_
 change AC _ _ _ _
 refine AC.seq ?_
 refine AC.region ?_
 refine AO.op rfl (AOp.loadN rfl rfl (ltb rfl) rfl agg30 size30 rfl (leb rfl) rfl ?_)
 refine AO.op rfl (AOp.loadN rfl rfl (ltb rfl) rfl agg30 size30 rfl (leb rfl) rfl ?_)
 refine AO.op rfl (AOp.build rfl rfl (ltb rfl) zero37 rfl places37 rfl rfl ?_)
 refine AO.op rfl (AOp.store rfl rfl rfl rfl size37 rfl rfl rfl (leb rfl) ?_)
 refine AO.nil ?_
 change AC _ _ _ _
 refine AC.ret ?_
 change RetQ _ _ _ .ret _
 obtain rfl := Option.some.inj h0
 refine retq rfl rfl

set_option maxRecDepth 100000 in
set_option maxHeartbeats 4000000 in
/-- pub-orthodrome/spec.Crossing -/
theorem w_Crossing (F : Nat) (a0 : TSpec_Point) (a1 : TSpec_Point) (a2 : TSpec_Point) (a3 : TSpec_Point) (r0 : (TSpec_Ratio × TSpec_Ratio × Bool)) (h0 : p_Crossing F a0 a1 a2 a3 = some r0) : FnD Tryz.prog 7 [e_TSpec_Point a0, e_TSpec_Point a1, e_TSpec_Point a2, e_TSpec_Point a3] (fun r => r = .tu [e_TSpec_Ratio r0.1, e_TSpec_Ratio r0.2.1, dbool r0.2.2]) := by
 refine FnD.of (by kernel_rfl) Tryz.func7 rfl Tryz.ntmps7 rfl (leb rfl) fun W ok => ?_
 unfold p_Crossing at h0
 refine AC.seq ?_
 refine AC.region ?_
 refine AO.op rfl (AOp.box rfl rfl (ltb rfl) rfl rfl ?_)
 refine AO.op rfl (AOp.box rfl rfl (ltb rfl) rfl rfl ?_)
 refine AO.op rfl (AOp.box rfl rfl (ltb rfl) rfl rfl ?_)
 refine AO.op rfl (AOp.box rfl rfl (ltb rfl) rfl rfl ?_)
 refine AO.op rfl (AOp.alloc rfl rfl (ltb rfl) zero37 rfl ?_)
 refine AO.op rfl (AOp.alloc rfl rfl (ltb rfl) zero37 rfl ?_)
 refine AO.op rfl (AOp.assign rfl rfl (ltb rfl) rfl ?_)
 refine AO.objs (obs' := [.fix 32 [.d (dbool a0.X.N.Neg), .d (eS2 a0.X.N.L), .d (di .i64 a0.X.E), .d (dbool a0.Y.N.Neg), .d (eS2 a0.Y.N.L), .d (di .i64 a0.Y.E)], .fix 32 [.d (dbool a1.X.N.Neg), .d (eS2 a1.X.N.L), .d (di .i64 a1.X.E), .d (dbool a1.Y.N.Neg), .d (eS2 a1.Y.N.L), .d (di .i64 a1.Y.E)], .fix 32 [.d (dbool a2.X.N.Neg), .d (eS2 a2.X.N.L), .d (di .i64 a2.X.E), .d (dbool a2.Y.N.Neg), .d (eS2 a2.Y.N.L), .d (di .i64 a2.Y.E)], .fix 32 [.d (dbool a3.X.N.Neg), .d (eS2 a3.X.N.L), .d (di .i64 a3.X.E), .d (dbool a3.Y.N.Neg), .d (eS2 a3.Y.N.L), .d (di .i64 a3.Y.E)], .fix 37 [.d (dbool false), .d (.v (.slice none 0 0)), .d (di .i64 (0 : Int)), .d (dbool false), .d (.v (.slice none 0 0)), .d (di .i64 (0 : Int))], .fix 37 [.d (dbool false), .d (.v (.slice none 0 0)), .d (di .i64 (0 : Int)), .d (dbool false), .d (.v (.slice none 0 0)), .d (di .i64 (0 : Int))]]) rfl ?_
 refine AO.nil ?_
 change AC _ _ _ _
 refine AC.seq ?_
 refine AC.room ?_
 refine AC.room ?_
 obtain ⟨y1, q2, h0⟩ := bind_elim h0
 obtain ⟨y3, q4, h0⟩ := bind_elim h0
 refine AC.drawS [0, 1, 2, 3, 4, 5, 6, 7, 8, 9, 10, 11] [10, 11] [12, 13] (fun L => [.fix 32 [.d (dbool a0.X.N.Neg), .d (eS2 a0.X.N.L), .d (di .i64 a0.X.E), .d (dbool a0.Y.N.Neg), .d (eS2 a0.Y.N.L), .d (di .i64 a0.Y.E)], .fix 32 [.d (dbool a1.X.N.Neg), .d (eS2 a1.X.N.L), .d (di .i64 a1.X.E), .d (dbool a1.Y.N.Neg), .d (eS2 a1.Y.N.L), .d (di .i64 a1.Y.E)], .fix 32 [.d (dbool a2.X.N.Neg), .d (eS2 a2.X.N.L), .d (di .i64 a2.X.E), .d (dbool a2.Y.N.Neg), .d (eS2 a2.Y.N.L), .d (di .i64 a2.Y.E)], .fix 32 [.d (dbool a3.X.N.Neg), .d (eS2 a3.X.N.L), .d (di .i64 a3.X.E), .d (dbool a3.Y.N.Neg), .d (eS2 a3.Y.N.L), .d (di .i64 a3.Y.E)], .fix 37 [.d (dbool false), .d (.v (.slice none 0 0)), .d (di .i64 (0 : Int)), .d (dbool false), .d (.v (.slice none 0 0)), .d (di .i64 (0 : Int))], .fix 37 [.d (dbool false), .d (.v (.slice none 0 0)), .d (di .i64 (0 : Int)), .d (dbool false), .d (.v (.slice none 0 0)), .d (di .i64 (0 : Int))], bif L 10 then .fix 30 [.d (dbool false), .d (.v (.slice none 0 0)), .d (di .i64 (0 : Int))] else .dead, bif L 11 then .fix 30 [.d (dbool false), .d (.v (.slice none 0 0)), .d (di .i64 (0 : Int))] else .dead]) [(10, SV.noO2 6 8), (11, SV.noO2 7 8)] mixed (by kernel_rfl) (fun L L' h => by simp only [h 10 (by decide), h 11 (by decide)]) rfl ?_
 refine AS.op [5] [] [] [10, 11] rfl rfl rfl (by kernel_rfl) (by kernel_rfl) rfl rfl (fun _ _ _ h => AOp.fieldAddr rfl rfl (ltb rfl) rfl fo32_0 h) (by kernel_rfl) ?_
 refine AS.op [17] [] [] [10, 11] rfl rfl rfl (by kernel_rfl) (by kernel_rfl) rfl rfl (fun _ _ _ h => AOp.loadN rfl rfl (ltb rfl) rfl agg30 size30 rfl (leb rfl) rfl h) (by kernel_rfl) ?_
 refine AS.op [4] [] [] [10, 11] rfl rfl rfl (by kernel_rfl) (by kernel_rfl) rfl rfl (fun _ _ _ h => AOp.fieldAddr rfl rfl (ltb rfl) rfl fo32_0 h) (by kernel_rfl) ?_
 refine AS.op [19] [] [] [10, 11] rfl rfl rfl (by kernel_rfl) (by kernel_rfl) rfl rfl (fun _ _ _ h => AOp.loadN rfl rfl (ltb rfl) rfl agg30 size30 rfl (leb rfl) rfl h) (by kernel_rfl) ?_
 refine AS.op [18, 20] [] [] [10, 11] rfl rfl rfl (by kernel_rfl) (by kernel_rfl) rfl rfl (fun _ _ _ h => AOp.callD rfl rfl (ltb rfl) rfl rfl (w_Dyadic_Sub F a1.X a0.X y1 q2) (by rintro _ rfl; exact h)) (by kernel_rfl) ?_
 refine AS.op [5] [] [] [10, 11] rfl rfl rfl (by kernel_rfl) (by kernel_rfl) rfl rfl (fun _ _ _ h => AOp.fieldAddr rfl rfl (ltb rfl) rfl fo32_1 h) (by kernel_rfl) ?_
 refine AS.op [22] [] [] [10, 11] rfl rfl rfl (by kernel_rfl) (by kernel_rfl) rfl rfl (fun _ _ _ h => AOp.loadN rfl rfl (ltb rfl) rfl agg30 size30 rfl (leb rfl) rfl h) (by kernel_rfl) ?_
 refine AS.op [4] [] [] [10, 11] rfl rfl rfl (by kernel_rfl) (by kernel_rfl) rfl rfl (fun _ _ _ h => AOp.fieldAddr rfl rfl (ltb rfl) rfl fo32_1 h) (by kernel_rfl) ?_
 refine AS.op [24] [] [] [10, 11] rfl rfl rfl (by kernel_rfl) (by kernel_rfl) rfl rfl (fun _ _ _ h => AOp.loadN rfl rfl (ltb rfl) rfl agg30 size30 rfl (leb rfl) rfl h) (by kernel_rfl) ?_
 refine AS.op [23, 25] [] [] [10, 11] rfl rfl rfl (by kernel_rfl) (by kernel_rfl) rfl rfl (fun _ _ _ h => AOp.callD rfl rfl (ltb rfl) rfl rfl (w_Dyadic_Sub F a1.Y a0.Y y3 q4) (by rintro _ rfl; exact h)) (by kernel_rfl) ?_
 refine AS.mid [] [] [10] [11] rfl rfl rfl rfl (by kernel_rfl) (by kernel_rfl) rfl rfl (fun _ _ _ h => AOp.alloc rfl rfl (ltb rfl) zero30 rfl (AO.sink 6 8 rfl rfl rfl (.cons rfl (.cons rfl (.cons rfl (.cons rfl (.cons rfl (.cons rfl (.cons (noO2_cond rfl rfl) (.cons (noO2_cond rfl rfl) .nil)))))))) rfl h)) (by kernel_rfl) rfl ?_
 refine AS.mid [] [] [11] [10] rfl rfl rfl rfl (by kernel_rfl) (by kernel_rfl) rfl rfl (fun _ _ _ h => AOp.alloc rfl rfl (ltb rfl) zero30 rfl (AO.sink 7 8 rfl rfl rfl (.cons rfl (.cons rfl (.cons rfl (.cons rfl (.cons rfl (.cons rfl (.cons (noO2_cond rfl rfl) (.cons (noO2_cond rfl rfl) .nil)))))))) rfl h)) (by kernel_rfl) rfl ?_
 refine AS.done ?_
 refine AO.objs (obs' := [.fix 32 [.d (dbool a0.X.N.Neg), .d (eS2 a0.X.N.L), .d (di .i64 a0.X.E), .d (dbool a0.Y.N.Neg), .d (eS2 a0.Y.N.L), .d (di .i64 a0.Y.E)], .fix 32 [.d (dbool a1.X.N.Neg), .d (eS2 a1.X.N.L), .d (di .i64 a1.X.E), .d (dbool a1.Y.N.Neg), .d (eS2 a1.Y.N.L), .d (di .i64 a1.Y.E)], .fix 32 [.d (dbool a2.X.N.Neg), .d (eS2 a2.X.N.L), .d (di .i64 a2.X.E), .d (dbool a2.Y.N.Neg), .d (eS2 a2.Y.N.L), .d (di .i64 a2.Y.E)], .fix 32 [.d (dbool a3.X.N.Neg), .d (eS2 a3.X.N.L), .d (di .i64 a3.X.E), .d (dbool a3.Y.N.Neg), .d (eS2 a3.Y.N.L), .d (di .i64 a3.Y.E)], .fix 37 [.d (dbool false), .d (.v (.slice none 0 0)), .d (di .i64 (0 : Int)), .d (dbool false), .d (.v (.slice none 0 0)), .d (di .i64 (0 : Int))], .fix 37 [.d (dbool false), .d (.v (.slice none 0 0)), .d (di .i64 (0 : Int)), .d (dbool false), .d (.v (.slice none 0 0)), .d (di .i64 (0 : Int))], .fix 30 [.d (dbool false), .d (.v (.slice none 0 0)), .d (di .i64 (0 : Int))], .fix 30 [.d (dbool false), .d (.v (.slice none 0 0)), .d (di .i64 (0 : Int))]]) rfl ?_
 refine AO.op rfl (AOp.store rfl rfl rfl rfl size30 rfl rfl rfl (leb rfl) ?_)
 refine AO.op rfl (AOp.store rfl rfl rfl rfl size30 rfl rfl rfl (leb rfl) ?_)
 refine AO.nil ?_
 change AC _ _ _ _
 refine AC.seq ?_
 refine AC.room ?_
 refine AC.room ?_
 obtain ⟨y5, q6, h0⟩ := bind_elim h0
 obtain ⟨y7, q8, h0⟩ := bind_elim h0
 refine AC.drawS [0, 1, 2, 3, 4, 5, 6, 7, 8, 9, 10, 11] [10, 11] [12, 13] (fun L => [.fix 32 [.d (dbool a0.X.N.Neg), .d (eS2 a0.X.N.L), .d (di .i64 a0.X.E), .d (dbool a0.Y.N.Neg), .d (eS2 a0.Y.N.L), .d (di .i64 a0.Y.E)], .fix 32 [.d (dbool a1.X.N.Neg), .d (eS2 a1.X.N.L), .d (di .i64 a1.X.E), .d (dbool a1.Y.N.Neg), .d (eS2 a1.Y.N.L), .d (di .i64 a1.Y.E)], .fix 32 [.d (dbool a2.X.N.Neg), .d (eS2 a2.X.N.L), .d (di .i64 a2.X.E), .d (dbool a2.Y.N.Neg), .d (eS2 a2.Y.N.L), .d (di .i64 a2.Y.E)], .fix 32 [.d (dbool a3.X.N.Neg), .d (eS2 a3.X.N.L), .d (di .i64 a3.X.E), .d (dbool a3.Y.N.Neg), .d (eS2 a3.Y.N.L), .d (di .i64 a3.Y.E)], .fix 37 [.d (dbool false), .d (.v (.slice none 0 0)), .d (di .i64 (0 : Int)), .d (dbool false), .d (.v (.slice none 0 0)), .d (di .i64 (0 : Int))], .fix 37 [.d (dbool false), .d (.v (.slice none 0 0)), .d (di .i64 (0 : Int)), .d (dbool false), .d (.v (.slice none 0 0)), .d (di .i64 (0 : Int))], .fix 30 [.d (dbool y1.N.Neg), .d (eS2 y1.N.L), .d (di .i64 y1.E)], .fix 30 [.d (dbool y3.N.Neg), .d (eS2 y3.N.L), .d (di .i64 y3.E)], bif L 10 then .fix 30 [.d (dbool false), .d (.v (.slice none 0 0)), .d (di .i64 (0 : Int))] else .dead, bif L 11 then .fix 30 [.d (dbool false), .d (.v (.slice none 0 0)), .d (di .i64 (0 : Int))] else .dead]) [(10, SV.noO2 8 10), (11, SV.noO2 9 10)] mixed (by kernel_rfl) (fun L L' h => by simp only [h 10 (by decide), h 11 (by decide)]) rfl ?_
 refine AS.op [7] [] [] [10, 11] rfl rfl rfl (by kernel_rfl) (by kernel_rfl) rfl rfl (fun _ _ _ h => AOp.fieldAddr rfl rfl (ltb rfl) rfl fo32_0 h) (by kernel_rfl) ?_
 refine AS.op [27] [] [] [10, 11] rfl rfl rfl (by kernel_rfl) (by kernel_rfl) rfl rfl (fun _ _ _ h => AOp.loadN rfl rfl (ltb rfl) rfl agg30 size30 rfl (leb rfl) rfl h) (by kernel_rfl) ?_
 refine AS.op [6] [] [] [10, 11] rfl rfl rfl (by kernel_rfl) (by kernel_rfl) rfl rfl (fun _ _ _ h => AOp.fieldAddr rfl rfl (ltb rfl) rfl fo32_0 h) (by kernel_rfl) ?_
 refine AS.op [29] [] [] [10, 11] rfl rfl rfl (by kernel_rfl) (by kernel_rfl) rfl rfl (fun _ _ _ h => AOp.loadN rfl rfl (ltb rfl) rfl agg30 size30 rfl (leb rfl) rfl h) (by kernel_rfl) ?_
 refine AS.op [28, 30] [] [] [10, 11] rfl rfl rfl (by kernel_rfl) (by kernel_rfl) rfl rfl (fun _ _ _ h => AOp.callD rfl rfl (ltb rfl) rfl rfl (w_Dyadic_Sub F a3.X a2.X y5 q6) (by rintro _ rfl; exact h)) (by kernel_rfl) ?_
 refine AS.op [7] [] [] [10, 11] rfl rfl rfl (by kernel_rfl) (by kernel_rfl) rfl rfl (fun _ _ _ h => AOp.fieldAddr rfl rfl (ltb rfl) rfl fo32_1 h) (by kernel_rfl) ?_
 refine AS.op [32] [] [] [10, 11] rfl rfl rfl (by kernel_rfl) (by kernel_rfl) rfl rfl (fun _ _ _ h => AOp.loadN rfl rfl (ltb rfl) rfl agg30 size30 rfl (leb rfl) rfl h) (by kernel_rfl) ?_
 refine AS.op [6] [] [] [10, 11] rfl rfl rfl (by kernel_rfl) (by kernel_rfl) rfl rfl (fun _ _ _ h => AOp.fieldAddr rfl rfl (ltb rfl) rfl fo32_1 h) (by kernel_rfl) ?_
 refine AS.op [34] [] [] [10, 11] rfl rfl rfl (by kernel_rfl) (by kernel_rfl) rfl rfl (fun _ _ _ h => AOp.loadN rfl rfl (ltb rfl) rfl agg30 size30 rfl (leb rfl) rfl h) (by kernel_rfl) ?_
 refine AS.op [33, 35] [] [] [10, 11] rfl rfl rfl (by kernel_rfl) (by kernel_rfl) rfl rfl (fun _ _ _ h => AOp.callD rfl rfl (ltb rfl) rfl rfl (w_Dyadic_Sub F a3.Y a2.Y y7 q8) (by rintro _ rfl; exact h)) (by kernel_rfl) ?_
 refine AS.mid [] [] [10] [11] rfl rfl rfl rfl (by kernel_rfl) (by kernel_rfl) rfl rfl (fun _ _ _ h => AOp.alloc rfl rfl (ltb rfl) zero30 rfl (AO.sink 8 10 rfl rfl rfl (.cons rfl (.cons rfl (.cons rfl (.cons rfl (.cons rfl (.cons rfl (.cons rfl (.cons rfl (.cons (noO2_cond rfl rfl) (.cons (noO2_cond rfl rfl) .nil)))))))))) rfl h)) (by kernel_rfl) rfl ?_
 refine AS.mid [] [] [11] [10] rfl rfl rfl rfl (by kernel_rfl) (by kernel_rfl) rfl rfl (fun _ _ _ h => AOp.alloc rfl rfl (ltb rfl) zero30 rfl (AO.sink 9 10 rfl rfl rfl (.cons rfl (.cons rfl (.cons rfl (.cons rfl (.cons rfl (.cons rfl (.cons rfl (.cons rfl (.cons (noO2_cond rfl rfl) (.cons (noO2_cond rfl rfl) .nil)))))))))) rfl h)) (by kernel_rfl) rfl ?_
 refine AS.done ?_
 refine AO.objs (obs' := [.fix 32 [.d (dbool a0.X.N.Neg), .d (eS2 a0.X.N.L), .d (di .i64 a0.X.E), .d (dbool a0.Y.N.Neg), .d (eS2 a0.Y.N.L), .d (di .i64 a0.Y.E)], .fix 32 [.d (dbool a1.X.N.Neg), .d (eS2 a1.X.N.L), .d (di .i64 a1.X.E), .d (dbool a1.Y.N.Neg), .d (eS2 a1.Y.N.L), .d (di .i64 a1.Y.E)], .fix 32 [.d (dbool a2.X.N.Neg), .d (eS2 a2.X.N.L), .d (di .i64 a2.X.E), .d (dbool a2.Y.N.Neg), .d (eS2 a2.Y.N.L), .d (di .i64 a2.Y.E)], .fix 32 [.d (dbool a3.X.N.Neg), .d (eS2 a3.X.N.L), .d (di .i64 a3.X.E), .d (dbool a3.Y.N.Neg), .d (eS2 a3.Y.N.L), .d (di .i64 a3.Y.E)], .fix 37 [.d (dbool false), .d (.v (.slice none 0 0)), .d (di .i64 (0 : Int)), .d (dbool false), .d (.v (.slice none 0 0)), .d (di .i64 (0 : Int))], .fix 37 [.d (dbool false), .d (.v (.slice none 0 0)), .d (di .i64 (0 : Int)), .d (dbool false), .d (.v (.slice none 0 0)), .d (di .i64 (0 : Int))], .fix 30 [.d (dbool y1.N.Neg), .d (eS2 y1.N.L), .d (di .i64 y1.E)], .fix 30 [.d (dbool y3.N.Neg), .d (eS2 y3.N.L), .d (di .i64 y3.E)], .fix 30 [.d (dbool false), .d (.v (.slice none 0 0)), .d (di .i64 (0 : Int))], .fix 30 [.d (dbool false), .d (.v (.slice none 0 0)), .d (di .i64 (0 : Int))]]) rfl ?_
 refine AO.op rfl (AOp.store rfl rfl rfl rfl size30 rfl rfl rfl (leb rfl) ?_)
 refine AO.op rfl (AOp.store rfl rfl rfl rfl size30 rfl rfl rfl (leb rfl) ?_)
 refine AO.nil ?_
 change AC _ _ _ _
 refine AC.seq ?_
 refine AC.room ?_
 obtain ⟨y9, q10, h0⟩ := bind_elim h0
 obtain ⟨y11, q12, h0⟩ := bind_elim h0
 obtain ⟨y13, q14, h0⟩ := bind_elim h0
 refine AC.drawS [0, 1, 2, 3, 4, 5, 6, 7] [7] [8] (fun L => [.fix 32 [.d (dbool a0.X.N.Neg), .d (eS2 a0.X.N.L), .d (di .i64 a0.X.E), .d (dbool a0.Y.N.Neg), .d (eS2 a0.Y.N.L), .d (di .i64 a0.Y.E)], .fix 32 [.d (dbool a1.X.N.Neg), .d (eS2 a1.X.N.L), .d (di .i64 a1.X.E), .d (dbool a1.Y.N.Neg), .d (eS2 a1.Y.N.L), .d (di .i64 a1.Y.E)], .fix 32 [.d (dbool a2.X.N.Neg), .d (eS2 a2.X.N.L), .d (di .i64 a2.X.E), .d (dbool a2.Y.N.Neg), .d (eS2 a2.Y.N.L), .d (di .i64 a2.Y.E)], .fix 32 [.d (dbool a3.X.N.Neg), .d (eS2 a3.X.N.L), .d (di .i64 a3.X.E), .d (dbool a3.Y.N.Neg), .d (eS2 a3.Y.N.L), .d (di .i64 a3.Y.E)], .fix 37 [.d (dbool false), .d (.v (.slice none 0 0)), .d (di .i64 (0 : Int)), .d (dbool false), .d (.v (.slice none 0 0)), .d (di .i64 (0 : Int))], .fix 37 [.d (dbool false), .d (.v (.slice none 0 0)), .d (di .i64 (0 : Int)), .d (dbool false), .d (.v (.slice none 0 0)), .d (di .i64 (0 : Int))], .fix 30 [.d (dbool y1.N.Neg), .d (eS2 y1.N.L), .d (di .i64 y1.E)], .fix 30 [.d (dbool y3.N.Neg), .d (eS2 y3.N.L), .d (di .i64 y3.E)], .fix 30 [.d (dbool y5.N.Neg), .d (eS2 y5.N.L), .d (di .i64 y5.E)], .fix 30 [.d (dbool y7.N.Neg), .d (eS2 y7.N.L), .d (di .i64 y7.E)], bif L 7 then .fix 30 [.d (dbool false), .d (.v (.slice none 0 0)), .d (di .i64 (0 : Int))] else .dead]) [(7, SV.noO2 10 11)] mixed (by kernel_rfl) (fun L L' h => by simp only [h 7 (by decide)]) rfl ?_
 refine AS.op [11] [] [] [7] rfl rfl rfl (by kernel_rfl) (by kernel_rfl) rfl rfl (fun _ _ _ h => AOp.loadN rfl rfl (ltb rfl) rfl agg30 size30 rfl (leb rfl) rfl h) (by kernel_rfl) ?_
 refine AS.op [14] [] [] [7] rfl rfl rfl (by kernel_rfl) (by kernel_rfl) rfl rfl (fun _ _ _ h => AOp.loadN rfl rfl (ltb rfl) rfl agg30 size30 rfl (leb rfl) rfl h) (by kernel_rfl) ?_
 refine AS.op [37, 38] [] [] [7] rfl rfl rfl (by kernel_rfl) (by kernel_rfl) rfl rfl (fun _ _ _ h => AOp.callD rfl rfl (ltb rfl) rfl rfl (w_Dyadic_Mul F y1 y7 y9 q10) (by rintro _ rfl; exact h)) (by kernel_rfl) ?_
 refine AS.op [12] [] [] [7] rfl rfl rfl (by kernel_rfl) (by kernel_rfl) rfl rfl (fun _ _ _ h => AOp.loadN rfl rfl (ltb rfl) rfl agg30 size30 rfl (leb rfl) rfl h) (by kernel_rfl) ?_
 refine AS.op [13] [] [] [7] rfl rfl rfl (by kernel_rfl) (by kernel_rfl) rfl rfl (fun _ _ _ h => AOp.loadN rfl rfl (ltb rfl) rfl agg30 size30 rfl (leb rfl) rfl h) (by kernel_rfl) ?_
 refine AS.op [40, 41] [] [] [7] rfl rfl rfl (by kernel_rfl) (by kernel_rfl) rfl rfl (fun _ _ _ h => AOp.callD rfl rfl (ltb rfl) rfl rfl (w_Dyadic_Mul F y3 y5 y11 q12) (by rintro _ rfl; exact h)) (by kernel_rfl) ?_
 refine AS.op [39, 42] [] [] [7] rfl rfl rfl (by kernel_rfl) (by kernel_rfl) rfl rfl (fun _ _ _ h => AOp.callD rfl rfl (ltb rfl) rfl rfl (w_Dyadic_Sub F y9 y11 y13 q14) (by rintro _ rfl; exact h)) (by kernel_rfl) ?_
 refine AS.mid [] [] [7] [] rfl rfl rfl rfl (by kernel_rfl) (by kernel_rfl) rfl rfl (fun _ _ _ h => AOp.alloc rfl rfl (ltb rfl) zero30 rfl (AO.sink 10 11 rfl rfl rfl (.cons rfl (.cons rfl (.cons rfl (.cons rfl (.cons rfl (.cons rfl (.cons rfl (.cons rfl (.cons rfl (.cons rfl (.cons (noO2_cond rfl rfl) .nil))))))))))) rfl h)) (by kernel_rfl) rfl ?_
 refine AS.done ?_
 refine AO.objs (obs' := [.fix 32 [.d (dbool a0.X.N.Neg), .d (eS2 a0.X.N.L), .d (di .i64 a0.X.E), .d (dbool a0.Y.N.Neg), .d (eS2 a0.Y.N.L), .d (di .i64 a0.Y.E)], .fix 32 [.d (dbool a1.X.N.Neg), .d (eS2 a1.X.N.L), .d (di .i64 a1.X.E), .d (dbool a1.Y.N.Neg), .d (eS2 a1.Y.N.L), .d (di .i64 a1.Y.E)], .fix 32 [.d (dbool a2.X.N.Neg), .d (eS2 a2.X.N.L), .d (di .i64 a2.X.E), .d (dbool a2.Y.N.Neg), .d (eS2 a2.Y.N.L), .d (di .i64 a2.Y.E)], .fix 32 [.d (dbool a3.X.N.Neg), .d (eS2 a3.X.N.L), .d (di .i64 a3.X.E), .d (dbool a3.Y.N.Neg), .d (eS2 a3.Y.N.L), .d (di .i64 a3.Y.E)], .fix 37 [.d (dbool false), .d (.v (.slice none 0 0)), .d (di .i64 (0 : Int)), .d (dbool false), .d (.v (.slice none 0 0)), .d (di .i64 (0 : Int))], .fix 37 [.d (dbool false), .d (.v (.slice none 0 0)), .d (di .i64 (0 : Int)), .d (dbool false), .d (.v (.slice none 0 0)), .d (di .i64 (0 : Int))], .fix 30 [.d (dbool y1.N.Neg), .d (eS2 y1.N.L), .d (di .i64 y1.E)], .fix 30 [.d (dbool y3.N.Neg), .d (eS2 y3.N.L), .d (di .i64 y3.E)], .fix 30 [.d (dbool y5.N.Neg), .d (eS2 y5.N.L), .d (di .i64 y5.E)], .fix 30 [.d (dbool y7.N.Neg), .d (eS2 y7.N.L), .d (di .i64 y7.E)], .fix 30 [.d (dbool false), .d (.v (.slice none 0 0)), .d (di .i64 (0 : Int))]]) rfl ?_
 refine AO.op rfl (AOp.store rfl rfl rfl rfl size30 rfl rfl rfl (leb rfl) ?_)
 refine AO.nil ?_
 change AC _ _ _ _
 refine AC.seq ?_
 refine AC.seq ?_
 refine AC.region ?_
 refine AO.op rfl (AOp.loadN rfl rfl (ltb rfl) rfl agg30 size30 rfl (leb rfl) rfl ?_)
 obtain ⟨y15, q16, h0⟩ := bind_elim h0
 refine AO.op rfl (AOp.callD rfl rfl (ltb rfl) rfl rfl (w_Dyadic_Sign y13 y15 q16) ?_)
 rintro _ rfl
 refine AO.op rfl (AOp.ieql rfl rfl (ltb rfl) rfl rfl ?_)
 refine AO.nil ?_
 change AC _ _ _ _
 refine AC.cond rfl (fun q17 => ?_) (fun q17 => ?_)
 ·replace h0 := cT h0 q17
  refine AC.seq ?_
  refine AC.region ?_
  refine AO.op rfl (AOp.build rfl rfl (ltb rfl) zero37 rfl places37 rfl rfl ?_)
  refine AO.op rfl (AOp.build rfl rfl (ltb rfl) zero37 rfl places37 rfl rfl ?_)
  refine AO.op rfl (AOp.store rfl rfl rfl rfl size37 rfl rfl rfl (leb rfl) ?_)
  refine AO.op rfl (AOp.store rfl rfl rfl rfl size37 rfl rfl rfl (leb rfl) ?_)
  refine AO.op rfl (AOp.assign rfl rfl (ltb rfl) rfl ?_)
  refine AO.nil ?_
  change AC _ _ _ _
  refine AC.subO 4 rfl (.cons (SVLe.refl _) (.cons (SVLe.nil 1) (.cons (SVLe.refl _) (.cons (SVLe.refl _) (.cons (SVLe.nil 1) (.cons (SVLe.refl _) .nil)))))) ?_
  refine AC.subO 5 rfl (.cons (SVLe.refl _) (.cons (SVLe.nil 1) (.cons (SVLe.refl _) (.cons (SVLe.refl _) (.cons (SVLe.nil 1) (.cons (SVLe.refl _) .nil)))))) ?_
  refine AC.ret ?_
  change RetQ _ _ _ .ret _
  obtain rfl := Option.some.inj h0
  refine retq rfl rfl
 replace h0 := cF h0 q17
 refine AC.skip ?_
 change AC _ _ _ _
 refine AC.seq ?_
 refine AC.room ?_
 obtain ⟨y18, q19, h0⟩ := bind_elim h0
 obtain ⟨y20, q21, h0⟩ := bind_elim h0
 obtain ⟨y22, q23, h0⟩ := bind_elim h0
 obtain ⟨y24, q25, h0⟩ := bind_elim h0
 obtain ⟨y26, q27, h0⟩ := bind_elim h0
 refine AC.drawS [0, 1, 2, 3, 4, 5, 6, 7, 8, 9, 10, 11, 12, 13, 14, 15] [15] [16] (fun L => [.fix 32 [.d (dbool a0.X.N.Neg), .d (eS2 a0.X.N.L), .d (di .i64 a0.X.E), .d (dbool a0.Y.N.Neg), .d (eS2 a0.Y.N.L), .d (di .i64 a0.Y.E)], .fix 32 [.d (dbool a1.X.N.Neg), .d (eS2 a1.X.N.L), .d (di .i64 a1.X.E), .d (dbool a1.Y.N.Neg), .d (eS2 a1.Y.N.L), .d (di .i64 a1.Y.E)], .fix 32 [.d (dbool a2.X.N.Neg), .d (eS2 a2.X.N.L), .d (di .i64 a2.X.E), .d (dbool a2.Y.N.Neg), .d (eS2 a2.Y.N.L), .d (di .i64 a2.Y.E)], .fix 32 [.d (dbool a3.X.N.Neg), .d (eS2 a3.X.N.L), .d (di .i64 a3.X.E), .d (dbool a3.Y.N.Neg), .d (eS2 a3.Y.N.L), .d (di .i64 a3.Y.E)], .fix 37 [.d (dbool false), .d (.v (.slice none 0 0)), .d (di .i64 (0 : Int)), .d (dbool false), .d (.v (.slice none 0 0)), .d (di .i64 (0 : Int))], .fix 37 [.d (dbool false), .d (.v (.slice none 0 0)), .d (di .i64 (0 : Int)), .d (dbool false), .d (.v (.slice none 0 0)), .d (di .i64 (0 : Int))], .fix 30 [.d (dbool y1.N.Neg), .d (eS2 y1.N.L), .d (di .i64 y1.E)], .fix 30 [.d (dbool y3.N.Neg), .d (eS2 y3.N.L), .d (di .i64 y3.E)], .fix 30 [.d (dbool y5.N.Neg), .d (eS2 y5.N.L), .d (di .i64 y5.E)], .fix 30 [.d (dbool y7.N.Neg), .d (eS2 y7.N.L), .d (di .i64 y7.E)], .fix 30 [.d (dbool y13.N.Neg), .d (eS2 y13.N.L), .d (di .i64 y13.E)], bif L 15 then .fix 30 [.d (dbool false), .d (.v (.slice none 0 0)), .d (di .i64 (0 : Int))] else .dead]) [(15, SV.noO2 11 12)] mixed (by kernel_rfl) (fun L L' h => by simp only [h 15 (by decide)]) rfl ?_
 refine AS.op [6] [] [] [15] rfl rfl rfl (by kernel_rfl) (by kernel_rfl) rfl rfl (fun _ _ _ h => AOp.fieldAddr rfl rfl (ltb rfl) rfl fo32_0 h) (by kernel_rfl) ?_
 refine AS.op [49] [] [] [15] rfl rfl rfl (by kernel_rfl) (by kernel_rfl) rfl rfl (fun _ _ _ h => AOp.loadN rfl rfl (ltb rfl) rfl agg30 size30 rfl (leb rfl) rfl h) (by kernel_rfl) ?_
 refine AS.op [4] [] [] [15] rfl rfl rfl (by kernel_rfl) (by kernel_rfl) rfl rfl (fun _ _ _ h => AOp.fieldAddr rfl rfl (ltb rfl) rfl fo32_0 h) (by kernel_rfl) ?_
 refine AS.op [51] [] [] [15] rfl rfl rfl (by kernel_rfl) (by kernel_rfl) rfl rfl (fun _ _ _ h => AOp.loadN rfl rfl (ltb rfl) rfl agg30 size30 rfl (leb rfl) rfl h) (by kernel_rfl) ?_
 refine AS.op [50, 52] [] [] [15] rfl rfl rfl (by kernel_rfl) (by kernel_rfl) rfl rfl (fun _ _ _ h => AOp.callD rfl rfl (ltb rfl) rfl rfl (w_Dyadic_Sub F a2.X a0.X y18 q19) (by rintro _ rfl; exact h)) (by kernel_rfl) ?_
 refine AS.op [14] [] [] [15] rfl rfl rfl (by kernel_rfl) (by kernel_rfl) rfl rfl (fun _ _ _ h => AOp.loadN rfl rfl (ltb rfl) rfl agg30 size30 rfl (leb rfl) rfl h) (by kernel_rfl) ?_
 refine AS.op [53, 54] [] [] [15] rfl rfl rfl (by kernel_rfl) (by kernel_rfl) rfl rfl (fun _ _ _ h => AOp.callD rfl rfl (ltb rfl) rfl rfl (w_Dyadic_Mul F y18 y7 y20 q21) (by rintro _ rfl; exact h)) (by kernel_rfl) ?_
 refine AS.op [6] [] [] [15] rfl rfl rfl (by kernel_rfl) (by kernel_rfl) rfl rfl (fun _ _ _ h => AOp.fieldAddr rfl rfl (ltb rfl) rfl fo32_1 h) (by kernel_rfl) ?_
 refine AS.op [56] [] [] [15] rfl rfl rfl (by kernel_rfl) (by kernel_rfl) rfl rfl (fun _ _ _ h => AOp.loadN rfl rfl (ltb rfl) rfl agg30 size30 rfl (leb rfl) rfl h) (by kernel_rfl) ?_
 refine AS.op [4] [] [] [15] rfl rfl rfl (by kernel_rfl) (by kernel_rfl) rfl rfl (fun _ _ _ h => AOp.fieldAddr rfl rfl (ltb rfl) rfl fo32_1 h) (by kernel_rfl) ?_
 refine AS.op [58] [] [] [15] rfl rfl rfl (by kernel_rfl) (by kernel_rfl) rfl rfl (fun _ _ _ h => AOp.loadN rfl rfl (ltb rfl) rfl agg30 size30 rfl (leb rfl) rfl h) (by kernel_rfl) ?_
 refine AS.op [57, 59] [] [] [15] rfl rfl rfl (by kernel_rfl) (by kernel_rfl) rfl rfl (fun _ _ _ h => AOp.callD rfl rfl (ltb rfl) rfl rfl (w_Dyadic_Sub F a2.Y a0.Y y22 q23) (by rintro _ rfl; exact h)) (by kernel_rfl) ?_
 refine AS.op [13] [] [] [15] rfl rfl rfl (by kernel_rfl) (by kernel_rfl) rfl rfl (fun _ _ _ h => AOp.loadN rfl rfl (ltb rfl) rfl agg30 size30 rfl (leb rfl) rfl h) (by kernel_rfl) ?_
 refine AS.op [60, 61] [] [] [15] rfl rfl rfl (by kernel_rfl) (by kernel_rfl) rfl rfl (fun _ _ _ h => AOp.callD rfl rfl (ltb rfl) rfl rfl (w_Dyadic_Mul F y22 y5 y24 q25) (by rintro _ rfl; exact h)) (by kernel_rfl) ?_
 refine AS.op [55, 62] [] [] [15] rfl rfl rfl (by kernel_rfl) (by kernel_rfl) rfl rfl (fun _ _ _ h => AOp.callD rfl rfl (ltb rfl) rfl rfl (w_Dyadic_Sub F y20 y24 y26 q27) (by rintro _ rfl; exact h)) (by kernel_rfl) ?_
 refine AS.mid [] [] [15] [] rfl rfl rfl rfl (by kernel_rfl) (by kernel_rfl) rfl rfl (fun _ _ _ h => AOp.alloc rfl rfl (ltb rfl) zero30 rfl (AO.sink 11 12 rfl rfl rfl (.cons rfl (.cons rfl (.cons rfl (.cons rfl (.cons rfl (.cons rfl (.cons rfl (.cons rfl (.cons rfl (.cons rfl (.cons rfl (.cons (noO2_cond rfl rfl) .nil)))))))))))) rfl h)) (by kernel_rfl) rfl ?_
 refine AS.done ?_
 refine AO.objs (obs' := [.fix 32 [.d (dbool a0.X.N.Neg), .d (eS2 a0.X.N.L), .d (di .i64 a0.X.E), .d (dbool a0.Y.N.Neg), .d (eS2 a0.Y.N.L), .d (di .i64 a0.Y.E)], .fix 32 [.d (dbool a1.X.N.Neg), .d (eS2 a1.X.N.L), .d (di .i64 a1.X.E), .d (dbool a1.Y.N.Neg), .d (eS2 a1.Y.N.L), .d (di .i64 a1.Y.E)], .fix 32 [.d (dbool a2.X.N.Neg), .d (eS2 a2.X.N.L), .d (di .i64 a2.X.E), .d (dbool a2.Y.N.Neg), .d (eS2 a2.Y.N.L), .d (di .i64 a2.Y.E)], .fix 32 [.d (dbool a3.X.N.Neg), .d (eS2 a3.X.N.L), .d (di .i64 a3.X.E), .d (dbool a3.Y.N.Neg), .d (eS2 a3.Y.N.L), .d (di .i64 a3.Y.E)], .fix 37 [.d (dbool false), .d (.v (.slice none 0 0)), .d (di .i64 (0 : Int)), .d (dbool false), .d (.v (.slice none 0 0)), .d (di .i64 (0 : Int))], .fix 37 [.d (dbool false), .d (.v (.slice none 0 0)), .d (di .i64 (0 : Int)), .d (dbool false), .d (.v (.slice none 0 0)), .d (di .i64 (0 : Int))], .fix 30 [.d (dbool y1.N.Neg), .d (eS2 y1.N.L), .d (di .i64 y1.E)], .fix 30 [.d (dbool y3.N.Neg), .d (eS2 y3.N.L), .d (di .i64 y3.E)], .fix 30 [.d (dbool y5.N.Neg), .d (eS2 y5.N.L), .d (di .i64 y5.E)], .fix 30 [.d (dbool y7.N.Neg), .d (eS2 y7.N.L), .d (di .i64 y7.E)], .fix 30 [.d (dbool y13.N.Neg), .d (eS2 y13.N.L), .d (di .i64 y13.E)], .fix 30 [.d (dbool false), .d (.v (.slice none 0 0)), .d (di .i64 (0 : Int))]]) rfl ?_
 refine AO.op rfl (AOp.store rfl rfl rfl rfl size30 rfl rfl rfl (leb rfl) ?_)
 refine AO.objs (obs' := [.fix 32 [.d (dbool a0.X.N.Neg), .d (eS2 a0.X.N.L), .d (di .i64 a0.X.E), .d (dbool a0.Y.N.Neg), .d (eS2 a0.Y.N.L), .d (di .i64 a0.Y.E)], .fix 32 [.d (dbool a1.X.N.Neg), .d (eS2 a1.X.N.L), .d (di .i64 a1.X.E), .d (dbool a1.Y.N.Neg), .d (eS2 a1.Y.N.L), .d (di .i64 a1.Y.E)], .fix 32 [.d (dbool a2.X.N.Neg), .d (eS2 a2.X.N.L), .d (di .i64 a2.X.E), .d (dbool a2.Y.N.Neg), .d (eS2 a2.Y.N.L), .d (di .i64 a2.Y.E)], .fix 32 [.d (dbool a3.X.N.Neg), .d (eS2 a3.X.N.L), .d (di .i64 a3.X.E), .d (dbool a3.Y.N.Neg), .d (eS2 a3.Y.N.L), .d (di .i64 a3.Y.E)], .fix 37 [.d (dbool false), .d (.v (.slice none 0 0)), .d (di .i64 (0 : Int)), .d (dbool false), .d (.v (.slice none 0 0)), .d (di .i64 (0 : Int))], .fix 37 [.d (dbool false), .d (.v (.slice none 0 0)), .d (di .i64 (0 : Int)), .d (dbool false), .d (.v (.slice none 0 0)), .d (di .i64 (0 : Int))], .fix 30 [.d (dbool y1.N.Neg), .d (eS2 y1.N.L), .d (di .i64 y1.E)], .fix 30 [.d (dbool y3.N.Neg), .d (eS2 y3.N.L), .d (di .i64 y3.E)], .fix 30 [.d (dbool y5.N.Neg), .d (eS2 y5.N.L), .d (di .i64 y5.E)], .fix 30 [.d (dbool y7.N.Neg), .d (eS2 y7.N.L), .d (di .i64 y7.E)], .fix 30 [.d (dbool y13.N.Neg), .d (eS2 y13.N.L), .d (di .i64 y13.E)], .fix 30 [.d (dbool y26.N.Neg), .d (eS2 y26.N.L), .d (di .i64 y26.E)]]) rfl ?_
 refine AO.nil ?_
 change AC _ _ _ _
 refine AC.seq ?_
 refine AC.draw 20 mixed (by kernel_rfl) ?_
 refine AD.op [4] rfl (by kernel_rfl) rfl rfl (fun _ _ h => AOp.fieldAddr rfl rfl (ltb rfl) rfl fo32_0 h) ?_
 refine AD.op [64] rfl (by kernel_rfl) rfl rfl (fun _ _ h => AOp.loadN rfl rfl (ltb rfl) rfl agg30 size30 rfl (leb rfl) rfl h) ?_
 refine AD.op [15] rfl (by kernel_rfl) rfl rfl (fun _ _ h => AOp.loadN rfl rfl (ltb rfl) rfl agg30 size30 rfl (leb rfl) rfl h) ?_
 obtain ⟨y28, q29, h0⟩ := bind_elim h0
 refine AD.op [65, 66] rfl (by kernel_rfl) rfl rfl (fun _ _ h => AOp.callD rfl rfl (ltb rfl) rfl rfl (w_Dyadic_Mul F a0.X y13 y28 q29) (by rintro _ rfl; exact h)) ?_
 refine AD.op [16] rfl (by kernel_rfl) rfl rfl (fun _ _ h => AOp.loadN rfl rfl (ltb rfl) rfl agg30 size30 rfl (leb rfl) rfl h) ?_
 refine AD.op [11] rfl (by kernel_rfl) rfl rfl (fun _ _ h => AOp.loadN rfl rfl (ltb rfl) rfl agg30 size30 rfl (leb rfl) rfl h) ?_
 obtain ⟨y30, q31, h0⟩ := bind_elim h0
 refine AD.op [68, 69] rfl (by kernel_rfl) rfl rfl (fun _ _ h => AOp.callD rfl rfl (ltb rfl) rfl rfl (w_Dyadic_Mul F y26 y1 y30 q31) (by rintro _ rfl; exact h)) ?_
 obtain ⟨y32, q33, h0⟩ := bind_elim h0
 refine AD.op [67, 70] rfl (by kernel_rfl) rfl rfl (fun _ _ h => AOp.callD rfl rfl (ltb rfl) rfl rfl (w_Dyadic_Add F y28 y30 y32 q33) (by rintro _ rfl; exact h)) ?_
 refine AD.op [15] rfl (by kernel_rfl) rfl rfl (fun _ _ h => AOp.loadN rfl rfl (ltb rfl) rfl agg30 size30 rfl (leb rfl) rfl h) ?_
 obtain ⟨y34, q35, h0⟩ := bind_elim h0
 refine AD.op [71, 72] rfl (by kernel_rfl) rfl rfl (fun _ _ h => AOp.callD rfl rfl (ltb rfl) rfl rfl (w_RatioOf y32 y13 y34 q35) (by rintro _ rfl; exact h)) ?_
 refine AD.op [4] rfl (by kernel_rfl) rfl rfl (fun _ _ h => AOp.fieldAddr rfl rfl (ltb rfl) rfl fo32_1 h) ?_
 refine AD.op [74] rfl (by kernel_rfl) rfl rfl (fun _ _ h => AOp.loadN rfl rfl (ltb rfl) rfl agg30 size30 rfl (leb rfl) rfl h) ?_
 refine AD.op [15] rfl (by kernel_rfl) rfl rfl (fun _ _ h => AOp.loadN rfl rfl (ltb rfl) rfl agg30 size30 rfl (leb rfl) rfl h) ?_
 obtain ⟨y36, q37, h0⟩ := bind_elim h0
 refine AD.op [75, 76] rfl (by kernel_rfl) rfl rfl (fun _ _ h => AOp.callD rfl rfl (ltb rfl) rfl rfl (w_Dyadic_Mul F a0.Y y13 y36 q37) (by rintro _ rfl; exact h)) ?_
 refine AD.op [16] rfl (by kernel_rfl) rfl rfl (fun _ _ h => AOp.loadN rfl rfl (ltb rfl) rfl agg30 size30 rfl (leb rfl) rfl h) ?_
 refine AD.op [12] rfl (by kernel_rfl) rfl rfl (fun _ _ h => AOp.loadN rfl rfl (ltb rfl) rfl agg30 size30 rfl (leb rfl) rfl h) ?_
 obtain ⟨y38, q39, h0⟩ := bind_elim h0
 refine AD.op [78, 79] rfl (by kernel_rfl) rfl rfl (fun _ _ h => AOp.callD rfl rfl (ltb rfl) rfl rfl (w_Dyadic_Mul F y26 y3 y38 q39) (by rintro _ rfl; exact h)) ?_
 obtain ⟨y40, q41, h0⟩ := bind_elim h0
 refine AD.op [77, 80] rfl (by kernel_rfl) rfl rfl (fun _ _ h => AOp.callD rfl rfl (ltb rfl) rfl rfl (w_Dyadic_Add F y36 y38 y40 q41) (by rintro _ rfl; exact h)) ?_
 refine AD.op [15] rfl (by kernel_rfl) rfl rfl (fun _ _ h => AOp.loadN rfl rfl (ltb rfl) rfl agg30 size30 rfl (leb rfl) rfl h) ?_
 obtain ⟨y42, q43, h0⟩ := bind_elim h0
 refine AD.op [81, 82] rfl (by kernel_rfl) rfl rfl (fun _ _ h => AOp.callD rfl rfl (ltb rfl) rfl rfl (w_RatioOf y40 y13 y42 q43) (by rintro _ rfl; exact h)) ?_
 refine AD.done ?_
 refine AO.op rfl (AOp.store rfl rfl rfl rfl size37 rfl rfl rfl (leb rfl) ?_)
 refine AO.op rfl (AOp.store rfl rfl rfl rfl size37 rfl rfl rfl (leb rfl) ?_)
 refine AO.op rfl (AOp.assign rfl rfl (ltb rfl) rfl ?_)
 refine AO.nil ?_
 change AC _ _ _ _
 refine AC.ret ?_
 change RetQ _ _ _ .ret _
 obtain rfl := Option.some.inj h0
 refine retq rfl rfl

set_option maxRecDepth 100000 in
/-- pub-orthodrome/impl.strategy -/
theorem wc_strategy : FnD Tryz.prog 22 [dbool true] (fun r => r = .ifc 87 (.ag [])) := by
 refine FnD.of (by kernel_rfl) Tryz.func22 rfl Tryz.ntmps22 rfl (leb rfl) fun W ok => ?_
 refine AC.seq ?_
 refine AC.region ?_
 refine AO.op rfl (AOp.assign rfl rfl (ltb rfl) rfl ?_)
 refine AO.nil ?_
 change AC _ _ _ _
 refine AC.seq ?_
 refine AC.seq ?_
 refine AC.region ?_
 refine AO.op rfl (AOp.move rfl rfl (ltb rfl) rfl ?_)
 refine AO.nil ?_
 change AC _ _ _ _
 refine AC.condT rfl rfl ?_
 refine AC.seq ?_
 refine AC.region ?_
 refine AO.op rfl (AOp.build rfl rfl (ltb rfl) zero87 rfl places87 rfl rfl ?_)
 refine AO.op rfl (AOp.makeIfc rfl rfl (ltb rfl) rfl conc87 ?_)
 refine AO.op rfl (AOp.assign rfl rfl (ltb rfl) rfl ?_)
 refine AO.nil ?_
 change AC _ _ _ _
 refine AC.ret ?_
 change RetQ _ _ _ .ret _
 refine retq rfl rfl

set_option maxRecDepth 100000 in
set_option maxHeartbeats 4000000 in
/-- pub-orthodrome/impl.coord -/
theorem w_coord (a0 : TImpl_P2) (r0 : (List Nat)) (h0 : p_coord a0 = some r0) : FnD Tryz.prog 23 [e_TImpl_P2 a0] (fun r => r = eS1 r0) := by
 refine FnD.of (by kernel_rfl) Tryz.func23 rfl Tryz.ntmps23 rfl (leb rfl) fun W ok => ?_
 unfold p_coord at h0
 refine AC.seq ?_
 refine AC.region ?_
 refine AO.op rfl (AOp.box rfl rfl (ltb rfl) rfl rfl ?_)
 refine AO.op rfl (AOp.assign rfl rfl (ltb rfl) rfl ?_)
 refine AO.nil ?_
 change AC _ _ _ _
 refine AC.seq ?_
 refine AC.region ?_
 refine AO.op rfl (AOp.fieldAddr rfl rfl (ltb rfl) rfl fo24_0 ?_)
 refine AO.op rfl (AOp.load1 rfl rfl (ltb rfl) rfl agg22 rfl rfl ?_)
 refine AO.op rfl (AOp.fieldAddr rfl rfl (ltb rfl) rfl fo24_1 ?_)
 refine AO.op rfl (AOp.load1 rfl rfl (ltb rfl) rfl agg22 rfl rfl ?_)
 refine AO.op rfl (AOp.buildSliceD rfl rfl (ltb rfl) el64 zero22 rfl (leb rfl) rfl rfl rfl rfl ?_)
 refine AO.op rfl (AOp.assign rfl rfl (ltb rfl) rfl ?_)
 refine AO.nil ?_
 change AC _ _ _ _
 refine AC.ret ?_
 change RetQ _ _ _ .ret _
 obtain rfl := Option.some.inj h0
 refine retq rfl rfl

theorem callAMin (x y : Nat) (w : World) : (callFunc 61 #[.float .f64 x, .float .f64 y]).run Tryz.prog w = .ok (.value (.float .f64 (Flt.amin x y))) w := by
 rw [run_callFunc_extern Tryz.func61 (by kernel_rfl) (by kernel_rfl) (by kernel_rfl) (e := Extern.MathDim.pick "math.archMin" true .lt) (by kernel_rfl), Flt.run_archMin Tryz.prog x y]
 rfl

set_option maxRecDepth 100000 in
/-- math.Min -/
theorem mathMin (x y : Nat) : FnD Tryz.prog 58 [dfl x, dfl y] (fun r => r = dfl (Flt.amin x y)) := by
 refine FnD.of (by kernel_rfl) Tryz.func58 rfl Tryz.ntmps58 rfl (leb rfl) fun W ok => ?_
 refine AC.seq ?_
 refine AC.region ?_
 refine AO.op rfl (AOp.assign rfl rfl (ltb rfl) rfl ?_)
 refine AO.nil ?_
 change AC _ _ _ _
 refine AC.seq ?_
 refine AC.condT rfl rfl ?_
 refine AC.seq ?_
 refine AC.region ?_
 refine AO.op rfl (AOp.move rfl rfl (ltb rfl) rfl ?_)
 refine AO.op rfl (AOp.move rfl rfl (ltb rfl) rfl ?_)
 refine AO.op rfl (AOp.callX [.float .f64 x, .float .f64 y] rfl rfl (ltb rfl) rfl (callAMin x y) ?_)
 refine AO.op rfl (AOp.assign rfl rfl (ltb rfl) rfl ?_)
 refine AO.nil ?_
 change AC _ _ _ _
 refine AC.ret ?_
 change RetQ _ _ _ .ret _
 refine retq rfl ?_
 exact rfl

theorem callAMax (x y : Nat) (w : World) : (callFunc 63 #[.float .f64 x, .float .f64 y]).run Tryz.prog w = .ok (.value (.float .f64 (Flt.amax x y))) w := by
 rw [run_callFunc_extern Tryz.func63 (by kernel_rfl) (by kernel_rfl) (by kernel_rfl) (e := Extern.MathDim.pick "math.archMax" false .gt) (by kernel_rfl), Flt.run_archMax Tryz.prog x y]
 rfl

set_option maxRecDepth 100000 in
/-- math.Max -/
theorem mathMax (x y : Nat) : FnD Tryz.prog 59 [dfl x, dfl y] (fun r => r = dfl (Flt.amax x y)) := by
 refine FnD.of (by kernel_rfl) Tryz.func59 rfl Tryz.ntmps59 rfl (leb rfl) fun W ok => ?_
 refine AC.seq ?_
 refine AC.region ?_
 refine AO.op rfl (AOp.assign rfl rfl (ltb rfl) rfl ?_)
 refine AO.nil ?_
 change AC _ _ _ _
 refine AC.seq ?_
 refine AC.condT rfl rfl ?_
 refine AC.seq ?_
 refine AC.region ?_
 refine AO.op rfl (AOp.move rfl rfl (ltb rfl) rfl ?_)
 refine AO.op rfl (AOp.move rfl rfl (ltb rfl) rfl ?_)
 refine AO.op rfl (AOp.callX [.float .f64 x, .float .f64 y] rfl rfl (ltb rfl) rfl (callAMax x y) ?_)
 refine AO.op rfl (AOp.assign rfl rfl (ltb rfl) rfl ?_)
 refine AO.nil ?_
 change AC _ _ _ _
 refine AC.ret ?_
 change RetQ _ _ _ .ret _
 refine retq rfl ?_
 exact rfl

set_option maxRecDepth 100000 in
set_option maxHeartbeats 4000000 in
/-- pub-orthodrome/pub/gogeom/xy/inner.DoLinesOverlap -/
theorem w_DoLinesOverlap (a0 : (List Nat)) (a1 : (List Nat)) (a2 : (List Nat)) (a3 : (List Nat)) (r0 : Bool) (h0 : p_DoLinesOverlap a0 a1 a2 a3 = some r0) : FnD Tryz.prog 91 [eS1 a0, eS1 a1, eS1 a2, eS1 a3] (fun r => r = dbool r0) := by
 refine FnD.of (by kernel_rfl) Tryz.func91 rfl Tryz.ntmps91 rfl (leb rfl) fun W ok => ?_
 unfold p_DoLinesOverlap at h0
 refine AC.seq ?_
 refine AC.region ?_
 refine AO.op rfl (AOp.assign rfl rfl (ltb rfl) rfl ?_)
 refine AO.nil ?_
 change AC _ _ _ _
 refine AC.seq ?_
 refine AC.draw 8 mixed (by kernel_rfl) ?_
 refine AD.op [0] rfl (by kernel_rfl) rfl rfl (fun _ _ h => AOp.move rfl rfl (ltb rfl) rfl h) ?_
 obtain ⟨x1, q2, h0⟩ := idx_elim h0
 refine AD.op [17] rfl (by kernel_rfl) rfl rfl (fun _ _ h => AOp.indexDs (cells := (List.map keS1 a0)) rfl rfl (ltb rfl) rfl rfl el64 (by decide) q2.1 (lt1 q2.2) h) ?_
 refine AD.op [18] rfl (by kernel_rfl) rfl rfl (fun _ _ h => AOp.loadEp rfl rfl (ltb rfl) rfl agg22 (at1 q2.2) h) ?_
 refine AD.op [1] rfl (by kernel_rfl) rfl rfl (fun _ _ h => AOp.move rfl rfl (ltb rfl) rfl h) ?_
 obtain ⟨x3, q4, h0⟩ := idx_elim h0
 refine AD.op [20] rfl (by kernel_rfl) rfl rfl (fun _ _ h => AOp.indexDs (cells := (List.map keS1 a1)) rfl rfl (ltb rfl) rfl rfl el64 (by decide) q4.1 (lt1 q4.2) h) ?_
 refine AD.op [21] rfl (by kernel_rfl) rfl rfl (fun _ _ h => AOp.loadEp rfl rfl (ltb rfl) rfl agg22 (at1 q4.2) h) ?_
 refine AD.op [19, 22] rfl (by kernel_rfl) rfl rfl (fun _ _ h => AOp.callD rfl rfl (ltb rfl) rfl rfl (mathMin x1 x3) (by rintro _ rfl; exact h)) ?_
 refine AD.op [23] rfl (by kernel_rfl) rfl rfl (fun _ _ h => AOp.assign rfl rfl (ltb rfl) rfl h) ?_
 refine AD.done ?_
 refine AO.nil ?_
 change AC _ _ _ _
 refine AC.seq ?_
 refine AC.draw 8 mixed (by kernel_rfl) ?_
 refine AD.op [0] rfl (by kernel_rfl) rfl rfl (fun _ _ h => AOp.move rfl rfl (ltb rfl) rfl h) ?_
 obtain ⟨x5, q6, h0⟩ := idx_elim h0
 refine AD.op [24] rfl (by kernel_rfl) rfl rfl (fun _ _ h => AOp.indexDs (cells := (List.map keS1 a0)) rfl rfl (ltb rfl) rfl rfl el64 (by decide) q6.1 (lt1 q6.2) h) ?_
 refine AD.op [25] rfl (by kernel_rfl) rfl rfl (fun _ _ h => AOp.loadEp rfl rfl (ltb rfl) rfl agg22 (at1 q6.2) h) ?_
 refine AD.op [1] rfl (by kernel_rfl) rfl rfl (fun _ _ h => AOp.move rfl rfl (ltb rfl) rfl h) ?_
 obtain ⟨x7, q8, h0⟩ := idx_elim h0
 refine AD.op [27] rfl (by kernel_rfl) rfl rfl (fun _ _ h => AOp.indexDs (cells := (List.map keS1 a1)) rfl rfl (ltb rfl) rfl rfl el64 (by decide) q8.1 (lt1 q8.2) h) ?_
 refine AD.op [28] rfl (by kernel_rfl) rfl rfl (fun _ _ h => AOp.loadEp rfl rfl (ltb rfl) rfl agg22 (at1 q8.2) h) ?_
 refine AD.op [26, 29] rfl (by kernel_rfl) rfl rfl (fun _ _ h => AOp.callD rfl rfl (ltb rfl) rfl rfl (mathMax x5 x7) (by rintro _ rfl; exact h)) ?_
 refine AD.op [30] rfl (by kernel_rfl) rfl rfl (fun _ _ h => AOp.assign rfl rfl (ltb rfl) rfl h) ?_
 refine AD.done ?_
 refine AO.nil ?_
 change AC _ _ _ _
 refine AC.seq ?_
 refine AC.draw 8 mixed (by kernel_rfl) ?_
 refine AD.op [0] rfl (by kernel_rfl) rfl rfl (fun _ _ h => AOp.move rfl rfl (ltb rfl) rfl h) ?_
 obtain ⟨x9, q10, h0⟩ := idx_elim h0
 refine AD.op [31] rfl (by kernel_rfl) rfl rfl (fun _ _ h => AOp.indexDs (cells := (List.map keS1 a0)) rfl rfl (ltb rfl) rfl rfl el64 (by decide) q10.1 (lt1 q10.2) h) ?_
 refine AD.op [32] rfl (by kernel_rfl) rfl rfl (fun _ _ h => AOp.loadEp rfl rfl (ltb rfl) rfl agg22 (at1 q10.2) h) ?_
 refine AD.op [1] rfl (by kernel_rfl) rfl rfl (fun _ _ h => AOp.move rfl rfl (ltb rfl) rfl h) ?_
 obtain ⟨x11, q12, h0⟩ := idx_elim h0
 refine AD.op [34] rfl (by kernel_rfl) rfl rfl (fun _ _ h => AOp.indexDs (cells := (List.map keS1 a1)) rfl rfl (ltb rfl) rfl rfl el64 (by decide) q12.1 (lt1 q12.2) h) ?_
 refine AD.op [35] rfl (by kernel_rfl) rfl rfl (fun _ _ h => AOp.loadEp rfl rfl (ltb rfl) rfl agg22 (at1 q12.2) h) ?_
 refine AD.op [33, 36] rfl (by kernel_rfl) rfl rfl (fun _ _ h => AOp.callD rfl rfl (ltb rfl) rfl rfl (mathMin x9 x11) (by rintro _ rfl; exact h)) ?_
 refine AD.op [37] rfl (by kernel_rfl) rfl rfl (fun _ _ h => AOp.assign rfl rfl (ltb rfl) rfl h) ?_
 refine AD.done ?_
 refine AO.nil ?_
 change AC _ _ _ _
 refine AC.seq ?_
 refine AC.draw 8 mixed (by kernel_rfl) ?_
 refine AD.op [0] rfl (by kernel_rfl) rfl rfl (fun _ _ h => AOp.move rfl rfl (ltb rfl) rfl h) ?_
 obtain ⟨x13, q14, h0⟩ := idx_elim h0
 refine AD.op [38] rfl (by kernel_rfl) rfl rfl (fun _ _ h => AOp.indexDs (cells := (List.map keS1 a0)) rfl rfl (ltb rfl) rfl rfl el64 (by decide) q14.1 (lt1 q14.2) h) ?_
 refine AD.op [39] rfl (by kernel_rfl) rfl rfl (fun _ _ h => AOp.loadEp rfl rfl (ltb rfl) rfl agg22 (at1 q14.2) h) ?_
 refine AD.op [1] rfl (by kernel_rfl) rfl rfl (fun _ _ h => AOp.move rfl rfl (ltb rfl) rfl h) ?_
 obtain ⟨x15, q16, h0⟩ := idx_elim h0
 refine AD.op [41] rfl (by kernel_rfl) rfl rfl (fun _ _ h => AOp.indexDs (cells := (List.map keS1 a1)) rfl rfl (ltb rfl) rfl rfl el64 (by decide) q16.1 (lt1 q16.2) h) ?_
 refine AD.op [42] rfl (by kernel_rfl) rfl rfl (fun _ _ h => AOp.loadEp rfl rfl (ltb rfl) rfl agg22 (at1 q16.2) h) ?_
 refine AD.op [40, 43] rfl (by kernel_rfl) rfl rfl (fun _ _ h => AOp.callD rfl rfl (ltb rfl) rfl rfl (mathMax x13 x15) (by rintro _ rfl; exact h)) ?_
 refine AD.op [44] rfl (by kernel_rfl) rfl rfl (fun _ _ h => AOp.assign rfl rfl (ltb rfl) rfl h) ?_
 refine AD.done ?_
 refine AO.nil ?_
 change AC _ _ _ _
 refine AC.seq ?_
 refine AC.draw 8 mixed (by kernel_rfl) ?_
 refine AD.op [2] rfl (by kernel_rfl) rfl rfl (fun _ _ h => AOp.move rfl rfl (ltb rfl) rfl h) ?_
 obtain ⟨x17, q18, h0⟩ := idx_elim h0
 refine AD.op [45] rfl (by kernel_rfl) rfl rfl (fun _ _ h => AOp.indexDs (cells := (List.map keS1 a2)) rfl rfl (ltb rfl) rfl rfl el64 (by decide) q18.1 (lt1 q18.2) h) ?_
 refine AD.op [46] rfl (by kernel_rfl) rfl rfl (fun _ _ h => AOp.loadEp rfl rfl (ltb rfl) rfl agg22 (at1 q18.2) h) ?_
 refine AD.op [3] rfl (by kernel_rfl) rfl rfl (fun _ _ h => AOp.move rfl rfl (ltb rfl) rfl h) ?_
 obtain ⟨x19, q20, h0⟩ := idx_elim h0
 refine AD.op [48] rfl (by kernel_rfl) rfl rfl (fun _ _ h => AOp.indexDs (cells := (List.map keS1 a3)) rfl rfl (ltb rfl) rfl rfl el64 (by decide) q20.1 (lt1 q20.2) h) ?_
 refine AD.op [49] rfl (by kernel_rfl) rfl rfl (fun _ _ h => AOp.loadEp rfl rfl (ltb rfl) rfl agg22 (at1 q20.2) h) ?_
 refine AD.op [47, 50] rfl (by kernel_rfl) rfl rfl (fun _ _ h => AOp.callD rfl rfl (ltb rfl) rfl rfl (mathMin x17 x19) (by rintro _ rfl; exact h)) ?_
 refine AD.op [51] rfl (by kernel_rfl) rfl rfl (fun _ _ h => AOp.assign rfl rfl (ltb rfl) rfl h) ?_
 refine AD.done ?_
 refine AO.nil ?_
 change AC _ _ _ _
 refine AC.seq ?_
 refine AC.draw 8 mixed (by kernel_rfl) ?_
 refine AD.op [2] rfl (by kernel_rfl) rfl rfl (fun _ _ h => AOp.move rfl rfl (ltb rfl) rfl h) ?_
 obtain ⟨x21, q22, h0⟩ := idx_elim h0
 refine AD.op [52] rfl (by kernel_rfl) rfl rfl (fun _ _ h => AOp.indexDs (cells := (List.map keS1 a2)) rfl rfl (ltb rfl) rfl rfl el64 (by decide) q22.1 (lt1 q22.2) h) ?_
 refine AD.op [53] rfl (by kernel_rfl) rfl rfl (fun _ _ h => AOp.loadEp rfl rfl (ltb rfl) rfl agg22 (at1 q22.2) h) ?_
 refine AD.op [3] rfl (by kernel_rfl) rfl rfl (fun _ _ h => AOp.move rfl rfl (ltb rfl) rfl h) ?_
 obtain ⟨x23, q24, h0⟩ := idx_elim h0
 refine AD.op [55] rfl (by kernel_rfl) rfl rfl (fun _ _ h => AOp.indexDs (cells := (List.map keS1 a3)) rfl rfl (ltb rfl) rfl rfl el64 (by decide) q24.1 (lt1 q24.2) h) ?_
 refine AD.op [56] rfl (by kernel_rfl) rfl rfl (fun _ _ h => AOp.loadEp rfl rfl (ltb rfl) rfl agg22 (at1 q24.2) h) ?_
 refine AD.op [54, 57] rfl (by kernel_rfl) rfl rfl (fun _ _ h => AOp.callD rfl rfl (ltb rfl) rfl rfl (mathMax x21 x23) (by rintro _ rfl; exact h)) ?_
 refine AD.op [58] rfl (by kernel_rfl) rfl rfl (fun _ _ h => AOp.assign rfl rfl (ltb rfl) rfl h) ?_
 refine AD.done ?_
 refine AO.nil ?_
 change AC _ _ _ _
 refine AC.seq ?_
 refine AC.draw 8 mixed (by kernel_rfl) ?_
 refine AD.op [2] rfl (by kernel_rfl) rfl rfl (fun _ _ h => AOp.move rfl rfl (ltb rfl) rfl h) ?_
 obtain ⟨x25, q26, h0⟩ := idx_elim h0
 refine AD.op [59] rfl (by kernel_rfl) rfl rfl (fun _ _ h => AOp.indexDs (cells := (List.map keS1 a2)) rfl rfl (ltb rfl) rfl rfl el64 (by decide) q26.1 (lt1 q26.2) h) ?_
 refine AD.op [60] rfl (by kernel_rfl) rfl rfl (fun _ _ h => AOp.loadEp rfl rfl (ltb rfl) rfl agg22 (at1 q26.2) h) ?_
 refine AD.op [3] rfl (by kernel_rfl) rfl rfl (fun _ _ h => AOp.move rfl rfl (ltb rfl) rfl h) ?_
 obtain ⟨x27, q28, h0⟩ := idx_elim h0
 refine AD.op [62] rfl (by kernel_rfl) rfl rfl (fun _ _ h => AOp.indexDs (cells := (List.map keS1 a3)) rfl rfl (ltb rfl) rfl rfl el64 (by decide) q28.1 (lt1 q28.2) h) ?_
 refine AD.op [63] rfl (by kernel_rfl) rfl rfl (fun _ _ h => AOp.loadEp rfl rfl (ltb rfl) rfl agg22 (at1 q28.2) h) ?_
 refine AD.op [61, 64] rfl (by kernel_rfl) rfl rfl (fun _ _ h => AOp.callD rfl rfl (ltb rfl) rfl rfl (mathMin x25 x27) (by rintro _ rfl; exact h)) ?_
 refine AD.op [65] rfl (by kernel_rfl) rfl rfl (fun _ _ h => AOp.assign rfl rfl (ltb rfl) rfl h) ?_
 refine AD.done ?_
 refine AO.nil ?_
 change AC _ _ _ _
 refine AC.seq ?_
 refine AC.draw 8 mixed (by kernel_rfl) ?_
 refine AD.op [2] rfl (by kernel_rfl) rfl rfl (fun _ _ h => AOp.move rfl rfl (ltb rfl) rfl h) ?_
 obtain ⟨x29, q30, h0⟩ := idx_elim h0
 refine AD.op [66] rfl (by kernel_rfl) rfl rfl (fun _ _ h => AOp.indexDs (cells := (List.map keS1 a2)) rfl rfl (ltb rfl) rfl rfl el64 (by decide) q30.1 (lt1 q30.2) h) ?_
 refine AD.op [67] rfl (by kernel_rfl) rfl rfl (fun _ _ h => AOp.loadEp rfl rfl (ltb rfl) rfl agg22 (at1 q30.2) h) ?_
 refine AD.op [3] rfl (by kernel_rfl) rfl rfl (fun _ _ h => AOp.move rfl rfl (ltb rfl) rfl h) ?_
 obtain ⟨x31, q32, h0⟩ := idx_elim h0
 refine AD.op [69] rfl (by kernel_rfl) rfl rfl (fun _ _ h => AOp.indexDs (cells := (List.map keS1 a3)) rfl rfl (ltb rfl) rfl rfl el64 (by decide) q32.1 (lt1 q32.2) h) ?_
 refine AD.op [70] rfl (by kernel_rfl) rfl rfl (fun _ _ h => AOp.loadEp rfl rfl (ltb rfl) rfl agg22 (at1 q32.2) h) ?_
 refine AD.op [68, 71] rfl (by kernel_rfl) rfl rfl (fun _ _ h => AOp.callD rfl rfl (ltb rfl) rfl rfl (mathMax x29 x31) (by rintro _ rfl; exact h)) ?_
 refine AD.op [72] rfl (by kernel_rfl) rfl rfl (fun _ _ h => AOp.assign rfl rfl (ltb rfl) rfl h) ?_
 refine AD.done ?_
 refine AO.nil ?_
 change AC _ _ _ _
 refine AC.seq ?_
 refine AC.joinP (V := Bool) [11, 12, 15, 16] [80] 0 (fun g33 => [(80, .d (dbool g33))]) (fun g33 => []) (fun g33 => (p_DoLinesOverlap_k1 x9 x11 x13 x15 x25 x27 x29 x31) g33 = some r0) rfl ?_ ?_
 ·refine AC.region ?_
  refine AO.op rfl (AOp.move rfl rfl (ltb rfl) rfl ?_)
  refine AO.op rfl (AOp.move rfl rfl (ltb rfl) rfl ?_)
  refine AO.op rfl (AOp.fgtr rfl rfl (ltb rfl) rfl rfl ?_)
  refine AO.op rfl (AOp.move rfl rfl (ltb rfl) rfl ?_)
  refine AO.dec (fgt (Flt.amin x1 x3) (Flt.amax x21 x23)) (fun q37 => ?_) (fun q37 => ?_)
  ·replace h0 := cT h0 q37
   refine AO.guardN rfl rfl rfl (ltb rfl) rfl q37 ?_
   refine AO.guardN rfl rfl rfl (ltb rfl) rfl q37 ?_
   refine AO.guardN rfl rfl rfl (ltb rfl) rfl q37 ?_
   refine AO.op rfl (AOp.pick rfl rfl (ltb rfl) rfl q37 rfl ?_)
   refine AO.nil ?_
   exact ⟨true, _, rfl, (LeL.refl _), rfl, rfl, h0⟩
  replace h0 := cF h0 q37
  refine AO.guardY rfl rfl rfl q37 (AOp.move rfl rfl (ltb rfl) rfl ?_)
  refine AO.guardY rfl rfl rfl q37 (AOp.move rfl rfl (ltb rfl) rfl ?_)
  refine AO.guardY rfl rfl rfl q37 (AOp.flss rfl rfl (ltb rfl) rfl rfl ?_)
  refine AO.op rfl (AOp.pickN rfl rfl (ltb rfl) rfl q37 rfl ?_)
  refine AO.nil ?_
  exact ⟨(flt (Flt.amax x5 x7) (Flt.amin x17 x19)), _, rfl, (LeL.refl _), rfl, rfl, h0⟩
 intro g33 h0
 unfold p_DoLinesOverlap_k1 at h0
 refine AC.cond rfl (fun q34 => ?_) (fun q34 => ?_)
 ·replace h0 := cT h0 q34
  refine AC.seq ?_
  refine AC.region ?_
  refine AO.op rfl (AOp.assign rfl rfl (ltb rfl) rfl ?_)
  refine AO.nil ?_
  change AC _ _ _ _
  refine AC.ret ?_
  change RetQ _ _ _ .ret _
  obtain rfl := Option.some.inj h0
  refine retq rfl rfl
 replace h0 := cF h0 q34
 refine AC.skip ?_
 change AC _ _ _ _
 refine AC.seq ?_
 refine AC.seq ?_
 refine AC.region ?_
 refine AO.op rfl (AOp.move rfl rfl (ltb rfl) rfl ?_)
 refine AO.op rfl (AOp.move rfl rfl (ltb rfl) rfl ?_)
 refine AO.op rfl (AOp.fgtr rfl rfl (ltb rfl) rfl rfl ?_)
 refine AO.op rfl (AOp.move rfl rfl (ltb rfl) rfl ?_)
 refine AO.dec (fgt (Flt.amin x9 x11) (Flt.amax x29 x31)) (fun q35 => ?_) (fun q35 => ?_)
 ·replace h0 := cT h0 q35
  refine AO.guardN rfl rfl rfl (ltb rfl) rfl q35 ?_
  refine AO.guardN rfl rfl rfl (ltb rfl) rfl q35 ?_
  refine AO.guardN rfl rfl rfl (ltb rfl) rfl q35 ?_
  refine AO.op rfl (AOp.pick rfl rfl (ltb rfl) rfl q35 rfl ?_)
  refine AO.nil ?_
  change AC _ _ _ _
  refine AC.condT rfl rfl ?_
  refine AC.seq ?_
  refine AC.region ?_
  refine AO.op rfl (AOp.assign rfl rfl (ltb rfl) rfl ?_)
  refine AO.nil ?_
  change AC _ _ _ _
  refine AC.ret ?_
  change RetQ _ _ _ .ret _
  obtain rfl := Option.some.inj h0
  refine retq rfl rfl
 replace h0 := cF h0 q35
 refine AO.guardY rfl rfl rfl q35 (AOp.move rfl rfl (ltb rfl) rfl ?_)
 refine AO.guardY rfl rfl rfl q35 (AOp.move rfl rfl (ltb rfl) rfl ?_)
 refine AO.guardY rfl rfl rfl q35 (AOp.flss rfl rfl (ltb rfl) rfl rfl ?_)
 refine AO.op rfl (AOp.pickN rfl rfl (ltb rfl) rfl q35 rfl ?_)
 refine AO.nil ?_
 change AC _ _ _ _
 refine AC.cond rfl (fun q36 => ?_) (fun q36 => ?_)
 ·replace h0 := cT h0 q36
  refine AC.seq ?_
  refine AC.region ?_
  refine AO.op rfl (AOp.assign rfl rfl (ltb rfl) rfl ?_)
  refine AO.nil ?_
  change AC _ _ _ _
  refine AC.ret ?_
  change RetQ _ _ _ .ret _
  obtain rfl := Option.some.inj h0
  refine retq rfl rfl
 replace h0 := cF h0 q36
 refine AC.skip ?_
 change AC _ _ _ _
 refine AC.seq ?_
 refine AC.region ?_
 refine AO.op rfl (AOp.assign rfl rfl (ltb rfl) rfl ?_)
 refine AO.nil ?_
 change AC _ _ _ _
 refine AC.ret ?_
 change RetQ _ _ _ .ret _
 obtain rfl := Option.some.inj h0
 refine retq rfl rfl

set_option maxRecDepth 100000 in
set_option maxHeartbeats 4000000 in
/-- pub-orthodrome/pub/gogeom/bigxy.orientationBasedOnSign -/
theorem w_orientationBasedOnSign (a0 : Nat) (r0 : Int) (h0 : p_orientationBasedOnSign a0 = some r0) : FnD Tryz.prog 97 [dfl a0] (fun r => r = di .i64 r0) := by
 refine FnD.of (by kernel_rfl) Tryz.func97 rfl Tryz.ntmps97 rfl (leb rfl) fun W ok => ?_
 unfold p_orientationBasedOnSign at h0
 refine AC.seq ?_
 refine AC.region ?_
 refine AO.op rfl (AOp.assign rfl rfl (ltb rfl) rfl ?_)
 refine AO.nil ?_
 change AC _ _ _ _
 refine AC.seq ?_
 refine AC.seq ?_
 refine AC.region ?_
 refine AO.op rfl (AOp.move rfl rfl (ltb rfl) rfl ?_)
 refine AO.op rfl (AOp.fgtr rfl rfl (ltb rfl) rfl rfl ?_)
 refine AO.nil ?_
 change AC _ _ _ _
 refine AC.cond rfl (fun q1 => ?_) (fun q1 => ?_)
 ·replace h0 := cT h0 q1
  refine AC.seq ?_
  refine AC.region ?_
  refine AO.op rfl (AOp.assign rfl rfl (ltb rfl) rfl ?_)
  refine AO.nil ?_
  change AC _ _ _ _
  refine AC.ret ?_
  change RetQ _ _ _ .ret _
  obtain rfl := Option.some.inj h0
  refine retq rfl rfl
 replace h0 := cF h0 q1
 refine AC.skip ?_
 change AC _ _ _ _
 refine AC.seq ?_
 refine AC.seq ?_
 refine AC.region ?_
 refine AO.op rfl (AOp.move rfl rfl (ltb rfl) rfl ?_)
 refine AO.op rfl (AOp.flss rfl rfl (ltb rfl) rfl rfl ?_)
 refine AO.nil ?_
 change AC _ _ _ _
 refine AC.cond rfl (fun q2 => ?_) (fun q2 => ?_)
 ·replace h0 := cT h0 q2
  refine AC.seq ?_
  refine AC.region ?_
  refine AO.op rfl (AOp.assign rfl rfl (ltb rfl) rfl ?_)
  refine AO.nil ?_
  change AC _ _ _ _
  refine AC.ret ?_
  change RetQ _ _ _ .ret _
  obtain rfl := Option.some.inj h0
  refine retq rfl rfl
 replace h0 := cF h0 q2
 refine AC.skip ?_
 change AC _ _ _ _
 refine AC.seq ?_
 refine AC.region ?_
 refine AO.op rfl (AOp.assign rfl rfl (ltb rfl) rfl ?_)
 refine AO.nil ?_
 change AC _ _ _ _
 refine AC.ret ?_
 change RetQ _ _ _ .ret _
 obtain rfl := Option.some.inj h0
 refine retq rfl rfl

end Go.Proofs.YtohgipjhcgblfaaGreat.Wk
