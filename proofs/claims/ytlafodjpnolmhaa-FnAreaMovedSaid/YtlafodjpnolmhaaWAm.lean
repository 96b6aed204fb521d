/- Proved: functions of the program compute what the printed functions say, wherever these say something. -/
import Derived.Test.YtlafodjpnolmhaaPAm
import Derived.Test.YtlafodjpnolmhaaVmDraw4
import Derived.Test.YtlafodjpnolmhaaVmIfc
import Derived.Test.YtlafodjpnolmhaaVmNew
import Derived.Test.YtlafodjpnolmhaaVmNaN
import Derived.Test.YtlafodjpnolmhaaFltDy
import Derived.Test.YtlafodjpnolmhaaFltMin
import Derived.Test.YtlafodjpnolmhaaVmFin
import Derived.Test.YtlafodjpnolmhaaProg
namespace Go.Proofs.Ytlafodjpnolmhaa.Wk
open Go.Vm
set_option linter.unusedVariables false
set_option linter.unusedSimpArgs false
theorem agg25 : aggT Try.prog 25 = some false := by kernel_rfl
theorem agg26 : aggT Try.prog 26 = some false := by kernel_rfl
theorem agg27 : aggT Try.prog 27 = some false := by kernel_rfl
theorem agg28 : aggT Try.prog 28 = some false := by kernel_rfl
theorem agg3 : aggT Try.prog 3 = some false := by kernel_rfl
theorem agg30 : aggT Try.prog 30 = some true := by kernel_rfl
theorem agg37 : aggT Try.prog 37 = some false := by kernel_rfl
theorem conc117 : concT Try.prog 117 = true := by kernel_rfl
theorem el25 : elemT Try.prog 25 = some (37, 1) := by kernel_rfl
theorem el26 : elemT Try.prog 26 = some (3, 1) := by kernel_rfl
theorem el27 : elemT Try.prog 27 = some (26, 1) := by kernel_rfl
theorem el28 : elemT Try.prog 28 = some (30, 7) := by kernel_rfl
theorem fo108_0 : fieldOff Try.prog 108 0 = some 0 := by kernel_rfl
theorem fo108_1 : fieldOff Try.prog 108 1 = some 1 := by kernel_rfl
theorem fo108_2 : fieldOff Try.prog 108 2 = some 2 := by kernel_rfl
theorem fo108_3 : fieldOff Try.prog 108 3 = some 3 := by kernel_rfl
theorem fo110_0 : fieldOff Try.prog 110 0 = some 0 := by kernel_rfl
theorem fo168_0 : fieldOff Try.prog 168 0 = some 0 := by kernel_rfl
theorem fo30_0 : fieldOff Try.prog 30 0 = some 0 := by kernel_rfl
theorem fo30_1 : fieldOff Try.prog 30 1 = some 1 := by kernel_rfl
theorem fo30_2 : fieldOff Try.prog 30 2 = some 2 := by kernel_rfl
theorem fo30_3 : fieldOff Try.prog 30 3 = some 3 := by kernel_rfl
theorem fo30_4 : fieldOff Try.prog 30 4 = some 4 := by kernel_rfl
theorem fo30_5 : fieldOff Try.prog 30 5 = some 5 := by kernel_rfl
theorem fo30_6 : fieldOff Try.prog 30 6 = some 6 := by kernel_rfl
theorem idle64 (vs : Array Value) (w : World) (h : vs.size = 2) : CallsD Try.prog 64 vs .returning w fun e u' w' => e = .returned (.tuple #[]) ∧ u' = .returning ∧ w' = w := by
  obtain ⟨x0, x1, rfl⟩ : ∃ x0 x1, vs = #[x0, x1] := by
    obtain ⟨l⟩ := vs
    match l, h with
    | [x0, x1], _ => exact ⟨x0, x1, rfl⟩
  refine callsD_of_wpS Try.func64 rfl fun c₀ cs hu => ?_
  apply wpS_seq
  apply wpS_region
  simp [wpOpsS, go_sem, recoverD, hu, Try.ntmps64, Exit.thenS]
  refine wpS_cond (t := false) (by simp [Act.eval, Array.replicate]) ?_
  simp only [Bool.false_eq_true, if_false]
  refine wpS_of_wp (wp_skip ?_)
  cases c₀
  simp_all [bodyPostS, results, Try.results64]
theorem info37 : (Try.prog.info? 37).map (fun i => (i.zero, i.size, i.bytes)) = some (some (.float .f64 0), 1, 8) := by kernel_rfl
theorem meth117_Area : methT Try.prog 117 "Area" = some (175, none) := by kernel_rfl
theorem mixed : Try.prog.follows .mixedOrders = true := by kernel_rfl
theorem pass117_101 : passT Try.prog 117 101 = some true := by kernel_rfl
def pl30 : Nat → Option (Nat × Nat) := fun i => ([(0, 1), (1, 1), (2, 1), (3, 1), (4, 1), (5, 1), (6, 1)] : List (Nat × Nat))[i]?
theorem places30 : placesT Try.prog 30 = some pl30 := by kernel_rfl
theorem size25 : sizeT Try.prog 25 = some 1 := by kernel_rfl
theorem size3 : sizeT Try.prog 3 = some 1 := by kernel_rfl
theorem size30 : sizeT Try.prog 30 = some 7 := by kernel_rfl
theorem size37 : sizeT Try.prog 37 = some 1 := by kernel_rfl
theorem size4 : sizeT Try.prog 4 = some 1 := by kernel_rfl
theorem size69 : sizeT Try.prog 69 = some 1 := by kernel_rfl
theorem zero168 : (Try.prog.info? 168).map (·.zero) = some (some (.agg #[.int .i64 0, .int .i64 0, .slice none 0 0, .int .i64 0])) := by kernel_rfl
theorem zero30 : (Try.prog.info? 30).map (·.zero) = some (some (.agg #[.int .i64 0, .int .i64 0, .int .i64 0, .slice none 0 0, .slice none 0 0, .slice none 0 0, .slice none 0 0])) := by kernel_rfl
theorem zero37 : (Try.prog.info? 37).map (·.zero) = some (some (.float .f64 0)) := by kernel_rfl
theorem zero4 : (Try.prog.info? 4).map (·.zero) = some (some (.bool false)) := by kernel_rfl
set_option maxRecDepth 100000 in
set_option maxHeartbeats 1000000 in
/-- pub-orthodrome/laws.zzFits3 -/
theorem w_zzFits3 (F : Nat) (a0 : (List (List Int))) (r0 : Bool) (h0 : p_zzFits3 F a0 = some r0) : FnD Try.prog 42 [eS3 a0] (fun r => r = dbool r0) := by
  refine FnD.of (by kernel_rfl) Try.func42 rfl Try.ntmps42 rfl (leb rfl) fun W ok => ?_
  unfold p_zzFits3 at h0
  refine AC.seq ?_
  refine AC.region ?_
  refine AO.op rfl (AOp.assign rfl rfl (ltb rfl) rfl ?_)
  refine AO.nil ?_
  change AC _ _ _ _
  refine AC.seq ?_
  refine AC.seq ?_
  refine AC.region ?_
  refine AO.op rfl (AOp.move rfl rfl (ltb rfl) rfl ?_)
  refine AO.op rfl (AOp.lenDs (n := a0.length) (cells := (List.map keS3 a0)) rfl rfl (ltb rfl) rfl el27 (by decide) (len1 _ _) ?_)
  refine AO.op rfl (AOp.igtr rfl rfl (ltb rfl) rfl rfl ?_)
  refine AO.nil ?_
  change AC _ _ _ _
  refine AC.cond rfl (fun q1 => ?_) (fun q1 => ?_)
  · replace h0 := cT h0 q1
    refine AC.seq ?_
    refine AC.region ?_
    refine AO.op rfl (AOp.assign rfl rfl (ltb rfl) rfl ?_)
    refine AO.nil ?_
    change AC _ _ _ _
    refine AC.ret ?_
    change RetQ _ _ _ .ret _
    obtain rfl := Option.some.inj h0
    refine retq rfl rfl
  replace h0 := cF h0 q1
  refine AC.skip ?_
  change AC _ _ _ _
  refine AC.seq ?_
  refine AC.seq ?_
  refine AC.region ?_
  refine AO.op rfl (AOp.move rfl rfl (ltb rfl) rfl ?_)
  refine AO.op rfl (AOp.lenDs (n := a0.length) (cells := (List.map keS3 a0)) rfl rfl (ltb rfl) rfl el27 (by decide) (len1 _ _) ?_)
  refine AO.op rfl (AOp.move rfl rfl (ltb rfl) rfl ?_)
  refine AO.nil ?_
  change AC _ _ _ _
  obtain ⟨o2, l3, h0⟩ := bind_elim h0
  refine AC.joinE (V := Unit) [] [] 0 (fun g4 => []) (fun g4 => []) (fun g4 => p_zzFits3_k1 g4 = some r0) rfl ?_ ?_
  · refine AC.block ?_
    refine AC.loopP (V := Int) (p_zzFits3_l2 a0) o2 [8, 9] [10] 0 (fun g5 => [(10, .d (di .i64 g5))]) (fun g5 => []) F (0 : Int) l3 rfl rfl (LeL.refl _) rfl rfl ?_
    intro n7 g5 h1
    unfold p_zzFits3_l2 at h1
    refine AC.seq ?_
    refine AC.region ?_
    refine AO.op rfl (AOp.ilss rfl rfl (ltb rfl) rfl rfl ?_)
    refine AO.nil ?_
    change AC _ _ _ _
    refine AC.seq ?_
    refine AC.cond rfl (fun q8 => ?_) (fun q8 => ?_)
    · replace h1 := cT h1 q8
      refine AC.skip ?_
      change AC _ _ _ _
      refine AC.seq ?_
      refine AC.block ?_
      refine AC.seq ?_
      refine AC.region ?_
      obtain ⟨x9, q10, h1⟩ := idx_elim h1
      refine AO.op rfl (AOp.indexDs (cells := (List.map keS3 a0)) rfl rfl (ltb rfl) rfl rfl el27 (by decide) q10.1 (lt1 q10.2) ?_)
      refine AO.op rfl (AOp.loadEp rfl rfl (ltb rfl) rfl agg26 (at1 q10.2) ?_)
      refine AO.op rfl (AOp.assign rfl rfl (ltb rfl) rfl ?_)
      refine AO.nil ?_
      change AC _ _ _ _
      refine AC.seq ?_
      refine AC.region ?_
      refine AO.op rfl (AOp.move rfl rfl (ltb rfl) rfl ?_)
      refine AO.op rfl (AOp.lenDs (n := x9.length) (cells := (List.map keS2 x9)) rfl rfl (ltb rfl) rfl el26 (by decide) (len1 _ _) ?_)
      refine AO.op rfl (AOp.igtr rfl rfl (ltb rfl) rfl rfl ?_)
      refine AO.nil ?_
      change AC _ _ _ _
      refine AC.cond rfl (fun q11 => ?_) (fun q11 => ?_)
      · replace h1 := cT h1 q11
        refine AC.seq ?_
        refine AC.region ?_
        refine AO.op rfl (AOp.assign rfl rfl (ltb rfl) rfl ?_)
        refine AO.nil ?_
        change AC _ _ _ _
        refine AC.ret ?_
        change RetQ _ _ _ .ret _
        obtain rfl := Option.some.inj h1
        replace h0 := aftR h0
        obtain rfl := Option.some.inj h0
        refine retq rfl rfl
      replace h1 := cF h1 q11
      refine AC.skip ?_
      change AC _ _ _ _
      refine AC.region ?_
      obtain ⟨q12, h1⟩ := need_elim h1
      refine AO.op rfl (AOp.iadd rfl rfl (ltb rfl) rfl rfl rfl q12.1 q12.2 ?_)
      refine AO.op rfl (AOp.move rfl rfl (ltb rfl) rfl ?_)
      refine AO.nil ?_
      exact ⟨(g5 + (1 : Int)), _, rfl, (LeL.refl _), rfl, rfl, h1⟩
    replace h1 := cF h1 q8
    refine AC.exit ?_
    obtain rfl := Option.some.inj h1
    exact ⟨(), _, rfl, (LeL.refl _), rfl, rfl, aftL h0⟩
  intro g4 h0
  unfold p_zzFits3_k1 at h0
  change AC _ _ _ _
  refine AC.seq ?_
  refine AC.region ?_
  refine AO.op rfl (AOp.assign rfl rfl (ltb rfl) rfl ?_)
  refine AO.nil ?_
  change AC _ _ _ _
  refine AC.ret ?_
  change RetQ _ _ _ .ret _
  obtain rfl := Option.some.inj h0
  refine retq rfl rfl

set_option maxRecDepth 100000 in
set_option maxHeartbeats 1000000 in
/-- pub-orthodrome/laws.zzFits2 -/
theorem w_zzFits2 (F : Nat) (a0 : TImpl_Geom) (r0 : Bool) (h0 : p_zzFits2 F a0 = some r0) : FnD Try.prog 15 [e_TImpl_Geom a0] (fun r => r = dbool r0) := by
  refine FnD.of (by kernel_rfl) Try.func15 rfl Try.ntmps15 rfl (leb rfl) fun W ok => ?_
  unfold p_zzFits2 at h0
  refine AC.seq ?_
  refine AC.region ?_
  refine AO.op rfl (AOp.box rfl rfl (ltb rfl) rfl rfl ?_)
  refine AO.op rfl (AOp.assign rfl rfl (ltb rfl) rfl ?_)
  refine AO.nil ?_
  change AC _ _ _ _
  refine AC.seq ?_
  refine AC.seq ?_
  refine AC.region ?_
  refine AO.op rfl (AOp.fieldAddr rfl rfl (ltb rfl) rfl fo30_3 ?_)
  refine AO.op rfl (AOp.load1 rfl rfl (ltb rfl) rfl agg25 rfl rfl ?_)
  refine AO.op rfl (AOp.lenDs (n := a0.Flat.length) (cells := (List.map keS1 a0.Flat)) rfl rfl (ltb rfl) rfl el25 (by decide) (len1 _ _) ?_)
  refine AO.op rfl (AOp.igtr rfl rfl (ltb rfl) rfl rfl ?_)
  refine AO.nil ?_
  change AC _ _ _ _
  refine AC.cond rfl (fun q1 => ?_) (fun q1 => ?_)
  · replace h0 := cT h0 q1
    refine AC.seq ?_
    refine AC.region ?_
    refine AO.op rfl (AOp.assign rfl rfl (ltb rfl) rfl ?_)
    refine AO.nil ?_
    change AC _ _ _ _
    refine AC.ret ?_
    change RetQ _ _ _ .ret _
    obtain rfl := Option.some.inj h0
    refine retq rfl rfl
  replace h0 := cF h0 q1
  refine AC.skip ?_
  change AC _ _ _ _
  refine AC.seq ?_
  refine AC.seq ?_
  refine AC.region ?_
  refine AO.op rfl (AOp.fieldAddr rfl rfl (ltb rfl) rfl fo30_4 ?_)
  refine AO.op rfl (AOp.load1 rfl rfl (ltb rfl) rfl agg26 rfl rfl ?_)
  refine AO.op rfl (AOp.lenDs (n := a0.Ends.length) (cells := (List.map keS2 a0.Ends)) rfl rfl (ltb rfl) rfl el26 (by decide) (len1 _ _) ?_)
  refine AO.op rfl (AOp.igtr rfl rfl (ltb rfl) rfl rfl ?_)
  refine AO.nil ?_
  change AC _ _ _ _
  refine AC.cond rfl (fun q2 => ?_) (fun q2 => ?_)
  · replace h0 := cT h0 q2
    refine AC.seq ?_
    refine AC.region ?_
    refine AO.op rfl (AOp.assign rfl rfl (ltb rfl) rfl ?_)
    refine AO.nil ?_
    change AC _ _ _ _
    refine AC.ret ?_
    change RetQ _ _ _ .ret _
    obtain rfl := Option.some.inj h0
    refine retq rfl rfl
  replace h0 := cF h0 q2
  refine AC.skip ?_
  change AC _ _ _ _
  refine AC.seq ?_
  refine AC.seq ?_
  refine AC.region ?_
  refine AO.op rfl (AOp.fieldAddr rfl rfl (ltb rfl) rfl fo30_5 ?_)
  refine AO.op rfl (AOp.load1 rfl rfl (ltb rfl) rfl agg27 rfl rfl ?_)
  obtain ⟨y3, q4, h0⟩ := bind_elim h0
  refine AO.op rfl (AOp.callD rfl rfl (ltb rfl) rfl rfl (w_zzFits3 F a0.Endss y3 q4) ?_)
  rintro _ rfl
  refine AO.op rfl (AOp.bnot rfl rfl (ltb rfl) rfl ?_)
  refine AO.nil ?_
  change AC _ _ _ _
  refine AC.cond rfl (fun q5 => ?_) (fun q5 => ?_)
  · replace h0 := cT h0 q5
    refine AC.seq ?_
    refine AC.region ?_
    refine AO.op rfl (AOp.assign rfl rfl (ltb rfl) rfl ?_)
    refine AO.nil ?_
    change AC _ _ _ _
    refine AC.ret ?_
    change RetQ _ _ _ .ret _
    obtain rfl := Option.some.inj h0
    refine retq rfl rfl
  replace h0 := cF h0 q5
  refine AC.skip ?_
  change AC _ _ _ _
  refine AC.seq ?_
  refine AC.seq ?_
  refine AC.region ?_
  refine AO.op rfl (AOp.fieldAddr rfl rfl (ltb rfl) rfl fo30_6 ?_)
  refine AO.op rfl (AOp.load1 rfl rfl (ltb rfl) rfl agg28 rfl rfl ?_)
  refine AO.op rfl (AOp.lenDs (n := a0.Kids.length) (cells := (List.flatMap c0_TImpl_Geom a0.Kids)) rfl rfl (ltb rfl) rfl el28 (by decide) (lenN _ 7 c0_TImpl_Geom_len _) ?_)
  refine AO.op rfl (AOp.igtr rfl rfl (ltb rfl) rfl rfl ?_)
  refine AO.nil ?_
  change AC _ _ _ _
  refine AC.cond rfl (fun q6 => ?_) (fun q6 => ?_)
  · replace h0 := cT h0 q6
    refine AC.seq ?_
    refine AC.region ?_
    refine AO.op rfl (AOp.assign rfl rfl (ltb rfl) rfl ?_)
    refine AO.nil ?_
    change AC _ _ _ _
    refine AC.ret ?_
    change RetQ _ _ _ .ret _
    obtain rfl := Option.some.inj h0
    refine retq rfl rfl
  replace h0 := cF h0 q6
  refine AC.skip ?_
  change AC _ _ _ _
  refine AC.seq ?_
  refine AC.region ?_
  refine AO.op rfl (AOp.assign rfl rfl (ltb rfl) rfl ?_)
  refine AO.nil ?_
  change AC _ _ _ _
  refine AC.ret ?_
  change RetQ _ _ _ .ret _
  obtain rfl := Option.some.inj h0
  refine retq rfl rfl

set_option maxRecDepth 100000 in
set_option maxHeartbeats 1000000 in
/-- pub-orthodrome/spec.Stride -/
theorem w_Stride (a0 : Int) (r0 : Int) (h0 : p_Stride a0 = some r0) : FnD Try.prog 22 [di .i64 a0] (fun r => r = di .i64 r0) := by
  refine FnD.of (by kernel_rfl) Try.func22 rfl Try.ntmps22 rfl (leb rfl) fun W ok => ?_
  unfold p_Stride at h0
  refine AC.seq ?_
  refine AC.region ?_
  refine AO.op rfl (AOp.assign rfl rfl (ltb rfl) rfl ?_)
  refine AO.nil ?_
  change AC _ _ _ _
  refine AC.seq ?_
  refine AC.block ?_
  refine AC.seq ?_
  refine AC.region ?_
  refine AO.op rfl (AOp.move rfl rfl (ltb rfl) rfl ?_)
  refine AO.op rfl (AOp.ilss rfl rfl (ltb rfl) rfl rfl ?_)
  refine AO.op rfl (AOp.assign rfl rfl (ltb rfl) rfl ?_)
  refine AO.nil ?_
  change AC _ _ _ _
  refine AC.cond rfl (fun q1 => ?_) (fun q1 => ?_)
  · replace h0 := cT h0 q1
    refine AC.seq ?_
    refine AC.region ?_
    refine AO.op rfl (AOp.assign rfl rfl (ltb rfl) rfl ?_)
    refine AO.nil ?_
    change AC _ _ _ _
    refine AC.ret ?_
    change RetQ _ _ _ .ret _
    obtain rfl := Option.some.inj h0
    refine retq rfl rfl
  replace h0 := cF h0 q1
  refine AC.seq ?_
  refine AC.region ?_
  refine AO.op rfl (AOp.move rfl rfl (ltb rfl) rfl ?_)
  refine AO.op rfl (AOp.ieql rfl rfl (ltb rfl) rfl rfl ?_)
  refine AO.op rfl (AOp.assign rfl rfl (ltb rfl) rfl ?_)
  refine AO.nil ?_
  change AC _ _ _ _
  refine AC.cond rfl (fun q2 => ?_) (fun q2 => ?_)
  · replace h0 := cT h0 q2
    refine AC.seq ?_
    refine AC.region ?_
    refine AO.op rfl (AOp.assign rfl rfl (ltb rfl) rfl ?_)
    refine AO.nil ?_
    change AC _ _ _ _
    refine AC.ret ?_
    change RetQ _ _ _ .ret _
    obtain rfl := Option.some.inj h0
    refine retq rfl rfl
  replace h0 := cF h0 q2
  refine AC.seq ?_
  refine AC.region ?_
  refine AO.op rfl (AOp.move rfl rfl (ltb rfl) rfl ?_)
  refine AO.op rfl (AOp.ieql rfl rfl (ltb rfl) rfl rfl ?_)
  refine AO.op rfl (AOp.move rfl rfl (ltb rfl) rfl ?_)
  refine AO.dec (decide (a0 = (2 : Int))) (fun q3 => ?_) (fun q3 => ?_)
  · replace h0 := cT h0 q3
    refine AO.guardN rfl rfl rfl (ltb rfl) rfl q3 ?_
    refine AO.guardN rfl rfl rfl (ltb rfl) rfl q3 ?_
    refine AO.op rfl (AOp.pick rfl rfl (ltb rfl) rfl q3 rfl ?_)
    refine AO.op rfl (AOp.assign rfl rfl (ltb rfl) rfl ?_)
    refine AO.nil ?_
    change AC _ _ _ _
    refine AC.condT rfl rfl ?_
    refine AC.seq ?_
    refine AC.region ?_
    refine AO.op rfl (AOp.assign rfl rfl (ltb rfl) rfl ?_)
    refine AO.nil ?_
    change AC _ _ _ _
    refine AC.ret ?_
    change RetQ _ _ _ .ret _
    obtain rfl := Option.some.inj h0
    refine retq rfl rfl
  replace h0 := cF h0 q3
  refine AO.guardY rfl rfl rfl q3 (AOp.move rfl rfl (ltb rfl) rfl ?_)
  refine AO.guardY rfl rfl rfl q3 (AOp.ieql rfl rfl (ltb rfl) rfl rfl ?_)
  refine AO.op rfl (AOp.pickN rfl rfl (ltb rfl) rfl q3 rfl ?_)
  refine AO.op rfl (AOp.assign rfl rfl (ltb rfl) rfl ?_)
  refine AO.nil ?_
  change AC _ _ _ _
  refine AC.cond rfl (fun q4 => ?_) (fun q4 => ?_)
  · replace h0 := cT h0 q4
    refine AC.seq ?_
    refine AC.region ?_
    refine AO.op rfl (AOp.assign rfl rfl (ltb rfl) rfl ?_)
    refine AO.nil ?_
    change AC _ _ _ _
    refine AC.ret ?_
    change RetQ _ _ _ .ret _
    obtain rfl := Option.some.inj h0
    refine retq rfl rfl
  replace h0 := cF h0 q4
  refine AC.skip ?_
  change AC _ _ _ _
  refine AC.seq ?_
  refine AC.region ?_
  refine AO.op rfl (AOp.move rfl rfl (ltb rfl) rfl ?_)
  refine AO.op rfl (AOp.assign rfl rfl (ltb rfl) rfl ?_)
  refine AO.nil ?_
  change AC _ _ _ _
  refine AC.ret ?_
  change RetQ _ _ _ .ret _
  obtain rfl := Option.some.inj h0
  refine retq rfl rfl

set_option maxRecDepth 100000 in
set_option maxHeartbeats 1000000 in
/-- pub-orthodrome/spec.Weight -/
theorem w_Weight_b (Rec_ : TImpl_Geom → Int → Option Int) (hR : ∀ (a0 : TImpl_Geom) (a1 : Int) (r0 : Int), Rec_ a0 a1 = some r0 → FnD Try.prog 73 [e_TImpl_Geom a0, di .i64 a1] (fun r => r = di .i64 r0)) (F : Nat) (a0 : TImpl_Geom) (a1 : Int) (r0 : Int) (h0 : p_Weight_b Rec_ F a0 a1 = some r0) : FnD Try.prog 73 [e_TImpl_Geom a0, di .i64 a1] (fun r => r = di .i64 r0) := by
  refine FnD.of (by kernel_rfl) Try.func73 rfl Try.ntmps73 rfl (leb rfl) fun W ok => ?_
  unfold p_Weight_b at h0
  refine AC.seq ?_
  refine AC.region ?_
  refine AO.op rfl (AOp.box rfl rfl (ltb rfl) rfl rfl ?_)
  refine AO.op rfl (AOp.assign rfl rfl (ltb rfl) rfl ?_)
  refine AO.nil ?_
  change AC _ _ _ _
  refine AC.seq ?_
  refine AC.region ?_
  refine AO.op rfl (AOp.fieldAddr rfl rfl (ltb rfl) rfl fo30_3 ?_)
  refine AO.op rfl (AOp.load1 rfl rfl (ltb rfl) rfl agg25 rfl rfl ?_)
  refine AO.op rfl (AOp.lenDs (n := a0.Flat.length) (cells := (List.map keS1 a0.Flat)) rfl rfl (ltb rfl) rfl el25 (by decide) (len1 _ _) ?_)
  refine AO.op rfl (AOp.iwAdd rfl rfl (ltb rfl) rfl rfl ?_)
  refine AO.op rfl (AOp.fieldAddr rfl rfl (ltb rfl) rfl fo30_4 ?_)
  refine AO.op rfl (AOp.load1 rfl rfl (ltb rfl) rfl agg26 rfl rfl ?_)
  refine AO.op rfl (AOp.lenDs (n := a0.Ends.length) (cells := (List.map keS2 a0.Ends)) rfl rfl (ltb rfl) rfl el26 (by decide) (len1 _ _) ?_)
  refine AO.op rfl (AOp.iwAdd rfl rfl (ltb rfl) rfl rfl ?_)
  refine AO.op rfl (AOp.assign rfl rfl (ltb rfl) rfl ?_)
  refine AO.nil ?_
  change AC _ _ _ _
  refine AC.seq ?_
  refine AC.seq ?_
  refine AC.region ?_
  refine AO.op rfl (AOp.fieldAddr rfl rfl (ltb rfl) rfl fo30_5 ?_)
  refine AO.op rfl (AOp.load1 rfl rfl (ltb rfl) rfl agg27 rfl rfl ?_)
  refine AO.op rfl (AOp.lenDs (n := a0.Endss.length) (cells := (List.map keS3 a0.Endss)) rfl rfl (ltb rfl) rfl el27 (by decide) (len1 _ _) ?_)
  refine AO.op rfl (AOp.move rfl rfl (ltb rfl) rfl ?_)
  refine AO.nil ?_
  change AC _ _ _ _
  obtain ⟨o1, l2, h0⟩ := bind_elim h0
  refine AC.joinE (V := Int) [1, 2] [5] 1 (fun g3 => [(5, .d (di .i64 g3))]) (fun g3 => [.fix 30 [.d (di .i64 a0.Kind), .d (di .i64 a0.Layout), .d (di .i64 a0.SRID), .d (eS1 a0.Flat), .d (eS2 a0.Ends), .d (eS3 a0.Endss), .d (eS0 a0.Kids)]]) (fun g3 => (p_Weight_k1 a0 a1 F Rec_) g3 = some r0) rfl ?_ ?_
  · refine AC.block ?_
    refine AC.loopP (V := (Int × Int)) (p_Weight_l4 a0) o1 [1, 2, 19, 20] [5, 21] 1 (fun g17 => [(5, .d (di .i64 g17.1)), (21, .d (di .i64 g17.2))]) (fun g17 => [.fix 30 [.d (di .i64 a0.Kind), .d (di .i64 a0.Layout), .d (di .i64 a0.SRID), .d (eS1 a0.Flat), .d (eS2 a0.Ends), .d (eS3 a0.Endss), .d (eS0 a0.Kids)]]) F ((IntKind.i64.wrap ((IntKind.i64.wrap ((1 : Int) + ((a0.Flat.length : Nat) : Int))) + ((a0.Ends.length : Nat) : Int))), (0 : Int)) l2 rfl rfl (LeL.refl _) rfl rfl ?_
    intro n19 g17 h1
    unfold p_Weight_l4 at h1
    refine AC.seq ?_
    refine AC.region ?_
    refine AO.op rfl (AOp.ilss rfl rfl (ltb rfl) rfl rfl ?_)
    refine AO.nil ?_
    change AC _ _ _ _
    refine AC.seq ?_
    refine AC.cond rfl (fun q20 => ?_) (fun q20 => ?_)
    · replace h1 := cT h1 q20
      refine AC.skip ?_
      change AC _ _ _ _
      refine AC.seq ?_
      refine AC.block ?_
      refine AC.seq ?_
      refine AC.region ?_
      obtain ⟨x21, q22, h1⟩ := idx_elim h1
      refine AO.op rfl (AOp.indexDs (cells := (List.map keS3 a0.Endss)) rfl rfl (ltb rfl) rfl rfl el27 (by decide) q22.1 (lt1 q22.2) ?_)
      refine AO.op rfl (AOp.loadEp rfl rfl (ltb rfl) rfl agg26 (at1 q22.2) ?_)
      refine AO.op rfl (AOp.assign rfl rfl (ltb rfl) rfl ?_)
      refine AO.nil ?_
      change AC _ _ _ _
      refine AC.region ?_
      refine AO.op rfl (AOp.move rfl rfl (ltb rfl) rfl ?_)
      refine AO.op rfl (AOp.move rfl rfl (ltb rfl) rfl ?_)
      refine AO.op rfl (AOp.lenDs (n := x21.length) (cells := (List.map keS2 x21)) rfl rfl (ltb rfl) rfl el26 (by decide) (len1 _ _) ?_)
      refine AO.op rfl (AOp.iwAdd rfl rfl (ltb rfl) rfl rfl ?_)
      refine AO.op rfl (AOp.iwAdd rfl rfl (ltb rfl) rfl rfl ?_)
      refine AO.op rfl (AOp.assign rfl rfl (ltb rfl) rfl ?_)
      refine AO.nil ?_
      change AC _ _ _ _
      refine AC.region ?_
      obtain ⟨q23, h1⟩ := need_elim h1
      refine AO.op rfl (AOp.iadd rfl rfl (ltb rfl) rfl rfl rfl q23.1 q23.2 ?_)
      refine AO.op rfl (AOp.move rfl rfl (ltb rfl) rfl ?_)
      refine AO.nil ?_
      exact ⟨((IntKind.i64.wrap (g17.1 + (IntKind.i64.wrap ((1 : Int) + ((x21.length : Nat) : Int))))), (g17.2 + (1 : Int))), _, rfl, (LeL.refl _), rfl, rfl, h1⟩
    replace h1 := cF h1 q20
    refine AC.exit ?_
    obtain rfl := Option.some.inj h1
    exact ⟨g17.1, _, rfl, (LeL.refl _), rfl, rfl, aftL h0⟩
  intro g3 h0
  unfold p_Weight_k1 at h0
  change AC _ _ _ _
  refine AC.seq ?_
  refine AC.seq ?_
  refine AC.region ?_
  refine AO.op rfl (AOp.fieldAddr rfl rfl (ltb rfl) rfl fo30_6 ?_)
  refine AO.op rfl (AOp.load1 rfl rfl (ltb rfl) rfl agg28 rfl rfl ?_)
  refine AO.op rfl (AOp.lenDs (n := a0.Kids.length) (cells := (List.flatMap c0_TImpl_Geom a0.Kids)) rfl rfl (ltb rfl) rfl el28 (by decide) (lenN _ 7 c0_TImpl_Geom_len _) ?_)
  refine AO.op rfl (AOp.move rfl rfl (ltb rfl) rfl ?_)
  refine AO.nil ?_
  change AC _ _ _ _
  obtain ⟨o4, l5, h0⟩ := bind_elim h0
  refine AC.joinE (V := Int) [] [5] 1 (fun g6 => [(5, .d (di .i64 g6))]) (fun g6 => [.fix 30 [.d (di .i64 a0.Kind), .d (di .i64 a0.Layout), .d (di .i64 a0.SRID), .d (eS1 a0.Flat), .d (eS2 a0.Ends), .d (eS3 a0.Endss), .d (eS0 a0.Kids)]]) (fun g6 => p_Weight_k2 g6 = some r0) rfl ?_ ?_
  · refine AC.block ?_
    refine AC.loopP (V := (Int × Int)) (p_Weight_l3 a0 a1 Rec_) o4 [1, 32, 33] [5, 34] 1 (fun g7 => [(5, .d (di .i64 g7.1)), (34, .d (di .i64 g7.2))]) (fun g7 => [.fix 30 [.d (di .i64 a0.Kind), .d (di .i64 a0.Layout), .d (di .i64 a0.SRID), .d (eS1 a0.Flat), .d (eS2 a0.Ends), .d (eS3 a0.Endss), .d (eS0 a0.Kids)]]) F (g3, (0 : Int)) l5 rfl rfl (LeL.refl _) rfl rfl ?_
    intro n9 g7 h1
    unfold p_Weight_l3 at h1
    refine AC.seq ?_
    refine AC.region ?_
    refine AO.op rfl (AOp.ilss rfl rfl (ltb rfl) rfl rfl ?_)
    refine AO.nil ?_
    change AC _ _ _ _
    refine AC.seq ?_
    refine AC.cond rfl (fun q10 => ?_) (fun q10 => ?_)
    · replace h1 := cT h1 q10
      refine AC.skip ?_
      change AC _ _ _ _
      refine AC.seq ?_
      refine AC.block ?_
      refine AC.seq ?_
      refine AC.region ?_
      obtain ⟨x11, q12, h1⟩ := idx_elim h1
      refine AO.op rfl (AOp.indexDs (cells := (List.flatMap c0_TImpl_Geom a0.Kids)) rfl rfl (ltb rfl) rfl rfl el28 (by decide) q12.1 (ltN 7 c0_TImpl_Geom_len (by decide) q12.2) ?_)
      refine AO.op rfl (AOp.loadEpN rfl rfl (ltb rfl) rfl agg30 size30 (leN 7 c0_TImpl_Geom_len q12.2) ((atN 7 c0_TImpl_Geom_len q12.2).trans (c0_TImpl_Geom_eq x11)) ?_)
      refine AO.op rfl (AOp.alloc rfl rfl (ltb rfl) zero30 rfl ?_)
      refine AO.op rfl (AOp.store rfl rfl rfl rfl size30 rfl rfl rfl (leb rfl) ?_)
      refine AO.nil ?_
      change AC _ _ _ _
      refine AC.seq ?_
      refine AC.seq ?_
      refine AC.region ?_
      refine AO.op rfl (AOp.move rfl rfl (ltb rfl) rfl ?_)
      refine AO.op rfl (AOp.move rfl rfl (ltb rfl) rfl ?_)
      refine AO.op rfl (AOp.igtr rfl rfl (ltb rfl) rfl rfl ?_)
      refine AO.nil ?_
      change AC _ _ _ _
      refine AC.cond rfl (fun q13 => ?_) (fun q13 => ?_)
      · replace h1 := cT h1 q13
        refine AC.seq ?_
        refine AC.region ?_
        refine AO.op rfl (AOp.move rfl rfl (ltb rfl) rfl ?_)
        refine AO.op rfl (AOp.assign rfl rfl (ltb rfl) rfl ?_)
        refine AO.nil ?_
        change AC _ _ _ _
        refine AC.ret ?_
        change RetQ _ _ _ .ret _
        obtain rfl := Option.some.inj h1
        replace h0 := aftR h0
        obtain rfl := Option.some.inj h0
        refine retq rfl rfl
      replace h1 := cF h1 q13
      refine AC.skip ?_
      change AC _ _ _ _
      refine AC.region ?_
      refine AO.op rfl (AOp.move rfl rfl (ltb rfl) rfl ?_)
      refine AO.op rfl (AOp.loadN rfl rfl (ltb rfl) rfl agg30 size30 rfl (leb rfl) rfl ?_)
      refine AO.op rfl (AOp.move rfl rfl (ltb rfl) rfl ?_)
      refine AO.op rfl (AOp.move rfl rfl (ltb rfl) rfl ?_)
      refine AO.op rfl (AOp.iwSub rfl rfl (ltb rfl) rfl rfl ?_)
      obtain ⟨y14, q15, h1⟩ := bind_elim h1
      refine AO.op rfl (AOp.callD rfl rfl (ltb rfl) rfl rfl (hR x11 (IntKind.i64.wrap (a1 - g7.1)) y14 q15) ?_)
      rintro _ rfl
      refine AO.op rfl (AOp.iwAdd rfl rfl (ltb rfl) rfl rfl ?_)
      refine AO.op rfl (AOp.assign rfl rfl (ltb rfl) rfl ?_)
      refine AO.nil ?_
      change AC _ _ _ _
      refine AC.region ?_
      obtain ⟨q16, h1⟩ := need_elim h1
      refine AO.op rfl (AOp.iadd rfl rfl (ltb rfl) rfl rfl rfl q16.1 q16.2 ?_)
      refine AO.op rfl (AOp.move rfl rfl (ltb rfl) rfl ?_)
      refine AO.nil ?_
      exact ⟨((IntKind.i64.wrap (g7.1 + y14)), (g7.2 + (1 : Int))), _, rfl, (LeL.refl _), rfl, rfl, h1⟩
    replace h1 := cF h1 q10
    refine AC.exit ?_
    obtain rfl := Option.some.inj h1
    exact ⟨g7.1, _, rfl, (LeL.refl _), rfl, rfl, aftL h0⟩
  intro g6 h0
  unfold p_Weight_k2 at h0
  change AC _ _ _ _
  refine AC.seq ?_
  refine AC.region ?_
  refine AO.op rfl (AOp.move rfl rfl (ltb rfl) rfl ?_)
  refine AO.op rfl (AOp.assign rfl rfl (ltb rfl) rfl ?_)
  refine AO.nil ?_
  change AC _ _ _ _
  refine AC.ret ?_
  change RetQ _ _ _ .ret _
  obtain rfl := Option.some.inj h0
  refine retq rfl rfl
theorem w_Weight : ∀ (F : Nat) (a0 : TImpl_Geom) (a1 : Int) (r0 : Int), p_Weight F a0 a1 = some r0 → FnD Try.prog 73 [e_TImpl_Geom a0, di .i64 a1] (fun r => r = di .i64 r0)
  | 0, _, _, _, h => by cases h
  | F + 1, a0, a1, r0, h => w_Weight_b _ (fun a0 a1 r0 h => w_Weight F a0 a1 r0 h) F a0 a1 r0 h

set_option maxRecDepth 100000 in
set_option maxHeartbeats 1000000 in
/-- pub-orthodrome/laws.gLayouts -/
theorem w_gLayouts_b (Rec_ : TImpl_Geom → Int → Option Bool) (hR : ∀ (a0 : TImpl_Geom) (a1 : Int) (r0 : Bool), Rec_ a0 a1 = some r0 → FnD Try.prog 74 [e_TImpl_Geom a0, di .i64 a1] (fun r => r = dbool r0)) (F : Nat) (a0 : TImpl_Geom) (a1 : Int) (r0 : Bool) (h0 : p_gLayouts_b Rec_ F a0 a1 = some r0) : FnD Try.prog 74 [e_TImpl_Geom a0, di .i64 a1] (fun r => r = dbool r0) := by
  refine FnD.of (by kernel_rfl) Try.func74 rfl Try.ntmps74 rfl (leb rfl) fun W ok => ?_
  unfold p_gLayouts_b at h0
  refine AC.seq ?_
  refine AC.region ?_
  refine AO.op rfl (AOp.box rfl rfl (ltb rfl) rfl rfl ?_)
  refine AO.op rfl (AOp.assign rfl rfl (ltb rfl) rfl ?_)
  refine AO.nil ?_
  change AC _ _ _ _
  refine AC.seq ?_
  refine AC.seq ?_
  refine AC.region ?_
  refine AO.op rfl (AOp.fieldAddr rfl rfl (ltb rfl) rfl fo30_6 ?_)
  refine AO.op rfl (AOp.load1 rfl rfl (ltb rfl) rfl agg28 rfl rfl ?_)
  refine AO.op rfl (AOp.lenDs (n := a0.Kids.length) (cells := (List.flatMap c0_TImpl_Geom a0.Kids)) rfl rfl (ltb rfl) rfl el28 (by decide) (lenN _ 7 c0_TImpl_Geom_len _) ?_)
  refine AO.op rfl (AOp.move rfl rfl (ltb rfl) rfl ?_)
  refine AO.nil ?_
  change AC _ _ _ _
  obtain ⟨o1, l2, h0⟩ := bind_elim h0
  refine AC.joinE (V := Unit) [1, 2] [] 1 (fun g3 => []) (fun g3 => [.fix 30 [.d (di .i64 a0.Kind), .d (di .i64 a0.Layout), .d (di .i64 a0.SRID), .d (eS1 a0.Flat), .d (eS2 a0.Ends), .d (eS3 a0.Endss), .d (eS0 a0.Kids)]]) (fun g3 => (p_gLayouts_k1 a0 a1) g3 = some r0) rfl ?_ ?_
  · refine AC.block ?_
    refine AC.loopP (V := Int) (p_gLayouts_l2 a0 a1 Rec_) o1 [1, 2, 8, 9] [10] 1 (fun g7 => [(10, .d (di .i64 g7))]) (fun g7 => [.fix 30 [.d (di .i64 a0.Kind), .d (di .i64 a0.Layout), .d (di .i64 a0.SRID), .d (eS1 a0.Flat), .d (eS2 a0.Ends), .d (eS3 a0.Endss), .d (eS0 a0.Kids)]]) F (0 : Int) l2 rfl rfl (LeL.refl _) rfl rfl ?_
    intro n9 g7 h1
    unfold p_gLayouts_l2 at h1
    refine AC.seq ?_
    refine AC.region ?_
    refine AO.op rfl (AOp.ilss rfl rfl (ltb rfl) rfl rfl ?_)
    refine AO.nil ?_
    change AC _ _ _ _
    refine AC.seq ?_
    refine AC.cond rfl (fun q10 => ?_) (fun q10 => ?_)
    · replace h1 := cT h1 q10
      refine AC.skip ?_
      change AC _ _ _ _
      refine AC.seq ?_
      refine AC.block ?_
      refine AC.seq ?_
      refine AC.region ?_
      obtain ⟨x11, q12, h1⟩ := idx_elim h1
      refine AO.op rfl (AOp.indexDs (cells := (List.flatMap c0_TImpl_Geom a0.Kids)) rfl rfl (ltb rfl) rfl rfl el28 (by decide) q12.1 (ltN 7 c0_TImpl_Geom_len (by decide) q12.2) ?_)
      refine AO.op rfl (AOp.loadEpN rfl rfl (ltb rfl) rfl agg30 size30 (leN 7 c0_TImpl_Geom_len q12.2) ((atN 7 c0_TImpl_Geom_len q12.2).trans (c0_TImpl_Geom_eq x11)) ?_)
      refine AO.op rfl (AOp.alloc rfl rfl (ltb rfl) zero30 rfl ?_)
      refine AO.op rfl (AOp.store rfl rfl rfl rfl size30 rfl rfl rfl (leb rfl) ?_)
      refine AO.nil ?_
      change AC _ _ _ _
      refine AC.seq ?_
      refine AC.region ?_
      refine AO.op rfl (AOp.loadN rfl rfl (ltb rfl) rfl agg30 size30 rfl (leb rfl) rfl ?_)
      refine AO.op rfl (AOp.move rfl rfl (ltb rfl) rfl ?_)
      obtain ⟨y13, q14, h1⟩ := bind_elim h1
      refine AO.op rfl (AOp.callD rfl rfl (ltb rfl) rfl rfl (hR x11 a1 y13 q14) ?_)
      rintro _ rfl
      refine AO.op rfl (AOp.bnot rfl rfl (ltb rfl) rfl ?_)
      refine AO.nil ?_
      change AC _ _ _ _
      refine AC.cond rfl (fun q15 => ?_) (fun q15 => ?_)
      · replace h1 := cT h1 q15
        refine AC.seq ?_
        refine AC.region ?_
        refine AO.op rfl (AOp.assign rfl rfl (ltb rfl) rfl ?_)
        refine AO.nil ?_
        change AC _ _ _ _
        refine AC.ret ?_
        change RetQ _ _ _ .ret _
        obtain rfl := Option.some.inj h1
        replace h0 := aftR h0
        obtain rfl := Option.some.inj h0
        refine retq rfl rfl
      replace h1 := cF h1 q15
      refine AC.skip ?_
      change AC _ _ _ _
      refine AC.region ?_
      obtain ⟨q16, h1⟩ := need_elim h1
      refine AO.op rfl (AOp.iadd rfl rfl (ltb rfl) rfl rfl rfl q16.1 q16.2 ?_)
      refine AO.op rfl (AOp.move rfl rfl (ltb rfl) rfl ?_)
      refine AO.nil ?_
      exact ⟨(g7 + (1 : Int)), _, rfl, (LeL.refl _), rfl, rfl, h1⟩
    replace h1 := cF h1 q10
    refine AC.exit ?_
    obtain rfl := Option.some.inj h1
    exact ⟨(), _, rfl, (LeL.refl _), rfl, rfl, aftL h0⟩
  intro g3 h0
  unfold p_gLayouts_k1 at h0
  change AC _ _ _ _
  refine AC.seq ?_
  refine AC.region ?_
  refine AO.op rfl (AOp.fieldAddr rfl rfl (ltb rfl) rfl fo30_1 ?_)
  refine AO.op rfl (AOp.load1 rfl rfl (ltb rfl) rfl agg3 rfl rfl ?_)
  refine AO.op rfl (AOp.move rfl rfl (ltb rfl) rfl ?_)
  refine AO.op rfl (AOp.ileq rfl rfl (ltb rfl) rfl rfl ?_)
  refine AO.op rfl (AOp.move rfl rfl (ltb rfl) rfl ?_)
  refine AO.dec (decide (a0.Layout ≤ a1)) (fun q4 => ?_) (fun q4 => ?_)
  · replace h0 := cT h0 q4
    refine AO.guardY rfl rfl rfl q4 (AOp.fieldAddr rfl rfl (ltb rfl) rfl fo30_1 ?_)
    refine AO.guardY rfl rfl rfl q4 (AOp.load1 rfl rfl (ltb rfl) rfl agg3 rfl rfl ?_)
    refine AO.guardY rfl rfl rfl q4 (AOp.igeq rfl rfl (ltb rfl) rfl rfl ?_)
    refine AO.guardY rfl rfl rfl q4 (AOp.move rfl rfl (ltb rfl) rfl ?_)
    refine AO.dec (decide ((1 : Int) ≤ a0.Layout)) (fun q5 => ?_) (fun q5 => ?_)
    · replace h0 := cT h0 q5
      refine AO.guardN rfl rfl rfl (ltb rfl) rfl q5 ?_
      refine AO.guardN rfl rfl rfl (ltb rfl) rfl q5 ?_
      refine AO.guardN rfl rfl rfl (ltb rfl) rfl q5 ?_
      refine AO.guardN rfl rfl rfl (ltb rfl) rfl q5 ?_
      refine AO.guardU rfl rfl rfl (ltb rfl) rfl ?_
      refine AO.guardU rfl rfl rfl (ltb rfl) rfl ?_
      refine AO.guardU rfl rfl rfl (ltb rfl) rfl ?_
      refine AO.guardN rfl rfl rfl (ltb rfl) rfl q5 ?_
      refine AO.guardY rfl rfl rfl q4 (AOp.pick rfl rfl (ltb rfl) rfl q5 rfl ?_)
      refine AO.op rfl (AOp.pick rfl rfl (ltb rfl) rfl q4 rfl ?_)
      refine AO.op rfl (AOp.assign rfl rfl (ltb rfl) rfl ?_)
      refine AO.nil ?_
      change AC _ _ _ _
      refine AC.ret ?_
      change RetQ _ _ _ .ret _
      obtain rfl := Option.some.inj h0
      refine retq rfl rfl
    replace h0 := cF h0 q5
    refine AO.guardY rfl rfl rfl q5 (AOp.fieldAddr rfl rfl (ltb rfl) rfl fo30_0 ?_)
    refine AO.guardY rfl rfl rfl q5 (AOp.load1 rfl rfl (ltb rfl) rfl agg3 rfl rfl ?_)
    refine AO.guardY rfl rfl rfl q5 (AOp.ieql rfl rfl (ltb rfl) rfl rfl ?_)
    refine AO.guardY rfl rfl rfl q5 (AOp.move rfl rfl (ltb rfl) rfl ?_)
    refine AO.dec (decide (a0.Kind = (7 : Int))) (fun q6 => ?_) (fun q6 => ?_)
    · replace h0 := cT h0 q6
      refine AO.guardY rfl rfl rfl q6 (AOp.fieldAddr rfl rfl (ltb rfl) rfl fo30_1 ?_)
      refine AO.guardY rfl rfl rfl q6 (AOp.load1 rfl rfl (ltb rfl) rfl agg3 rfl rfl ?_)
      refine AO.guardY rfl rfl rfl q6 (AOp.igeq rfl rfl (ltb rfl) rfl rfl ?_)
      refine AO.guardY rfl rfl rfl q5 (AOp.pick rfl rfl (ltb rfl) rfl q6 rfl ?_)
      refine AO.guardY rfl rfl rfl q4 (AOp.pickN rfl rfl (ltb rfl) rfl q5 rfl ?_)
      refine AO.op rfl (AOp.pick rfl rfl (ltb rfl) rfl q4 rfl ?_)
      refine AO.op rfl (AOp.assign rfl rfl (ltb rfl) rfl ?_)
      refine AO.nil ?_
      change AC _ _ _ _
      refine AC.ret ?_
      change RetQ _ _ _ .ret _
      obtain rfl := Option.some.inj h0
      refine retq rfl rfl
    replace h0 := cF h0 q6
    refine AO.guardN rfl rfl rfl (ltb rfl) rfl q6 ?_
    refine AO.guardN rfl rfl rfl (ltb rfl) rfl q6 ?_
    refine AO.guardN rfl rfl rfl (ltb rfl) rfl q6 ?_
    refine AO.guardY rfl rfl rfl q5 (AOp.pickN rfl rfl (ltb rfl) rfl q6 rfl ?_)
    refine AO.guardY rfl rfl rfl q4 (AOp.pickN rfl rfl (ltb rfl) rfl q5 rfl ?_)
    refine AO.op rfl (AOp.pick rfl rfl (ltb rfl) rfl q4 rfl ?_)
    refine AO.op rfl (AOp.assign rfl rfl (ltb rfl) rfl ?_)
    refine AO.nil ?_
    change AC _ _ _ _
    refine AC.ret ?_
    change RetQ _ _ _ .ret _
    obtain rfl := Option.some.inj h0
    refine retq rfl rfl
  replace h0 := cF h0 q4
  refine AO.guardN rfl rfl rfl (ltb rfl) rfl q4 ?_
  refine AO.guardN rfl rfl rfl (ltb rfl) rfl q4 ?_
  refine AO.guardN rfl rfl rfl (ltb rfl) rfl q4 ?_
  refine AO.guardN rfl rfl rfl (ltb rfl) rfl q4 ?_
  refine AO.guardU rfl rfl rfl (ltb rfl) rfl ?_
  refine AO.guardU rfl rfl rfl (ltb rfl) rfl ?_
  refine AO.guardU rfl rfl rfl (ltb rfl) rfl ?_
  refine AO.guardU rfl rfl rfl (ltb rfl) rfl ?_
  refine AO.guardU rfl rfl rfl (ltb rfl) rfl ?_
  refine AO.guardU rfl rfl rfl (ltb rfl) rfl ?_
  refine AO.guardU rfl rfl rfl (ltb rfl) rfl ?_
  refine AO.guardU rfl rfl rfl (ltb rfl) rfl ?_
  refine AO.guardN rfl rfl rfl (ltb rfl) rfl q4 ?_
  refine AO.op rfl (AOp.pickN rfl rfl (ltb rfl) rfl q4 rfl ?_)
  refine AO.op rfl (AOp.assign rfl rfl (ltb rfl) rfl ?_)
  refine AO.nil ?_
  change AC _ _ _ _
  refine AC.ret ?_
  change RetQ _ _ _ .ret _
  obtain rfl := Option.some.inj h0
  refine retq rfl rfl
theorem w_gLayouts : ∀ (F : Nat) (a0 : TImpl_Geom) (a1 : Int) (r0 : Bool), p_gLayouts F a0 a1 = some r0 → FnD Try.prog 74 [e_TImpl_Geom a0, di .i64 a1] (fun r => r = dbool r0)
  | 0, _, _, _, h => by cases h
  | F + 1, a0, a1, r0, h => w_gLayouts_b _ (fun a0 a1 r0 h => w_gLayouts F a0 a1 r0 h) F a0 a1 r0 h

set_option maxRecDepth 100000 in
set_option maxHeartbeats 1000000 in
/-- pub-orthodrome/laws.gSmall -/
theorem w_gSmall (F : Nat) (a0 : (List TImpl_Geom)) (r0 : Bool) (h0 : p_gSmall F a0 = some r0) : FnD Try.prog 43 [eS0 a0] (fun r => r = dbool r0) := by
  refine FnD.of (by kernel_rfl) Try.func43 rfl Try.ntmps43 rfl (leb rfl) fun W ok => ?_
  unfold p_gSmall at h0
  refine AC.seq ?_
  refine AC.region ?_
  refine AO.op rfl (AOp.assign rfl rfl (ltb rfl) rfl ?_)
  refine AO.nil ?_
  change AC _ _ _ _
  refine AC.seq ?_
  refine AC.region ?_
  refine AO.op rfl (AOp.assign rfl rfl (ltb rfl) rfl ?_)
  refine AO.nil ?_
  change AC _ _ _ _
  refine AC.seq ?_
  refine AC.seq ?_
  refine AC.region ?_
  refine AO.op rfl (AOp.move rfl rfl (ltb rfl) rfl ?_)
  refine AO.op rfl (AOp.lenDs (n := a0.length) (cells := (List.flatMap c0_TImpl_Geom a0)) rfl rfl (ltb rfl) rfl el28 (by decide) (lenN _ 7 c0_TImpl_Geom_len _) ?_)
  refine AO.op rfl (AOp.move rfl rfl (ltb rfl) rfl ?_)
  refine AO.nil ?_
  change AC _ _ _ _
  obtain ⟨o1, l2, h0⟩ := bind_elim h0
  refine AC.joinE (V := Unit) [] [] 0 (fun g3 => []) (fun g3 => []) (fun g3 => p_gSmall_k1 g3 = some r0) rfl ?_ ?_
  · refine AC.block ?_
    refine AC.loopP (V := (Int × Int)) (p_gSmall_l2 a0 F) o1 [6, 7] [3, 8] 0 (fun g4 => [(3, .d (di .i64 g4.1)), (8, .d (di .i64 g4.2))]) (fun g4 => []) F ((2000 : Int), (0 : Int)) l2 rfl rfl (LeL.refl _) rfl rfl ?_
    intro n6 g4 h1
    unfold p_gSmall_l2 at h1
    refine AC.seq ?_
    refine AC.region ?_
    refine AO.op rfl (AOp.ilss rfl rfl (ltb rfl) rfl rfl ?_)
    refine AO.nil ?_
    change AC _ _ _ _
    refine AC.seq ?_
    refine AC.cond rfl (fun q7 => ?_) (fun q7 => ?_)
    · replace h1 := cT h1 q7
      refine AC.skip ?_
      change AC _ _ _ _
      refine AC.seq ?_
      refine AC.block ?_
      refine AC.seq ?_
      refine AC.region ?_
      obtain ⟨x8, q9, h1⟩ := idx_elim h1
      refine AO.op rfl (AOp.indexDs (cells := (List.flatMap c0_TImpl_Geom a0)) rfl rfl (ltb rfl) rfl rfl el28 (by decide) q9.1 (ltN 7 c0_TImpl_Geom_len (by decide) q9.2) ?_)
      refine AO.op rfl (AOp.loadEpN rfl rfl (ltb rfl) rfl agg30 size30 (leN 7 c0_TImpl_Geom_len q9.2) ((atN 7 c0_TImpl_Geom_len q9.2).trans (c0_TImpl_Geom_eq x8)) ?_)
      refine AO.op rfl (AOp.alloc rfl rfl (ltb rfl) zero30 rfl ?_)
      refine AO.op rfl (AOp.store rfl rfl rfl rfl size30 rfl rfl rfl (leb rfl) ?_)
      refine AO.nil ?_
      change AC _ _ _ _
      refine AC.seq ?_
      refine AC.region ?_
      refine AO.op rfl (AOp.move rfl rfl (ltb rfl) rfl ?_)
      refine AO.op rfl (AOp.loadN rfl rfl (ltb rfl) rfl agg30 size30 rfl (leb rfl) rfl ?_)
      refine AO.op rfl (AOp.move rfl rfl (ltb rfl) rfl ?_)
      obtain ⟨y10, q11, h1⟩ := bind_elim h1
      refine AO.op rfl (AOp.callD rfl rfl (ltb rfl) rfl rfl (w_Weight F x8 g4.1 y10 q11) ?_)
      rintro _ rfl
      refine AO.op rfl (AOp.iwSub rfl rfl (ltb rfl) rfl rfl ?_)
      refine AO.op rfl (AOp.assign rfl rfl (ltb rfl) rfl ?_)
      refine AO.nil ?_
      change AC _ _ _ _
      refine AC.seq ?_
      refine AC.region ?_
      refine AO.op rfl (AOp.move rfl rfl (ltb rfl) rfl ?_)
      refine AO.op rfl (AOp.ilss rfl rfl (ltb rfl) rfl rfl ?_)
      refine AO.op rfl (AOp.move rfl rfl (ltb rfl) rfl ?_)
      refine AO.dec (decide ((IntKind.i64.wrap (g4.1 - y10)) < (0 : Int))) (fun q12 => ?_) (fun q12 => ?_)
      · replace h1 := cT h1 q12
        refine AO.guardN rfl rfl rfl (ltb rfl) rfl q12 ?_
        refine AO.guardN rfl rfl rfl (ltb rfl) rfl q12 ?_
        refine AO.guardN rfl rfl rfl (ltb rfl) rfl q12 ?_
        refine AO.op rfl (AOp.pick rfl rfl (ltb rfl) rfl q12 rfl ?_)
        refine AO.nil ?_
        change AC _ _ _ _
        refine AC.condT rfl rfl ?_
        refine AC.seq ?_
        refine AC.region ?_
        refine AO.op rfl (AOp.assign rfl rfl (ltb rfl) rfl ?_)
        refine AO.nil ?_
        change AC _ _ _ _
        refine AC.ret ?_
        change RetQ _ _ _ .ret _
        obtain rfl := Option.some.inj h1
        replace h0 := aftR h0
        obtain rfl := Option.some.inj h0
        refine retq rfl rfl
      replace h1 := cF h1 q12
      refine AO.guardY rfl rfl rfl q12 (AOp.loadN rfl rfl (ltb rfl) rfl agg30 size30 rfl (leb rfl) rfl ?_)
      obtain ⟨y13, q14, h1⟩ := bind_elim h1
      refine AO.guardY rfl rfl rfl q12 (AOp.callD rfl rfl (ltb rfl) rfl rfl (w_gLayouts F x8 (9 : Int) y13 q14) ?_)
      rintro _ rfl
      refine AO.guardY rfl rfl rfl q12 (AOp.bnot rfl rfl (ltb rfl) rfl ?_)
      refine AO.op rfl (AOp.pickN rfl rfl (ltb rfl) rfl q12 rfl ?_)
      refine AO.nil ?_
      change AC _ _ _ _
      refine AC.cond rfl (fun q15 => ?_) (fun q15 => ?_)
      · replace h1 := cT h1 q15
        refine AC.seq ?_
        refine AC.region ?_
        refine AO.op rfl (AOp.assign rfl rfl (ltb rfl) rfl ?_)
        refine AO.nil ?_
        change AC _ _ _ _
        refine AC.ret ?_
        change RetQ _ _ _ .ret _
        obtain rfl := Option.some.inj h1
        replace h0 := aftR h0
        obtain rfl := Option.some.inj h0
        refine retq rfl rfl
      replace h1 := cF h1 q15
      refine AC.skip ?_
      change AC _ _ _ _
      refine AC.region ?_
      obtain ⟨q16, h1⟩ := need_elim h1
      refine AO.op rfl (AOp.iadd rfl rfl (ltb rfl) rfl rfl rfl q16.1 q16.2 ?_)
      refine AO.op rfl (AOp.move rfl rfl (ltb rfl) rfl ?_)
      refine AO.nil ?_
      exact ⟨((IntKind.i64.wrap (g4.1 - y10)), (g4.2 + (1 : Int))), _, rfl, (LeL.refl _), rfl, rfl, h1⟩
    replace h1 := cF h1 q7
    refine AC.exit ?_
    obtain rfl := Option.some.inj h1
    exact ⟨(), _, rfl, (LeL.refl _), rfl, rfl, aftL h0⟩
  intro g3 h0
  unfold p_gSmall_k1 at h0
  change AC _ _ _ _
  refine AC.seq ?_
  refine AC.region ?_
  refine AO.op rfl (AOp.assign rfl rfl (ltb rfl) rfl ?_)
  refine AO.nil ?_
  change AC _ _ _ _
  refine AC.ret ?_
  change RetQ _ _ _ .ret _
  obtain rfl := Option.some.inj h0
  refine retq rfl rfl

set_option maxRecDepth 100000 in
set_option maxHeartbeats 1000000 in
/-- pub-orthodrome/spec.Cover -/
theorem w_Cover (a0 : Int) (a1 : Int) (r0 : Int) (h0 : p_Cover a0 a1 = some r0) : FnD Try.prog 104 [di .i64 a0, di .i64 a1] (fun r => r = di .i64 r0) := by
  refine FnD.of (by kernel_rfl) Try.func104 rfl Try.ntmps104 rfl (leb rfl) fun W ok => ?_
  unfold p_Cover at h0
  refine AC.seq ?_
  refine AC.region ?_
  refine AO.op rfl (AOp.assign rfl rfl (ltb rfl) rfl ?_)
  refine AO.nil ?_
  change AC _ _ _ _
  refine AC.seq ?_
  refine AC.seq ?_
  refine AC.region ?_
  refine AO.op rfl (AOp.move rfl rfl (ltb rfl) rfl ?_)
  refine AO.op rfl (AOp.ieql rfl rfl (ltb rfl) rfl rfl ?_)
  refine AO.op rfl (AOp.move rfl rfl (ltb rfl) rfl ?_)
  refine AO.dec (decide (a0 = (2 : Int))) (fun q1 => ?_) (fun q1 => ?_)
  · replace h0 := cT h0 q1
    refine AO.guardY rfl rfl rfl q1 (AOp.move rfl rfl (ltb rfl) rfl ?_)
    refine AO.guardY rfl rfl rfl q1 (AOp.ieql rfl rfl (ltb rfl) rfl rfl ?_)
    refine AO.op rfl (AOp.pick rfl rfl (ltb rfl) rfl q1 rfl ?_)
    refine AO.op rfl (AOp.move rfl rfl (ltb rfl) rfl ?_)
    refine AO.dec (decide (a1 = (3 : Int))) (fun q2 => ?_) (fun q2 => ?_)
    · replace h0 := cT h0 q2
      refine AO.guardN rfl rfl rfl (ltb rfl) rfl q2 ?_
      refine AO.guardN rfl rfl rfl (ltb rfl) rfl q2 ?_
      refine AO.guardN rfl rfl rfl (ltb rfl) rfl q2 ?_
      refine AO.guardU rfl rfl rfl (ltb rfl) rfl ?_
      refine AO.guardU rfl rfl rfl (ltb rfl) rfl ?_
      refine AO.guardN rfl rfl rfl (ltb rfl) rfl q2 ?_
      refine AO.op rfl (AOp.pick rfl rfl (ltb rfl) rfl q2 rfl ?_)
      refine AO.nil ?_
      change AC _ _ _ _
      refine AC.condT rfl rfl ?_
      refine AC.seq ?_
      refine AC.region ?_
      refine AO.op rfl (AOp.assign rfl rfl (ltb rfl) rfl ?_)
      refine AO.nil ?_
      change AC _ _ _ _
      refine AC.ret ?_
      change RetQ _ _ _ .ret _
      obtain rfl := Option.some.inj h0
      refine retq rfl rfl
    replace h0 := cF h0 q2
    refine AO.guardY rfl rfl rfl q2 (AOp.move rfl rfl (ltb rfl) rfl ?_)
    refine AO.guardY rfl rfl rfl q2 (AOp.ieql rfl rfl (ltb rfl) rfl rfl ?_)
    refine AO.guardY rfl rfl rfl q2 (AOp.move rfl rfl (ltb rfl) rfl ?_)
    refine AO.dec (decide (a0 = (3 : Int))) (fun q3 => ?_) (fun q3 => ?_)
    · replace h0 := cT h0 q3
      refine AO.guardY rfl rfl rfl q3 (AOp.move rfl rfl (ltb rfl) rfl ?_)
      refine AO.guardY rfl rfl rfl q3 (AOp.ieql rfl rfl (ltb rfl) rfl rfl ?_)
      refine AO.guardY rfl rfl rfl q2 (AOp.pick rfl rfl (ltb rfl) rfl q3 rfl ?_)
      refine AO.op rfl (AOp.pickN rfl rfl (ltb rfl) rfl q2 rfl ?_)
      refine AO.nil ?_
      change AC _ _ _ _
      refine AC.cond rfl (fun q4 => ?_) (fun q4 => ?_)
      · replace h0 := cT h0 q4
        refine AC.seq ?_
        refine AC.region ?_
        refine AO.op rfl (AOp.assign rfl rfl (ltb rfl) rfl ?_)
        refine AO.nil ?_
        change AC _ _ _ _
        refine AC.ret ?_
        change RetQ _ _ _ .ret _
        obtain rfl := Option.some.inj h0
        refine retq rfl rfl
      replace h0 := cF h0 q4
      refine AC.skip ?_
      change AC _ _ _ _
      refine AC.seq ?_
      refine AC.region ?_
      refine AO.op rfl (AOp.move rfl rfl (ltb rfl) rfl ?_)
      refine AO.op rfl (AOp.move rfl rfl (ltb rfl) rfl ?_)
      refine AO.op rfl (AOp.imax rfl rfl (ltb rfl) rfl rfl ?_)
      refine AO.op rfl (AOp.assign rfl rfl (ltb rfl) rfl ?_)
      refine AO.nil ?_
      change AC _ _ _ _
      refine AC.ret ?_
      change RetQ _ _ _ .ret _
      obtain rfl := Option.some.inj h0
      refine retq rfl rfl
    replace h0 := cF h0 q3
    refine AO.guardN rfl rfl rfl (ltb rfl) rfl q3 ?_
    refine AO.guardN rfl rfl rfl (ltb rfl) rfl q3 ?_
    refine AO.guardY rfl rfl rfl q2 (AOp.pickN rfl rfl (ltb rfl) rfl q3 rfl ?_)
    refine AO.op rfl (AOp.pickN rfl rfl (ltb rfl) rfl q2 rfl ?_)
    refine AO.nil ?_
    change AC _ _ _ _
    refine AC.condF rfl rfl ?_
    refine AC.skip ?_
    change AC _ _ _ _
    refine AC.seq ?_
    refine AC.region ?_
    refine AO.op rfl (AOp.move rfl rfl (ltb rfl) rfl ?_)
    refine AO.op rfl (AOp.move rfl rfl (ltb rfl) rfl ?_)
    refine AO.op rfl (AOp.imax rfl rfl (ltb rfl) rfl rfl ?_)
    refine AO.op rfl (AOp.assign rfl rfl (ltb rfl) rfl ?_)
    refine AO.nil ?_
    change AC _ _ _ _
    refine AC.ret ?_
    change RetQ _ _ _ .ret _
    obtain rfl := Option.some.inj h0
    refine retq rfl rfl
  replace h0 := cF h0 q1
  refine AO.guardN rfl rfl rfl (ltb rfl) rfl q1 ?_
  refine AO.guardN rfl rfl rfl (ltb rfl) rfl q1 ?_
  refine AO.op rfl (AOp.pickN rfl rfl (ltb rfl) rfl q1 rfl ?_)
  refine AO.op rfl (AOp.move rfl rfl (ltb rfl) rfl ?_)
  refine AO.guardY rfl rfl rfl rfl (AOp.move rfl rfl (ltb rfl) rfl ?_)
  refine AO.guardY rfl rfl rfl rfl (AOp.ieql rfl rfl (ltb rfl) rfl rfl ?_)
  refine AO.guardY rfl rfl rfl rfl (AOp.move rfl rfl (ltb rfl) rfl ?_)
  refine AO.dec (decide (a0 = (3 : Int))) (fun q5 => ?_) (fun q5 => ?_)
  · replace h0 := cT h0 q5
    refine AO.guardY rfl rfl rfl q5 (AOp.move rfl rfl (ltb rfl) rfl ?_)
    refine AO.guardY rfl rfl rfl q5 (AOp.ieql rfl rfl (ltb rfl) rfl rfl ?_)
    refine AO.guardY rfl rfl rfl rfl (AOp.pick rfl rfl (ltb rfl) rfl q5 rfl ?_)
    refine AO.op rfl (AOp.pickN rfl rfl (ltb rfl) rfl rfl rfl ?_)
    refine AO.nil ?_
    change AC _ _ _ _
    refine AC.cond rfl (fun q6 => ?_) (fun q6 => ?_)
    · replace h0 := cT h0 q6
      refine AC.seq ?_
      refine AC.region ?_
      refine AO.op rfl (AOp.assign rfl rfl (ltb rfl) rfl ?_)
      refine AO.nil ?_
      change AC _ _ _ _
      refine AC.ret ?_
      change RetQ _ _ _ .ret _
      obtain rfl := Option.some.inj h0
      refine retq rfl rfl
    replace h0 := cF h0 q6
    refine AC.skip ?_
    change AC _ _ _ _
    refine AC.seq ?_
    refine AC.region ?_
    refine AO.op rfl (AOp.move rfl rfl (ltb rfl) rfl ?_)
    refine AO.op rfl (AOp.move rfl rfl (ltb rfl) rfl ?_)
    refine AO.op rfl (AOp.imax rfl rfl (ltb rfl) rfl rfl ?_)
    refine AO.op rfl (AOp.assign rfl rfl (ltb rfl) rfl ?_)
    refine AO.nil ?_
    change AC _ _ _ _
    refine AC.ret ?_
    change RetQ _ _ _ .ret _
    obtain rfl := Option.some.inj h0
    refine retq rfl rfl
  replace h0 := cF h0 q5
  refine AO.guardN rfl rfl rfl (ltb rfl) rfl q5 ?_
  refine AO.guardN rfl rfl rfl (ltb rfl) rfl q5 ?_
  refine AO.guardY rfl rfl rfl rfl (AOp.pickN rfl rfl (ltb rfl) rfl q5 rfl ?_)
  refine AO.op rfl (AOp.pickN rfl rfl (ltb rfl) rfl rfl rfl ?_)
  refine AO.nil ?_
  change AC _ _ _ _
  refine AC.condF rfl rfl ?_
  refine AC.skip ?_
  change AC _ _ _ _
  refine AC.seq ?_
  refine AC.region ?_
  refine AO.op rfl (AOp.move rfl rfl (ltb rfl) rfl ?_)
  refine AO.op rfl (AOp.move rfl rfl (ltb rfl) rfl ?_)
  refine AO.op rfl (AOp.imax rfl rfl (ltb rfl) rfl rfl ?_)
  refine AO.op rfl (AOp.assign rfl rfl (ltb rfl) rfl ?_)
  refine AO.nil ?_
  change AC _ _ _ _
  refine AC.ret ?_
  change RetQ _ _ _ .ret _
  obtain rfl := Option.some.inj h0
  refine retq rfl rfl

set_option maxRecDepth 100000 in
set_option maxHeartbeats 1000000 in
/-- pub-orthodrome/spec.LayoutOf -/
theorem w_LayoutOf_b (Rec_ : TImpl_Geom → Option Int) (hR : ∀ (a0 : TImpl_Geom) (r0 : Int), Rec_ a0 = some r0 → FnD Try.prog 75 [e_TImpl_Geom a0] (fun r => r = di .i64 r0)) (F : Nat) (a0 : TImpl_Geom) (r0 : Int) (h0 : p_LayoutOf_b Rec_ F a0 = some r0) : FnD Try.prog 75 [e_TImpl_Geom a0] (fun r => r = di .i64 r0) := by
  refine FnD.of (by kernel_rfl) Try.func75 rfl Try.ntmps75 rfl (leb rfl) fun W ok => ?_
  unfold p_LayoutOf_b at h0
  refine AC.seq ?_
  refine AC.region ?_
  refine AO.op rfl (AOp.box rfl rfl (ltb rfl) rfl rfl ?_)
  refine AO.op rfl (AOp.assign rfl rfl (ltb rfl) rfl ?_)
  refine AO.nil ?_
  change AC _ _ _ _
  refine AC.seq ?_
  refine AC.region ?_
  refine AO.op rfl (AOp.fieldAddr rfl rfl (ltb rfl) rfl fo30_1 ?_)
  refine AO.op rfl (AOp.load1 rfl rfl (ltb rfl) rfl agg3 rfl rfl ?_)
  refine AO.op rfl (AOp.assign rfl rfl (ltb rfl) rfl ?_)
  refine AO.nil ?_
  change AC _ _ _ _
  refine AC.seq ?_
  refine AC.joinP (V := Bool) [1, 3] [14] 1 (fun g1 => [(14, .d (dbool g1))]) (fun g1 => [.fix 30 [.d (di .i64 a0.Kind), .d (di .i64 a0.Layout), .d (di .i64 a0.SRID), .d (eS1 a0.Flat), .d (eS2 a0.Ends), .d (eS3 a0.Endss), .d (eS0 a0.Kids)]]) (fun g1 => (p_LayoutOf_k1 a0 F Rec_) g1 = some r0) rfl ?_ ?_
  · refine AC.region ?_
    refine AO.op rfl (AOp.fieldAddr rfl rfl (ltb rfl) rfl fo30_0 ?_)
    refine AO.op rfl (AOp.load1 rfl rfl (ltb rfl) rfl agg3 rfl rfl ?_)
    refine AO.op rfl (AOp.ineq rfl rfl (ltb rfl) rfl rfl ?_)
    refine AO.op rfl (AOp.move rfl rfl (ltb rfl) rfl ?_)
    refine AO.dec (!decide (a0.Kind = (7 : Int))) (fun q17 => ?_) (fun q17 => ?_)
    · replace h0 := cT h0 q17
      refine AO.guardN rfl rfl rfl (ltb rfl) rfl q17 ?_
      refine AO.guardN rfl rfl rfl (ltb rfl) rfl q17 ?_
      refine AO.op rfl (AOp.pick rfl rfl (ltb rfl) rfl q17 rfl ?_)
      refine AO.nil ?_
      exact ⟨true, _, rfl, (LeL.refl _), rfl, rfl, h0⟩
    replace h0 := cF h0 q17
    refine AO.guardY rfl rfl rfl q17 (AOp.move rfl rfl (ltb rfl) rfl ?_)
    refine AO.guardY rfl rfl rfl q17 (AOp.ineq rfl rfl (ltb rfl) rfl rfl ?_)
    refine AO.op rfl (AOp.pickN rfl rfl (ltb rfl) rfl q17 rfl ?_)
    refine AO.nil ?_
    exact ⟨(!decide (a0.Layout = (0 : Int))), _, rfl, (LeL.refl _), rfl, rfl, h0⟩
  intro g1 h0
  unfold p_LayoutOf_k1 at h0
  refine AC.cond rfl (fun q2 => ?_) (fun q2 => ?_)
  · replace h0 := cT h0 q2
    refine AC.seq ?_
    refine AC.region ?_
    refine AO.op rfl (AOp.move rfl rfl (ltb rfl) rfl ?_)
    refine AO.op rfl (AOp.assign rfl rfl (ltb rfl) rfl ?_)
    refine AO.nil ?_
    change AC _ _ _ _
    refine AC.ret ?_
    change RetQ _ _ _ .ret _
    obtain rfl := Option.some.inj h0
    refine retq rfl rfl
  replace h0 := cF h0 q2
  refine AC.skip ?_
  change AC _ _ _ _
  refine AC.seq ?_
  refine AC.seq ?_
  refine AC.region ?_
  refine AO.op rfl (AOp.fieldAddr rfl rfl (ltb rfl) rfl fo30_6 ?_)
  refine AO.op rfl (AOp.load1 rfl rfl (ltb rfl) rfl agg28 rfl rfl ?_)
  refine AO.op rfl (AOp.lenDs (n := a0.Kids.length) (cells := (List.flatMap c0_TImpl_Geom a0.Kids)) rfl rfl (ltb rfl) rfl el28 (by decide) (lenN _ 7 c0_TImpl_Geom_len _) ?_)
  refine AO.op rfl (AOp.move rfl rfl (ltb rfl) rfl ?_)
  refine AO.nil ?_
  change AC _ _ _ _
  obtain ⟨o3, l4, h0⟩ := bind_elim h0
  refine AC.joinE (V := Int) [] [3] 1 (fun g5 => [(3, .d (di .i64 g5))]) (fun g5 => [.fix 30 [.d (di .i64 a0.Kind), .d (di .i64 a0.Layout), .d (di .i64 a0.SRID), .d (eS1 a0.Flat), .d (eS2 a0.Ends), .d (eS3 a0.Endss), .d (eS0 a0.Kids)]]) (fun g5 => p_LayoutOf_k2 g5 = some r0) rfl ?_ ?_
  · refine AC.block ?_
    refine AC.loopP (V := (Int × Int)) (p_LayoutOf_l3 a0 Rec_) o3 [17, 18] [3, 19] 1 (fun g6 => [(3, .d (di .i64 g6.1)), (19, .d (di .i64 g6.2))]) (fun g6 => [.fix 30 [.d (di .i64 a0.Kind), .d (di .i64 a0.Layout), .d (di .i64 a0.SRID), .d (eS1 a0.Flat), .d (eS2 a0.Ends), .d (eS3 a0.Endss), .d (eS0 a0.Kids)]]) F (a0.Layout, (0 : Int)) l4 rfl rfl (LeL.refl _) rfl rfl ?_
    intro n8 g6 h1
    unfold p_LayoutOf_l3 at h1
    refine AC.seq ?_
    refine AC.region ?_
    refine AO.op rfl (AOp.ilss rfl rfl (ltb rfl) rfl rfl ?_)
    refine AO.nil ?_
    change AC _ _ _ _
    refine AC.seq ?_
    refine AC.cond rfl (fun q9 => ?_) (fun q9 => ?_)
    · replace h1 := cT h1 q9
      refine AC.skip ?_
      change AC _ _ _ _
      refine AC.seq ?_
      refine AC.block ?_
      refine AC.seq ?_
      refine AC.region ?_
      obtain ⟨x10, q11, h1⟩ := idx_elim h1
      refine AO.op rfl (AOp.indexDs (cells := (List.flatMap c0_TImpl_Geom a0.Kids)) rfl rfl (ltb rfl) rfl rfl el28 (by decide) q11.1 (ltN 7 c0_TImpl_Geom_len (by decide) q11.2) ?_)
      refine AO.op rfl (AOp.loadEpN rfl rfl (ltb rfl) rfl agg30 size30 (leN 7 c0_TImpl_Geom_len q11.2) ((atN 7 c0_TImpl_Geom_len q11.2).trans (c0_TImpl_Geom_eq x10)) ?_)
      refine AO.op rfl (AOp.alloc rfl rfl (ltb rfl) zero30 rfl ?_)
      refine AO.op rfl (AOp.store rfl rfl rfl rfl size30 rfl rfl rfl (leb rfl) ?_)
      refine AO.nil ?_
      change AC _ _ _ _
      refine AC.region ?_
      refine AO.op rfl (AOp.move rfl rfl (ltb rfl) rfl ?_)
      refine AO.op rfl (AOp.loadN rfl rfl (ltb rfl) rfl agg30 size30 rfl (leb rfl) rfl ?_)
      obtain ⟨y12, q13, h1⟩ := bind_elim h1
      refine AO.op rfl (AOp.callD rfl rfl (ltb rfl) rfl rfl (hR x10 y12 q13) ?_)
      rintro _ rfl
      obtain ⟨y14, q15, h1⟩ := bind_elim h1
      refine AO.op rfl (AOp.callD rfl rfl (ltb rfl) rfl rfl (w_Cover g6.1 y12 y14 q15) ?_)
      rintro _ rfl
      refine AO.op rfl (AOp.assign rfl rfl (ltb rfl) rfl ?_)
      refine AO.nil ?_
      change AC _ _ _ _
      refine AC.region ?_
      obtain ⟨q16, h1⟩ := need_elim h1
      refine AO.op rfl (AOp.iadd rfl rfl (ltb rfl) rfl rfl rfl q16.1 q16.2 ?_)
      refine AO.op rfl (AOp.move rfl rfl (ltb rfl) rfl ?_)
      refine AO.nil ?_
      exact ⟨(y14, (g6.2 + (1 : Int))), _, rfl, (LeL.refl _), rfl, rfl, h1⟩
    replace h1 := cF h1 q9
    refine AC.exit ?_
    obtain rfl := Option.some.inj h1
    exact ⟨g6.1, _, rfl, (LeL.refl _), rfl, rfl, aftL h0⟩
  intro g5 h0
  unfold p_LayoutOf_k2 at h0
  change AC _ _ _ _
  refine AC.seq ?_
  refine AC.region ?_
  refine AO.op rfl (AOp.move rfl rfl (ltb rfl) rfl ?_)
  refine AO.op rfl (AOp.assign rfl rfl (ltb rfl) rfl ?_)
  refine AO.nil ?_
  change AC _ _ _ _
  refine AC.ret ?_
  change RetQ _ _ _ .ret _
  obtain rfl := Option.some.inj h0
  refine retq rfl rfl
theorem w_LayoutOf : ∀ (F : Nat) (a0 : TImpl_Geom) (r0 : Int), p_LayoutOf F a0 = some r0 → FnD Try.prog 75 [e_TImpl_Geom a0] (fun r => r = di .i64 r0)
  | 0, _, _, h => by cases h
  | F + 1, a0, r0, h => w_LayoutOf_b _ (fun a0 r0 h => w_LayoutOf F a0 r0 h) F a0 r0 h

set_option maxRecDepth 100000 in
set_option maxHeartbeats 1000000 in
/-- pub-orthodrome/spec.goodEnds -/
theorem w_goodEnds (F : Nat) (a0 : (List Int)) (a1 : Int) (a2 : Int) (a3 : Bool) (r0 : (Int × Bool)) (h0 : p_goodEnds F a0 a1 a2 a3 = some r0) : FnD Try.prog 76 [eS2 a0, di .i64 a1, di .i64 a2, dbool a3] (fun r => r = .tu [di .i64 r0.1, dbool r0.2]) := by
  refine FnD.of (by kernel_rfl) Try.func76 rfl Try.ntmps76 rfl (leb rfl) fun W ok => ?_
  unfold p_goodEnds at h0
  refine AC.seq ?_
  refine AC.region ?_
  refine AO.op rfl (AOp.assign rfl rfl (ltb rfl) rfl ?_)
  refine AO.op rfl (AOp.assign rfl rfl (ltb rfl) rfl ?_)
  refine AO.nil ?_
  change AC _ _ _ _
  refine AC.seq ?_
  refine AC.seq ?_
  refine AC.region ?_
  refine AO.op rfl (AOp.move rfl rfl (ltb rfl) rfl ?_)
  refine AO.op rfl (AOp.lenDs (n := a0.length) (cells := (List.map keS2 a0)) rfl rfl (ltb rfl) rfl el26 (by decide) (len1 _ _) ?_)
  refine AO.op rfl (AOp.move rfl rfl (ltb rfl) rfl ?_)
  refine AO.nil ?_
  change AC _ _ _ _
  obtain ⟨o1, l2, h0⟩ := bind_elim h0
  refine AC.joinE (V := Int) [] [1] 0 (fun g3 => [(1, .d (di .i64 g3))]) (fun g3 => []) (fun g3 => p_goodEnds_k1 g3 = some r0) rfl ?_ ?_
  · refine AC.block ?_
    refine AC.loopP (V := (Int × Int)) (p_goodEnds_l2 a0 a2 a3) o1 [2, 3, 12, 13] [1, 14] 0 (fun g4 => [(1, .d (di .i64 g4.1)), (14, .d (di .i64 g4.2))]) (fun g4 => []) F (a1, (0 : Int)) l2 rfl rfl (LeL.refl _) rfl rfl ?_
    intro n6 g4 h1
    unfold p_goodEnds_l2 at h1
    refine AC.seq ?_
    refine AC.region ?_
    refine AO.op rfl (AOp.ilss rfl rfl (ltb rfl) rfl rfl ?_)
    refine AO.nil ?_
    change AC _ _ _ _
    refine AC.seq ?_
    refine AC.cond rfl (fun q7 => ?_) (fun q7 => ?_)
    · replace h1 := cT h1 q7
      refine AC.skip ?_
      change AC _ _ _ _
      refine AC.seq ?_
      refine AC.block ?_
      refine AC.seq ?_
      refine AC.region ?_
      obtain ⟨x8, q9, h1⟩ := idx_elim h1
      refine AO.op rfl (AOp.indexDs (cells := (List.map keS2 a0)) rfl rfl (ltb rfl) rfl rfl el26 (by decide) q9.1 (lt1 q9.2) ?_)
      refine AO.op rfl (AOp.loadEp rfl rfl (ltb rfl) rfl agg3 (at1 q9.2) ?_)
      refine AO.op rfl (AOp.assign rfl rfl (ltb rfl) rfl ?_)
      refine AO.nil ?_
      change AC _ _ _ _
      refine AC.seq ?_
      refine AC.joinP (V := Bool) [1, 2, 3, 11, 12, 13, 14] [38] 0 (fun g10 => [(38, .d (dbool g10))]) (fun g10 => []) (fun g10 => (p_goodEnds_k3 g4 (iter (p_goodEnds_l2 a0 a2 a3) n6) x8) g10 = some o1) rfl ?_ ?_
      · refine AC.region ?_
        refine AO.op rfl (AOp.move rfl rfl (ltb rfl) rfl ?_)
        refine AO.op rfl (AOp.move rfl rfl (ltb rfl) rfl ?_)
        refine AO.op rfl (AOp.ilss rfl rfl (ltb rfl) rfl rfl ?_)
        refine AO.op rfl (AOp.move rfl rfl (ltb rfl) rfl ?_)
        refine AO.dec (decide (x8 < g4.1)) (fun q13 => ?_) (fun q13 => ?_)
        · replace h1 := cT h1 q13
          refine AO.guardN rfl rfl rfl (ltb rfl) rfl q13 ?_
          refine AO.guardN rfl rfl rfl (ltb rfl) rfl q13 ?_
          refine AO.guardN rfl rfl rfl (ltb rfl) rfl q13 ?_
          refine AO.guardN rfl rfl rfl (ltb rfl) rfl q13 ?_
          refine AO.guardN rfl rfl rfl (ltb rfl) rfl q13 ?_
          refine AO.guardN rfl rfl rfl (ltb rfl) rfl q13 ?_
          refine AO.op rfl (AOp.pick rfl rfl (ltb rfl) rfl q13 rfl ?_)
          refine AO.op rfl (AOp.move rfl rfl (ltb rfl) rfl ?_)
          refine AO.guardN rfl rfl rfl (ltb rfl) rfl rfl ?_
          refine AO.guardN rfl rfl rfl (ltb rfl) rfl rfl ?_
          refine AO.guardU rfl rfl rfl (ltb rfl) rfl ?_
          refine AO.guardU rfl rfl rfl (ltb rfl) rfl ?_
          refine AO.guardU rfl rfl rfl (ltb rfl) rfl ?_
          refine AO.guardU rfl rfl rfl (ltb rfl) rfl ?_
          refine AO.guardU rfl rfl rfl (ltb rfl) rfl ?_
          refine AO.guardN rfl rfl rfl (ltb rfl) rfl rfl ?_
          refine AO.op rfl (AOp.pick rfl rfl (ltb rfl) rfl rfl rfl ?_)
          refine AO.nil ?_
          exact ⟨true, _, rfl, (LeL.refl _), rfl, rfl, h1⟩
        replace h1 := cF h1 q13
        refine AO.guardY rfl rfl rfl q13 (AOp.move rfl rfl (ltb rfl) rfl ?_)
        refine AO.guardY rfl rfl rfl q13 (AOp.move rfl rfl (ltb rfl) rfl ?_)
        obtain ⟨q14, h1⟩ := need_elim h1
        refine AO.guardY rfl rfl rfl q13 (AOp.isub rfl rfl (ltb rfl) rfl rfl rfl q14.1 q14.2 ?_)
        refine AO.guardY rfl rfl rfl q13 (AOp.move rfl rfl (ltb rfl) rfl ?_)
        obtain ⟨q15, h1⟩ := need_elim h1
        refine AO.guardY rfl rfl rfl q13 (AOp.irem rfl rfl (ltb rfl) rfl rfl q15 rfl ?_)
        refine AO.guardY rfl rfl rfl q13 (AOp.ineq rfl rfl (ltb rfl) rfl rfl ?_)
        refine AO.op rfl (AOp.pickN rfl rfl (ltb rfl) rfl q13 rfl ?_)
        refine AO.op rfl (AOp.move rfl rfl (ltb rfl) rfl ?_)
        refine AO.dec (!decide ((Int.tmod (x8 - g4.1) a2) = (0 : Int))) (fun q16 => ?_) (fun q16 => ?_)
        · replace h1 := cT h1 q16
          refine AO.guardN rfl rfl rfl (ltb rfl) rfl q16 ?_
          refine AO.guardN rfl rfl rfl (ltb rfl) rfl q16 ?_
          refine AO.guardU rfl rfl rfl (ltb rfl) rfl ?_
          refine AO.guardU rfl rfl rfl (ltb rfl) rfl ?_
          refine AO.guardU rfl rfl rfl (ltb rfl) rfl ?_
          refine AO.guardU rfl rfl rfl (ltb rfl) rfl ?_
          refine AO.guardU rfl rfl rfl (ltb rfl) rfl ?_
          refine AO.guardN rfl rfl rfl (ltb rfl) rfl q16 ?_
          refine AO.op rfl (AOp.pick rfl rfl (ltb rfl) rfl q16 rfl ?_)
          refine AO.nil ?_
          exact ⟨true, _, rfl, (LeL.refl _), rfl, rfl, h1⟩
        replace h1 := cF h1 q16
        refine AO.guardY rfl rfl rfl q16 (AOp.move rfl rfl (ltb rfl) rfl ?_)
        refine AO.guardY rfl rfl rfl q16 (AOp.move rfl rfl (ltb rfl) rfl ?_)
        refine AO.dec a3 (fun q17 => ?_) (fun q17 => ?_)
        · replace h1 := cT h1 q17
          refine AO.guardY rfl rfl rfl q17 (AOp.move rfl rfl (ltb rfl) rfl ?_)
          refine AO.guardY rfl rfl rfl q17 (AOp.move rfl rfl (ltb rfl) rfl ?_)
          obtain ⟨q18, h1⟩ := need_elim h1
          refine AO.guardY rfl rfl rfl q17 (AOp.isub rfl rfl (ltb rfl) rfl rfl rfl q18.1 q18.2 ?_)
          refine AO.guardY rfl rfl rfl q17 (AOp.move rfl rfl (ltb rfl) rfl ?_)
          refine AO.guardY rfl rfl rfl q17 (AOp.igtr rfl rfl (ltb rfl) rfl rfl ?_)
          refine AO.guardY rfl rfl rfl q16 (AOp.pick rfl rfl (ltb rfl) rfl q17 rfl ?_)
          refine AO.op rfl (AOp.pickN rfl rfl (ltb rfl) rfl q16 rfl ?_)
          refine AO.nil ?_
          exact ⟨(decide (a2 < (x8 - g4.1))), _, rfl, (LeL.refl _), rfl, rfl, h1⟩
        replace h1 := cF h1 q17
        refine AO.guardN rfl rfl rfl (ltb rfl) rfl q17 ?_
        refine AO.guardN rfl rfl rfl (ltb rfl) rfl q17 ?_
        refine AO.guardN rfl rfl rfl (ltb rfl) rfl q17 ?_
        refine AO.guardN rfl rfl rfl (ltb rfl) rfl q17 ?_
        refine AO.guardN rfl rfl rfl (ltb rfl) rfl q17 ?_
        refine AO.guardY rfl rfl rfl q16 (AOp.pickN rfl rfl (ltb rfl) rfl q17 rfl ?_)
        refine AO.op rfl (AOp.pickN rfl rfl (ltb rfl) rfl q16 rfl ?_)
        refine AO.nil ?_
        exact ⟨false, _, rfl, (LeL.refl _), rfl, rfl, h1⟩
      intro g10 h1
      unfold p_goodEnds_k3 at h1
      refine AC.cond rfl (fun q11 => ?_) (fun q11 => ?_)
      · replace h1 := cT h1 q11
        refine AC.seq ?_
        refine AC.region ?_
        refine AO.op rfl (AOp.move rfl rfl (ltb rfl) rfl ?_)
        refine AO.op rfl (AOp.assign rfl rfl (ltb rfl) rfl ?_)
        refine AO.op rfl (AOp.assign rfl rfl (ltb rfl) rfl ?_)
        refine AO.nil ?_
        change AC _ _ _ _
        refine AC.ret ?_
        change RetQ _ _ _ .ret _
        obtain rfl := Option.some.inj h1
        replace h0 := aftR h0
        obtain rfl := Option.some.inj h0
        refine retq rfl rfl
      replace h1 := cF h1 q11
      refine AC.skip ?_
      change AC _ _ _ _
      refine AC.region ?_
      refine AO.op rfl (AOp.move rfl rfl (ltb rfl) rfl ?_)
      refine AO.op rfl (AOp.assign rfl rfl (ltb rfl) rfl ?_)
      refine AO.nil ?_
      change AC _ _ _ _
      refine AC.region ?_
      obtain ⟨q12, h1⟩ := need_elim h1
      refine AO.op rfl (AOp.iadd rfl rfl (ltb rfl) rfl rfl rfl q12.1 q12.2 ?_)
      refine AO.op rfl (AOp.move rfl rfl (ltb rfl) rfl ?_)
      refine AO.nil ?_
      exact ⟨(x8, (g4.2 + (1 : Int))), _, rfl, (LeL.refl _), rfl, rfl, h1⟩
    replace h1 := cF h1 q7
    refine AC.exit ?_
    obtain rfl := Option.some.inj h1
    exact ⟨g4.1, _, rfl, (LeL.refl _), rfl, rfl, aftL h0⟩
  intro g3 h0
  unfold p_goodEnds_k1 at h0
  change AC _ _ _ _
  refine AC.seq ?_
  refine AC.region ?_
  refine AO.op rfl (AOp.move rfl rfl (ltb rfl) rfl ?_)
  refine AO.op rfl (AOp.assign rfl rfl (ltb rfl) rfl ?_)
  refine AO.op rfl (AOp.assign rfl rfl (ltb rfl) rfl ?_)
  refine AO.nil ?_
  change AC _ _ _ _
  refine AC.ret ?_
  change RetQ _ _ _ .ret _
  obtain rfl := Option.some.inj h0
  refine retq rfl rfl

set_option maxRecDepth 100000 in
set_option maxHeartbeats 1000000 in
/-- pub-orthodrome/spec.Good -/
theorem w_Good_b (Rec_ : TImpl_Geom → Option Bool) (hR : ∀ (a0 : TImpl_Geom) (r0 : Bool), Rec_ a0 = some r0 → FnD Try.prog 44 [e_TImpl_Geom a0] (fun r => r = dbool r0)) (F : Nat) (a0 : TImpl_Geom) (r0 : Bool) (h0 : p_Good_b Rec_ F a0 = some r0) : FnD Try.prog 44 [e_TImpl_Geom a0] (fun r => r = dbool r0) := by
  refine FnD.of (by kernel_rfl) Try.func44 rfl Try.ntmps44 rfl (leb rfl) fun W ok => ?_
  unfold p_Good_b at h0
  refine AC.seq ?_
  refine AC.region ?_
  refine AO.op rfl (AOp.box rfl rfl (ltb rfl) rfl rfl ?_)
  refine AO.op rfl (AOp.assign rfl rfl (ltb rfl) rfl ?_)
  refine AO.nil ?_
  change AC _ _ _ _
  refine AC.seq ?_
  refine AC.region ?_
  refine AO.op rfl (AOp.fieldAddr rfl rfl (ltb rfl) rfl fo30_1 ?_)
  refine AO.op rfl (AOp.load1 rfl rfl (ltb rfl) rfl agg3 rfl rfl ?_)
  obtain ⟨y1, q2, h0⟩ := bind_elim h0
  refine AO.op rfl (AOp.callD rfl rfl (ltb rfl) rfl rfl (w_Stride a0.Layout y1 q2) ?_)
  rintro _ rfl
  refine AO.op rfl (AOp.assign rfl rfl (ltb rfl) rfl ?_)
  refine AO.nil ?_
  change AC _ _ _ _
  refine AC.seq ?_
  refine AC.seq ?_
  refine AC.region ?_
  refine AO.op rfl (AOp.fieldAddr rfl rfl (ltb rfl) rfl fo30_0 ?_)
  refine AO.op rfl (AOp.load1 rfl rfl (ltb rfl) rfl agg3 rfl rfl ?_)
  refine AO.op rfl (AOp.ieql rfl rfl (ltb rfl) rfl rfl ?_)
  refine AO.nil ?_
  change AC _ _ _ _
  refine AC.cond rfl (fun q3 => ?_) (fun q3 => ?_)
  · replace h0 := cT h0 q3
    refine AC.seq ?_
    refine AC.seq ?_
    refine AC.region ?_
    refine AO.op rfl (AOp.fieldAddr rfl rfl (ltb rfl) rfl fo30_6 ?_)
    refine AO.op rfl (AOp.load1 rfl rfl (ltb rfl) rfl agg28 rfl rfl ?_)
    refine AO.op rfl (AOp.lenDs (n := a0.Kids.length) (cells := (List.flatMap c0_TImpl_Geom a0.Kids)) rfl rfl (ltb rfl) rfl el28 (by decide) (lenN _ 7 c0_TImpl_Geom_len _) ?_)
    refine AO.op rfl (AOp.move rfl rfl (ltb rfl) rfl ?_)
    refine AO.nil ?_
    change AC _ _ _ _
    obtain ⟨o4, l5, h0⟩ := bind_elim h0
    refine AC.joinE (V := Unit) [1] [] 1 (fun g6 => []) (fun g6 => [.fix 30 [.d (di .i64 a0.Kind), .d (di .i64 a0.Layout), .d (di .i64 a0.SRID), .d (eS1 a0.Flat), .d (eS2 a0.Ends), .d (eS3 a0.Endss), .d (eS0 a0.Kids)]]) (fun g6 => (p_Good_k1 a0) g6 = some r0) rfl ?_ ?_
    · refine AC.block ?_
      refine AC.loopP (V := Int) (p_Good_l3 a0 F Rec_) o4 [1, 20, 21] [22] 1 (fun g9 => [(22, .d (di .i64 g9))]) (fun g9 => [.fix 30 [.d (di .i64 a0.Kind), .d (di .i64 a0.Layout), .d (di .i64 a0.SRID), .d (eS1 a0.Flat), .d (eS2 a0.Ends), .d (eS3 a0.Endss), .d (eS0 a0.Kids)]]) F (0 : Int) l5 rfl rfl (LeL.refl _) rfl rfl ?_
      intro n11 g9 h1
      unfold p_Good_l3 at h1
      refine AC.seq ?_
      refine AC.region ?_
      refine AO.op rfl (AOp.ilss rfl rfl (ltb rfl) rfl rfl ?_)
      refine AO.nil ?_
      change AC _ _ _ _
      refine AC.seq ?_
      refine AC.cond rfl (fun q12 => ?_) (fun q12 => ?_)
      · replace h1 := cT h1 q12
        refine AC.skip ?_
        change AC _ _ _ _
        refine AC.seq ?_
        refine AC.block ?_
        refine AC.seq ?_
        refine AC.region ?_
        obtain ⟨x13, q14, h1⟩ := idx_elim h1
        refine AO.op rfl (AOp.indexDs (cells := (List.flatMap c0_TImpl_Geom a0.Kids)) rfl rfl (ltb rfl) rfl rfl el28 (by decide) q14.1 (ltN 7 c0_TImpl_Geom_len (by decide) q14.2) ?_)
        refine AO.op rfl (AOp.loadEpN rfl rfl (ltb rfl) rfl agg30 size30 (leN 7 c0_TImpl_Geom_len q14.2) ((atN 7 c0_TImpl_Geom_len q14.2).trans (c0_TImpl_Geom_eq x13)) ?_)
        refine AO.op rfl (AOp.alloc rfl rfl (ltb rfl) zero30 rfl ?_)
        refine AO.op rfl (AOp.store rfl rfl rfl rfl size30 rfl rfl rfl (leb rfl) ?_)
        refine AO.nil ?_
        change AC _ _ _ _
        refine AC.seq ?_
        refine AC.draw 15 mixed (by kernel_rfl) ?_
        refine AD.op [5] rfl (by kernel_rfl) rfl rfl (fun _ _ h => AOp.loadN rfl rfl (ltb rfl) rfl agg30 size30 rfl (leb rfl) rfl h) ?_
        obtain ⟨y15, q16, h1⟩ := bind_elim h1
        refine AD.op [26] rfl (by kernel_rfl) rfl rfl (fun _ _ h => AOp.callD rfl rfl (ltb rfl) rfl rfl (hR x13 y15 q16) (by rintro _ rfl; exact h)) ?_
        refine AD.op [27] rfl (by kernel_rfl) rfl rfl (fun _ _ h => AOp.bnot rfl rfl (ltb rfl) rfl h) ?_
        refine AD.op [28] rfl (by kernel_rfl) rfl rfl (fun _ _ h => AOp.move rfl rfl (ltb rfl) rfl h) ?_
        refine AD.dec (!y15) (fun q17 => ?_) (fun q17 => ?_)
        · replace h1 := cT h1 q17
          refine AD.opN rfl rfl rfl (ltb rfl) rfl q17 ?_
          refine AD.opN rfl rfl rfl (ltb rfl) rfl q17 ?_
          refine AD.opN rfl rfl rfl (ltb rfl) rfl q17 ?_
          refine AD.opN rfl rfl rfl (ltb rfl) rfl q17 ?_
          refine AD.opU rfl rfl rfl (ltb rfl) rfl ?_
          refine AD.opU rfl rfl rfl (ltb rfl) rfl ?_
          refine AD.opU rfl rfl rfl (ltb rfl) rfl ?_
          refine AD.opU rfl rfl rfl (ltb rfl) rfl ?_
          refine AD.opU rfl rfl rfl (ltb rfl) rfl ?_
          refine AD.opN rfl rfl rfl (ltb rfl) rfl q17 ?_
          refine AD.op [29, 39] rfl (by kernel_rfl) rfl rfl (fun _ _ h => AOp.pick rfl rfl (ltb rfl) rfl q17 rfl h) ?_
          refine AD.done ?_
          refine AO.nil ?_
          change AC _ _ _ _
          refine AC.condT rfl rfl ?_
          refine AC.seq ?_
          refine AC.region ?_
          refine AO.op rfl (AOp.assign rfl rfl (ltb rfl) rfl ?_)
          refine AO.nil ?_
          change AC _ _ _ _
          refine AC.ret ?_
          change RetQ _ _ _ .ret _
          obtain rfl := Option.some.inj h1
          replace h0 := aftR h0
          obtain rfl := Option.some.inj h0
          refine retq rfl rfl
        replace h1 := cF h1 q17
        refine AD.opY [1, 29] rfl rfl rfl q17 (by kernel_rfl) rfl rfl (fun _ _ h => AOp.fieldAddr rfl rfl (ltb rfl) rfl fo30_1 h) ?_
        refine AD.opY [29, 30] rfl rfl rfl q17 (by kernel_rfl) rfl rfl (fun _ _ h => AOp.load1 rfl rfl (ltb rfl) rfl agg3 rfl rfl h) ?_
        refine AD.opY [29, 31] rfl rfl rfl q17 (by kernel_rfl) rfl rfl (fun _ _ h => AOp.ineq rfl rfl (ltb rfl) rfl rfl h) ?_
        refine AD.opY [29, 32] rfl rfl rfl q17 (by kernel_rfl) rfl rfl (fun _ _ h => AOp.move rfl rfl (ltb rfl) rfl h) ?_
        refine AD.dec (!decide (a0.Layout = (0 : Int))) (fun q18 => ?_) (fun q18 => ?_)
        · replace h1 := cT h1 q18
          refine AD.opY [5, 33] rfl rfl rfl q18 (by kernel_rfl) rfl rfl (fun _ _ h => AOp.loadN rfl rfl (ltb rfl) rfl agg30 size30 rfl (leb rfl) rfl h) ?_
          obtain ⟨y19, q20, h1⟩ := bind_elim h1
          refine AD.opY [33, 34] rfl rfl rfl q18 (by kernel_rfl) rfl rfl (fun _ _ h => AOp.callD rfl rfl (ltb rfl) rfl rfl (w_LayoutOf F x13 y19 q20) (by rintro _ rfl; exact h)) ?_
          refine AD.opY [1, 33] rfl rfl rfl q18 (by kernel_rfl) rfl rfl (fun _ _ h => AOp.fieldAddr rfl rfl (ltb rfl) rfl fo30_1 h) ?_
          refine AD.opY [33, 36] rfl rfl rfl q18 (by kernel_rfl) rfl rfl (fun _ _ h => AOp.load1 rfl rfl (ltb rfl) rfl agg3 rfl rfl h) ?_
          refine AD.opY [33, 35, 37] rfl rfl rfl q18 (by kernel_rfl) rfl rfl (fun _ _ h => AOp.ineq rfl rfl (ltb rfl) rfl rfl h) ?_
          refine AD.opY [29, 33, 38] rfl rfl rfl q17 (by kernel_rfl) rfl rfl (fun _ _ h => AOp.pick rfl rfl (ltb rfl) rfl q18 rfl h) ?_
          refine AD.op [29, 39] rfl (by kernel_rfl) rfl rfl (fun _ _ h => AOp.pickN rfl rfl (ltb rfl) rfl q17 rfl h) ?_
          refine AD.done ?_
          refine AO.nil ?_
          change AC _ _ _ _
          refine AC.cond rfl (fun q21 => ?_) (fun q21 => ?_)
          · replace h1 := cT h1 q21
            refine AC.seq ?_
            refine AC.region ?_
            refine AO.op rfl (AOp.assign rfl rfl (ltb rfl) rfl ?_)
            refine AO.nil ?_
            change AC _ _ _ _
            refine AC.ret ?_
            change RetQ _ _ _ .ret _
            obtain rfl := Option.some.inj h1
            replace h0 := aftR h0
            obtain rfl := Option.some.inj h0
            refine retq rfl rfl
          replace h1 := cF h1 q21
          refine AC.skip ?_
          change AC _ _ _ _
          refine AC.region ?_
          obtain ⟨q22, h1⟩ := need_elim h1
          refine AO.op rfl (AOp.iadd rfl rfl (ltb rfl) rfl rfl rfl q22.1 q22.2 ?_)
          refine AO.op rfl (AOp.move rfl rfl (ltb rfl) rfl ?_)
          refine AO.nil ?_
          exact ⟨(g9 + (1 : Int)), _, rfl, (LeL.refl _), rfl, rfl, h1⟩
        replace h1 := cF h1 q18
        refine AD.opN rfl rfl rfl (ltb rfl) rfl q18 ?_
        refine AD.opN rfl rfl rfl (ltb rfl) rfl q18 ?_
        refine AD.opN rfl rfl rfl (ltb rfl) rfl q18 ?_
        refine AD.opN rfl rfl rfl (ltb rfl) rfl q18 ?_
        refine AD.opN rfl rfl rfl (ltb rfl) rfl q18 ?_
        refine AD.opY [29, 33, 38] rfl rfl rfl q17 (by kernel_rfl) rfl rfl (fun _ _ h => AOp.pickN rfl rfl (ltb rfl) rfl q18 rfl h) ?_
        refine AD.op [29, 39] rfl (by kernel_rfl) rfl rfl (fun _ _ h => AOp.pickN rfl rfl (ltb rfl) rfl q17 rfl h) ?_
        refine AD.done ?_
        refine AO.nil ?_
        change AC _ _ _ _
        refine AC.condF rfl rfl ?_
        refine AC.skip ?_
        change AC _ _ _ _
        refine AC.region ?_
        obtain ⟨q23, h1⟩ := need_elim h1
        refine AO.op rfl (AOp.iadd rfl rfl (ltb rfl) rfl rfl rfl q23.1 q23.2 ?_)
        refine AO.op rfl (AOp.move rfl rfl (ltb rfl) rfl ?_)
        refine AO.nil ?_
        exact ⟨(g9 + (1 : Int)), _, rfl, (LeL.refl _), rfl, rfl, h1⟩
      replace h1 := cF h1 q12
      refine AC.exit ?_
      obtain rfl := Option.some.inj h1
      exact ⟨(), _, rfl, (LeL.refl _), rfl, rfl, aftL h0⟩
    intro g6 h0
    unfold p_Good_k1 at h0
    change AC _ _ _ _
    refine AC.joinP (V := Bool) [] [2] 1 (fun g7 => [(2, .d (dbool g7))]) (fun g7 => [.fix 30 [.d (di .i64 a0.Kind), .d (di .i64 a0.Layout), .d (di .i64 a0.SRID), .d (eS1 a0.Flat), .d (eS2 a0.Ends), .d (eS3 a0.Endss), .d (eS0 a0.Kids)]]) (fun g7 => p_Good_k2 g7 = some r0) rfl ?_ ?_
    · refine AC.region ?_
      refine AO.op rfl (AOp.fieldAddr rfl rfl (ltb rfl) rfl fo30_1 ?_)
      refine AO.op rfl (AOp.load1 rfl rfl (ltb rfl) rfl agg3 rfl rfl ?_)
      refine AO.op rfl (AOp.igeq rfl rfl (ltb rfl) rfl rfl ?_)
      refine AO.op rfl (AOp.move rfl rfl (ltb rfl) rfl ?_)
      refine AO.dec (decide ((0 : Int) ≤ a0.Layout)) (fun q8 => ?_) (fun q8 => ?_)
      · replace h0 := cT h0 q8
        refine AO.guardY rfl rfl rfl q8 (AOp.fieldAddr rfl rfl (ltb rfl) rfl fo30_3 ?_)
        refine AO.guardY rfl rfl rfl q8 (AOp.load1 rfl rfl (ltb rfl) rfl agg25 rfl rfl ?_)
        refine AO.guardY rfl rfl rfl q8 (AOp.lenDs (n := a0.Flat.length) (cells := (List.map keS1 a0.Flat)) rfl rfl (ltb rfl) rfl el25 (by decide) (len1 _ _) ?_)
        refine AO.guardY rfl rfl rfl q8 (AOp.fieldAddr rfl rfl (ltb rfl) rfl fo30_4 ?_)
        refine AO.guardY rfl rfl rfl q8 (AOp.load1 rfl rfl (ltb rfl) rfl agg26 rfl rfl ?_)
        refine AO.guardY rfl rfl rfl q8 (AOp.lenDs (n := a0.Ends.length) (cells := (List.map keS2 a0.Ends)) rfl rfl (ltb rfl) rfl el26 (by decide) (len1 _ _) ?_)
        refine AO.guardY rfl rfl rfl q8 (AOp.iwAdd rfl rfl (ltb rfl) rfl rfl ?_)
        refine AO.guardY rfl rfl rfl q8 (AOp.fieldAddr rfl rfl (ltb rfl) rfl fo30_5 ?_)
        refine AO.guardY rfl rfl rfl q8 (AOp.load1 rfl rfl (ltb rfl) rfl agg27 rfl rfl ?_)
        refine AO.guardY rfl rfl rfl q8 (AOp.lenDs (n := a0.Endss.length) (cells := (List.map keS3 a0.Endss)) rfl rfl (ltb rfl) rfl el27 (by decide) (len1 _ _) ?_)
        refine AO.guardY rfl rfl rfl q8 (AOp.iwAdd rfl rfl (ltb rfl) rfl rfl ?_)
        refine AO.guardY rfl rfl rfl q8 (AOp.ieql rfl rfl (ltb rfl) rfl rfl ?_)
        refine AO.op rfl (AOp.pick rfl rfl (ltb rfl) rfl q8 rfl ?_)
        refine AO.op rfl (AOp.assign rfl rfl (ltb rfl) rfl ?_)
        refine AO.nil ?_
        exact ⟨(decide ((IntKind.i64.wrap ((IntKind.i64.wrap (((a0.Flat.length : Nat) : Int) + ((a0.Ends.length : Nat) : Int))) + ((a0.Endss.length : Nat) : Int))) = (0 : Int))), _, rfl, (LeL.refl _), rfl, rfl, h0⟩
      replace h0 := cF h0 q8
      refine AO.guardN rfl rfl rfl (ltb rfl) rfl q8 ?_
      refine AO.guardN rfl rfl rfl (ltb rfl) rfl q8 ?_
      refine AO.guardN rfl rfl rfl (ltb rfl) rfl q8 ?_
      refine AO.guardN rfl rfl rfl (ltb rfl) rfl q8 ?_
      refine AO.guardN rfl rfl rfl (ltb rfl) rfl q8 ?_
      refine AO.guardN rfl rfl rfl (ltb rfl) rfl q8 ?_
      refine AO.guardN rfl rfl rfl (ltb rfl) rfl q8 ?_
      refine AO.guardN rfl rfl rfl (ltb rfl) rfl q8 ?_
      refine AO.guardN rfl rfl rfl (ltb rfl) rfl q8 ?_
      refine AO.guardN rfl rfl rfl (ltb rfl) rfl q8 ?_
      refine AO.guardN rfl rfl rfl (ltb rfl) rfl q8 ?_
      refine AO.guardN rfl rfl rfl (ltb rfl) rfl q8 ?_
      refine AO.op rfl (AOp.pickN rfl rfl (ltb rfl) rfl q8 rfl ?_)
      refine AO.op rfl (AOp.assign rfl rfl (ltb rfl) rfl ?_)
      refine AO.nil ?_
      exact ⟨false, _, rfl, (LeL.refl _), rfl, rfl, h0⟩
    intro g7 h0
    unfold p_Good_k2 at h0
    refine AC.ret ?_
    change RetQ _ _ _ .ret _
    obtain rfl := Option.some.inj h0
    refine retq rfl rfl
  replace h0 := cF h0 q3
  refine AC.skip ?_
  change AC _ _ _ _
  refine AC.joinP (V := Unit) [1, 3] [] 1 (fun g24 => []) (fun g24 => [.fix 30 [.d (di .i64 a0.Kind), .d (di .i64 a0.Layout), .d (di .i64 a0.SRID), .d (eS1 a0.Flat), .d (eS2 a0.Ends), .d (eS3 a0.Endss), .d (eS0 a0.Kids)]]) (fun g24 => (p_Good_k4 a0 F y1) g24 = some r0) rfl ?_ ?_
  · refine AC.seq ?_
    refine AC.region ?_
    refine AO.op rfl (AOp.move rfl rfl (ltb rfl) rfl ?_)
    refine AO.op rfl (AOp.ieql rfl rfl (ltb rfl) rfl rfl ?_)
    refine AO.op rfl (AOp.move rfl rfl (ltb rfl) rfl ?_)
    refine AO.dec (decide (y1 = (0 : Int))) (fun q54 => ?_) (fun q54 => ?_)
    · replace h0 := cT h0 q54
      refine AO.guardN rfl rfl rfl (ltb rfl) rfl q54 ?_
      refine AO.guardN rfl rfl rfl (ltb rfl) rfl q54 ?_
      refine AO.guardN rfl rfl rfl (ltb rfl) rfl q54 ?_
      refine AO.guardN rfl rfl rfl (ltb rfl) rfl q54 ?_
      refine AO.guardN rfl rfl rfl (ltb rfl) rfl q54 ?_
      refine AO.guardN rfl rfl rfl (ltb rfl) rfl q54 ?_
      refine AO.op rfl (AOp.pick rfl rfl (ltb rfl) rfl q54 rfl ?_)
      refine AO.op rfl (AOp.move rfl rfl (ltb rfl) rfl ?_)
      refine AO.guardN rfl rfl rfl (ltb rfl) rfl rfl ?_
      refine AO.guardN rfl rfl rfl (ltb rfl) rfl rfl ?_
      refine AO.guardN rfl rfl rfl (ltb rfl) rfl rfl ?_
      refine AO.guardN rfl rfl rfl (ltb rfl) rfl rfl ?_
      refine AO.op rfl (AOp.pick rfl rfl (ltb rfl) rfl rfl rfl ?_)
      refine AO.op rfl (AOp.move rfl rfl (ltb rfl) rfl ?_)
      refine AO.guardN rfl rfl rfl (ltb rfl) rfl rfl ?_
      refine AO.guardN rfl rfl rfl (ltb rfl) rfl rfl ?_
      refine AO.guardN rfl rfl rfl (ltb rfl) rfl rfl ?_
      refine AO.guardN rfl rfl rfl (ltb rfl) rfl rfl ?_
      refine AO.guardN rfl rfl rfl (ltb rfl) rfl rfl ?_
      refine AO.guardU rfl rfl rfl (ltb rfl) rfl ?_
      refine AO.guardU rfl rfl rfl (ltb rfl) rfl ?_
      refine AO.guardU rfl rfl rfl (ltb rfl) rfl ?_
      refine AO.guardN rfl rfl rfl (ltb rfl) rfl rfl ?_
      refine AO.op rfl (AOp.pick rfl rfl (ltb rfl) rfl rfl rfl ?_)
      refine AO.nil ?_
      change AC _ _ _ _
      refine AC.condT rfl rfl ?_
      refine AC.seq ?_
      refine AC.region ?_
      refine AO.op rfl (AOp.assign rfl rfl (ltb rfl) rfl ?_)
      refine AO.nil ?_
      change AC _ _ _ _
      refine AC.ret ?_
      change RetQ _ _ _ .ret _
      obtain rfl := Option.some.inj h0
      refine retq rfl rfl
    replace h0 := cF h0 q54
    refine AO.guardY rfl rfl rfl q54 (AOp.fieldAddr rfl rfl (ltb rfl) rfl fo30_3 ?_)
    refine AO.guardY rfl rfl rfl q54 (AOp.load1 rfl rfl (ltb rfl) rfl agg25 rfl rfl ?_)
    refine AO.guardY rfl rfl rfl q54 (AOp.lenDs (n := a0.Flat.length) (cells := (List.map keS1 a0.Flat)) rfl rfl (ltb rfl) rfl el25 (by decide) (len1 _ _) ?_)
    refine AO.guardY rfl rfl rfl q54 (AOp.move rfl rfl (ltb rfl) rfl ?_)
    obtain ⟨q55, h0⟩ := need_elim h0
    refine AO.guardY rfl rfl rfl q54 (AOp.irem rfl rfl (ltb rfl) rfl rfl q55 rfl ?_)
    refine AO.guardY rfl rfl rfl q54 (AOp.ineq rfl rfl (ltb rfl) rfl rfl ?_)
    refine AO.op rfl (AOp.pickN rfl rfl (ltb rfl) rfl q54 rfl ?_)
    refine AO.op rfl (AOp.move rfl rfl (ltb rfl) rfl ?_)
    refine AO.dec (!decide ((Int.tmod ((a0.Flat.length : Nat) : Int) y1) = (0 : Int))) (fun q56 => ?_) (fun q56 => ?_)
    · replace h0 := cT h0 q56
      refine AO.guardN rfl rfl rfl (ltb rfl) rfl q56 ?_
      refine AO.guardN rfl rfl rfl (ltb rfl) rfl q56 ?_
      refine AO.guardN rfl rfl rfl (ltb rfl) rfl q56 ?_
      refine AO.guardN rfl rfl rfl (ltb rfl) rfl q56 ?_
      refine AO.op rfl (AOp.pick rfl rfl (ltb rfl) rfl q56 rfl ?_)
      refine AO.op rfl (AOp.move rfl rfl (ltb rfl) rfl ?_)
      refine AO.guardN rfl rfl rfl (ltb rfl) rfl rfl ?_
      refine AO.guardN rfl rfl rfl (ltb rfl) rfl rfl ?_
      refine AO.guardN rfl rfl rfl (ltb rfl) rfl rfl ?_
      refine AO.guardN rfl rfl rfl (ltb rfl) rfl rfl ?_
      refine AO.guardN rfl rfl rfl (ltb rfl) rfl rfl ?_
      refine AO.guardU rfl rfl rfl (ltb rfl) rfl ?_
      refine AO.guardU rfl rfl rfl (ltb rfl) rfl ?_
      refine AO.guardU rfl rfl rfl (ltb rfl) rfl ?_
      refine AO.guardN rfl rfl rfl (ltb rfl) rfl rfl ?_
      refine AO.op rfl (AOp.pick rfl rfl (ltb rfl) rfl rfl rfl ?_)
      refine AO.nil ?_
      change AC _ _ _ _
      refine AC.condT rfl rfl ?_
      refine AC.seq ?_
      refine AC.region ?_
      refine AO.op rfl (AOp.assign rfl rfl (ltb rfl) rfl ?_)
      refine AO.nil ?_
      change AC _ _ _ _
      refine AC.ret ?_
      change RetQ _ _ _ .ret _
      obtain rfl := Option.some.inj h0
      refine retq rfl rfl
    replace h0 := cF h0 q56
    refine AO.guardY rfl rfl rfl q56 (AOp.fieldAddr rfl rfl (ltb rfl) rfl fo30_6 ?_)
    refine AO.guardY rfl rfl rfl q56 (AOp.load1 rfl rfl (ltb rfl) rfl agg28 rfl rfl ?_)
    refine AO.guardY rfl rfl rfl q56 (AOp.lenDs (n := a0.Kids.length) (cells := (List.flatMap c0_TImpl_Geom a0.Kids)) rfl rfl (ltb rfl) rfl el28 (by decide) (lenN _ 7 c0_TImpl_Geom_len _) ?_)
    refine AO.guardY rfl rfl rfl q56 (AOp.igtr rfl rfl (ltb rfl) rfl rfl ?_)
    refine AO.op rfl (AOp.pickN rfl rfl (ltb rfl) rfl q56 rfl ?_)
    refine AO.op rfl (AOp.move rfl rfl (ltb rfl) rfl ?_)
    refine AO.dec (decide ((0 : Int) < ((a0.Kids.length : Nat) : Int))) (fun q57 => ?_) (fun q57 => ?_)
    · replace h0 := cT h0 q57
      refine AO.guardN rfl rfl rfl (ltb rfl) rfl q57 ?_
      refine AO.guardN rfl rfl rfl (ltb rfl) rfl q57 ?_
      refine AO.guardN rfl rfl rfl (ltb rfl) rfl q57 ?_
      refine AO.guardN rfl rfl rfl (ltb rfl) rfl q57 ?_
      refine AO.guardN rfl rfl rfl (ltb rfl) rfl q57 ?_
      refine AO.guardU rfl rfl rfl (ltb rfl) rfl ?_
      refine AO.guardU rfl rfl rfl (ltb rfl) rfl ?_
      refine AO.guardU rfl rfl rfl (ltb rfl) rfl ?_
      refine AO.guardN rfl rfl rfl (ltb rfl) rfl q57 ?_
      refine AO.op rfl (AOp.pick rfl rfl (ltb rfl) rfl q57 rfl ?_)
      refine AO.nil ?_
      change AC _ _ _ _
      refine AC.condT rfl rfl ?_
      refine AC.seq ?_
      refine AC.region ?_
      refine AO.op rfl (AOp.assign rfl rfl (ltb rfl) rfl ?_)
      refine AO.nil ?_
      change AC _ _ _ _
      refine AC.ret ?_
      change RetQ _ _ _ .ret _
      obtain rfl := Option.some.inj h0
      refine retq rfl rfl
    replace h0 := cF h0 q57
    refine AO.guardY rfl rfl rfl q57 (AOp.fieldAddr rfl rfl (ltb rfl) rfl fo30_5 ?_)
    refine AO.guardY rfl rfl rfl q57 (AOp.load1 rfl rfl (ltb rfl) rfl agg27 rfl rfl ?_)
    refine AO.guardY rfl rfl rfl q57 (AOp.lenDs (n := a0.Endss.length) (cells := (List.map keS3 a0.Endss)) rfl rfl (ltb rfl) rfl el27 (by decide) (len1 _ _) ?_)
    refine AO.guardY rfl rfl rfl q57 (AOp.igtr rfl rfl (ltb rfl) rfl rfl ?_)
    refine AO.guardY rfl rfl rfl q57 (AOp.move rfl rfl (ltb rfl) rfl ?_)
    refine AO.dec (decide ((0 : Int) < ((a0.Endss.length : Nat) : Int))) (fun q58 => ?_) (fun q58 => ?_)
    · replace h0 := cT h0 q58
      refine AO.guardY rfl rfl rfl q58 (AOp.fieldAddr rfl rfl (ltb rfl) rfl fo30_0 ?_)
      refine AO.guardY rfl rfl rfl q58 (AOp.load1 rfl rfl (ltb rfl) rfl agg3 rfl rfl ?_)
      refine AO.guardY rfl rfl rfl q58 (AOp.ineq rfl rfl (ltb rfl) rfl rfl ?_)
      refine AO.guardY rfl rfl rfl q57 (AOp.pick rfl rfl (ltb rfl) rfl q58 rfl ?_)
      refine AO.op rfl (AOp.pickN rfl rfl (ltb rfl) rfl q57 rfl ?_)
      refine AO.nil ?_
      change AC _ _ _ _
      refine AC.cond rfl (fun q59 => ?_) (fun q59 => ?_)
      · replace h0 := cT h0 q59
        refine AC.seq ?_
        refine AC.region ?_
        refine AO.op rfl (AOp.assign rfl rfl (ltb rfl) rfl ?_)
        refine AO.nil ?_
        change AC _ _ _ _
        refine AC.ret ?_
        change RetQ _ _ _ .ret _
        obtain rfl := Option.some.inj h0
        refine retq rfl rfl
      replace h0 := cF h0 q59
      refine AC.skip ?_
      exact ⟨(), _, rfl, (LeL.refl _), rfl, rfl, h0⟩
    replace h0 := cF h0 q58
    refine AO.guardN rfl rfl rfl (ltb rfl) rfl q58 ?_
    refine AO.guardN rfl rfl rfl (ltb rfl) rfl q58 ?_
    refine AO.guardN rfl rfl rfl (ltb rfl) rfl q58 ?_
    refine AO.guardY rfl rfl rfl q57 (AOp.pickN rfl rfl (ltb rfl) rfl q58 rfl ?_)
    refine AO.op rfl (AOp.pickN rfl rfl (ltb rfl) rfl q57 rfl ?_)
    refine AO.nil ?_
    change AC _ _ _ _
    refine AC.condF rfl rfl ?_
    refine AC.skip ?_
    exact ⟨(), _, rfl, (LeL.refl _), rfl, rfl, h0⟩
  intro g24 h0
  unfold p_Good_k4 at h0
  refine AC.seq ?_
  refine AC.seq ?_
  refine AC.region ?_
  refine AO.op rfl (AOp.fieldAddr rfl rfl (ltb rfl) rfl fo30_0 ?_)
  refine AO.op rfl (AOp.load1 rfl rfl (ltb rfl) rfl agg3 rfl rfl ?_)
  refine AO.nil ?_
  change AC _ _ _ _
  refine AC.block ?_
  refine AC.seq ?_
  refine AC.region ?_
  refine AO.op rfl (AOp.ieql rfl rfl (ltb rfl) rfl rfl ?_)
  refine AO.op rfl (AOp.assign rfl rfl (ltb rfl) rfl ?_)
  refine AO.nil ?_
  change AC _ _ _ _
  refine AC.cond rfl (fun q25 => ?_) (fun q25 => ?_)
  · replace h0 := cT h0 q25
    refine AC.seq ?_
    refine AC.region ?_
    refine AO.op rfl (AOp.fieldAddr rfl rfl (ltb rfl) rfl fo30_4 ?_)
    refine AO.op rfl (AOp.load1 rfl rfl (ltb rfl) rfl agg26 rfl rfl ?_)
    refine AO.op rfl (AOp.lenDs (n := a0.Ends.length) (cells := (List.map keS2 a0.Ends)) rfl rfl (ltb rfl) rfl el26 (by decide) (len1 _ _) ?_)
    refine AO.op rfl (AOp.ieql rfl rfl (ltb rfl) rfl rfl ?_)
    refine AO.op rfl (AOp.move rfl rfl (ltb rfl) rfl ?_)
    refine AO.dec (decide (((a0.Ends.length : Nat) : Int) = (0 : Int))) (fun q26 => ?_) (fun q26 => ?_)
    · replace h0 := cT h0 q26
      refine AO.guardY rfl rfl rfl q26 (AOp.fieldAddr rfl rfl (ltb rfl) rfl fo30_3 ?_)
      refine AO.guardY rfl rfl rfl q26 (AOp.load1 rfl rfl (ltb rfl) rfl agg25 rfl rfl ?_)
      refine AO.guardY rfl rfl rfl q26 (AOp.lenDs (n := a0.Flat.length) (cells := (List.map keS1 a0.Flat)) rfl rfl (ltb rfl) rfl el25 (by decide) (len1 _ _) ?_)
      refine AO.guardY rfl rfl rfl q26 (AOp.move rfl rfl (ltb rfl) rfl ?_)
      refine AO.guardY rfl rfl rfl q26 (AOp.ileq rfl rfl (ltb rfl) rfl rfl ?_)
      refine AO.op rfl (AOp.pick rfl rfl (ltb rfl) rfl q26 rfl ?_)
      refine AO.op rfl (AOp.assign rfl rfl (ltb rfl) rfl ?_)
      refine AO.nil ?_
      change AC _ _ _ _
      refine AC.ret ?_
      change RetQ _ _ _ .ret _
      obtain rfl := Option.some.inj h0
      refine retq rfl rfl
    replace h0 := cF h0 q26
    refine AO.guardN rfl rfl rfl (ltb rfl) rfl q26 ?_
    refine AO.guardN rfl rfl rfl (ltb rfl) rfl q26 ?_
    refine AO.guardN rfl rfl rfl (ltb rfl) rfl q26 ?_
    refine AO.guardN rfl rfl rfl (ltb rfl) rfl q26 ?_
    refine AO.guardN rfl rfl rfl (ltb rfl) rfl q26 ?_
    refine AO.op rfl (AOp.pickN rfl rfl (ltb rfl) rfl q26 rfl ?_)
    refine AO.op rfl (AOp.assign rfl rfl (ltb rfl) rfl ?_)
    refine AO.nil ?_
    change AC _ _ _ _
    refine AC.ret ?_
    change RetQ _ _ _ .ret _
    obtain rfl := Option.some.inj h0
    refine retq rfl rfl
  replace h0 := cF h0 q25
  refine AC.joinP (V := Bool) [1, 3, 87] [101] 1 (fun g27 => [(101, .d (dbool g27))]) (fun g27 => [.fix 30 [.d (di .i64 a0.Kind), .d (di .i64 a0.Layout), .d (di .i64 a0.SRID), .d (eS1 a0.Flat), .d (eS2 a0.Ends), .d (eS3 a0.Endss), .d (eS0 a0.Kids)]]) (fun g27 => (p_Good_k5 a0 F y1) g27 = some r0) rfl ?_ ?_
  · refine AC.seq ?_
    refine AC.region ?_
    refine AO.op rfl (AOp.ieql rfl rfl (ltb rfl) rfl rfl ?_)
    refine AO.op rfl (AOp.assign rfl rfl (ltb rfl) rfl ?_)
    refine AO.nil ?_
    change AC _ _ _ _
    refine AC.cond rfl (fun q53 => ?_) (fun q53 => ?_)
    · replace h0 := cT h0 q53
      refine AC.skip ?_
      exact ⟨(decide (a0.Kind = (2 : Int))), _, rfl, (LeL.refl _), rfl, rfl, h0⟩
    replace h0 := cF h0 q53
    refine AC.region ?_
    refine AO.op rfl (AOp.ieql rfl rfl (ltb rfl) rfl rfl ?_)
    refine AO.op rfl (AOp.assign rfl rfl (ltb rfl) rfl ?_)
    refine AO.nil ?_
    exact ⟨(decide (a0.Kind = (8 : Int))), _, rfl, (LeL.refl _), rfl, rfl, h0⟩
  intro g27 h0
  unfold p_Good_k5 at h0
  refine AC.cond rfl (fun q28 => ?_) (fun q28 => ?_)
  · replace h0 := cT h0 q28
    refine AC.seq ?_
    refine AC.region ?_
    refine AO.op rfl (AOp.fieldAddr rfl rfl (ltb rfl) rfl fo30_4 ?_)
    refine AO.op rfl (AOp.load1 rfl rfl (ltb rfl) rfl agg26 rfl rfl ?_)
    refine AO.op rfl (AOp.lenDs (n := a0.Ends.length) (cells := (List.map keS2 a0.Ends)) rfl rfl (ltb rfl) rfl el26 (by decide) (len1 _ _) ?_)
    refine AO.op rfl (AOp.ieql rfl rfl (ltb rfl) rfl rfl ?_)
    refine AO.op rfl (AOp.assign rfl rfl (ltb rfl) rfl ?_)
    refine AO.nil ?_
    change AC _ _ _ _
    refine AC.ret ?_
    change RetQ _ _ _ .ret _
    obtain rfl := Option.some.inj h0
    refine retq rfl rfl
  replace h0 := cF h0 q28
  refine AC.joinP (V := Bool) [1, 3, 87] [108] 1 (fun g29 => [(108, .d (dbool g29))]) (fun g29 => [.fix 30 [.d (di .i64 a0.Kind), .d (di .i64 a0.Layout), .d (di .i64 a0.SRID), .d (eS1 a0.Flat), .d (eS2 a0.Ends), .d (eS3 a0.Endss), .d (eS0 a0.Kids)]]) (fun g29 => (p_Good_k6 a0 F y1) g29 = some r0) rfl ?_ ?_
  · refine AC.seq ?_
    refine AC.region ?_
    refine AO.op rfl (AOp.ieql rfl rfl (ltb rfl) rfl rfl ?_)
    refine AO.op rfl (AOp.assign rfl rfl (ltb rfl) rfl ?_)
    refine AO.nil ?_
    change AC _ _ _ _
    refine AC.cond rfl (fun q51 => ?_) (fun q51 => ?_)
    · replace h0 := cT h0 q51
      refine AC.skip ?_
      exact ⟨(decide (a0.Kind = (3 : Int))), _, rfl, (LeL.refl _), rfl, rfl, h0⟩
    replace h0 := cF h0 q51
    refine AC.seq ?_
    refine AC.region ?_
    refine AO.op rfl (AOp.ieql rfl rfl (ltb rfl) rfl rfl ?_)
    refine AO.op rfl (AOp.assign rfl rfl (ltb rfl) rfl ?_)
    refine AO.nil ?_
    change AC _ _ _ _
    refine AC.cond rfl (fun q52 => ?_) (fun q52 => ?_)
    · replace h0 := cT h0 q52
      refine AC.skip ?_
      exact ⟨(decide (a0.Kind = (4 : Int))), _, rfl, (LeL.refl _), rfl, rfl, h0⟩
    replace h0 := cF h0 q52
    refine AC.region ?_
    refine AO.op rfl (AOp.ieql rfl rfl (ltb rfl) rfl rfl ?_)
    refine AO.op rfl (AOp.assign rfl rfl (ltb rfl) rfl ?_)
    refine AO.nil ?_
    exact ⟨(decide (a0.Kind = (5 : Int))), _, rfl, (LeL.refl _), rfl, rfl, h0⟩
  intro g29 h0
  unfold p_Good_k6 at h0
  refine AC.cond rfl (fun q30 => ?_) (fun q30 => ?_)
  · replace h0 := cT h0 q30
    refine AC.seq ?_
    refine AC.region ?_
    refine AO.op rfl (AOp.fieldAddr rfl rfl (ltb rfl) rfl fo30_4 ?_)
    refine AO.op rfl (AOp.load1 rfl rfl (ltb rfl) rfl agg26 rfl rfl ?_)
    refine AO.op rfl (AOp.move rfl rfl (ltb rfl) rfl ?_)
    refine AO.op rfl (AOp.fieldAddr rfl rfl (ltb rfl) rfl fo30_0 ?_)
    refine AO.op rfl (AOp.load1 rfl rfl (ltb rfl) rfl agg3 rfl rfl ?_)
    refine AO.op rfl (AOp.ieql rfl rfl (ltb rfl) rfl rfl ?_)
    obtain ⟨y31, q32, h0⟩ := bind_elim h0
    refine AO.op rfl (AOp.callD rfl rfl (ltb rfl) rfl rfl (w_goodEnds F a0.Ends (0 : Int) y1 (decide (a0.Kind = (4 : Int))) y31 q32) ?_)
    rintro _ rfl
    refine AO.op rfl (AOp.move rfl rfl (ltb rfl) rfl ?_)
    first | refine AO.op rfl (AOp.extractD rfl rfl (ltb rfl) rfl rfl ?_) | refine AO.op rfl (AOp.extract rfl rfl (ltb rfl) rfl rfl ?_)
    first | refine AO.op rfl (AOp.extractD rfl rfl (ltb rfl) rfl rfl ?_) | refine AO.op rfl (AOp.extract rfl rfl (ltb rfl) rfl rfl ?_)
    refine AO.op rfl (AOp.assign rfl rfl (ltb rfl) rfl ?_)
    refine AO.op rfl (AOp.assign rfl rfl (ltb rfl) rfl ?_)
    refine AO.nil ?_
    change AC _ _ _ _
    refine AC.seq ?_
    refine AC.region ?_
    refine AO.op rfl (AOp.move rfl rfl (ltb rfl) rfl ?_)
    refine AO.op rfl (AOp.move rfl rfl (ltb rfl) rfl ?_)
    refine AO.dec y31.2 (fun q33 => ?_) (fun q33 => ?_)
    · replace h0 := cT h0 q33
      refine AO.guardY rfl rfl rfl q33 (AOp.move rfl rfl (ltb rfl) rfl ?_)
      refine AO.guardY rfl rfl rfl q33 (AOp.fieldAddr rfl rfl (ltb rfl) rfl fo30_3 ?_)
      refine AO.guardY rfl rfl rfl q33 (AOp.load1 rfl rfl (ltb rfl) rfl agg25 rfl rfl ?_)
      refine AO.guardY rfl rfl rfl q33 (AOp.lenDs (n := a0.Flat.length) (cells := (List.map keS1 a0.Flat)) rfl rfl (ltb rfl) rfl el25 (by decide) (len1 _ _) ?_)
      refine AO.guardY rfl rfl rfl q33 (AOp.ieql rfl rfl (ltb rfl) rfl rfl ?_)
      refine AO.op rfl (AOp.pick rfl rfl (ltb rfl) rfl q33 rfl ?_)
      refine AO.op rfl (AOp.assign rfl rfl (ltb rfl) rfl ?_)
      refine AO.nil ?_
      change AC _ _ _ _
      refine AC.ret ?_
      change RetQ _ _ _ .ret _
      obtain rfl := Option.some.inj h0
      refine retq rfl rfl
    replace h0 := cF h0 q33
    refine AO.guardN rfl rfl rfl (ltb rfl) rfl q33 ?_
    refine AO.guardN rfl rfl rfl (ltb rfl) rfl q33 ?_
    refine AO.guardN rfl rfl rfl (ltb rfl) rfl q33 ?_
    refine AO.guardN rfl rfl rfl (ltb rfl) rfl q33 ?_
    refine AO.guardN rfl rfl rfl (ltb rfl) rfl q33 ?_
    refine AO.op rfl (AOp.pickN rfl rfl (ltb rfl) rfl q33 rfl ?_)
    refine AO.op rfl (AOp.assign rfl rfl (ltb rfl) rfl ?_)
    refine AO.nil ?_
    change AC _ _ _ _
    refine AC.ret ?_
    change RetQ _ _ _ .ret _
    obtain rfl := Option.some.inj h0
    refine retq rfl rfl
  replace h0 := cF h0 q30
  refine AC.seq ?_
  refine AC.region ?_
  refine AO.op rfl (AOp.ieql rfl rfl (ltb rfl) rfl rfl ?_)
  refine AO.op rfl (AOp.assign rfl rfl (ltb rfl) rfl ?_)
  refine AO.nil ?_
  change AC _ _ _ _
  refine AC.cond rfl (fun q34 => ?_) (fun q34 => ?_)
  · replace h0 := cT h0 q34
    refine AC.seq ?_
    refine AC.region ?_
    refine AO.op rfl (AOp.assign rfl rfl (ltb rfl) rfl ?_)
    refine AO.op rfl (AOp.assign rfl rfl (ltb rfl) rfl ?_)
    refine AO.nil ?_
    change AC _ _ _ _
    refine AC.seq ?_
    refine AC.seq ?_
    refine AC.region ?_
    refine AO.op rfl (AOp.fieldAddr rfl rfl (ltb rfl) rfl fo30_5 ?_)
    refine AO.op rfl (AOp.load1 rfl rfl (ltb rfl) rfl agg27 rfl rfl ?_)
    refine AO.op rfl (AOp.lenDs (n := a0.Endss.length) (cells := (List.map keS3 a0.Endss)) rfl rfl (ltb rfl) rfl el27 (by decide) (len1 _ _) ?_)
    refine AO.op rfl (AOp.move rfl rfl (ltb rfl) rfl ?_)
    refine AO.nil ?_
    change AC _ _ _ _
    obtain ⟨o35, l36, h0⟩ := bind_elim h0
    refine AC.joinE (V := (Int × Bool)) [1] [8, 9] 1 (fun g37 => [(8, .d (di .i64 g37.1)), (9, .d (dbool g37.2))]) (fun g37 => [.fix 30 [.d (di .i64 a0.Kind), .d (di .i64 a0.Layout), .d (di .i64 a0.SRID), .d (eS1 a0.Flat), .d (eS2 a0.Ends), .d (eS3 a0.Endss), .d (eS0 a0.Kids)]]) (fun g37 => (p_Good_k7 a0) g37 = some r0) rfl ?_ ?_
    · refine AC.block ?_
      refine AC.loopP (V := (Int × Bool × Int)) (p_Good_l8 a0 F y1) o35 [1, 3, 133, 134] [8, 9, 135] 1 (fun g40 => [(8, .d (di .i64 g40.1)), (9, .d (dbool g40.2.1)), (135, .d (di .i64 g40.2.2))]) (fun g40 => [.fix 30 [.d (di .i64 a0.Kind), .d (di .i64 a0.Layout), .d (di .i64 a0.SRID), .d (eS1 a0.Flat), .d (eS2 a0.Ends), .d (eS3 a0.Endss), .d (eS0 a0.Kids)]]) F ((0 : Int), true, (0 : Int)) l36 rfl rfl (LeL.refl _) rfl rfl ?_
      intro n42 g40 h1
      unfold p_Good_l8 at h1
      refine AC.seq ?_
      refine AC.region ?_
      refine AO.op rfl (AOp.ilss rfl rfl (ltb rfl) rfl rfl ?_)
      refine AO.nil ?_
      change AC _ _ _ _
      refine AC.seq ?_
      refine AC.cond rfl (fun q43 => ?_) (fun q43 => ?_)
      · replace h1 := cT h1 q43
        refine AC.skip ?_
        change AC _ _ _ _
        refine AC.seq ?_
        refine AC.block ?_
        refine AC.seq ?_
        refine AC.region ?_
        obtain ⟨x44, q45, h1⟩ := idx_elim h1
        refine AO.op rfl (AOp.indexDs (cells := (List.map keS3 a0.Endss)) rfl rfl (ltb rfl) rfl rfl el27 (by decide) q45.1 (lt1 q45.2) ?_)
        refine AO.op rfl (AOp.loadEp rfl rfl (ltb rfl) rfl agg26 (at1 q45.2) ?_)
        refine AO.op rfl (AOp.assign rfl rfl (ltb rfl) rfl ?_)
        refine AO.nil ?_
        change AC _ _ _ _
        refine AC.seq ?_
        refine AC.region ?_
        refine AO.op rfl (AOp.assign rfl rfl (ltb rfl) rfl ?_)
        refine AO.nil ?_
        change AC _ _ _ _
        refine AC.seq ?_
        refine AC.region ?_
        refine AO.op rfl (AOp.move rfl rfl (ltb rfl) rfl ?_)
        refine AO.op rfl (AOp.move rfl rfl (ltb rfl) rfl ?_)
        refine AO.op rfl (AOp.move rfl rfl (ltb rfl) rfl ?_)
        obtain ⟨y46, q47, h1⟩ := bind_elim h1
        refine AO.op rfl (AOp.callD rfl rfl (ltb rfl) rfl rfl (w_goodEnds F x44 g40.1 y1 false y46 q47) ?_)
        rintro _ rfl
        refine AO.op rfl (AOp.move rfl rfl (ltb rfl) rfl ?_)
        first | refine AO.op rfl (AOp.extractD rfl rfl (ltb rfl) rfl rfl ?_) | refine AO.op rfl (AOp.extract rfl rfl (ltb rfl) rfl rfl ?_)
        first | refine AO.op rfl (AOp.extractD rfl rfl (ltb rfl) rfl rfl ?_) | refine AO.op rfl (AOp.extract rfl rfl (ltb rfl) rfl rfl ?_)
        refine AO.op rfl (AOp.assign rfl rfl (ltb rfl) rfl ?_)
        refine AO.op rfl (AOp.assign rfl rfl (ltb rfl) rfl ?_)
        refine AO.nil ?_
        change AC _ _ _ _
        refine AC.region ?_
        refine AO.op rfl (AOp.move rfl rfl (ltb rfl) rfl ?_)
        refine AO.op rfl (AOp.move rfl rfl (ltb rfl) rfl ?_)
        refine AO.dec g40.2.1 (fun q48 => ?_) (fun q48 => ?_)
        · replace h1 := cT h1 q48
          refine AO.guardY rfl rfl rfl q48 (AOp.move rfl rfl (ltb rfl) rfl ?_)
          refine AO.op rfl (AOp.pick rfl rfl (ltb rfl) rfl q48 rfl ?_)
          refine AO.op rfl (AOp.assign rfl rfl (ltb rfl) rfl ?_)
          refine AO.nil ?_
          change AC _ _ _ _
          refine AC.region ?_
          obtain ⟨q49, h1⟩ := need_elim h1
          refine AO.op rfl (AOp.iadd rfl rfl (ltb rfl) rfl rfl rfl q49.1 q49.2 ?_)
          refine AO.op rfl (AOp.move rfl rfl (ltb rfl) rfl ?_)
          refine AO.nil ?_
          exact ⟨(y46.1, y46.2, (g40.2.2 + (1 : Int))), _, rfl, (LeL.refl _), rfl, rfl, h1⟩
        replace h1 := cF h1 q48
        refine AO.guardN rfl rfl rfl (ltb rfl) rfl q48 ?_
        refine AO.op rfl (AOp.pickN rfl rfl (ltb rfl) rfl q48 rfl ?_)
        refine AO.op rfl (AOp.assign rfl rfl (ltb rfl) rfl ?_)
        refine AO.nil ?_
        change AC _ _ _ _
        refine AC.region ?_
        obtain ⟨q50, h1⟩ := need_elim h1
        refine AO.op rfl (AOp.iadd rfl rfl (ltb rfl) rfl rfl rfl q50.1 q50.2 ?_)
        refine AO.op rfl (AOp.move rfl rfl (ltb rfl) rfl ?_)
        refine AO.nil ?_
        exact ⟨(y46.1, false, (g40.2.2 + (1 : Int))), _, rfl, (LeL.refl _), rfl, rfl, h1⟩
      replace h1 := cF h1 q43
      refine AC.exit ?_
      obtain rfl := Option.some.inj h1
      exact ⟨(g40.1, g40.2.1), _, rfl, (LeL.refl _), rfl, rfl, aftL h0⟩
    intro g37 h0
    unfold p_Good_k7 at h0
    change AC _ _ _ _
    refine AC.seq ?_
    refine AC.region ?_
    refine AO.op rfl (AOp.move rfl rfl (ltb rfl) rfl ?_)
    refine AO.op rfl (AOp.move rfl rfl (ltb rfl) rfl ?_)
    refine AO.dec g37.2 (fun q38 => ?_) (fun q38 => ?_)
    · replace h0 := cT h0 q38
      refine AO.guardY rfl rfl rfl q38 (AOp.move rfl rfl (ltb rfl) rfl ?_)
      refine AO.guardY rfl rfl rfl q38 (AOp.fieldAddr rfl rfl (ltb rfl) rfl fo30_3 ?_)
      refine AO.guardY rfl rfl rfl q38 (AOp.load1 rfl rfl (ltb rfl) rfl agg25 rfl rfl ?_)
      refine AO.guardY rfl rfl rfl q38 (AOp.lenDs (n := a0.Flat.length) (cells := (List.map keS1 a0.Flat)) rfl rfl (ltb rfl) rfl el25 (by decide) (len1 _ _) ?_)
      refine AO.guardY rfl rfl rfl q38 (AOp.ieql rfl rfl (ltb rfl) rfl rfl ?_)
      refine AO.op rfl (AOp.pick rfl rfl (ltb rfl) rfl q38 rfl ?_)
      refine AO.op rfl (AOp.move rfl rfl (ltb rfl) rfl ?_)
      refine AO.dec (decide (g37.1 = ((a0.Flat.length : Nat) : Int))) (fun q39 => ?_) (fun q39 => ?_)
      · replace h0 := cT h0 q39
        refine AO.guardY rfl rfl rfl q39 (AOp.fieldAddr rfl rfl (ltb rfl) rfl fo30_4 ?_)
        refine AO.guardY rfl rfl rfl q39 (AOp.load1 rfl rfl (ltb rfl) rfl agg26 rfl rfl ?_)
        refine AO.guardY rfl rfl rfl q39 (AOp.lenDs (n := a0.Ends.length) (cells := (List.map keS2 a0.Ends)) rfl rfl (ltb rfl) rfl el26 (by decide) (len1 _ _) ?_)
        refine AO.guardY rfl rfl rfl q39 (AOp.ieql rfl rfl (ltb rfl) rfl rfl ?_)
        refine AO.op rfl (AOp.pick rfl rfl (ltb rfl) rfl q39 rfl ?_)
        refine AO.op rfl (AOp.assign rfl rfl (ltb rfl) rfl ?_)
        refine AO.nil ?_
        change AC _ _ _ _
        refine AC.ret ?_
        change RetQ _ _ _ .ret _
        obtain rfl := Option.some.inj h0
        refine retq rfl rfl
      replace h0 := cF h0 q39
      refine AO.guardN rfl rfl rfl (ltb rfl) rfl q39 ?_
      refine AO.guardN rfl rfl rfl (ltb rfl) rfl q39 ?_
      refine AO.guardN rfl rfl rfl (ltb rfl) rfl q39 ?_
      refine AO.guardN rfl rfl rfl (ltb rfl) rfl q39 ?_
      refine AO.op rfl (AOp.pickN rfl rfl (ltb rfl) rfl q39 rfl ?_)
      refine AO.op rfl (AOp.assign rfl rfl (ltb rfl) rfl ?_)
      refine AO.nil ?_
      change AC _ _ _ _
      refine AC.ret ?_
      change RetQ _ _ _ .ret _
      obtain rfl := Option.some.inj h0
      refine retq rfl rfl
    replace h0 := cF h0 q38
    refine AO.guardN rfl rfl rfl (ltb rfl) rfl q38 ?_
    refine AO.guardN rfl rfl rfl (ltb rfl) rfl q38 ?_
    refine AO.guardN rfl rfl rfl (ltb rfl) rfl q38 ?_
    refine AO.guardN rfl rfl rfl (ltb rfl) rfl q38 ?_
    refine AO.guardN rfl rfl rfl (ltb rfl) rfl q38 ?_
    refine AO.op rfl (AOp.pickN rfl rfl (ltb rfl) rfl q38 rfl ?_)
    refine AO.op rfl (AOp.move rfl rfl (ltb rfl) rfl ?_)
    refine AO.guardN rfl rfl rfl (ltb rfl) rfl rfl ?_
    refine AO.guardN rfl rfl rfl (ltb rfl) rfl rfl ?_
    refine AO.guardN rfl rfl rfl (ltb rfl) rfl rfl ?_
    refine AO.guardN rfl rfl rfl (ltb rfl) rfl rfl ?_
    refine AO.op rfl (AOp.pickN rfl rfl (ltb rfl) rfl rfl rfl ?_)
    refine AO.op rfl (AOp.assign rfl rfl (ltb rfl) rfl ?_)
    refine AO.nil ?_
    change AC _ _ _ _
    refine AC.ret ?_
    change RetQ _ _ _ .ret _
    obtain rfl := Option.some.inj h0
    refine retq rfl rfl
  replace h0 := cF h0 q34
  refine AC.skip ?_
  change AC _ _ _ _
  refine AC.seq ?_
  refine AC.region ?_
  refine AO.op rfl (AOp.assign rfl rfl (ltb rfl) rfl ?_)
  refine AO.nil ?_
  change AC _ _ _ _
  refine AC.ret ?_
  change RetQ _ _ _ .ret _
  obtain rfl := Option.some.inj h0
  refine retq rfl rfl
theorem w_Good : ∀ (F : Nat) (a0 : TImpl_Geom) (r0 : Bool), p_Good F a0 = some r0 → FnD Try.prog 44 [e_TImpl_Geom a0] (fun r => r = dbool r0)
  | 0, _, _, h => by cases h
  | F + 1, a0, r0, h => w_Good_b _ (fun a0 r0 h => w_Good F a0 r0 h) F a0 r0 h

set_option maxRecDepth 100000 in
set_option maxHeartbeats 1000000 in
/-- pub-orthodrome/laws.gGood -/
theorem w_gGood (F : Nat) (a0 : (List TImpl_Geom)) (r0 : Bool) (h0 : p_gGood F a0 = some r0) : FnD Try.prog 16 [eS0 a0] (fun r => r = dbool r0) := by
  refine FnD.of (by kernel_rfl) Try.func16 rfl Try.ntmps16 rfl (leb rfl) fun W ok => ?_
  unfold p_gGood at h0
  refine AC.seq ?_
  refine AC.region ?_
  refine AO.op rfl (AOp.assign rfl rfl (ltb rfl) rfl ?_)
  refine AO.nil ?_
  change AC _ _ _ _
  refine AC.seq ?_
  refine AC.seq ?_
  refine AC.region ?_
  refine AO.op rfl (AOp.move rfl rfl (ltb rfl) rfl ?_)
  obtain ⟨y1, q2, h0⟩ := bind_elim h0
  refine AO.op rfl (AOp.callD rfl rfl (ltb rfl) rfl rfl (w_gSmall F a0 y1 q2) ?_)
  rintro _ rfl
  refine AO.op rfl (AOp.bnot rfl rfl (ltb rfl) rfl ?_)
  refine AO.nil ?_
  change AC _ _ _ _
  refine AC.cond rfl (fun q3 => ?_) (fun q3 => ?_)
  · replace h0 := cT h0 q3
    refine AC.seq ?_
    refine AC.region ?_
    refine AO.op rfl (AOp.assign rfl rfl (ltb rfl) rfl ?_)
    refine AO.nil ?_
    change AC _ _ _ _
    refine AC.ret ?_
    change RetQ _ _ _ .ret _
    obtain rfl := Option.some.inj h0
    refine retq rfl rfl
  replace h0 := cF h0 q3
  refine AC.skip ?_
  change AC _ _ _ _
  refine AC.seq ?_
  refine AC.seq ?_
  refine AC.region ?_
  refine AO.op rfl (AOp.move rfl rfl (ltb rfl) rfl ?_)
  refine AO.op rfl (AOp.lenDs (n := a0.length) (cells := (List.flatMap c0_TImpl_Geom a0)) rfl rfl (ltb rfl) rfl el28 (by decide) (lenN _ 7 c0_TImpl_Geom_len _) ?_)
  refine AO.op rfl (AOp.move rfl rfl (ltb rfl) rfl ?_)
  refine AO.nil ?_
  change AC _ _ _ _
  obtain ⟨o4, l5, h0⟩ := bind_elim h0
  refine AC.joinE (V := Unit) [] [] 0 (fun g6 => []) (fun g6 => []) (fun g6 => p_gGood_k1 g6 = some r0) rfl ?_ ?_
  · refine AC.block ?_
    refine AC.loopP (V := Int) (p_gGood_l2 a0 F) o4 [8, 9] [10] 0 (fun g7 => [(10, .d (di .i64 g7))]) (fun g7 => []) F (0 : Int) l5 rfl rfl (LeL.refl _) rfl rfl ?_
    intro n9 g7 h1
    unfold p_gGood_l2 at h1
    refine AC.seq ?_
    refine AC.region ?_
    refine AO.op rfl (AOp.ilss rfl rfl (ltb rfl) rfl rfl ?_)
    refine AO.nil ?_
    change AC _ _ _ _
    refine AC.seq ?_
    refine AC.cond rfl (fun q10 => ?_) (fun q10 => ?_)
    · replace h1 := cT h1 q10
      refine AC.skip ?_
      change AC _ _ _ _
      refine AC.seq ?_
      refine AC.block ?_
      refine AC.seq ?_
      refine AC.region ?_
      obtain ⟨x11, q12, h1⟩ := idx_elim h1
      refine AO.op rfl (AOp.indexDs (cells := (List.flatMap c0_TImpl_Geom a0)) rfl rfl (ltb rfl) rfl rfl el28 (by decide) q12.1 (ltN 7 c0_TImpl_Geom_len (by decide) q12.2) ?_)
      refine AO.op rfl (AOp.loadEpN rfl rfl (ltb rfl) rfl agg30 size30 (leN 7 c0_TImpl_Geom_len q12.2) ((atN 7 c0_TImpl_Geom_len q12.2).trans (c0_TImpl_Geom_eq x11)) ?_)
      refine AO.op rfl (AOp.alloc rfl rfl (ltb rfl) zero30 rfl ?_)
      refine AO.op rfl (AOp.store rfl rfl rfl rfl size30 rfl rfl rfl (leb rfl) ?_)
      refine AO.nil ?_
      change AC _ _ _ _
      refine AC.seq ?_
      refine AC.region ?_
      refine AO.op rfl (AOp.loadN rfl rfl (ltb rfl) rfl agg30 size30 rfl (leb rfl) rfl ?_)
      obtain ⟨y13, q14, h1⟩ := bind_elim h1
      refine AO.op rfl (AOp.callD rfl rfl (ltb rfl) rfl rfl (w_Good F x11 y13 q14) ?_)
      rintro _ rfl
      refine AO.op rfl (AOp.bnot rfl rfl (ltb rfl) rfl ?_)
      refine AO.nil ?_
      change AC _ _ _ _
      refine AC.cond rfl (fun q15 => ?_) (fun q15 => ?_)
      · replace h1 := cT h1 q15
        refine AC.seq ?_
        refine AC.region ?_
        refine AO.op rfl (AOp.assign rfl rfl (ltb rfl) rfl ?_)
        refine AO.nil ?_
        change AC _ _ _ _
        refine AC.ret ?_
        change RetQ _ _ _ .ret _
        obtain rfl := Option.some.inj h1
        replace h0 := aftR h0
        obtain rfl := Option.some.inj h0
        refine retq rfl rfl
      replace h1 := cF h1 q15
      refine AC.skip ?_
      change AC _ _ _ _
      refine AC.region ?_
      obtain ⟨q16, h1⟩ := need_elim h1
      refine AO.op rfl (AOp.iadd rfl rfl (ltb rfl) rfl rfl rfl q16.1 q16.2 ?_)
      refine AO.op rfl (AOp.move rfl rfl (ltb rfl) rfl ?_)
      refine AO.nil ?_
      exact ⟨(g7 + (1 : Int)), _, rfl, (LeL.refl _), rfl, rfl, h1⟩
    replace h1 := cF h1 q10
    refine AC.exit ?_
    obtain rfl := Option.some.inj h1
    exact ⟨(), _, rfl, (LeL.refl _), rfl, rfl, aftL h0⟩
  intro g6 h0
  unfold p_gGood_k1 at h0
  change AC _ _ _ _
  refine AC.seq ?_
  refine AC.region ?_
  refine AO.op rfl (AOp.assign rfl rfl (ltb rfl) rfl ?_)
  refine AO.nil ?_
  change AC _ _ _ _
  refine AC.ret ?_
  change RetQ _ _ _ .ret _
  obtain rfl := Option.some.inj h0
  refine retq rfl rfl

set_option maxRecDepth 100000 in
set_option maxHeartbeats 1000000 in
/-- pub-orthodrome/laws.gPlain -/
theorem w_gPlain (F : Nat) (a0 : TImpl_Geom) (r0 : Bool) (h0 : p_gPlain F a0 = some r0) : FnD Try.prog 30 [e_TImpl_Geom a0] (fun r => r = dbool r0) := by
  refine FnD.of (by kernel_rfl) Try.func30 rfl Try.ntmps30 rfl (leb rfl) fun W ok => ?_
  unfold p_gPlain at h0
  refine AC.seq ?_
  refine AC.region ?_
  refine AO.op rfl (AOp.box rfl rfl (ltb rfl) rfl rfl ?_)
  refine AO.op rfl (AOp.assign rfl rfl (ltb rfl) rfl ?_)
  refine AO.nil ?_
  change AC _ _ _ _
  refine AC.seq ?_
  refine AC.region ?_
  refine AO.op rfl (AOp.loadN rfl rfl (ltb rfl) rfl agg30 size30 rfl (leb rfl) rfl ?_)
  refine AO.op rfl (AOp.buildSliceD rfl rfl (ltb rfl) el28 zero30 rfl (leb rfl) rfl rfl rfl rfl (AO.top (y := .d (eS0 [a0])) (SVLe.of_eq (by simp only [eS0, List.flatMap_cons, List.flatMap_nil, c0_TImpl_Geom_eq, List.append_nil] <;> rfl)) ?_))
  obtain ⟨y1, q2, h0⟩ := bind_elim h0
  refine AO.op rfl (AOp.callD rfl rfl (ltb rfl) rfl rfl (w_gGood F [a0] y1 q2) ?_)
  rintro _ rfl
  refine AO.op rfl (AOp.move rfl rfl (ltb rfl) rfl ?_)
  refine AO.dec y1 (fun q3 => ?_) (fun q3 => ?_)
  · replace h0 := cT h0 q3
    refine AO.guardY rfl rfl rfl q3 (AOp.fieldAddr rfl rfl (ltb rfl) rfl fo30_0 ?_)
    refine AO.guardY rfl rfl rfl q3 (AOp.load1 rfl rfl (ltb rfl) rfl agg3 rfl rfl ?_)
    refine AO.guardY rfl rfl rfl q3 (AOp.ineq rfl rfl (ltb rfl) rfl rfl ?_)
    refine AO.op rfl (AOp.pick rfl rfl (ltb rfl) rfl q3 rfl ?_)
    refine AO.op rfl (AOp.assign rfl rfl (ltb rfl) rfl ?_)
    refine AO.nil ?_
    change AC _ _ _ _
    refine AC.ret ?_
    change RetQ _ _ _ .ret _
    obtain rfl := Option.some.inj h0
    refine retq rfl rfl
  replace h0 := cF h0 q3
  refine AO.guardN rfl rfl rfl (ltb rfl) rfl q3 ?_
  refine AO.guardN rfl rfl rfl (ltb rfl) rfl q3 ?_
  refine AO.guardN rfl rfl rfl (ltb rfl) rfl q3 ?_
  refine AO.op rfl (AOp.pickN rfl rfl (ltb rfl) rfl q3 rfl ?_)
  refine AO.op rfl (AOp.assign rfl rfl (ltb rfl) rfl ?_)
  refine AO.nil ?_
  change AC _ _ _ _
  refine AC.ret ?_
  change RetQ _ _ _ .ret _
  obtain rfl := Option.some.inj h0
  refine retq rfl rfl

open Flt (truncD okF inR K20)
def notNan (x : Nat) : Prop := (FloatKind.f64.decode x).isNaN = false
def truncS (x : Nat) (d : Ieee.Datum) : Sem Value :=
  match d with
  | .nan s t =>
    if FloatKind.f64.format.quiet t = t then pure (.float .f64 x) else do
      let kept ← choose (.extern "math.Floor,Ceil,Trunc,RoundToEven.signallingNaN kept" 2)
      pure (.float .f64 (if kept == 1 then x else FloatKind.f64.encode (.nan s (FloatKind.f64.format.quiet t))))
  | d => pure (.float .f64 (FloatKind.f64.encode (d.integral .zero)))
theorem run_trunc (P : Program) (x : Nat) (h : notNan x) (w : World) : (Extern.MathFloor.toIntegral "math.archTrunc" .zero #[.float .f64 x]).run P w = .ok (.float .f64 (truncD x)) w := by
  unfold notNan at h
  have e : Extern.MathFloor.toIntegral "math.archTrunc" .zero #[.float .f64 x] = truncS x (FloatKind.f64.decode x) := rfl
  have e2 : ∀ d : Ieee.Datum, d.isNaN = false → truncS x d = pure (.float .f64 (FloatKind.f64.encode (d.integral .zero))) := by
    intro d hd
    cases d with
    | nan s t => cases hd
    | number s m e => rfl
    | infinity s => rfl
  rw [e, e2 _ h]
  rfl

theorem callTrunc (x : Nat) (h : notNan x) (w : World) : (callFunc 99 #[.float .f64 x]).run Try.prog w = .ok (.value (.float .f64 (truncD x))) w := by
  rw [run_callFunc_extern Try.func99 (by kernel_rfl) (by kernel_rfl) (by kernel_rfl) (e := Extern.MathFloor.toIntegral "math.archTrunc" .zero) (by kernel_rfl), run_trunc Try.prog x h]
  rfl

theorem inR_nn (m x : Nat) (h : fle x m = true) : notNan x := by
  unfold fle at h
  unfold notNan
  unfold Ieee.Format.order at h
  show (Ieee.double.read x).isNaN = false
  generalize Ieee.double.read x = d at *
  cases d with
  | nan s t => simp [Ieee.Datum.order] at h
  | number s m e => rfl
  | infinity s => rfl

set_option maxRecDepth 100000 in
/-- math.Trunc -/
theorem trunc (x : Nat) (h : notNan x) : FnD Try.prog 63 [dfl x] (fun r => r = dfl (truncD x)) := by
  refine FnD.of (by kernel_rfl) Try.func63 rfl Try.ntmps63 rfl (leb rfl) fun W ok => ?_
  refine AC.seq ?_
  refine AC.region ?_
  refine AO.op rfl (AOp.assign rfl rfl (ltb rfl) rfl ?_)
  refine AO.nil ?_
  change AC _ _ _ _
  refine AC.seq ?_
  refine AC.condT rfl rfl ?_
  refine AC.seq ?_
  refine AC.region ?_
  refine AO.op rfl (AOp.move rfl rfl (ltb rfl) rfl ?_)
  refine AO.op rfl (AOp.callX [.float .f64 x] rfl rfl (ltb rfl) rfl (callTrunc x h) ?_)
  refine AO.op rfl (AOp.assign rfl rfl (ltb rfl) rfl ?_)
  refine AO.nil ?_
  change AC _ _ _ _
  refine AC.ret ?_
  change RetQ _ _ _ .ret _
  refine retq rfl ?_
  exact rfl

theorem notNan_of {x : Nat} (h : Flt.isNan x = false) : notNan x := h
theorem callTruncA (x : Nat) (h : Flt.isNan x = true) (w : World) : ∃ r w', (callFunc 99 #[.float .f64 x]).run Try.prog w = .ok (.value r) w' ∧ (w' = w ∨ w' = w.drew) ∧ ∃ z, r = .float .f64 z ∧ Flt.isNan z = true := by
  obtain ⟨r, w', h1, h2, h3⟩ := Flt.run_truncA Try.prog x h w
  refine ⟨r, w', ?_, h2, h3⟩
  rw [run_callFunc_extern Try.func99 (by kernel_rfl) (by kernel_rfl) (by kernel_rfl) (e := Extern.MathFloor.toIntegral "math.archTrunc" .zero) (by kernel_rfl), h1]
  rfl
set_option maxRecDepth 100000 in
theorem truncNN (x : Nat) (h : Flt.isNan x = true) : FnD Try.prog 63 [dfl x] (fun r => ∃ z, r = dfl z ∧ Flt.isNan z = true) := by
  refine FnD.of (by kernel_rfl) Try.func63 rfl Try.ntmps63 rfl (leb rfl) fun W ok => ?_
  refine AC.seq ?_
  refine AC.region ?_
  refine AO.op rfl (AOp.assign rfl rfl (ltb rfl) rfl ?_)
  refine AO.nil ?_
  change AC _ _ _ _
  refine AC.seq ?_
  refine AC.condT rfl rfl ?_
  refine AC.seq ?_
  refine AC.region ?_
  refine AO.op rfl (AOp.move rfl rfl (ltb rfl) rfl ?_)
  refine AO.op rfl (AOp.callXA [.float .f64 x] rfl rfl (ltb rfl) rfl (callTruncA x h) ?_)
  rintro _ ⟨z, rfl, hz⟩
  refine AO.op rfl (AOp.assign rfl rfl (ltb rfl) rfl ?_)
  refine AO.nil ?_
  change AC _ _ _ _
  refine AC.ret ?_
  change RetQ _ _ _ .ret _
  refine retq rfl ?_
  exact ⟨z, rfl, hz⟩

theorem truncA (x : Nat) : FnD Try.prog 63 [dfl x] (fun r => ∃ z, r = dfl z ∧ Flt.TruncR x z) := by
  cases h : Flt.isNan x with
  | false => exact (trunc x h).mono fun r hr => ⟨_, hr, fun _ => rfl, fun h2 => by rw [h] at h2; cases h2⟩
  | true => exact (truncNN x h).mono fun r ⟨z, h1, h2⟩ => ⟨z, h1, fun h3 => by (rw [h] at h3; cases h3), fun _ => h2⟩

set_option maxRecDepth 100000 in
set_option maxHeartbeats 1000000 in
/-- pub-orthodrome/laws.gWhole -/
theorem w_gWhole (a0 : Nat) (r0 : Bool) (h0 : p_gWhole a0 = some r0) : FnD Try.prog 32 [dfl a0] (fun r => r = dbool r0) := by
  refine FnD.of (by kernel_rfl) Try.func32 rfl Try.ntmps32 rfl (leb rfl) fun W ok => ?_
  unfold p_gWhole at h0
  refine AC.seq ?_
  refine AC.region ?_
  refine AO.op rfl (AOp.assign rfl rfl (ltb rfl) rfl ?_)
  refine AO.nil ?_
  change AC _ _ _ _
  refine AC.seq ?_
  refine AC.region ?_
  refine AO.op rfl (AOp.move rfl rfl (ltb rfl) rfl ?_)
  refine AO.op rfl (AOp.fgeq rfl rfl (ltb rfl) rfl rfl ?_)
  refine AO.op rfl (AOp.move rfl rfl (ltb rfl) rfl ?_)
  refine AO.dec (fge a0 (13920626448202203136 : Nat)) (fun q1 => ?_) (fun q1 => ?_)
  · replace h0 := cT h0 q1
    refine AO.guardY rfl rfl rfl q1 (AOp.move rfl rfl (ltb rfl) rfl ?_)
    refine AO.guardY rfl rfl rfl q1 (AOp.fleq rfl rfl (ltb rfl) rfl rfl ?_)
    refine AO.op rfl (AOp.pick rfl rfl (ltb rfl) rfl q1 rfl ?_)
    refine AO.op rfl (AOp.move rfl rfl (ltb rfl) rfl ?_)
    refine AO.dec (fle a0 (4697254411347427328 : Nat)) (fun q2 => ?_) (fun q2 => ?_)
    · replace h0 := cT h0 q2
      refine AO.guardY rfl rfl rfl q2 (AOp.move rfl rfl (ltb rfl) rfl ?_)
      refine AO.guardY rfl rfl rfl q2 (AOp.move rfl rfl (ltb rfl) rfl ?_)
      refine AO.guardY rfl rfl rfl q2 (AOp.callD rfl rfl (ltb rfl) rfl rfl (truncA a0) ?_)
      rintro _ ⟨z3, rfl, hz4⟩
      refine AO.guardY rfl rfl rfl q2 (AOp.feql rfl rfl (ltb rfl) rfl rfl ?_)
      rw [hz4.feq]
      refine AO.op rfl (AOp.pick rfl rfl (ltb rfl) rfl q2 rfl ?_)
      refine AO.op rfl (AOp.assign rfl rfl (ltb rfl) rfl ?_)
      refine AO.nil ?_
      change AC _ _ _ _
      refine AC.ret ?_
      change RetQ _ _ _ .ret _
      obtain rfl := Option.some.inj h0
      refine retq rfl rfl
    replace h0 := cF h0 q2
    refine AO.guardN rfl rfl rfl (ltb rfl) rfl q2 ?_
    refine AO.guardN rfl rfl rfl (ltb rfl) rfl q2 ?_
    refine AO.guardN rfl rfl rfl (ltb rfl) rfl q2 ?_
    refine AO.guardN rfl rfl rfl (ltb rfl) rfl q2 ?_
    refine AO.op rfl (AOp.pickN rfl rfl (ltb rfl) rfl q2 rfl ?_)
    refine AO.op rfl (AOp.assign rfl rfl (ltb rfl) rfl ?_)
    refine AO.nil ?_
    change AC _ _ _ _
    refine AC.ret ?_
    change RetQ _ _ _ .ret _
    obtain rfl := Option.some.inj h0
    refine retq rfl rfl
  replace h0 := cF h0 q1
  refine AO.guardN rfl rfl rfl (ltb rfl) rfl q1 ?_
  refine AO.guardN rfl rfl rfl (ltb rfl) rfl q1 ?_
  refine AO.op rfl (AOp.pickN rfl rfl (ltb rfl) rfl q1 rfl ?_)
  refine AO.op rfl (AOp.move rfl rfl (ltb rfl) rfl ?_)
  refine AO.guardN rfl rfl rfl (ltb rfl) rfl rfl ?_
  refine AO.guardN rfl rfl rfl (ltb rfl) rfl rfl ?_
  refine AO.guardN rfl rfl rfl (ltb rfl) rfl rfl ?_
  refine AO.guardN rfl rfl rfl (ltb rfl) rfl rfl ?_
  refine AO.op rfl (AOp.pickN rfl rfl (ltb rfl) rfl rfl rfl ?_)
  refine AO.op rfl (AOp.assign rfl rfl (ltb rfl) rfl ?_)
  refine AO.nil ?_
  change AC _ _ _ _
  refine AC.ret ?_
  change RetQ _ _ _ .ret _
  obtain rfl := Option.some.inj h0
  refine retq rfl rfl

set_option maxRecDepth 100000 in
set_option maxHeartbeats 1000000 in
/-- pub-orthodrome/laws.gEach -/
theorem w_gEach_b (Rec_ : TImpl_Geom → Option Bool) (hR : ∀ (a0 : TImpl_Geom) (r0 : Bool), Rec_ a0 = some r0 → FnD Try.prog 31 [e_TImpl_Geom a0, .v (.func (.func 32) #[] #[])] (fun r => r = dbool r0)) (F : Nat) (a0 : TImpl_Geom) (r0 : Bool) (h0 : p_gEach_b Rec_ F a0 = some r0) : FnD Try.prog 31 [e_TImpl_Geom a0, .v (.func (.func 32) #[] #[])] (fun r => r = dbool r0) := by
  refine FnD.of (by kernel_rfl) Try.func31 rfl Try.ntmps31 rfl (leb rfl) fun W ok => ?_
  unfold p_gEach_b at h0
  refine AC.seq ?_
  refine AC.region ?_
  refine AO.op rfl (AOp.box rfl rfl (ltb rfl) rfl rfl ?_)
  refine AO.op rfl (AOp.assign rfl rfl (ltb rfl) rfl ?_)
  refine AO.nil ?_
  change AC _ _ _ _
  refine AC.seq ?_
  refine AC.seq ?_
  refine AC.region ?_
  refine AO.op rfl (AOp.fieldAddr rfl rfl (ltb rfl) rfl fo30_3 ?_)
  refine AO.op rfl (AOp.load1 rfl rfl (ltb rfl) rfl agg25 rfl rfl ?_)
  refine AO.op rfl (AOp.lenDs (n := a0.Flat.length) (cells := (List.map keS1 a0.Flat)) rfl rfl (ltb rfl) rfl el25 (by decide) (len1 _ _) ?_)
  refine AO.op rfl (AOp.move rfl rfl (ltb rfl) rfl ?_)
  refine AO.nil ?_
  change AC _ _ _ _
  obtain ⟨o1, l2, h0⟩ := bind_elim h0
  refine AC.joinE (V := Unit) [1, 2] [] 1 (fun g3 => []) (fun g3 => [.fix 30 [.d (di .i64 a0.Kind), .d (di .i64 a0.Layout), .d (di .i64 a0.SRID), .d (eS1 a0.Flat), .d (eS2 a0.Ends), .d (eS3 a0.Endss), .d (eS0 a0.Kids)]]) (fun g3 => (p_gEach_k1 a0 F Rec_) g3 = some r0) rfl ?_ ?_
  · refine AC.block ?_
    refine AC.loopP (V := Int) (p_gEach_l4 a0) o1 [1, 2, 10, 11] [12] 1 (fun g17 => [(12, .d (di .i64 g17))]) (fun g17 => [.fix 30 [.d (di .i64 a0.Kind), .d (di .i64 a0.Layout), .d (di .i64 a0.SRID), .d (eS1 a0.Flat), .d (eS2 a0.Ends), .d (eS3 a0.Endss), .d (eS0 a0.Kids)]]) F (0 : Int) l2 rfl rfl (LeL.refl _) rfl rfl ?_
    intro n19 g17 h1
    unfold p_gEach_l4 at h1
    refine AC.seq ?_
    refine AC.region ?_
    refine AO.op rfl (AOp.ilss rfl rfl (ltb rfl) rfl rfl ?_)
    refine AO.nil ?_
    change AC _ _ _ _
    refine AC.seq ?_
    refine AC.cond rfl (fun q20 => ?_) (fun q20 => ?_)
    · replace h1 := cT h1 q20
      refine AC.skip ?_
      change AC _ _ _ _
      refine AC.seq ?_
      refine AC.block ?_
      refine AC.seq ?_
      refine AC.region ?_
      obtain ⟨x21, q22, h1⟩ := idx_elim h1
      refine AO.op rfl (AOp.indexDs (cells := (List.map keS1 a0.Flat)) rfl rfl (ltb rfl) rfl rfl el25 (by decide) q22.1 (lt1 q22.2) ?_)
      refine AO.op rfl (AOp.loadEp rfl rfl (ltb rfl) rfl agg37 (at1 q22.2) ?_)
      refine AO.op rfl (AOp.assign rfl rfl (ltb rfl) rfl ?_)
      refine AO.nil ?_
      change AC _ _ _ _
      refine AC.seq ?_
      refine AC.region ?_
      refine AO.op rfl (AOp.move rfl rfl (ltb rfl) rfl ?_)
      refine AO.op rfl (AOp.move rfl rfl (ltb rfl) rfl ?_)
      obtain ⟨y23, q24, h1⟩ := bind_elim h1
      refine AO.op rfl (AOp.callF rfl rfl (ltb rfl) rfl rfl rfl (w_gWhole x21 y23 q24) ?_)
      rintro _ rfl
      refine AO.op rfl (AOp.bnot rfl rfl (ltb rfl) rfl ?_)
      refine AO.nil ?_
      change AC _ _ _ _
      refine AC.cond rfl (fun q25 => ?_) (fun q25 => ?_)
      · replace h1 := cT h1 q25
        refine AC.seq ?_
        refine AC.region ?_
        refine AO.op rfl (AOp.assign rfl rfl (ltb rfl) rfl ?_)
        refine AO.nil ?_
        change AC _ _ _ _
        refine AC.ret ?_
        change RetQ _ _ _ .ret _
        obtain rfl := Option.some.inj h1
        replace h0 := aftR h0
        obtain rfl := Option.some.inj h0
        refine retq rfl rfl
      replace h1 := cF h1 q25
      refine AC.skip ?_
      change AC _ _ _ _
      refine AC.region ?_
      obtain ⟨q26, h1⟩ := need_elim h1
      refine AO.op rfl (AOp.iadd rfl rfl (ltb rfl) rfl rfl rfl q26.1 q26.2 ?_)
      refine AO.op rfl (AOp.move rfl rfl (ltb rfl) rfl ?_)
      refine AO.nil ?_
      exact ⟨(g17 + (1 : Int)), _, rfl, (LeL.refl _), rfl, rfl, h1⟩
    replace h1 := cF h1 q20
    refine AC.exit ?_
    obtain rfl := Option.some.inj h1
    exact ⟨(), _, rfl, (LeL.refl _), rfl, rfl, aftL h0⟩
  intro g3 h0
  unfold p_gEach_k1 at h0
  change AC _ _ _ _
  refine AC.seq ?_
  refine AC.seq ?_
  refine AC.region ?_
  refine AO.op rfl (AOp.fieldAddr rfl rfl (ltb rfl) rfl fo30_6 ?_)
  refine AO.op rfl (AOp.load1 rfl rfl (ltb rfl) rfl agg28 rfl rfl ?_)
  refine AO.op rfl (AOp.lenDs (n := a0.Kids.length) (cells := (List.flatMap c0_TImpl_Geom a0.Kids)) rfl rfl (ltb rfl) rfl el28 (by decide) (lenN _ 7 c0_TImpl_Geom_len _) ?_)
  refine AO.op rfl (AOp.move rfl rfl (ltb rfl) rfl ?_)
  refine AO.nil ?_
  change AC _ _ _ _
  obtain ⟨o4, l5, h0⟩ := bind_elim h0
  refine AC.joinE (V := Unit) [] [] 1 (fun g6 => []) (fun g6 => [.fix 30 [.d (di .i64 a0.Kind), .d (di .i64 a0.Layout), .d (di .i64 a0.SRID), .d (eS1 a0.Flat), .d (eS2 a0.Ends), .d (eS3 a0.Endss), .d (eS0 a0.Kids)]]) (fun g6 => p_gEach_k2 g6 = some r0) rfl ?_ ?_
  · refine AC.block ?_
    refine AC.loopP (V := Int) (p_gEach_l3 a0 Rec_) o4 [1, 22, 23] [24] 1 (fun g7 => [(24, .d (di .i64 g7))]) (fun g7 => [.fix 30 [.d (di .i64 a0.Kind), .d (di .i64 a0.Layout), .d (di .i64 a0.SRID), .d (eS1 a0.Flat), .d (eS2 a0.Ends), .d (eS3 a0.Endss), .d (eS0 a0.Kids)]]) F (0 : Int) l5 rfl rfl (LeL.refl _) rfl rfl ?_
    intro n9 g7 h1
    unfold p_gEach_l3 at h1
    refine AC.seq ?_
    refine AC.region ?_
    refine AO.op rfl (AOp.ilss rfl rfl (ltb rfl) rfl rfl ?_)
    refine AO.nil ?_
    change AC _ _ _ _
    refine AC.seq ?_
    refine AC.cond rfl (fun q10 => ?_) (fun q10 => ?_)
    · replace h1 := cT h1 q10
      refine AC.skip ?_
      change AC _ _ _ _
      refine AC.seq ?_
      refine AC.block ?_
      refine AC.seq ?_
      refine AC.region ?_
      obtain ⟨x11, q12, h1⟩ := idx_elim h1
      refine AO.op rfl (AOp.indexDs (cells := (List.flatMap c0_TImpl_Geom a0.Kids)) rfl rfl (ltb rfl) rfl rfl el28 (by decide) q12.1 (ltN 7 c0_TImpl_Geom_len (by decide) q12.2) ?_)
      refine AO.op rfl (AOp.loadEpN rfl rfl (ltb rfl) rfl agg30 size30 (leN 7 c0_TImpl_Geom_len q12.2) ((atN 7 c0_TImpl_Geom_len q12.2).trans (c0_TImpl_Geom_eq x11)) ?_)
      refine AO.op rfl (AOp.alloc rfl rfl (ltb rfl) zero30 rfl ?_)
      refine AO.op rfl (AOp.store rfl rfl rfl rfl size30 rfl rfl rfl (leb rfl) ?_)
      refine AO.nil ?_
      change AC _ _ _ _
      refine AC.seq ?_
      refine AC.region ?_
      refine AO.op rfl (AOp.loadN rfl rfl (ltb rfl) rfl agg30 size30 rfl (leb rfl) rfl ?_)
      refine AO.op rfl (AOp.move rfl rfl (ltb rfl) rfl ?_)
      obtain ⟨y13, q14, h1⟩ := bind_elim h1
      refine AO.op rfl (AOp.callD rfl rfl (ltb rfl) rfl rfl (hR x11 y13 q14) ?_)
      rintro _ rfl
      refine AO.op rfl (AOp.bnot rfl rfl (ltb rfl) rfl ?_)
      refine AO.nil ?_
      change AC _ _ _ _
      refine AC.cond rfl (fun q15 => ?_) (fun q15 => ?_)
      · replace h1 := cT h1 q15
        refine AC.seq ?_
        refine AC.region ?_
        refine AO.op rfl (AOp.assign rfl rfl (ltb rfl) rfl ?_)
        refine AO.nil ?_
        change AC _ _ _ _
        refine AC.ret ?_
        change RetQ _ _ _ .ret _
        obtain rfl := Option.some.inj h1
        replace h0 := aftR h0
        obtain rfl := Option.some.inj h0
        refine retq rfl rfl
      replace h1 := cF h1 q15
      refine AC.skip ?_
      change AC _ _ _ _
      refine AC.region ?_
      obtain ⟨q16, h1⟩ := need_elim h1
      refine AO.op rfl (AOp.iadd rfl rfl (ltb rfl) rfl rfl rfl q16.1 q16.2 ?_)
      refine AO.op rfl (AOp.move rfl rfl (ltb rfl) rfl ?_)
      refine AO.nil ?_
      exact ⟨(g7 + (1 : Int)), _, rfl, (LeL.refl _), rfl, rfl, h1⟩
    replace h1 := cF h1 q10
    refine AC.exit ?_
    obtain rfl := Option.some.inj h1
    exact ⟨(), _, rfl, (LeL.refl _), rfl, rfl, aftL h0⟩
  intro g6 h0
  unfold p_gEach_k2 at h0
  change AC _ _ _ _
  refine AC.seq ?_
  refine AC.region ?_
  refine AO.op rfl (AOp.assign rfl rfl (ltb rfl) rfl ?_)
  refine AO.nil ?_
  change AC _ _ _ _
  refine AC.ret ?_
  change RetQ _ _ _ .ret _
  obtain rfl := Option.some.inj h0
  refine retq rfl rfl
theorem w_gEach : ∀ (F : Nat) (a0 : TImpl_Geom) (r0 : Bool), p_gEach F a0 = some r0 → FnD Try.prog 31 [e_TImpl_Geom a0, .v (.func (.func 32) #[] #[])] (fun r => r = dbool r0)
  | 0, _, _, h => by cases h
  | F + 1, a0, r0, h => w_gEach_b _ (fun a0 r0 h => w_gEach F a0 r0 h) F a0 r0 h

set_option maxRecDepth 100000 in
set_option maxHeartbeats 1000000 in
/-- pub-orthodrome/impl.floats -/
theorem w_floats (a0 : (List Nat)) (r0 : (List Nat)) (h0 : p_floats a0 = some r0) : FnD Try.prog 46 [eS1 a0] (fun r => r = eS1 r0) := by
  refine FnD.of (by kernel_rfl) Try.func46 rfl Try.ntmps46 rfl (leb rfl) fun W ok => ?_
  unfold p_floats at h0
  refine AC.seq ?_
  refine AC.region ?_
  refine AO.op rfl (AOp.assign rfl rfl (ltb rfl) rfl ?_)
  refine AO.nil ?_
  change AC _ _ _ _
  refine AC.seq ?_
  refine AC.region ?_
  refine AO.op rfl (AOp.move rfl rfl (ltb rfl) rfl ?_)
  obtain ⟨q1, h0⟩ := need_elim h0
  refine AO.op rfl (AOp.appendNil (m := a0.length) (news := (List.map keS1 a0)) rfl rfl (ltb rfl) rfl rfl el25 info37 rfl (by decide) (len1 _ _) (one1 _ (fun _ => rfl) _) (small63 q1) (small q1 (by decide)) ?_)
  refine AO.op rfl (AOp.assign rfl rfl (ltb rfl) rfl ?_)
  refine AO.nil ?_
  change AC _ _ _ _
  refine AC.ret ?_
  change RetQ _ _ _ .ret _
  obtain rfl := Option.some.inj h0
  refine retq rfl rfl

set_option maxRecDepth 100000 in
set_option maxHeartbeats 1000000 in
/-- (pub-orthodrome/pub/gogeom.Layout).Stride -/
theorem w_Layout_Stride (a0 : Int) (r0 : Int) (h0 : p_Layout_Stride a0 = some r0) : FnD Try.prog 101 [di .i64 a0] (fun r => r = di .i64 r0) := by
  refine FnD.of (by kernel_rfl) Try.func101 rfl Try.ntmps101 rfl (leb rfl) fun W ok => ?_
  unfold p_Layout_Stride at h0
  refine AC.seq ?_
  refine AC.region ?_
  refine AO.op rfl (AOp.assign rfl rfl (ltb rfl) rfl ?_)
  refine AO.nil ?_
  change AC _ _ _ _
  refine AC.seq ?_
  refine AC.region ?_
  refine AO.op rfl (AOp.move rfl rfl (ltb rfl) rfl ?_)
  refine AO.nil ?_
  change AC _ _ _ _
  refine AC.block ?_
  refine AC.seq ?_
  refine AC.region ?_
  refine AO.op rfl (AOp.ieql rfl rfl (ltb rfl) rfl rfl ?_)
  refine AO.op rfl (AOp.assign rfl rfl (ltb rfl) rfl ?_)
  refine AO.nil ?_
  change AC _ _ _ _
  refine AC.cond rfl (fun q1 => ?_) (fun q1 => ?_)
  · replace h0 := cT h0 q1
    refine AC.seq ?_
    refine AC.region ?_
    refine AO.op rfl (AOp.assign rfl rfl (ltb rfl) rfl ?_)
    refine AO.nil ?_
    change AC _ _ _ _
    refine AC.ret ?_
    change RetQ _ _ _ .ret _
    obtain rfl := Option.some.inj h0
    refine retq rfl rfl
  replace h0 := cF h0 q1
  refine AC.seq ?_
  refine AC.region ?_
  refine AO.op rfl (AOp.ieql rfl rfl (ltb rfl) rfl rfl ?_)
  refine AO.op rfl (AOp.assign rfl rfl (ltb rfl) rfl ?_)
  refine AO.nil ?_
  change AC _ _ _ _
  refine AC.cond rfl (fun q2 => ?_) (fun q2 => ?_)
  · replace h0 := cT h0 q2
    refine AC.seq ?_
    refine AC.region ?_
    refine AO.op rfl (AOp.assign rfl rfl (ltb rfl) rfl ?_)
    refine AO.nil ?_
    change AC _ _ _ _
    refine AC.ret ?_
    change RetQ _ _ _ .ret _
    obtain rfl := Option.some.inj h0
    refine retq rfl rfl
  replace h0 := cF h0 q2
  refine AC.seq ?_
  refine AC.region ?_
  refine AO.op rfl (AOp.ieql rfl rfl (ltb rfl) rfl rfl ?_)
  refine AO.op rfl (AOp.assign rfl rfl (ltb rfl) rfl ?_)
  refine AO.nil ?_
  change AC _ _ _ _
  refine AC.cond rfl (fun q3 => ?_) (fun q3 => ?_)
  · replace h0 := cT h0 q3
    refine AC.seq ?_
    refine AC.region ?_
    refine AO.op rfl (AOp.assign rfl rfl (ltb rfl) rfl ?_)
    refine AO.nil ?_
    change AC _ _ _ _
    refine AC.ret ?_
    change RetQ _ _ _ .ret _
    obtain rfl := Option.some.inj h0
    refine retq rfl rfl
  replace h0 := cF h0 q3
  refine AC.seq ?_
  refine AC.region ?_
  refine AO.op rfl (AOp.ieql rfl rfl (ltb rfl) rfl rfl ?_)
  refine AO.op rfl (AOp.assign rfl rfl (ltb rfl) rfl ?_)
  refine AO.nil ?_
  change AC _ _ _ _
  refine AC.cond rfl (fun q4 => ?_) (fun q4 => ?_)
  · replace h0 := cT h0 q4
    refine AC.seq ?_
    refine AC.region ?_
    refine AO.op rfl (AOp.assign rfl rfl (ltb rfl) rfl ?_)
    refine AO.nil ?_
    change AC _ _ _ _
    refine AC.ret ?_
    change RetQ _ _ _ .ret _
    obtain rfl := Option.some.inj h0
    refine retq rfl rfl
  replace h0 := cF h0 q4
  refine AC.seq ?_
  refine AC.region ?_
  refine AO.op rfl (AOp.ieql rfl rfl (ltb rfl) rfl rfl ?_)
  refine AO.op rfl (AOp.assign rfl rfl (ltb rfl) rfl ?_)
  refine AO.nil ?_
  change AC _ _ _ _
  refine AC.cond rfl (fun q5 => ?_) (fun q5 => ?_)
  · replace h0 := cT h0 q5
    refine AC.seq ?_
    refine AC.region ?_
    refine AO.op rfl (AOp.assign rfl rfl (ltb rfl) rfl ?_)
    refine AO.nil ?_
    change AC _ _ _ _
    refine AC.ret ?_
    change RetQ _ _ _ .ret _
    obtain rfl := Option.some.inj h0
    refine retq rfl rfl
  replace h0 := cF h0 q5
  refine AC.seq ?_
  refine AC.region ?_
  refine AO.op rfl (AOp.move rfl rfl (ltb rfl) rfl ?_)
  refine AO.op rfl (AOp.assign rfl rfl (ltb rfl) rfl ?_)
  refine AO.nil ?_
  change AC _ _ _ _
  refine AC.ret ?_
  change RetQ _ _ _ .ret _
  obtain rfl := Option.some.inj h0
  refine retq rfl rfl

set_option maxRecDepth 100000 in
set_option maxHeartbeats 1000000 in
/-- pub-orthodrome/pub/gogeom.NewLinearRingFlat -/
theorem w_NewLinearRingFlat (a0 : Int) (a1 : (List Nat)) (r0 : TGeom_LinearRing) (h0 : p_NewLinearRingFlat a0 a1 = some r0) : FnD Try.prog 81 [di .i64 a0, eS1 a1] (fun r => r = .pt (c_TGeom_LinearRing r0)) := by
  refine FnD.of (by kernel_rfl) Try.func81 rfl Try.ntmps81 rfl (leb rfl) fun W ok => ?_
  unfold p_NewLinearRingFlat at h0
  refine AC.seq ?_
  refine AC.region ?_
  refine AO.op rfl (AOp.assign rfl rfl (ltb rfl) rfl ?_)
  refine AO.nil ?_
  change AC _ _ _ _
  refine AC.seq ?_
  refine AC.region ?_
  refine AO.op rfl (AOp.alloc rfl rfl (ltb rfl) zero168 rfl ?_)
  refine AO.op rfl (AOp.assign rfl rfl (ltb rfl) rfl ?_)
  refine AO.nil ?_
  change AC _ _ _ _
  refine AC.seq ?_
  refine AC.region ?_
  refine AO.op rfl (AOp.move rfl rfl (ltb rfl) rfl ?_)
  refine AO.op rfl (AOp.move rfl rfl (ltb rfl) rfl ?_)
  refine AO.op rfl (AOp.nilCheck rfl rfl (ltb rfl) rfl rfl ?_)
  refine AO.op rfl (AOp.fieldAddr rfl rfl (ltb rfl) rfl fo168_0 ?_)
  refine AO.op rfl (AOp.fieldAddr rfl rfl (ltb rfl) rfl fo110_0 ?_)
  refine AO.op rfl (AOp.fieldAddr rfl rfl (ltb rfl) rfl fo108_0 ?_)
  refine AO.op rfl (AOp.store rfl rfl rfl rfl size69 rfl rfl rfl (leb rfl) ?_)
  refine AO.nil ?_
  change AC _ _ _ _
  refine AC.seq ?_
  refine AC.region ?_
  refine AO.op rfl (AOp.move rfl rfl (ltb rfl) rfl ?_)
  refine AO.op rfl (AOp.move rfl rfl (ltb rfl) rfl ?_)
  obtain ⟨y1, q2, h0⟩ := bind_elim h0
  refine AO.op rfl (AOp.callD rfl rfl (ltb rfl) rfl rfl (w_Layout_Stride a0 y1 q2) ?_)
  rintro _ rfl
  refine AO.op rfl (AOp.nilCheck rfl rfl (ltb rfl) rfl rfl ?_)
  refine AO.op rfl (AOp.fieldAddr rfl rfl (ltb rfl) rfl fo168_0 ?_)
  refine AO.op rfl (AOp.fieldAddr rfl rfl (ltb rfl) rfl fo110_0 ?_)
  refine AO.op rfl (AOp.fieldAddr rfl rfl (ltb rfl) rfl fo108_1 ?_)
  refine AO.op rfl (AOp.store rfl rfl rfl rfl size3 rfl rfl rfl (leb rfl) ?_)
  refine AO.nil ?_
  change AC _ _ _ _
  refine AC.seq ?_
  refine AC.region ?_
  refine AO.op rfl (AOp.move rfl rfl (ltb rfl) rfl ?_)
  refine AO.op rfl (AOp.move rfl rfl (ltb rfl) rfl ?_)
  refine AO.op rfl (AOp.nilCheck rfl rfl (ltb rfl) rfl rfl ?_)
  refine AO.op rfl (AOp.fieldAddr rfl rfl (ltb rfl) rfl fo168_0 ?_)
  refine AO.op rfl (AOp.fieldAddr rfl rfl (ltb rfl) rfl fo110_0 ?_)
  refine AO.op rfl (AOp.fieldAddr rfl rfl (ltb rfl) rfl fo108_2 ?_)
  refine AO.op rfl (AOp.store rfl rfl rfl rfl size25 rfl rfl rfl (leb rfl) ?_)
  refine AO.nil ?_
  change AC _ _ _ _
  refine AC.seq ?_
  refine AC.region ?_
  refine AO.op rfl (AOp.move rfl rfl (ltb rfl) rfl ?_)
  refine AO.op rfl (AOp.assign rfl rfl (ltb rfl) rfl ?_)
  refine AO.nil ?_
  change AC _ _ _ _
  refine AC.ret ?_
  change RetQ _ _ _ .ret _
  obtain rfl := Option.some.inj h0
  refine retq rfl rfl

set_option maxRecDepth 100000 in
/-- pub-orthodrome/pub/gogeom.NewLinearRingFlat: a new block -/
theorem wa_NewLinearRingFlat (a0 : Int) (a1 : (List Nat)) (r0 : TGeom_LinearRing) (h0 : p_NewLinearRingFlat a0 a1 = some r0) : FnA Try.prog 81 [di .i64 a0, eS1 a1] 168 (fun r => r = c_TGeom_LinearRing r0) := by
  refine FnA.of (by kernel_rfl) Try.func81 rfl Try.ntmps81 rfl (leb rfl) fun W ok => ?_
  unfold p_NewLinearRingFlat at h0
  refine AC.seq ?_
  refine AC.region ?_
  refine AO.op rfl (AOp.assign rfl rfl (ltb rfl) rfl ?_)
  refine AO.nil ?_
  change AC _ _ _ _
  refine AC.seq ?_
  refine AC.region ?_
  refine AO.op rfl (AOp.alloc rfl rfl (ltb rfl) zero168 rfl ?_)
  refine AO.op rfl (AOp.assign rfl rfl (ltb rfl) rfl ?_)
  refine AO.nil ?_
  change AC _ _ _ _
  refine AC.seq ?_
  refine AC.region ?_
  refine AO.op rfl (AOp.move rfl rfl (ltb rfl) rfl ?_)
  refine AO.op rfl (AOp.move rfl rfl (ltb rfl) rfl ?_)
  refine AO.op rfl (AOp.nilCheck rfl rfl (ltb rfl) rfl rfl ?_)
  refine AO.op rfl (AOp.fieldAddr rfl rfl (ltb rfl) rfl fo168_0 ?_)
  refine AO.op rfl (AOp.fieldAddr rfl rfl (ltb rfl) rfl fo110_0 ?_)
  refine AO.op rfl (AOp.fieldAddr rfl rfl (ltb rfl) rfl fo108_0 ?_)
  refine AO.op rfl (AOp.store rfl rfl rfl rfl size69 rfl rfl rfl (leb rfl) ?_)
  refine AO.nil ?_
  change AC _ _ _ _
  refine AC.seq ?_
  refine AC.region ?_
  refine AO.op rfl (AOp.move rfl rfl (ltb rfl) rfl ?_)
  refine AO.op rfl (AOp.move rfl rfl (ltb rfl) rfl ?_)
  obtain ⟨y1, q2, h0⟩ := bind_elim h0
  refine AO.op rfl (AOp.callD rfl rfl (ltb rfl) rfl rfl (w_Layout_Stride a0 y1 q2) ?_)
  rintro _ rfl
  refine AO.op rfl (AOp.nilCheck rfl rfl (ltb rfl) rfl rfl ?_)
  refine AO.op rfl (AOp.fieldAddr rfl rfl (ltb rfl) rfl fo168_0 ?_)
  refine AO.op rfl (AOp.fieldAddr rfl rfl (ltb rfl) rfl fo110_0 ?_)
  refine AO.op rfl (AOp.fieldAddr rfl rfl (ltb rfl) rfl fo108_1 ?_)
  refine AO.op rfl (AOp.store rfl rfl rfl rfl size3 rfl rfl rfl (leb rfl) ?_)
  refine AO.nil ?_
  change AC _ _ _ _
  refine AC.seq ?_
  refine AC.region ?_
  refine AO.op rfl (AOp.move rfl rfl (ltb rfl) rfl ?_)
  refine AO.op rfl (AOp.move rfl rfl (ltb rfl) rfl ?_)
  refine AO.op rfl (AOp.nilCheck rfl rfl (ltb rfl) rfl rfl ?_)
  refine AO.op rfl (AOp.fieldAddr rfl rfl (ltb rfl) rfl fo168_0 ?_)
  refine AO.op rfl (AOp.fieldAddr rfl rfl (ltb rfl) rfl fo110_0 ?_)
  refine AO.op rfl (AOp.fieldAddr rfl rfl (ltb rfl) rfl fo108_2 ?_)
  refine AO.op rfl (AOp.store rfl rfl rfl rfl size25 rfl rfl rfl (leb rfl) ?_)
  refine AO.nil ?_
  change AC _ _ _ _
  refine AC.seq ?_
  refine AC.region ?_
  refine AO.op rfl (AOp.move rfl rfl (ltb rfl) rfl ?_)
  refine AO.op rfl (AOp.assign rfl rfl (ltb rfl) rfl ?_)
  refine AO.nil ?_
  change AC _ _ _ _
  refine AC.ret ?_
  change RetA _ _ _ .ret _
  obtain rfl := Option.some.inj h0
  exact ⟨_, _, _, _, rfl, rfl, rfl, rfl, rfl⟩

set_option maxRecDepth 100000 in
set_option maxHeartbeats 1000000 in
/-- pub-orthodrome/pub/gogeom.doubleArea1 -/
theorem w_doubleArea1 (F : Nat) (a0 : (List Nat)) (a1 : Int) (a2 : Int) (a3 : Int) (r0 : Nat) (h0 : p_doubleArea1 F a0 a1 a2 a3 = some r0) : FnD Try.prog 145 [eS1 a0, di .i64 a1, di .i64 a2, di .i64 a3] (fun r => r = dfl r0) := by
  refine FnD.of (by kernel_rfl) Try.func145 rfl Try.ntmps145 rfl (leb rfl) fun W ok => ?_
  unfold p_doubleArea1 at h0
  refine AC.seq ?_
  refine AC.region ?_
  refine AO.op rfl (AOp.assign rfl rfl (ltb rfl) rfl ?_)
  refine AO.nil ?_
  change AC _ _ _ _
  refine AC.seq ?_
  refine AC.region ?_
  refine AO.op rfl (AOp.assign rfl rfl (ltb rfl) rfl ?_)
  refine AO.nil ?_
  change AC _ _ _ _
  refine AC.seq ?_
  refine AC.seq ?_
  refine AC.region ?_
  refine AO.op rfl (AOp.move rfl rfl (ltb rfl) rfl ?_)
  refine AO.op rfl (AOp.move rfl rfl (ltb rfl) rfl ?_)
  obtain ⟨q1, h0⟩ := need_elim h0
  refine AO.op rfl (AOp.iadd rfl rfl (ltb rfl) rfl rfl rfl q1.1 q1.2 ?_)
  refine AO.op rfl (AOp.assign rfl rfl (ltb rfl) rfl ?_)
  refine AO.nil ?_
  change AC _ _ _ _
  obtain ⟨o2, l3, h0⟩ := bind_elim h0
  refine AC.joinE (V := Nat) [] [9] 0 (fun g4 => [(9, .d (dfl g4))]) (fun g4 => []) (fun g4 => p_doubleArea1_k1 g4 = some r0) rfl ?_ ?_
  · refine AC.block ?_
    refine AC.loopP (V := (Nat × Int)) (p_doubleArea1_l2 a0 a2 a3) o2 [0, 2, 3] [9, 10] 0 (fun g5 => [(9, .d (dfl g5.1)), (10, .d (di .i64 g5.2))]) (fun g5 => []) F ((0 : Nat), (a1 + a3)) l3 rfl rfl (LeL.refl _) rfl rfl ?_
    intro n7 g5 h1
    unfold p_doubleArea1_l2 at h1
    refine AC.seq ?_
    refine AC.seq ?_
    refine AC.region ?_
    refine AO.op rfl (AOp.move rfl rfl (ltb rfl) rfl ?_)
    refine AO.op rfl (AOp.move rfl rfl (ltb rfl) rfl ?_)
    refine AO.op rfl (AOp.ilss rfl rfl (ltb rfl) rfl rfl ?_)
    refine AO.nil ?_
    change AC _ _ _ _
    refine AC.cond rfl (fun q8 => ?_) (fun q8 => ?_)
    · replace h1 := cT h1 q8
      refine AC.skip ?_
      change AC _ _ _ _
      refine AC.seq ?_
      refine AC.block ?_
      refine AC.draw 28 mixed (by kernel_rfl) ?_
      refine AD.op [9] rfl (by kernel_rfl) rfl rfl (fun _ _ h => AOp.move rfl rfl (ltb rfl) rfl h) ?_
      refine AD.op [0] rfl (by kernel_rfl) rfl rfl (fun _ _ h => AOp.move rfl rfl (ltb rfl) rfl h) ?_
      refine AD.op [10] rfl (by kernel_rfl) rfl rfl (fun _ _ h => AOp.move rfl rfl (ltb rfl) rfl h) ?_
      obtain ⟨q9, h1⟩ := need_elim h1
      refine AD.op [22] rfl (by kernel_rfl) rfl rfl (fun _ _ h => AOp.iadd rfl rfl (ltb rfl) rfl rfl rfl q9.1 q9.2 h) ?_
      obtain ⟨x10, q11, h1⟩ := idx_elim h1
      refine AD.op [21, 23] rfl (by kernel_rfl) rfl rfl (fun _ _ h => AOp.indexDs (cells := (List.map keS1 a0)) rfl rfl (ltb rfl) rfl rfl el25 (by decide) q11.1 (lt1 q11.2) h) ?_
      refine AD.op [24] rfl (by kernel_rfl) rfl rfl (fun _ _ h => AOp.loadEp rfl rfl (ltb rfl) rfl agg37 (at1 q11.2) h) ?_
      refine AD.op [0] rfl (by kernel_rfl) rfl rfl (fun _ _ h => AOp.move rfl rfl (ltb rfl) rfl h) ?_
      refine AD.op [10] rfl (by kernel_rfl) rfl rfl (fun _ _ h => AOp.move rfl rfl (ltb rfl) rfl h) ?_
      obtain ⟨q12, h1⟩ := need_elim h1
      refine AD.op [27] rfl (by kernel_rfl) rfl rfl (fun _ _ h => AOp.iadd rfl rfl (ltb rfl) rfl rfl rfl q12.1 q12.2 h) ?_
      refine AD.op [3] rfl (by kernel_rfl) rfl rfl (fun _ _ h => AOp.move rfl rfl (ltb rfl) rfl h) ?_
      obtain ⟨q13, h1⟩ := need_elim h1
      refine AD.op [28, 29] rfl (by kernel_rfl) rfl rfl (fun _ _ h => AOp.isub rfl rfl (ltb rfl) rfl rfl rfl q13.1 q13.2 h) ?_
      obtain ⟨x14, q15, h1⟩ := idx_elim h1
      refine AD.op [26, 30] rfl (by kernel_rfl) rfl rfl (fun _ _ h => AOp.indexDs (cells := (List.map keS1 a0)) rfl rfl (ltb rfl) rfl rfl el25 (by decide) q15.1 (lt1 q15.2) h) ?_
      refine AD.op [31] rfl (by kernel_rfl) rfl rfl (fun _ _ h => AOp.loadEp rfl rfl (ltb rfl) rfl agg37 (at1 q15.2) h) ?_
      obtain ⟨z16, q17, h1⟩ := bind_elim h1
      refine AD.op [25, 32] rfl (by kernel_rfl) rfl rfl (fun _ _ h => AOp.farith rfl rfl (ltb rfl) rfl rfl q17 h) ?_
      refine AD.op [0] rfl (by kernel_rfl) rfl rfl (fun _ _ h => AOp.move rfl rfl (ltb rfl) rfl h) ?_
      refine AD.op [10] rfl (by kernel_rfl) rfl rfl (fun _ _ h => AOp.move rfl rfl (ltb rfl) rfl h) ?_
      obtain ⟨x18, q19, h1⟩ := idx_elim h1
      refine AD.op [34, 35] rfl (by kernel_rfl) rfl rfl (fun _ _ h => AOp.indexDs (cells := (List.map keS1 a0)) rfl rfl (ltb rfl) rfl rfl el25 (by decide) q19.1 (lt1 q19.2) h) ?_
      refine AD.op [36] rfl (by kernel_rfl) rfl rfl (fun _ _ h => AOp.loadEp rfl rfl (ltb rfl) rfl agg37 (at1 q19.2) h) ?_
      refine AD.op [0] rfl (by kernel_rfl) rfl rfl (fun _ _ h => AOp.move rfl rfl (ltb rfl) rfl h) ?_
      refine AD.op [10] rfl (by kernel_rfl) rfl rfl (fun _ _ h => AOp.move rfl rfl (ltb rfl) rfl h) ?_
      refine AD.op [3] rfl (by kernel_rfl) rfl rfl (fun _ _ h => AOp.move rfl rfl (ltb rfl) rfl h) ?_
      obtain ⟨q20, h1⟩ := need_elim h1
      refine AD.op [39, 40] rfl (by kernel_rfl) rfl rfl (fun _ _ h => AOp.isub rfl rfl (ltb rfl) rfl rfl rfl q20.1 q20.2 h) ?_
      obtain ⟨x21, q22, h1⟩ := idx_elim h1
      refine AD.op [38, 41] rfl (by kernel_rfl) rfl rfl (fun _ _ h => AOp.indexDs (cells := (List.map keS1 a0)) rfl rfl (ltb rfl) rfl rfl el25 (by decide) q22.1 (lt1 q22.2) h) ?_
      refine AD.op [42] rfl (by kernel_rfl) rfl rfl (fun _ _ h => AOp.loadEp rfl rfl (ltb rfl) rfl agg37 (at1 q22.2) h) ?_
      obtain ⟨z23, q24, h1⟩ := bind_elim h1
      refine AD.op [37, 43] rfl (by kernel_rfl) rfl rfl (fun _ _ h => AOp.farith rfl rfl (ltb rfl) rfl rfl q24 h) ?_
      obtain ⟨z25, q26, h1⟩ := bind_elim h1
      refine AD.op [33, 44] rfl (by kernel_rfl) rfl rfl (fun _ _ h => AOp.farith rfl rfl (ltb rfl) rfl rfl q26 h) ?_
      obtain ⟨z27, q28, h1⟩ := bind_elim h1
      refine AD.op [20, 45] rfl (by kernel_rfl) rfl rfl (fun _ _ h => AOp.farith rfl rfl (ltb rfl) rfl rfl q28 h) ?_
      refine AD.op [46] rfl (by kernel_rfl) rfl rfl (fun _ _ h => AOp.assign rfl rfl (ltb rfl) rfl h) ?_
      refine AD.done ?_
      refine AO.nil ?_
      change AC _ _ _ _
      refine AC.region ?_
      refine AO.op rfl (AOp.move rfl rfl (ltb rfl) rfl ?_)
      refine AO.op rfl (AOp.move rfl rfl (ltb rfl) rfl ?_)
      obtain ⟨q29, h1⟩ := need_elim h1
      refine AO.op rfl (AOp.iadd rfl rfl (ltb rfl) rfl rfl rfl q29.1 q29.2 ?_)
      refine AO.op rfl (AOp.assign rfl rfl (ltb rfl) rfl ?_)
      refine AO.nil ?_
      exact ⟨(z27, (g5.2 + a3)), _, rfl, (LeL.refl _), rfl, rfl, h1⟩
    replace h1 := cF h1 q8
    refine AC.exit ?_
    obtain rfl := Option.some.inj h1
    exact ⟨g5.1, _, rfl, (LeL.refl _), rfl, rfl, aftL h0⟩
  intro g4 h0
  unfold p_doubleArea1_k1 at h0
  change AC _ _ _ _
  refine AC.seq ?_
  refine AC.region ?_
  refine AO.op rfl (AOp.move rfl rfl (ltb rfl) rfl ?_)
  refine AO.op rfl (AOp.assign rfl rfl (ltb rfl) rfl ?_)
  refine AO.nil ?_
  change AC _ _ _ _
  refine AC.ret ?_
  change RetQ _ _ _ .ret _
  obtain rfl := Option.some.inj h0
  refine retq rfl rfl

set_option maxRecDepth 100000 in
set_option maxHeartbeats 1000000 in
/-- pub-orthodrome/impl.Area -/
theorem w_Area (F : Nat) (a0 : TImpl_Geom) (r0 : (Nat × Bool)) (h0 : p_Area F a0 = some r0) : FnD Try.prog 33 [e_TImpl_Geom a0] (fun r => r = .tu [dfl r0.1, dbool r0.2]) := by
  refine FnD.wrap (g := 64) (m := 2) (fun vs w h => idle64 vs w h) (by kernel_rfl) Try.func33 rfl Try.ntmps33 rfl (leb rfl) fun W ok => ?_
  unfold p_Area at h0
  refine AW.seq ?_
  refine AC.region ?_
  refine AO.op rfl (AOp.box rfl rfl (ltb rfl) rfl rfl ?_)
  refine AO.op rfl (AOp.alloc rfl rfl (ltb rfl) zero37 rfl ?_)
  refine AO.op rfl (AOp.alloc rfl rfl (ltb rfl) zero4 rfl ?_)
  refine AO.nil ?_
  refine ⟨rfl, ?_⟩
  refine AW.defer (caps := [.tmp 2, .tmp 3]) rfl rfl rfl (ltb rfl) rfl rfl rfl rfl (by kernel_rfl) rfl fun df => ?_
  refine AC.seq ?_
  refine AC.region ?_
  refine AO.op rfl (AOp.loadN rfl rfl (ltb rfl) rfl agg30 size30 rfl (leb rfl) rfl ?_)
  refine AO.op rfl (AOp.inl [2, 3] (by kernel_rfl) Try.func47 rfl Try.ntmps47 rfl rfl (ltb rfl) rfl (leb rfl) rfl ?_)
  intro fr1
  refine AC.seq ?_
  refine AC.region ?_
  refine AO.op rfl (AOp.box rfl rfl (ltb rfl) rfl rfl ?_)
  refine AO.op rfl (AOp.assign rfl rfl (ltb rfl) rfl ?_)
  refine AO.nil ?_
  change AC _ _ _ _
  refine AC.seq ?_
  refine AC.draw 7 mixed (by kernel_rfl) ?_
  refine AD.op [1] rfl (by kernel_rfl) rfl rfl (fun _ _ h => AOp.fieldAddr rfl rfl (ltb rfl) rfl fo30_1 h) ?_
  refine AD.op [8] rfl (by kernel_rfl) rfl rfl (fun _ _ h => AOp.load1 rfl rfl (ltb rfl) rfl agg3 rfl rfl h) ?_
  refine AD.op [1] rfl (by kernel_rfl) rfl rfl (fun _ _ h => AOp.fieldAddr rfl rfl (ltb rfl) rfl fo30_3 h) ?_
  refine AD.op [10] rfl (by kernel_rfl) rfl rfl (fun _ _ h => AOp.load1 rfl rfl (ltb rfl) rfl agg25 rfl rfl h) ?_
  obtain ⟨y2, q3, h0⟩ := bind_elim h0
  refine AD.op [11] rfl (by kernel_rfl) rfl rfl (fun _ _ h => AOp.callD rfl rfl (ltb rfl) rfl rfl (w_floats a0.Flat y2 q3) (by rintro _ rfl; exact h)) ?_
  refine AD.op [9] rfl (by kernel_rfl) rfl rfl (fun _ _ h => AOp.assign rfl rfl (ltb rfl) rfl h) ?_
  refine AD.op [12] rfl (by kernel_rfl) rfl rfl (fun _ _ h => AOp.assign rfl rfl (ltb rfl) rfl h) ?_
  refine AD.done ?_
  refine AO.nil ?_
  change AC _ _ _ _
  refine AC.seq ?_
  refine AC.seq ?_
  refine AC.region ?_
  refine AO.op rfl (AOp.fieldAddr rfl rfl (ltb rfl) rfl fo30_0 ?_)
  refine AO.op rfl (AOp.load1 rfl rfl (ltb rfl) rfl agg3 rfl rfl ?_)
  refine AO.nil ?_
  change AC _ _ _ _
  refine AC.block ?_
  refine AC.seq ?_
  refine AC.region ?_
  refine AO.op rfl (AOp.ieql rfl rfl (ltb rfl) rfl rfl ?_)
  refine AO.op rfl (AOp.assign rfl rfl (ltb rfl) rfl ?_)
  refine AO.nil ?_
  change AC _ _ _ _
  refine AC.cond rfl (fun q4 => ?_) (fun q4 => ?_)
  · replace h0 := cT h0 q4
    cases h0
  replace h0 := cF h0 q4
  refine AC.seq ?_
  refine AC.region ?_
  refine AO.op rfl (AOp.ieql rfl rfl (ltb rfl) rfl rfl ?_)
  refine AO.op rfl (AOp.assign rfl rfl (ltb rfl) rfl ?_)
  refine AO.nil ?_
  change AC _ _ _ _
  refine AC.cond rfl (fun q5 => ?_) (fun q5 => ?_)
  · replace h0 := cT h0 q5
    cases h0
  replace h0 := cF h0 q5
  refine AC.seq ?_
  refine AC.region ?_
  refine AO.op rfl (AOp.ieql rfl rfl (ltb rfl) rfl rfl ?_)
  refine AO.op rfl (AOp.assign rfl rfl (ltb rfl) rfl ?_)
  refine AO.nil ?_
  change AC _ _ _ _
  refine AC.cond rfl (fun q6 => ?_) (fun q6 => ?_)
  · replace h0 := cT h0 q6
    refine AC.seq ?_
    refine AC.room ?_
    obtain ⟨y7, q8, h0⟩ := bind_elim h0
    refine AC.drawS [0, 1, 2, 3, 4] [2] [5, 6, 7] (fun L => [.fix 30 [.d (di .i64 a0.Kind), .d (di .i64 a0.Layout), .d (di .i64 a0.SRID), .d (eS1 a0.Flat), .d (eS2 a0.Ends), .d (eS3 a0.Endss), .d (eS0 a0.Kids)], .fix 37 [.d (dfl (0 : Nat))], .fix 4 [.d (dbool false)], .frame fr1 [(2, .ptr 1 0), (3, .ptr 2 0)], .fix 30 [.d (di .i64 a0.Kind), .d (di .i64 a0.Layout), .d (di .i64 a0.SRID), .d (eS1 a0.Flat), .d (eS2 a0.Ends), .d (eS3 a0.Endss), .d (eS0 a0.Kids)], bif L 2 then .fix 168 [.d (di .i64 y7.geom1.geom0.layout), .d (di .i64 y7.geom1.geom0.stride), .d (eS1 y7.geom1.geom0.flatCoords), .d (di .i64 y7.geom1.geom0.srid)] else .dead]) [(2, SV.noO2 5 6)] mixed (by kernel_rfl) (fun L L' h => by simp only [h 2 (by decide)]) rfl ?_
    refine AS.op [3] [] [2] [] rfl rfl rfl (by kernel_rfl) (by kernel_rfl) rfl rfl (fun _ _ _ h => AOp.move rfl rfl (ltb rfl) rfl h) (by kernel_rfl) ?_
    refine AS.op [4] [] [2] [] rfl rfl rfl (by kernel_rfl) (by kernel_rfl) rfl rfl (fun _ _ _ h => AOp.move rfl rfl (ltb rfl) rfl h) (by kernel_rfl) ?_
    refine AS.mid [35, 36] [] [2] [] rfl rfl rfl rfl (by kernel_rfl) (by kernel_rfl) rfl rfl (fun _ _ _ h => AOp.callA rfl rfl (ltb rfl) rfl rfl (wa_NewLinearRingFlat a0.Layout y2 y7 q8) (AO.sink 5 6 rfl rfl rfl (.cons rfl (.cons rfl (.cons rfl (.cons rfl (.cons rfl (.cons (noO2_cond rfl rfl) .nil)))))) rfl h)) (by kernel_rfl) rfl ?_
    refine AS.op [1] [] [] [2] rfl rfl rfl (by kernel_rfl) (by kernel_rfl) rfl rfl (fun _ _ _ h => AOp.fieldAddr rfl rfl (ltb rfl) rfl fo30_2 h) (by kernel_rfl) ?_
    refine AS.op [38] [] [] [2] rfl rfl rfl (by kernel_rfl) (by kernel_rfl) rfl rfl (fun _ _ _ h => AOp.load1 rfl rfl (ltb rfl) rfl agg3 rfl rfl h) (by kernel_rfl) ?_
    refine AS.done ?_
    refine AO.objs (obs' := [.fix 30 [.d (di .i64 a0.Kind), .d (di .i64 a0.Layout), .d (di .i64 a0.SRID), .d (eS1 a0.Flat), .d (eS2 a0.Ends), .d (eS3 a0.Endss), .d (eS0 a0.Kids)], .fix 37 [.d (dfl (0 : Nat))], .fix 4 [.d (dbool false)], .frame fr1 [(2, .ptr 1 0), (3, .ptr 2 0)], .fix 30 [.d (di .i64 a0.Kind), .d (di .i64 a0.Layout), .d (di .i64 a0.SRID), .d (eS1 a0.Flat), .d (eS2 a0.Ends), .d (eS3 a0.Endss), .d (eS0 a0.Kids)], .fix 168 [.d (di .i64 y7.geom1.geom0.layout), .d (di .i64 y7.geom1.geom0.stride), .d (eS1 y7.geom1.geom0.flatCoords), .d (di .i64 y7.geom1.geom0.srid)]]) rfl ?_
    refine AO.op rfl (AOp.inl [2] (by kernel_rfl) Try.func82 rfl Try.ntmps82 rfl rfl (ltb rfl) rfl (leb rfl) rfl ?_)
    intro fr9
    refine AC.seq ?_
    refine AC.region ?_
    refine AO.op rfl (AOp.assign rfl rfl (ltb rfl) rfl ?_)
    refine AO.nil ?_
    change AC _ _ _ _
    refine AC.seq ?_
    refine AC.region ?_
    refine AO.op rfl (AOp.move rfl rfl (ltb rfl) rfl ?_)
    refine AO.op rfl (AOp.move rfl rfl (ltb rfl) rfl ?_)
    refine AO.op rfl (AOp.nilCheck rfl rfl (ltb rfl) rfl rfl ?_)
    refine AO.op rfl (AOp.fieldAddr rfl rfl (ltb rfl) rfl fo168_0 ?_)
    refine AO.op rfl (AOp.fieldAddr rfl rfl (ltb rfl) rfl fo110_0 ?_)
    refine AO.op rfl (AOp.fieldAddr rfl rfl (ltb rfl) rfl fo108_3 ?_)
    refine AO.op rfl (AOp.store rfl rfl rfl rfl size3 rfl rfl rfl (leb rfl) ?_)
    refine AO.nil ?_
    change AC _ _ _ _
    refine AC.seq ?_
    refine AC.region ?_
    refine AO.op rfl (AOp.move rfl rfl (ltb rfl) rfl ?_)
    refine AO.op rfl (AOp.assign rfl rfl (ltb rfl) rfl ?_)
    refine AO.nil ?_
    change AC _ _ _ _
    refine AC.ret ?_
    refine inlret (ob' := [.fix 30 [.d (di .i64 a0.Kind), .d (di .i64 a0.Layout), .d (di .i64 a0.SRID), .d (eS1 a0.Flat), .d (eS2 a0.Ends), .d (eS3 a0.Endss), .d (eS0 a0.Kids)], .fix 37 [.d (dfl (0 : Nat))], .fix 4 [.d (dbool false)], .frame fr1 [(2, .ptr 1 0), (3, .ptr 2 0)], .fix 30 [.d (di .i64 a0.Kind), .d (di .i64 a0.Layout), .d (di .i64 a0.SRID), .d (eS1 a0.Flat), .d (eS2 a0.Ends), .d (eS3 a0.Endss), .d (eS0 a0.Kids)], .fix 168 [.d (di .i64 y7.geom1.geom0.layout), .d (di .i64 y7.geom1.geom0.stride), .d (eS1 y7.geom1.geom0.flatCoords), .d (di .i64 a0.SRID)], .dead]) (e' := [(2, .d (.v (.nilIface)))]) (r := .ptr 5 0) rfl rfl rfl ?_
    change AO _ _ _ _ _
    refine AO.op rfl (AOp.makeIfc rfl rfl (ltb rfl) rfl conc117 ?_)
    refine AO.op rfl (AOp.assign rfl rfl (ltb rfl) rfl ?_)
    refine AO.nil ?_
    change AC _ _ _ _
    refine AC.ret ?_
    refine inlret (ob' := [.fix 30 [.d (di .i64 a0.Kind), .d (di .i64 a0.Layout), .d (di .i64 a0.SRID), .d (eS1 a0.Flat), .d (eS2 a0.Ends), .d (eS3 a0.Endss), .d (eS0 a0.Kids)], .fix 37 [.d (dfl (0 : Nat))], .fix 4 [.d (dbool false)], .dead, .fix 30 [.d (di .i64 a0.Kind), .d (di .i64 a0.Layout), .d (di .i64 a0.SRID), .d (eS1 a0.Flat), .d (eS2 a0.Ends), .d (eS3 a0.Endss), .d (eS0 a0.Kids)], .fix 168 [.d (di .i64 y7.geom1.geom0.layout), .d (di .i64 y7.geom1.geom0.stride), .d (eS1 y7.geom1.geom0.flatCoords), .d (di .i64 a0.SRID)], .dead]) (e' := [(2, .ptr 1 0), (3, .ptr 2 0)]) (r := .ifc 117 (.ptr 5 0)) rfl rfl rfl ?_
    change AO _ _ _ _ _
    refine AO.op rfl (AOp.assertYes rfl rfl (ltb rfl) rfl rfl pass117_101 rfl ?_)
    refine AO.op rfl (AOp.move rfl rfl (ltb rfl) rfl ?_)
    first | refine AO.op rfl (AOp.extractD rfl rfl (ltb rfl) rfl rfl ?_) | refine AO.op rfl (AOp.extract rfl rfl (ltb rfl) rfl rfl ?_)
    first | refine AO.op rfl (AOp.extractD rfl rfl (ltb rfl) rfl rfl ?_) | refine AO.op rfl (AOp.extract rfl rfl (ltb rfl) rfl rfl ?_)
    refine AO.op rfl (AOp.assign rfl rfl (ltb rfl) rfl ?_)
    refine AO.op rfl (AOp.assign rfl rfl (ltb rfl) rfl ?_)
    refine AO.nil ?_
    change AC _ _ _ _
    refine AC.seq ?_
    refine AC.seq ?_
    refine AC.region ?_
    refine AO.op rfl (AOp.move rfl rfl (ltb rfl) rfl ?_)
    refine AO.op rfl (AOp.bnot rfl rfl (ltb rfl) rfl ?_)
    refine AO.nil ?_
    change AC _ _ _ _
    refine AC.condF rfl rfl ?_
    refine AC.skip ?_
    change AC _ _ _ _
    refine AC.seq ?_
    refine AC.region ?_
    refine AO.op rfl (AOp.move rfl rfl (ltb rfl) rfl ?_)
    refine AO.op rfl (AOp.inlE [2, 3] (EntersS.meth (by kernel_rfl) rfl rfl rfl meth117_Area rfl rfl) Try.func175 rfl Try.ntmps175 rfl (ltb rfl) (leb rfl) rfl ?_)
    intro fr10
    refine AC.seq ?_
    refine AC.region ?_
    refine AO.op rfl (AOp.assign rfl rfl (ltb rfl) rfl ?_)
    refine AO.nil ?_
    change AC _ _ _ _
    refine AC.seq ?_
    refine AC.draw 22 mixed (by kernel_rfl) ?_
    refine AD.op [0] rfl (by kernel_rfl) rfl rfl (fun _ _ h => AOp.move rfl rfl (ltb rfl) rfl h) ?_
    refine AD.op [3] rfl (by kernel_rfl) rfl rfl (fun _ _ h => AOp.nilCheck rfl rfl (ltb rfl) rfl rfl h) ?_
    refine AD.op [4] rfl (by kernel_rfl) rfl rfl (fun _ _ h => AOp.fieldAddr rfl rfl (ltb rfl) rfl fo168_0 h) ?_
    refine AD.op [5] rfl (by kernel_rfl) rfl rfl (fun _ _ h => AOp.fieldAddr rfl rfl (ltb rfl) rfl fo110_0 h) ?_
    refine AD.op [6] rfl (by kernel_rfl) rfl rfl (fun _ _ h => AOp.fieldAddr rfl rfl (ltb rfl) rfl fo108_2 h) ?_
    refine AD.op [7] rfl (by kernel_rfl) rfl rfl (fun _ _ h => AOp.load1 rfl rfl (ltb rfl) rfl agg25 rfl rfl h) ?_
    refine AD.op [0] rfl (by kernel_rfl) rfl rfl (fun _ _ h => AOp.move rfl rfl (ltb rfl) rfl h) ?_
    refine AD.op [9] rfl (by kernel_rfl) rfl rfl (fun _ _ h => AOp.nilCheck rfl rfl (ltb rfl) rfl rfl h) ?_
    refine AD.op [10] rfl (by kernel_rfl) rfl rfl (fun _ _ h => AOp.fieldAddr rfl rfl (ltb rfl) rfl fo168_0 h) ?_
    refine AD.op [11] rfl (by kernel_rfl) rfl rfl (fun _ _ h => AOp.fieldAddr rfl rfl (ltb rfl) rfl fo110_0 h) ?_
    refine AD.op [12] rfl (by kernel_rfl) rfl rfl (fun _ _ h => AOp.fieldAddr rfl rfl (ltb rfl) rfl fo108_2 h) ?_
    refine AD.op [13] rfl (by kernel_rfl) rfl rfl (fun _ _ h => AOp.load1 rfl rfl (ltb rfl) rfl agg25 rfl rfl h) ?_
    refine AD.op [14] rfl (by kernel_rfl) rfl rfl (fun _ _ h => AOp.lenDs (n := y7.geom1.geom0.flatCoords.length) (cells := (List.map keS1 y7.geom1.geom0.flatCoords)) rfl rfl (ltb rfl) rfl el25 (by decide) (len1 _ _) h) ?_
    refine AD.op [0] rfl (by kernel_rfl) rfl rfl (fun _ _ h => AOp.move rfl rfl (ltb rfl) rfl h) ?_
    refine AD.op [16] rfl (by kernel_rfl) rfl rfl (fun _ _ h => AOp.nilCheck rfl rfl (ltb rfl) rfl rfl h) ?_
    refine AD.op [17] rfl (by kernel_rfl) rfl rfl (fun _ _ h => AOp.fieldAddr rfl rfl (ltb rfl) rfl fo168_0 h) ?_
    refine AD.op [18] rfl (by kernel_rfl) rfl rfl (fun _ _ h => AOp.fieldAddr rfl rfl (ltb rfl) rfl fo110_0 h) ?_
    refine AD.op [19] rfl (by kernel_rfl) rfl rfl (fun _ _ h => AOp.fieldAddr rfl rfl (ltb rfl) rfl fo108_1 h) ?_
    refine AD.op [20] rfl (by kernel_rfl) rfl rfl (fun _ _ h => AOp.load1 rfl rfl (ltb rfl) rfl agg3 rfl rfl h) ?_
    obtain ⟨y11, q12, h0⟩ := bind_elim h0
    refine AD.op [8, 15, 21] rfl (by kernel_rfl) rfl rfl (fun _ _ h => AOp.callD rfl rfl (ltb rfl) rfl rfl (w_doubleArea1 F y7.geom1.geom0.flatCoords (0 : Int) ((y7.geom1.geom0.flatCoords.length : Nat) : Int) y7.geom1.geom0.stride y11 q12) (by rintro _ rfl; exact h)) ?_
    obtain ⟨z13, q14, h0⟩ := bind_elim h0
    refine AD.op [22] rfl (by kernel_rfl) rfl rfl (fun _ _ h => AOp.farith rfl rfl (ltb rfl) rfl rfl q14 h) ?_
    refine AD.op [23] rfl (by kernel_rfl) rfl rfl (fun _ _ h => AOp.assign rfl rfl (ltb rfl) rfl h) ?_
    refine AD.done ?_
    refine AO.nil ?_
    change AC _ _ _ _
    refine AC.ret ?_
    refine inlret (ob' := [.fix 30 [.d (di .i64 a0.Kind), .d (di .i64 a0.Layout), .d (di .i64 a0.SRID), .d (eS1 a0.Flat), .d (eS2 a0.Ends), .d (eS3 a0.Endss), .d (eS0 a0.Kids)], .fix 37 [.d (dfl (0 : Nat))], .fix 4 [.d (dbool false)], .dead, .fix 30 [.d (di .i64 a0.Kind), .d (di .i64 a0.Layout), .d (di .i64 a0.SRID), .d (eS1 a0.Flat), .d (eS2 a0.Ends), .d (eS3 a0.Endss), .d (eS0 a0.Kids)], .fix 168 [.d (di .i64 y7.geom1.geom0.layout), .d (di .i64 y7.geom1.geom0.stride), .d (eS1 y7.geom1.geom0.flatCoords), .d (di .i64 a0.SRID)], .dead, .dead]) (e' := [(2, .ptr 1 0), (3, .ptr 2 0)]) (r := .d (dfl z13)) rfl rfl rfl ?_
    change AO _ _ _ _ _
    refine AO.op rfl (AOp.store rfl rfl rfl rfl size37 rfl rfl rfl (leb rfl) ?_)
    refine AO.op rfl (AOp.store rfl rfl rfl rfl size4 rfl rfl rfl (leb rfl) ?_)
    refine AO.nil ?_
    change AC _ _ _ _
    refine AC.ret ?_
    change RetQ _ _ _ .ret _
    obtain rfl := Option.some.inj h0
    refine retq rfl rfl
  replace h0 := cF h0 q6
  refine AC.seq ?_
  refine AC.region ?_
  refine AO.op rfl (AOp.ieql rfl rfl (ltb rfl) rfl rfl ?_)
  refine AO.op rfl (AOp.assign rfl rfl (ltb rfl) rfl ?_)
  refine AO.nil ?_
  change AC _ _ _ _
  refine AC.cond rfl (fun q15 => ?_) (fun q15 => ?_)
  · replace h0 := cT h0 q15
    cases h0
  replace h0 := cF h0 q15
  refine AC.seq ?_
  refine AC.region ?_
  refine AO.op rfl (AOp.ieql rfl rfl (ltb rfl) rfl rfl ?_)
  refine AO.op rfl (AOp.assign rfl rfl (ltb rfl) rfl ?_)
  refine AO.nil ?_
  change AC _ _ _ _
  refine AC.cond rfl (fun q16 => ?_) (fun q16 => ?_)
  · replace h0 := cT h0 q16
    cases h0
  replace h0 := cF h0 q16
  refine AC.seq ?_
  refine AC.region ?_
  refine AO.op rfl (AOp.ieql rfl rfl (ltb rfl) rfl rfl ?_)
  refine AO.op rfl (AOp.assign rfl rfl (ltb rfl) rfl ?_)
  refine AO.nil ?_
  change AC _ _ _ _
  refine AC.cond rfl (fun q17 => ?_) (fun q17 => ?_)
  · replace h0 := cT h0 q17
    cases h0
  replace h0 := cF h0 q17
  refine AC.seq ?_
  refine AC.region ?_
  refine AO.op rfl (AOp.ieql rfl rfl (ltb rfl) rfl rfl ?_)
  refine AO.op rfl (AOp.assign rfl rfl (ltb rfl) rfl ?_)
  refine AO.nil ?_
  change AC _ _ _ _
  refine AC.cond rfl (fun q18 => ?_) (fun q18 => ?_)
  · replace h0 := cT h0 q18
    cases h0
  replace h0 := cF h0 q18
  refine AC.seq ?_
  refine AC.region ?_
  refine AO.op rfl (AOp.ieql rfl rfl (ltb rfl) rfl rfl ?_)
  refine AO.op rfl (AOp.assign rfl rfl (ltb rfl) rfl ?_)
  refine AO.nil ?_
  change AC _ _ _ _
  refine AC.cond rfl (fun q19 => ?_) (fun q19 => ?_)
  · replace h0 := cT h0 q19
    cases h0
  replace h0 := cF h0 q19
  refine AC.skip ?_
  change AC _ _ _ _
  refine AC.region ?_
  cases h0

set_option maxRecDepth 100000 in
set_option maxHeartbeats 1000000 in
/-- pub-orthodrome/laws.FnAreaMoved -/
theorem w_FnAreaMoved (F : Nat) (a0 : TImpl_Geom) (a1 : Int) (a2 : Int) (r0 : Bool) (h0 : p_FnAreaMoved F a0 a1 a2 = some r0) : FnD Try.prog 9 [e_TImpl_Geom a0, di .i64 a1, di .i64 a2] (fun r => r = dbool r0) := by
  refine FnD.of (by kernel_rfl) Try.func9 rfl Try.ntmps9 rfl (leb rfl) fun W ok => ?_
  unfold p_FnAreaMoved at h0
  refine AC.seq ?_
  refine AC.region ?_
  refine AO.op rfl (AOp.box rfl rfl (ltb rfl) rfl rfl ?_)
  refine AO.op rfl (AOp.assign rfl rfl (ltb rfl) rfl ?_)
  refine AO.nil ?_
  change AC _ _ _ _
  refine AC.seq ?_
  refine AC.seq ?_
  refine AC.region ?_
  refine AO.op rfl (AOp.loadN rfl rfl (ltb rfl) rfl agg30 size30 rfl (leb rfl) rfl ?_)
  obtain ⟨y1, q2, h0⟩ := bind_elim h0
  refine AO.op rfl (AOp.callD rfl rfl (ltb rfl) rfl rfl (w_zzFits2 F a0 y1 q2) ?_)
  rintro _ rfl
  refine AO.op rfl (AOp.bnot rfl rfl (ltb rfl) rfl ?_)
  refine AO.nil ?_
  change AC _ _ _ _
  refine AC.cond rfl (fun q3 => ?_) (fun q3 => ?_)
  · replace h0 := cT h0 q3
    refine AC.seq ?_
    refine AC.region ?_
    refine AO.op rfl (AOp.assign rfl rfl (ltb rfl) rfl ?_)
    refine AO.nil ?_
    change AC _ _ _ _
    refine AC.ret ?_
    change RetQ _ _ _ .ret _
    obtain rfl := Option.some.inj h0
    refine retq rfl rfl
  replace h0 := cF h0 q3
  refine AC.skip ?_
  change AC _ _ _ _
  refine AC.seq ?_
  refine AC.region ?_
  refine AO.op rfl (AOp.fieldAddr rfl rfl (ltb rfl) rfl fo30_1 ?_)
  refine AO.op rfl (AOp.load1 rfl rfl (ltb rfl) rfl agg3 rfl rfl ?_)
  obtain ⟨y4, q5, h0⟩ := bind_elim h0
  refine AO.op rfl (AOp.callD rfl rfl (ltb rfl) rfl rfl (w_Stride a0.Layout y4 q5) ?_)
  rintro _ rfl
  refine AO.op rfl (AOp.assign rfl rfl (ltb rfl) rfl ?_)
  refine AO.nil ?_
  change AC _ _ _ _
  refine AC.seq ?_
  refine AC.joinP (V := Bool) [1, 2, 3, 7] [56] 1 (fun g6 => [(56, .d (dbool g6))]) (fun g6 => [.fix 30 [.d (di .i64 a0.Kind), .d (di .i64 a0.Layout), .d (di .i64 a0.SRID), .d (eS1 a0.Flat), .d (eS2 a0.Ends), .d (eS3 a0.Endss), .d (eS0 a0.Kids)]]) (fun g6 => (p_FnAreaMoved_k1 a0 a1 a2 F y4) g6 = some r0) rfl ?_ ?_
  · refine AC.region ?_
    refine AO.op rfl (AOp.loadN rfl rfl (ltb rfl) rfl agg30 size30 rfl (leb rfl) rfl ?_)
    obtain ⟨y49, q50, h0⟩ := bind_elim h0
    refine AO.op rfl (AOp.callD rfl rfl (ltb rfl) rfl rfl (w_gPlain F a0 y49 q50) ?_)
    rintro _ rfl
    refine AO.op rfl (AOp.bnot rfl rfl (ltb rfl) rfl ?_)
    refine AO.op rfl (AOp.move rfl rfl (ltb rfl) rfl ?_)
    refine AO.dec (!y49) (fun q51 => ?_) (fun q51 => ?_)
    · replace h0 := cT h0 q51
      refine AO.guardN rfl rfl rfl (ltb rfl) rfl q51 ?_
      refine AO.guardN rfl rfl rfl (ltb rfl) rfl q51 ?_
      refine AO.guardN rfl rfl rfl (ltb rfl) rfl q51 ?_
      refine AO.op rfl (AOp.pick rfl rfl (ltb rfl) rfl q51 rfl ?_)
      refine AO.op rfl (AOp.move rfl rfl (ltb rfl) rfl ?_)
      refine AO.guardN rfl rfl rfl (ltb rfl) rfl rfl ?_
      refine AO.guardN rfl rfl rfl (ltb rfl) rfl rfl ?_
      refine AO.guardN rfl rfl rfl (ltb rfl) rfl rfl ?_
      refine AO.guardN rfl rfl rfl (ltb rfl) rfl rfl ?_
      refine AO.op rfl (AOp.pick rfl rfl (ltb rfl) rfl rfl rfl ?_)
      refine AO.op rfl (AOp.move rfl rfl (ltb rfl) rfl ?_)
      refine AO.guardN rfl rfl rfl (ltb rfl) rfl rfl ?_
      refine AO.guardN rfl rfl rfl (ltb rfl) rfl rfl ?_
      refine AO.guardN rfl rfl rfl (ltb rfl) rfl rfl ?_
      refine AO.op rfl (AOp.pick rfl rfl (ltb rfl) rfl rfl rfl ?_)
      refine AO.op rfl (AOp.move rfl rfl (ltb rfl) rfl ?_)
      refine AO.guardN rfl rfl rfl (ltb rfl) rfl rfl ?_
      refine AO.guardN rfl rfl rfl (ltb rfl) rfl rfl ?_
      refine AO.op rfl (AOp.pick rfl rfl (ltb rfl) rfl rfl rfl ?_)
      refine AO.op rfl (AOp.move rfl rfl (ltb rfl) rfl ?_)
      refine AO.guardN rfl rfl rfl (ltb rfl) rfl rfl ?_
      refine AO.guardN rfl rfl rfl (ltb rfl) rfl rfl ?_
      refine AO.op rfl (AOp.pick rfl rfl (ltb rfl) rfl rfl rfl ?_)
      refine AO.op rfl (AOp.move rfl rfl (ltb rfl) rfl ?_)
      refine AO.guardN rfl rfl rfl (ltb rfl) rfl rfl ?_
      refine AO.guardN rfl rfl rfl (ltb rfl) rfl rfl ?_
      refine AO.op rfl (AOp.pick rfl rfl (ltb rfl) rfl rfl rfl ?_)
      refine AO.op rfl (AOp.move rfl rfl (ltb rfl) rfl ?_)
      refine AO.guardN rfl rfl rfl (ltb rfl) rfl rfl ?_
      refine AO.guardN rfl rfl rfl (ltb rfl) rfl rfl ?_
      refine AO.op rfl (AOp.pick rfl rfl (ltb rfl) rfl rfl rfl ?_)
      refine AO.nil ?_
      exact ⟨true, _, rfl, (LeL.refl _), rfl, rfl, h0⟩
    replace h0 := cF h0 q51
    refine AO.guardY rfl rfl rfl q51 (AOp.fieldAddr rfl rfl (ltb rfl) rfl fo30_0 ?_)
    refine AO.guardY rfl rfl rfl q51 (AOp.load1 rfl rfl (ltb rfl) rfl agg3 rfl rfl ?_)
    refine AO.guardY rfl rfl rfl q51 (AOp.ineq rfl rfl (ltb rfl) rfl rfl ?_)
    refine AO.op rfl (AOp.pickN rfl rfl (ltb rfl) rfl q51 rfl ?_)
    refine AO.op rfl (AOp.move rfl rfl (ltb rfl) rfl ?_)
    refine AO.dec (!decide (a0.Kind = (8 : Int))) (fun q52 => ?_) (fun q52 => ?_)
    · replace h0 := cT h0 q52
      refine AO.guardN rfl rfl rfl (ltb rfl) rfl q52 ?_
      refine AO.guardN rfl rfl rfl (ltb rfl) rfl q52 ?_
      refine AO.guardN rfl rfl rfl (ltb rfl) rfl q52 ?_
      refine AO.guardN rfl rfl rfl (ltb rfl) rfl q52 ?_
      refine AO.op rfl (AOp.pick rfl rfl (ltb rfl) rfl q52 rfl ?_)
      refine AO.op rfl (AOp.move rfl rfl (ltb rfl) rfl ?_)
      refine AO.guardN rfl rfl rfl (ltb rfl) rfl rfl ?_
      refine AO.guardN rfl rfl rfl (ltb rfl) rfl rfl ?_
      refine AO.guardN rfl rfl rfl (ltb rfl) rfl rfl ?_
      refine AO.op rfl (AOp.pick rfl rfl (ltb rfl) rfl rfl rfl ?_)
      refine AO.op rfl (AOp.move rfl rfl (ltb rfl) rfl ?_)
      refine AO.guardN rfl rfl rfl (ltb rfl) rfl rfl ?_
      refine AO.guardN rfl rfl rfl (ltb rfl) rfl rfl ?_
      refine AO.op rfl (AOp.pick rfl rfl (ltb rfl) rfl rfl rfl ?_)
      refine AO.op rfl (AOp.move rfl rfl (ltb rfl) rfl ?_)
      refine AO.guardN rfl rfl rfl (ltb rfl) rfl rfl ?_
      refine AO.guardN rfl rfl rfl (ltb rfl) rfl rfl ?_
      refine AO.op rfl (AOp.pick rfl rfl (ltb rfl) rfl rfl rfl ?_)
      refine AO.op rfl (AOp.move rfl rfl (ltb rfl) rfl ?_)
      refine AO.guardN rfl rfl rfl (ltb rfl) rfl rfl ?_
      refine AO.guardN rfl rfl rfl (ltb rfl) rfl rfl ?_
      refine AO.op rfl (AOp.pick rfl rfl (ltb rfl) rfl rfl rfl ?_)
      refine AO.op rfl (AOp.move rfl rfl (ltb rfl) rfl ?_)
      refine AO.guardN rfl rfl rfl (ltb rfl) rfl rfl ?_
      refine AO.guardN rfl rfl rfl (ltb rfl) rfl rfl ?_
      refine AO.op rfl (AOp.pick rfl rfl (ltb rfl) rfl rfl rfl ?_)
      refine AO.nil ?_
      exact ⟨true, _, rfl, (LeL.refl _), rfl, rfl, h0⟩
    replace h0 := cF h0 q52
    refine AO.guardY rfl rfl rfl q52 (AOp.fieldAddr rfl rfl (ltb rfl) rfl fo30_3 ?_)
    refine AO.guardY rfl rfl rfl q52 (AOp.load1 rfl rfl (ltb rfl) rfl agg25 rfl rfl ?_)
    refine AO.guardY rfl rfl rfl q52 (AOp.lenDs (n := a0.Flat.length) (cells := (List.map keS1 a0.Flat)) rfl rfl (ltb rfl) rfl el25 (by decide) (len1 _ _) ?_)
    refine AO.guardY rfl rfl rfl q52 (AOp.ieql rfl rfl (ltb rfl) rfl rfl ?_)
    refine AO.op rfl (AOp.pickN rfl rfl (ltb rfl) rfl q52 rfl ?_)
    refine AO.op rfl (AOp.move rfl rfl (ltb rfl) rfl ?_)
    refine AO.dec (decide (((a0.Flat.length : Nat) : Int) = (0 : Int))) (fun q53 => ?_) (fun q53 => ?_)
    · replace h0 := cT h0 q53
      refine AO.guardN rfl rfl rfl (ltb rfl) rfl q53 ?_
      refine AO.guardN rfl rfl rfl (ltb rfl) rfl q53 ?_
      refine AO.guardN rfl rfl rfl (ltb rfl) rfl q53 ?_
      refine AO.op rfl (AOp.pick rfl rfl (ltb rfl) rfl q53 rfl ?_)
      refine AO.op rfl (AOp.move rfl rfl (ltb rfl) rfl ?_)
      refine AO.guardN rfl rfl rfl (ltb rfl) rfl rfl ?_
      refine AO.guardN rfl rfl rfl (ltb rfl) rfl rfl ?_
      refine AO.op rfl (AOp.pick rfl rfl (ltb rfl) rfl rfl rfl ?_)
      refine AO.op rfl (AOp.move rfl rfl (ltb rfl) rfl ?_)
      refine AO.guardN rfl rfl rfl (ltb rfl) rfl rfl ?_
      refine AO.guardN rfl rfl rfl (ltb rfl) rfl rfl ?_
      refine AO.op rfl (AOp.pick rfl rfl (ltb rfl) rfl rfl rfl ?_)
      refine AO.op rfl (AOp.move rfl rfl (ltb rfl) rfl ?_)
      refine AO.guardN rfl rfl rfl (ltb rfl) rfl rfl ?_
      refine AO.guardN rfl rfl rfl (ltb rfl) rfl rfl ?_
      refine AO.op rfl (AOp.pick rfl rfl (ltb rfl) rfl rfl rfl ?_)
      refine AO.op rfl (AOp.move rfl rfl (ltb rfl) rfl ?_)
      refine AO.guardN rfl rfl rfl (ltb rfl) rfl rfl ?_
      refine AO.guardN rfl rfl rfl (ltb rfl) rfl rfl ?_
      refine AO.op rfl (AOp.pick rfl rfl (ltb rfl) rfl rfl rfl ?_)
      refine AO.nil ?_
      exact ⟨true, _, rfl, (LeL.refl _), rfl, rfl, h0⟩
    replace h0 := cF h0 q53
    refine AO.guardY rfl rfl rfl q53 (AOp.loadN rfl rfl (ltb rfl) rfl agg30 size30 rfl (leb rfl) rfl ?_)
    obtain ⟨y54, q55, h0⟩ := bind_elim h0
    refine AO.guardY rfl rfl rfl q53 (AOp.callD rfl rfl (ltb rfl) rfl rfl (w_gEach F a0 y54 q55) ?_)
    rintro _ rfl
    refine AO.guardY rfl rfl rfl q53 (AOp.bnot rfl rfl (ltb rfl) rfl ?_)
    refine AO.op rfl (AOp.pickN rfl rfl (ltb rfl) rfl q53 rfl ?_)
    refine AO.op rfl (AOp.move rfl rfl (ltb rfl) rfl ?_)
    refine AO.dec (!y54) (fun q56 => ?_) (fun q56 => ?_)
    · replace h0 := cT h0 q56
      refine AO.guardN rfl rfl rfl (ltb rfl) rfl q56 ?_
      refine AO.guardN rfl rfl rfl (ltb rfl) rfl q56 ?_
      refine AO.op rfl (AOp.pick rfl rfl (ltb rfl) rfl q56 rfl ?_)
      refine AO.op rfl (AOp.move rfl rfl (ltb rfl) rfl ?_)
      refine AO.guardN rfl rfl rfl (ltb rfl) rfl rfl ?_
      refine AO.guardN rfl rfl rfl (ltb rfl) rfl rfl ?_
      refine AO.op rfl (AOp.pick rfl rfl (ltb rfl) rfl rfl rfl ?_)
      refine AO.op rfl (AOp.move rfl rfl (ltb rfl) rfl ?_)
      refine AO.guardN rfl rfl rfl (ltb rfl) rfl rfl ?_
      refine AO.guardN rfl rfl rfl (ltb rfl) rfl rfl ?_
      refine AO.op rfl (AOp.pick rfl rfl (ltb rfl) rfl rfl rfl ?_)
      refine AO.op rfl (AOp.move rfl rfl (ltb rfl) rfl ?_)
      refine AO.guardN rfl rfl rfl (ltb rfl) rfl rfl ?_
      refine AO.guardN rfl rfl rfl (ltb rfl) rfl rfl ?_
      refine AO.op rfl (AOp.pick rfl rfl (ltb rfl) rfl rfl rfl ?_)
      refine AO.nil ?_
      exact ⟨true, _, rfl, (LeL.refl _), rfl, rfl, h0⟩
    replace h0 := cF h0 q56
    refine AO.guardY rfl rfl rfl q56 (AOp.move rfl rfl (ltb rfl) rfl ?_)
    refine AO.guardY rfl rfl rfl q56 (AOp.ilss rfl rfl (ltb rfl) rfl rfl ?_)
    refine AO.op rfl (AOp.pickN rfl rfl (ltb rfl) rfl q56 rfl ?_)
    refine AO.op rfl (AOp.move rfl rfl (ltb rfl) rfl ?_)
    refine AO.dec (decide (a1 < (-262144 : Int))) (fun q57 => ?_) (fun q57 => ?_)
    · replace h0 := cT h0 q57
      refine AO.guardN rfl rfl rfl (ltb rfl) rfl q57 ?_
      refine AO.guardN rfl rfl rfl (ltb rfl) rfl q57 ?_
      refine AO.op rfl (AOp.pick rfl rfl (ltb rfl) rfl q57 rfl ?_)
      refine AO.op rfl (AOp.move rfl rfl (ltb rfl) rfl ?_)
      refine AO.guardN rfl rfl rfl (ltb rfl) rfl rfl ?_
      refine AO.guardN rfl rfl rfl (ltb rfl) rfl rfl ?_
      refine AO.op rfl (AOp.pick rfl rfl (ltb rfl) rfl rfl rfl ?_)
      refine AO.op rfl (AOp.move rfl rfl (ltb rfl) rfl ?_)
      refine AO.guardN rfl rfl rfl (ltb rfl) rfl rfl ?_
      refine AO.guardN rfl rfl rfl (ltb rfl) rfl rfl ?_
      refine AO.op rfl (AOp.pick rfl rfl (ltb rfl) rfl rfl rfl ?_)
      refine AO.nil ?_
      exact ⟨true, _, rfl, (LeL.refl _), rfl, rfl, h0⟩
    replace h0 := cF h0 q57
    refine AO.guardY rfl rfl rfl q57 (AOp.move rfl rfl (ltb rfl) rfl ?_)
    refine AO.guardY rfl rfl rfl q57 (AOp.igtr rfl rfl (ltb rfl) rfl rfl ?_)
    refine AO.op rfl (AOp.pickN rfl rfl (ltb rfl) rfl q57 rfl ?_)
    refine AO.op rfl (AOp.move rfl rfl (ltb rfl) rfl ?_)
    refine AO.dec (decide ((262144 : Int) < a1)) (fun q58 => ?_) (fun q58 => ?_)
    · replace h0 := cT h0 q58
      refine AO.guardN rfl rfl rfl (ltb rfl) rfl q58 ?_
      refine AO.guardN rfl rfl rfl (ltb rfl) rfl q58 ?_
      refine AO.op rfl (AOp.pick rfl rfl (ltb rfl) rfl q58 rfl ?_)
      refine AO.op rfl (AOp.move rfl rfl (ltb rfl) rfl ?_)
      refine AO.guardN rfl rfl rfl (ltb rfl) rfl rfl ?_
      refine AO.guardN rfl rfl rfl (ltb rfl) rfl rfl ?_
      refine AO.op rfl (AOp.pick rfl rfl (ltb rfl) rfl rfl rfl ?_)
      refine AO.nil ?_
      exact ⟨true, _, rfl, (LeL.refl _), rfl, rfl, h0⟩
    replace h0 := cF h0 q58
    refine AO.guardY rfl rfl rfl q58 (AOp.move rfl rfl (ltb rfl) rfl ?_)
    refine AO.guardY rfl rfl rfl q58 (AOp.ilss rfl rfl (ltb rfl) rfl rfl ?_)
    refine AO.op rfl (AOp.pickN rfl rfl (ltb rfl) rfl q58 rfl ?_)
    refine AO.op rfl (AOp.move rfl rfl (ltb rfl) rfl ?_)
    refine AO.dec (decide (a2 < (-262144 : Int))) (fun q59 => ?_) (fun q59 => ?_)
    · replace h0 := cT h0 q59
      refine AO.guardN rfl rfl rfl (ltb rfl) rfl q59 ?_
      refine AO.guardN rfl rfl rfl (ltb rfl) rfl q59 ?_
      refine AO.op rfl (AOp.pick rfl rfl (ltb rfl) rfl q59 rfl ?_)
      refine AO.nil ?_
      exact ⟨true, _, rfl, (LeL.refl _), rfl, rfl, h0⟩
    replace h0 := cF h0 q59
    refine AO.guardY rfl rfl rfl q59 (AOp.move rfl rfl (ltb rfl) rfl ?_)
    refine AO.guardY rfl rfl rfl q59 (AOp.igtr rfl rfl (ltb rfl) rfl rfl ?_)
    refine AO.op rfl (AOp.pickN rfl rfl (ltb rfl) rfl q59 rfl ?_)
    refine AO.nil ?_
    exact ⟨(decide ((262144 : Int) < a2)), _, rfl, (LeL.refl _), rfl, rfl, h0⟩
  intro g6 h0
  unfold p_FnAreaMoved_k1 at h0
  refine AC.cond rfl (fun q7 => ?_) (fun q7 => ?_)
  · replace h0 := cT h0 q7
    refine AC.seq ?_
    refine AC.region ?_
    refine AO.op rfl (AOp.assign rfl rfl (ltb rfl) rfl ?_)
    refine AO.nil ?_
    change AC _ _ _ _
    refine AC.ret ?_
    change RetQ _ _ _ .ret _
    obtain rfl := Option.some.inj h0
    refine retq rfl rfl
  replace h0 := cF h0 q7
  refine AC.skip ?_
  change AC _ _ _ _
  refine AC.seq ?_
  refine AC.seq ?_
  refine AC.region ?_
  refine AO.op rfl (AOp.fieldAddr rfl rfl (ltb rfl) rfl fo30_3 ?_)
  refine AO.op rfl (AOp.load1 rfl rfl (ltb rfl) rfl agg25 rfl rfl ?_)
  refine AO.op rfl (AOp.lenDs (n := a0.Flat.length) (cells := (List.map keS1 a0.Flat)) rfl rfl (ltb rfl) rfl el25 (by decide) (len1 _ _) ?_)
  refine AO.op rfl (AOp.move rfl rfl (ltb rfl) rfl ?_)
  obtain ⟨q8, h0⟩ := need_elim h0
  refine AO.op rfl (AOp.isub rfl rfl (ltb rfl) rfl rfl rfl q8.1 q8.2 ?_)
  refine AO.op rfl (AOp.assign rfl rfl (ltb rfl) rfl ?_)
  refine AO.nil ?_
  change AC _ _ _ _
  refine AC.joinP (V := Bool) [1, 2, 3, 7] [84] 1 (fun g9 => [(84, .d (dbool g9))]) (fun g9 => [.fix 30 [.d (di .i64 a0.Kind), .d (di .i64 a0.Layout), .d (di .i64 a0.SRID), .d (eS1 a0.Flat), .d (eS2 a0.Ends), .d (eS3 a0.Endss), .d (eS0 a0.Kids)]]) (fun g9 => (p_FnAreaMoved_k2 a0 a1 a2 F y4) g9 = some r0) rfl ?_ ?_
  · refine AC.draw 23 mixed (by kernel_rfl) ?_
    refine AD.op [3] rfl (by kernel_rfl) rfl rfl (fun _ _ h => AOp.fieldAddr rfl rfl (ltb rfl) rfl fo30_3 h) ?_
    refine AD.op [62] rfl (by kernel_rfl) rfl rfl (fun _ _ h => AOp.load1 rfl rfl (ltb rfl) rfl agg25 rfl rfl h) ?_
    obtain ⟨x39, q40, h0⟩ := idx_elim h0
    refine AD.op [63] rfl (by kernel_rfl) rfl rfl (fun _ _ h => AOp.indexDs (cells := (List.map keS1 a0.Flat)) rfl rfl (ltb rfl) rfl rfl el25 (by decide) q40.1 (lt1 q40.2) h) ?_
    refine AD.op [64] rfl (by kernel_rfl) rfl rfl (fun _ _ h => AOp.loadEp rfl rfl (ltb rfl) rfl agg37 (at1 q40.2) h) ?_
    refine AD.op [3] rfl (by kernel_rfl) rfl rfl (fun _ _ h => AOp.fieldAddr rfl rfl (ltb rfl) rfl fo30_3 h) ?_
    refine AD.op [66] rfl (by kernel_rfl) rfl rfl (fun _ _ h => AOp.load1 rfl rfl (ltb rfl) rfl agg25 rfl rfl h) ?_
    refine AD.op [8] rfl (by kernel_rfl) rfl rfl (fun _ _ h => AOp.move rfl rfl (ltb rfl) rfl h) ?_
    obtain ⟨x41, q42, h0⟩ := idx_elim h0
    refine AD.op [67, 68] rfl (by kernel_rfl) rfl rfl (fun _ _ h => AOp.indexDs (cells := (List.map keS1 a0.Flat)) rfl rfl (ltb rfl) rfl rfl el25 (by decide) q42.1 (lt1 q42.2) h) ?_
    refine AD.op [69] rfl (by kernel_rfl) rfl rfl (fun _ _ h => AOp.loadEp rfl rfl (ltb rfl) rfl agg37 (at1 q42.2) h) ?_
    refine AD.op [65, 70] rfl (by kernel_rfl) rfl rfl (fun _ _ h => AOp.fneq rfl rfl (ltb rfl) rfl rfl h) ?_
    refine AD.op [71] rfl (by kernel_rfl) rfl rfl (fun _ _ h => AOp.move rfl rfl (ltb rfl) rfl h) ?_
    refine AD.dec (!feq x39 x41) (fun q43 => ?_) (fun q43 => ?_)
    · replace h0 := cT h0 q43
      refine AD.opN rfl rfl rfl (ltb rfl) rfl q43 ?_
      refine AD.opN rfl rfl rfl (ltb rfl) rfl q43 ?_
      refine AD.opN rfl rfl rfl (ltb rfl) rfl q43 ?_
      refine AD.opN rfl rfl rfl (ltb rfl) rfl q43 ?_
      refine AD.opN rfl rfl rfl (ltb rfl) rfl q43 ?_
      refine AD.opN rfl rfl rfl (ltb rfl) rfl q43 ?_
      refine AD.opN rfl rfl rfl (ltb rfl) rfl q43 ?_
      refine AD.opN rfl rfl rfl (ltb rfl) rfl q43 ?_
      refine AD.opN rfl rfl rfl (ltb rfl) rfl q43 ?_
      refine AD.opN rfl rfl rfl (ltb rfl) rfl q43 ?_
      refine AD.opN rfl rfl rfl (ltb rfl) rfl q43 ?_
      refine AD.op [72, 83] rfl (by kernel_rfl) rfl rfl (fun _ _ h => AOp.pick rfl rfl (ltb rfl) rfl q43 rfl h) ?_
      refine AD.done ?_
      refine AO.nil ?_
      exact ⟨true, _, rfl, (LeL.refl _), rfl, rfl, h0⟩
    replace h0 := cF h0 q43
    refine AD.opY [3, 72] rfl rfl rfl q43 (by kernel_rfl) rfl rfl (fun _ _ h => AOp.fieldAddr rfl rfl (ltb rfl) rfl fo30_3 h) ?_
    refine AD.opY [72, 73] rfl rfl rfl q43 (by kernel_rfl) rfl rfl (fun _ _ h => AOp.load1 rfl rfl (ltb rfl) rfl agg25 rfl rfl h) ?_
    obtain ⟨x44, q45, h0⟩ := idx_elim h0
    refine AD.opY [72, 74] rfl rfl rfl q43 (by kernel_rfl) rfl rfl (fun _ _ h => AOp.indexDs (cells := (List.map keS1 a0.Flat)) rfl rfl (ltb rfl) rfl rfl el25 (by decide) q45.1 (lt1 q45.2) h) ?_
    refine AD.opY [72, 75] rfl rfl rfl q43 (by kernel_rfl) rfl rfl (fun _ _ h => AOp.loadEp rfl rfl (ltb rfl) rfl agg37 (at1 q45.2) h) ?_
    refine AD.opY [3, 72] rfl rfl rfl q43 (by kernel_rfl) rfl rfl (fun _ _ h => AOp.fieldAddr rfl rfl (ltb rfl) rfl fo30_3 h) ?_
    refine AD.opY [72, 77] rfl rfl rfl q43 (by kernel_rfl) rfl rfl (fun _ _ h => AOp.load1 rfl rfl (ltb rfl) rfl agg25 rfl rfl h) ?_
    refine AD.opY [8, 72] rfl rfl rfl q43 (by kernel_rfl) rfl rfl (fun _ _ h => AOp.move rfl rfl (ltb rfl) rfl h) ?_
    obtain ⟨q46, h0⟩ := need_elim h0
    refine AD.opY [72, 79] rfl rfl rfl q43 (by kernel_rfl) rfl rfl (fun _ _ h => AOp.iadd rfl rfl (ltb rfl) rfl rfl rfl q46.1 q46.2 h) ?_
    obtain ⟨x47, q48, h0⟩ := idx_elim h0
    refine AD.opY [72, 78, 80] rfl rfl rfl q43 (by kernel_rfl) rfl rfl (fun _ _ h => AOp.indexDs (cells := (List.map keS1 a0.Flat)) rfl rfl (ltb rfl) rfl rfl el25 (by decide) q48.1 (lt1 q48.2) h) ?_
    refine AD.opY [72, 81] rfl rfl rfl q43 (by kernel_rfl) rfl rfl (fun _ _ h => AOp.loadEp rfl rfl (ltb rfl) rfl agg37 (at1 q48.2) h) ?_
    refine AD.opY [72, 76, 82] rfl rfl rfl q43 (by kernel_rfl) rfl rfl (fun _ _ h => AOp.fneq rfl rfl (ltb rfl) rfl rfl h) ?_
    refine AD.op [72, 83] rfl (by kernel_rfl) rfl rfl (fun _ _ h => AOp.pickN rfl rfl (ltb rfl) rfl q43 rfl h) ?_
    refine AD.done ?_
    refine AO.nil ?_
    exact ⟨(!feq x44 x47), _, rfl, (LeL.refl _), rfl, rfl, h0⟩
  intro g9 h0
  unfold p_FnAreaMoved_k2 at h0
  refine AC.cond rfl (fun q10 => ?_) (fun q10 => ?_)
  · replace h0 := cT h0 q10
    refine AC.seq ?_
    refine AC.region ?_
    refine AO.op rfl (AOp.assign rfl rfl (ltb rfl) rfl ?_)
    refine AO.nil ?_
    change AC _ _ _ _
    refine AC.ret ?_
    change RetQ _ _ _ .ret _
    obtain rfl := Option.some.inj h0
    refine retq rfl rfl
  replace h0 := cF h0 q10
  refine AC.skip ?_
  change AC _ _ _ _
  refine AC.seq ?_
  refine AC.region ?_
  refine AO.op rfl (AOp.fieldAddr rfl rfl (ltb rfl) rfl fo30_0 ?_)
  refine AO.op rfl (AOp.load1 rfl rfl (ltb rfl) rfl agg3 rfl rfl ?_)
  refine AO.op rfl (AOp.fieldAddr rfl rfl (ltb rfl) rfl fo30_1 ?_)
  refine AO.op rfl (AOp.load1 rfl rfl (ltb rfl) rfl agg3 rfl rfl ?_)
  refine AO.op rfl (AOp.build rfl rfl (ltb rfl) zero30 rfl places30 rfl rfl ?_)
  refine AO.op rfl (AOp.alloc rfl rfl (ltb rfl) zero30 rfl ?_)
  refine AO.op rfl (AOp.store rfl rfl rfl rfl size30 rfl rfl rfl (leb rfl) ?_)
  refine AO.nil ?_
  change AC _ _ _ _
  refine AC.seq ?_
  refine AC.seq ?_
  refine AC.region ?_
  refine AO.op rfl (AOp.fieldAddr rfl rfl (ltb rfl) rfl fo30_3 ?_)
  refine AO.op rfl (AOp.load1 rfl rfl (ltb rfl) rfl agg25 rfl rfl ?_)
  refine AO.op rfl (AOp.lenDs (n := a0.Flat.length) (cells := (List.map keS1 a0.Flat)) rfl rfl (ltb rfl) rfl el25 (by decide) (len1 _ _) ?_)
  refine AO.op rfl (AOp.move rfl rfl (ltb rfl) rfl ?_)
  refine AO.nil ?_
  change AC _ _ _ _
  refine AC.adoptO 1 3 37 1 rfl rfl ?_
  obtain ⟨o11, l12, h0⟩ := bind_elim h0
  refine AC.joinE (V := (List Nat)) [3, 9] [] 3 (fun g13 => []) (fun g13 => [.fix 30 [.d (di .i64 a0.Kind), .d (di .i64 a0.Layout), .d (di .i64 a0.SRID), .d (eS1 a0.Flat), .d (eS2 a0.Ends), .d (eS3 a0.Endss), .d (eS0 a0.Kids)], .fix 30 [.d (di .i64 a0.Kind), .d (di .i64 a0.Layout), .d (di .i64 (0 : Int)), .own 2, .d (.v (.slice none 0 0)), .d (.v (.slice none 0 0)), .d (.v (.slice none 0 0))], .grow 37 1 (List.map keS1 g13)]) (fun g13 => (p_FnAreaMoved_k3 a0 F) g13 = some r0) rfl ?_ ?_
  · refine AC.block ?_
    refine AC.loopP (V := (Int × (List Nat))) (p_FnAreaMoved_l4 a0 a1 a2 y4) o11 [1, 2, 3, 7, 9, 91, 92] [93] 3 (fun g20 => [(93, .d (di .i64 g20.1))]) (fun g20 => [.fix 30 [.d (di .i64 a0.Kind), .d (di .i64 a0.Layout), .d (di .i64 a0.SRID), .d (eS1 a0.Flat), .d (eS2 a0.Ends), .d (eS3 a0.Endss), .d (eS0 a0.Kids)], .fix 30 [.d (di .i64 a0.Kind), .d (di .i64 a0.Layout), .d (di .i64 (0 : Int)), .own 2, .d (.v (.slice none 0 0)), .d (.v (.slice none 0 0)), .d (.v (.slice none 0 0))], .grow 37 1 (List.map keS1 g20.2)]) F ((0 : Int), []) l12 rfl rfl (LeL.refl _) rfl rfl ?_
    intro n22 g20 h1
    unfold p_FnAreaMoved_l4 at h1
    refine AC.seq ?_
    refine AC.region ?_
    refine AO.op rfl (AOp.ilss rfl rfl (ltb rfl) rfl rfl ?_)
    refine AO.nil ?_
    change AC _ _ _ _
    refine AC.seq ?_
    refine AC.cond rfl (fun q23 => ?_) (fun q23 => ?_)
    · replace h1 := cT h1 q23
      refine AC.skip ?_
      change AC _ _ _ _
      refine AC.seq ?_
      refine AC.block ?_
      refine AC.seq ?_
      refine AC.region ?_
      refine AO.op rfl (AOp.move rfl rfl (ltb rfl) rfl ?_)
      obtain ⟨x24, q25, h1⟩ := idx_elim h1
      refine AO.op rfl (AOp.indexDs (cells := (List.map keS1 a0.Flat)) rfl rfl (ltb rfl) rfl rfl el25 (by decide) q25.1 (lt1 q25.2) ?_)
      refine AO.op rfl (AOp.loadEp rfl rfl (ltb rfl) rfl agg37 (at1 q25.2) ?_)
      refine AO.op rfl (AOp.assign rfl rfl (ltb rfl) rfl ?_)
      refine AO.op rfl (AOp.assign rfl rfl (ltb rfl) rfl ?_)
      refine AO.nil ?_
      change AC _ _ _ _
      refine AC.seq ?_
      refine AC.joinP (V := Bool) [1, 2, 3, 7, 9, 10, 11, 91, 92, 93] [103] 3 (fun g26 => [(103, .d (dbool g26))]) (fun g26 => [.fix 30 [.d (di .i64 a0.Kind), .d (di .i64 a0.Layout), .d (di .i64 a0.SRID), .d (eS1 a0.Flat), .d (eS2 a0.Ends), .d (eS3 a0.Endss), .d (eS0 a0.Kids)], .fix 30 [.d (di .i64 a0.Kind), .d (di .i64 a0.Layout), .d (di .i64 (0 : Int)), .own 2, .d (.v (.slice none 0 0)), .d (.v (.slice none 0 0)), .d (.v (.slice none 0 0))], .grow 37 1 (List.map keS1 g20.2)]) (fun g26 => (p_FnAreaMoved_k5 a1 a2 y4 g20 (iter (p_FnAreaMoved_l4 a0 a1 a2 y4) n22) x24) g26 = some o11) rfl ?_ ?_
      · refine AC.region ?_
        refine AO.op rfl (AOp.move rfl rfl (ltb rfl) rfl ?_)
        refine AO.op rfl (AOp.flss rfl rfl (ltb rfl) rfl rfl ?_)
        refine AO.op rfl (AOp.move rfl rfl (ltb rfl) rfl ?_)
        refine AO.dec (flt x24 (13911619248947462144 : Nat)) (fun q38 => ?_) (fun q38 => ?_)
        · replace h1 := cT h1 q38
          refine AO.guardN rfl rfl rfl (ltb rfl) rfl q38 ?_
          refine AO.guardN rfl rfl rfl (ltb rfl) rfl q38 ?_
          refine AO.op rfl (AOp.pick rfl rfl (ltb rfl) rfl q38 rfl ?_)
          refine AO.nil ?_
          exact ⟨true, _, rfl, (LeL.refl _), rfl, rfl, h1⟩
        replace h1 := cF h1 q38
        refine AO.guardY rfl rfl rfl q38 (AOp.move rfl rfl (ltb rfl) rfl ?_)
        refine AO.guardY rfl rfl rfl q38 (AOp.fgtr rfl rfl (ltb rfl) rfl rfl ?_)
        refine AO.op rfl (AOp.pickN rfl rfl (ltb rfl) rfl q38 rfl ?_)
        refine AO.nil ?_
        exact ⟨(fgt x24 (4688247212092686336 : Nat)), _, rfl, (LeL.refl _), rfl, rfl, h1⟩
      intro g26 h1
      unfold p_FnAreaMoved_k5 at h1
      refine AC.cond rfl (fun q27 => ?_) (fun q27 => ?_)
      · replace h1 := cT h1 q27
        refine AC.seq ?_
        refine AC.region ?_
        refine AO.op rfl (AOp.assign rfl rfl (ltb rfl) rfl ?_)
        refine AO.nil ?_
        change AC _ _ _ _
        refine AC.ret ?_
        change RetQ _ _ _ .ret _
        obtain rfl := Option.some.inj h1
        replace h0 := aftR h0
        obtain rfl := Option.some.inj h0
        refine retq rfl rfl
      replace h1 := cF h1 q27
      refine AC.skip ?_
      change AC _ _ _ _
      refine AC.joinP (V := Nat) [1, 2, 3, 7, 9, 91, 92, 93] [11] 3 (fun g28 => [(11, .d (dfl g28))]) (fun g28 => [.fix 30 [.d (di .i64 a0.Kind), .d (di .i64 a0.Layout), .d (di .i64 a0.SRID), .d (eS1 a0.Flat), .d (eS2 a0.Ends), .d (eS3 a0.Endss), .d (eS0 a0.Kids)], .fix 30 [.d (di .i64 a0.Kind), .d (di .i64 a0.Layout), .d (di .i64 (0 : Int)), .own 2, .d (.v (.slice none 0 0)), .d (.v (.slice none 0 0)), .d (.v (.slice none 0 0))], .grow 37 1 (List.map keS1 g20.2)]) (fun g28 => (p_FnAreaMoved_k6 g20 (iter (p_FnAreaMoved_l4 a0 a1 a2 y4) n22)) g28 = some o11) rfl ?_ ?_
      · refine AC.seq ?_
        refine AC.region ?_
        refine AO.op rfl (AOp.move rfl rfl (ltb rfl) rfl ?_)
        refine AO.op rfl (AOp.move rfl rfl (ltb rfl) rfl ?_)
        obtain ⟨q31, h1⟩ := need_elim h1
        refine AO.op rfl (AOp.irem rfl rfl (ltb rfl) rfl rfl q31 rfl ?_)
        refine AO.nil ?_
        change AC _ _ _ _
        refine AC.block ?_
        refine AC.seq ?_
        refine AC.region ?_
        refine AO.op rfl (AOp.ieql rfl rfl (ltb rfl) rfl rfl ?_)
        refine AO.op rfl (AOp.assign rfl rfl (ltb rfl) rfl ?_)
        refine AO.nil ?_
        change AC _ _ _ _
        refine AC.cond rfl (fun q32 => ?_) (fun q32 => ?_)
        · replace h1 := cT h1 q32
          refine AC.region ?_
          refine AO.op rfl (AOp.move rfl rfl (ltb rfl) rfl ?_)
          refine AO.op rfl (AOp.move rfl rfl (ltb rfl) rfl ?_)
          refine AO.op rfl (AOp.i2f rfl rfl (ltb rfl) rfl Try.underlying3 Try.underlying37 ?_)
          obtain ⟨z33, q34, h1⟩ := bind_elim h1
          refine AO.op rfl (AOp.farith rfl rfl (ltb rfl) rfl rfl q34 ?_)
          refine AO.op rfl (AOp.assign rfl rfl (ltb rfl) rfl ?_)
          refine AO.nil ?_
          exact ⟨z33, _, rfl, (LeL.refl _), rfl, rfl, h1⟩
        replace h1 := cF h1 q32
        refine AC.seq ?_
        refine AC.region ?_
        refine AO.op rfl (AOp.ieql rfl rfl (ltb rfl) rfl rfl ?_)
        refine AO.op rfl (AOp.assign rfl rfl (ltb rfl) rfl ?_)
        refine AO.nil ?_
        change AC _ _ _ _
        refine AC.cond rfl (fun q35 => ?_) (fun q35 => ?_)
        · replace h1 := cT h1 q35
          refine AC.region ?_
          refine AO.op rfl (AOp.move rfl rfl (ltb rfl) rfl ?_)
          refine AO.op rfl (AOp.move rfl rfl (ltb rfl) rfl ?_)
          refine AO.op rfl (AOp.i2f rfl rfl (ltb rfl) rfl Try.underlying3 Try.underlying37 ?_)
          obtain ⟨z36, q37, h1⟩ := bind_elim h1
          refine AO.op rfl (AOp.farith rfl rfl (ltb rfl) rfl rfl q37 ?_)
          refine AO.op rfl (AOp.assign rfl rfl (ltb rfl) rfl ?_)
          refine AO.nil ?_
          exact ⟨z36, _, rfl, (LeL.refl _), rfl, rfl, h1⟩
        replace h1 := cF h1 q35
        refine AC.skip ?_
        exact ⟨x24, _, rfl, (LeL.refl _), rfl, rfl, h1⟩
      intro g28 h1
      unfold p_FnAreaMoved_k6 at h1
      refine AC.region ?_
      refine AO.op rfl (AOp.fieldAddr rfl rfl (ltb rfl) rfl fo30_3 ?_)
      refine AO.op rfl (AOp.load1 rfl rfl (ltb rfl) rfl agg25 rfl rfl ?_)
      refine AO.op rfl (AOp.move rfl rfl (ltb rfl) rfl ?_)
      refine AO.op rfl (AOp.buildSliceD rfl rfl (ltb rfl) el25 zero37 rfl (leb rfl) rfl rfl rfl rfl ?_)
      refine AO.subO 1 rfl (.cons (SVLe.refl _) (.cons (SVLe.refl _) (.cons (SVLe.refl _) (.cons (SVLe.any _) (.cons (SVLe.refl _) (.cons (SVLe.refl _) (.cons (SVLe.refl _) .nil))))))) ?_
      obtain ⟨q29, h1⟩ := need_elim h1
      refine AO.op rfl (AOp.appendOwn' (n := g20.2.length) (m := [g28].length) (news := (List.map keS1 [g28])) rfl rfl (ltb rfl) rfl rfl el25 info37 rfl (by decide) rfl (len1 _ _) (len1 _ _) (one1 _ (fun _ => rfl) _) q29 (by decide) rfl rfl (cat1 _ _ _) ?_)
      refine AO.op rfl (AOp.fieldAddr rfl rfl (ltb rfl) rfl fo30_3 ?_)
      refine AO.op rfl (AOp.storeOwn rfl rfl rfl rfl rfl rfl size25 rfl rfl (leb rfl) ?_)
      refine AO.nil ?_
      change AC _ _ _ _
      refine AC.region ?_
      obtain ⟨q30, h1⟩ := need_elim h1
      refine AO.op rfl (AOp.iadd rfl rfl (ltb rfl) rfl rfl rfl q30.1 q30.2 ?_)
      refine AO.op rfl (AOp.move rfl rfl (ltb rfl) rfl ?_)
      refine AO.nil ?_
      exact ⟨((g20.1 + (1 : Int)), (g20.2 ++ [g28])), _, rfl, (LeL.refl _), rfl, rfl, h1⟩
    replace h1 := cF h1 q23
    refine AC.exit ?_
    obtain rfl := Option.some.inj h1
    exact ⟨g20.2, _, rfl, (LeL.refl _), rfl, rfl, aftL h0⟩
  intro g13 h0
  unfold p_FnAreaMoved_k3 at h0
  change AC _ _ _ _
  refine AC.seq ?_
  refine AC.region ?_
  refine AO.op rfl (AOp.loadN rfl rfl (ltb rfl) rfl agg30 size30 rfl (leb rfl) rfl ?_)
  obtain ⟨y14, q15, h0⟩ := bind_elim h0
  refine AO.op rfl (AOp.callD rfl rfl (ltb rfl) rfl rfl (w_Area F a0 y14 q15) ?_)
  rintro _ rfl
  refine AO.op rfl (AOp.move rfl rfl (ltb rfl) rfl ?_)
  first | refine AO.op rfl (AOp.extractD rfl rfl (ltb rfl) rfl rfl ?_) | refine AO.op rfl (AOp.extract rfl rfl (ltb rfl) rfl rfl ?_)
  first | refine AO.op rfl (AOp.extractD rfl rfl (ltb rfl) rfl rfl ?_) | refine AO.op rfl (AOp.extract rfl rfl (ltb rfl) rfl rfl ?_)
  refine AO.op rfl (AOp.assign rfl rfl (ltb rfl) rfl ?_)
  refine AO.op rfl (AOp.assign rfl rfl (ltb rfl) rfl ?_)
  refine AO.nil ?_
  change AC _ _ _ _
  refine AC.seq ?_
  refine AC.region ?_
  refine AO.op rfl (AOp.loadN rfl rfl (ltb rfl) rfl agg30 size30 rfl (leb rfl) rfl ?_)
  refine AO.subO 1 rfl (.cons (SVLe.refl _) (.cons (SVLe.refl _) (.cons (SVLe.refl _) (.cons (SVLe.any _) (.cons (SVLe.refl _) (.cons (SVLe.refl _) (.cons (SVLe.refl _) .nil))))))) ?_
  refine AO.freezeG 2 rfl rfl rfl ?_
  refine AO.sub 132 rfl (SVLe.ag (.cons (SVLe.refl _) (.cons (SVLe.refl _) (.cons (SVLe.refl _) (.cons (SVLe.refl _) (.cons (SVLe.nil 1) (.cons (SVLe.nil 1) (.cons (SVLe.nil 7) .nil)))))))) ?_
  obtain ⟨y16, q17, h0⟩ := bind_elim h0
  refine AO.op rfl (AOp.callD rfl rfl (ltb rfl) rfl rfl (w_Area F (TImpl_Geom.mk a0.Kind a0.Layout (0 : Int) g13 [] [] []) y16 q17) ?_)
  rintro _ rfl
  refine AO.op rfl (AOp.move rfl rfl (ltb rfl) rfl ?_)
  first | refine AO.op rfl (AOp.extractD rfl rfl (ltb rfl) rfl rfl ?_) | refine AO.op rfl (AOp.extract rfl rfl (ltb rfl) rfl rfl ?_)
  first | refine AO.op rfl (AOp.extractD rfl rfl (ltb rfl) rfl rfl ?_) | refine AO.op rfl (AOp.extract rfl rfl (ltb rfl) rfl rfl ?_)
  refine AO.op rfl (AOp.assign rfl rfl (ltb rfl) rfl ?_)
  refine AO.op rfl (AOp.assign rfl rfl (ltb rfl) rfl ?_)
  refine AO.nil ?_
  change AC _ _ _ _
  refine AC.seq ?_
  refine AC.region ?_
  refine AO.op rfl (AOp.move rfl rfl (ltb rfl) rfl ?_)
  refine AO.op rfl (AOp.move rfl rfl (ltb rfl) rfl ?_)
  refine AO.dec y14.2 (fun q18 => ?_) (fun q18 => ?_)
  · replace h0 := cT h0 q18
    refine AO.guardY rfl rfl rfl q18 (AOp.move rfl rfl (ltb rfl) rfl ?_)
    refine AO.op rfl (AOp.pick rfl rfl (ltb rfl) rfl q18 rfl ?_)
    refine AO.op rfl (AOp.move rfl rfl (ltb rfl) rfl ?_)
    refine AO.dec y16.2 (fun q19 => ?_) (fun q19 => ?_)
    · replace h0 := cT h0 q19
      refine AO.guardY rfl rfl rfl q19 (AOp.move rfl rfl (ltb rfl) rfl ?_)
      refine AO.guardY rfl rfl rfl q19 (AOp.move rfl rfl (ltb rfl) rfl ?_)
      refine AO.guardY rfl rfl rfl q19 (AOp.feql rfl rfl (ltb rfl) rfl rfl ?_)
      refine AO.op rfl (AOp.pick rfl rfl (ltb rfl) rfl q19 rfl ?_)
      refine AO.op rfl (AOp.assign rfl rfl (ltb rfl) rfl ?_)
      refine AO.nil ?_
      change AC _ _ _ _
      refine AC.ret ?_
      change RetQ _ _ _ .ret _
      obtain rfl := Option.some.inj h0
      refine retq rfl rfl
    replace h0 := cF h0 q19
    refine AO.guardN rfl rfl rfl (ltb rfl) rfl q19 ?_
    refine AO.guardN rfl rfl rfl (ltb rfl) rfl q19 ?_
    refine AO.guardN rfl rfl rfl (ltb rfl) rfl q19 ?_
    refine AO.op rfl (AOp.pickN rfl rfl (ltb rfl) rfl q19 rfl ?_)
    refine AO.op rfl (AOp.assign rfl rfl (ltb rfl) rfl ?_)
    refine AO.nil ?_
    change AC _ _ _ _
    refine AC.ret ?_
    change RetQ _ _ _ .ret _
    obtain rfl := Option.some.inj h0
    refine retq rfl rfl
  replace h0 := cF h0 q18
  refine AO.guardN rfl rfl rfl (ltb rfl) rfl q18 ?_
  refine AO.op rfl (AOp.pickN rfl rfl (ltb rfl) rfl q18 rfl ?_)
  refine AO.op rfl (AOp.move rfl rfl (ltb rfl) rfl ?_)
  refine AO.guardN rfl rfl rfl (ltb rfl) rfl rfl ?_
  refine AO.guardN rfl rfl rfl (ltb rfl) rfl rfl ?_
  refine AO.guardN rfl rfl rfl (ltb rfl) rfl rfl ?_
  refine AO.op rfl (AOp.pickN rfl rfl (ltb rfl) rfl rfl rfl ?_)
  refine AO.op rfl (AOp.assign rfl rfl (ltb rfl) rfl ?_)
  refine AO.nil ?_
  change AC _ _ _ _
  refine AC.ret ?_
  change RetQ _ _ _ .ret _
  obtain rfl := Option.some.inj h0
  refine retq rfl rfl

end Go.Proofs.Ytlafodjpnolmhaa.Wk
