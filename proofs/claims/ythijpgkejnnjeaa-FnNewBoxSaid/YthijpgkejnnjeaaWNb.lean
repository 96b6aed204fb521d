/- Proved: functions of the program compute what the printed functions say, wherever these say something. -/
import Derived.Test.YthijpgkejnnjeaaPNb
import Derived.Test.YthijpgkejnnjeaaVmDraw4
import Derived.Test.YthijpgkejnnjeaaVmNaN
import Derived.Test.YthijpgkejnnjeaaFltDy
import Derived.Test.YthijpgkejnnjeaaFltMin
import Derived.Test.YthijpgkejnnjeaaVmFin
import Derived.Test.YthijpgkejnnjeaaProg
namespace Go.Proofs.Ythijpgkejnnjeaa.Wk
open Go.Vm
set_option linter.unusedVariables false
set_option linter.unusedSimpArgs false
theorem agg22 : aggT Try.prog 22 = some false := by kernel_rfl
theorem agg24 : aggT Try.prog 24 = some true := by kernel_rfl
theorem agg3 : aggT Try.prog 3 = some false := by kernel_rfl
theorem agg40 : aggT Try.prog 40 = some false := by kernel_rfl
theorem agg79 : aggT Try.prog 79 = some false := by kernel_rfl
theorem agg80 : aggT Try.prog 80 = some false := by kernel_rfl
theorem el22 : elemT Try.prog 22 = some (40, 1) := by kernel_rfl
theorem el80 : elemT Try.prog 80 = some (40, 1) := by kernel_rfl
theorem fo110_0 : fieldOff Try.prog 110 0 = some 0 := by kernel_rfl
theorem fo110_1 : fieldOff Try.prog 110 1 = some 1 := by kernel_rfl
theorem fo110_2 : fieldOff Try.prog 110 2 = some 2 := by kernel_rfl
theorem fo24_0 : fieldOff Try.prog 24 0 = some 0 := by kernel_rfl
theorem fo24_1 : fieldOff Try.prog 24 1 = some 1 := by kernel_rfl
theorem fo24_2 : fieldOff Try.prog 24 2 = some 2 := by kernel_rfl
theorem idle51 (vs : Array Value) (w : World) (h : vs.size = 2) : CallsD Try.prog 51 vs .returning w fun e u' w' => e = .returned (.tuple #[]) ∧ u' = .returning ∧ w' = w := by
  obtain ⟨x0, x1, rfl⟩ : ∃ x0 x1, vs = #[x0, x1] := by
    obtain ⟨l⟩ := vs
    match l, h with
    | [x0, x1], _ => exact ⟨x0, x1, rfl⟩
  refine callsD_of_wpS Try.func51 rfl fun c₀ cs hu => ?_
  apply wpS_seq
  apply wpS_region
  simp [wpOpsS, go_sem, recoverD, hu, Try.ntmps51, Exit.thenS]
  refine wpS_cond (t := false) (by simp [Act.eval, Array.replicate]) ?_
  simp only [Bool.false_eq_true, if_false]
  refine wpS_of_wp (wp_skip ?_)
  cases c₀
  simp_all [bodyPostS, results, Try.results51]
theorem info40 : (Try.prog.info? 40).map (fun i => (i.zero, i.size, i.bytes)) = some (some (.float .f64 0), 1, 8) := by kernel_rfl
theorem mixed : Try.prog.follows .mixedOrders = true := by kernel_rfl
def pl110 : Nat → Option (Nat × Nat) := fun i => ([(0, 1), (1, 1), (2, 1)] : List (Nat × Nat))[i]?
theorem places110 : placesT Try.prog 110 = some pl110 := by kernel_rfl
def pl24 : Nat → Option (Nat × Nat) := fun i => ([(0, 1), (1, 1), (2, 1)] : List (Nat × Nat))[i]?
theorem places24 : placesT Try.prog 24 = some pl24 := by kernel_rfl
theorem size22 : sizeT Try.prog 22 = some 1 := by kernel_rfl
theorem size24 : sizeT Try.prog 24 = some 3 := by kernel_rfl
theorem size4 : sizeT Try.prog 4 = some 1 := by kernel_rfl
theorem size40 : sizeT Try.prog 40 = some 1 := by kernel_rfl
theorem zero110 : (Try.prog.info? 110).map (·.zero) = some (some (.agg #[.int .i64 0, .slice none 0 0, .slice none 0 0])) := by kernel_rfl
theorem zero24 : (Try.prog.info? 24).map (·.zero) = some (some (.agg #[.int .i64 0, .slice none 0 0, .slice none 0 0])) := by kernel_rfl
theorem zero4 : (Try.prog.info? 4).map (·.zero) = some (some (.bool false)) := by kernel_rfl
theorem zero40 : (Try.prog.info? 40).map (·.zero) = some (some (.float .f64 0)) := by kernel_rfl
set_option maxRecDepth 100000 in
set_option maxHeartbeats 1000000 in
/-- (pub-orthodrome/pub/gogeom.Layout).Stride -/
theorem w_Layout_Stride (a0 : Int) (r0 : Int) (h0 : p_Layout_Stride a0 = some r0) : FnD Try.prog 72 [di .i64 a0] (fun r => r = di .i64 r0) := by
  refine FnD.of (by kernel_rfl) Try.func72 rfl Try.ntmps72 rfl (leb rfl) fun W ok => ?_
  unfold p_Layout_Stride at h0
  refine AC.seq ?_
  refine AC.region ?_
  refine AO.op rfl (AOp.assign rfl rfl (ltb rfl) rfl ?_)
  refine AO.nil ?_
  change AC _ _ _ _
  refine AC.seq ?_
  refine AC.region ?_
  refine AO.op rfl (AOp.move rfl rfl (ltb rfl) rfl ?_)
  refine AO.nil ?_
  change AC _ _ _ _
  refine AC.block ?_
  refine AC.seq ?_
  refine AC.region ?_
  refine AO.op rfl (AOp.ieql rfl rfl (ltb rfl) rfl rfl ?_)
  refine AO.op rfl (AOp.assign rfl rfl (ltb rfl) rfl ?_)
  refine AO.nil ?_
  change AC _ _ _ _
  refine AC.cond rfl (fun q1 => ?_) (fun q1 => ?_)
  · replace h0 := cT h0 q1
    refine AC.seq ?_
    refine AC.region ?_
    refine AO.op rfl (AOp.assign rfl rfl (ltb rfl) rfl ?_)
    refine AO.nil ?_
    change AC _ _ _ _
    refine AC.ret ?_
    change RetQ _ _ _ .ret _
    obtain rfl := Option.some.inj h0
    refine retq rfl rfl
  · replace h0 := cF h0 q1
    refine AC.seq ?_
    refine AC.region ?_
    refine AO.op rfl (AOp.ieql rfl rfl (ltb rfl) rfl rfl ?_)
    refine AO.op rfl (AOp.assign rfl rfl (ltb rfl) rfl ?_)
    refine AO.nil ?_
    change AC _ _ _ _
    refine AC.cond rfl (fun q2 => ?_) (fun q2 => ?_)
    · replace h0 := cT h0 q2
      refine AC.seq ?_
      refine AC.region ?_
      refine AO.op rfl (AOp.assign rfl rfl (ltb rfl) rfl ?_)
      refine AO.nil ?_
      change AC _ _ _ _
      refine AC.ret ?_
      change RetQ _ _ _ .ret _
      obtain rfl := Option.some.inj h0
      refine retq rfl rfl
    · replace h0 := cF h0 q2
      refine AC.seq ?_
      refine AC.region ?_
      refine AO.op rfl (AOp.ieql rfl rfl (ltb rfl) rfl rfl ?_)
      refine AO.op rfl (AOp.assign rfl rfl (ltb rfl) rfl ?_)
      refine AO.nil ?_
      change AC _ _ _ _
      refine AC.cond rfl (fun q3 => ?_) (fun q3 => ?_)
      · replace h0 := cT h0 q3
        refine AC.seq ?_
        refine AC.region ?_
        refine AO.op rfl (AOp.assign rfl rfl (ltb rfl) rfl ?_)
        refine AO.nil ?_
        change AC _ _ _ _
        refine AC.ret ?_
        change RetQ _ _ _ .ret _
        obtain rfl := Option.some.inj h0
        refine retq rfl rfl
      · replace h0 := cF h0 q3
        refine AC.seq ?_
        refine AC.region ?_
        refine AO.op rfl (AOp.ieql rfl rfl (ltb rfl) rfl rfl ?_)
        refine AO.op rfl (AOp.assign rfl rfl (ltb rfl) rfl ?_)
        refine AO.nil ?_
        change AC _ _ _ _
        refine AC.cond rfl (fun q4 => ?_) (fun q4 => ?_)
        · replace h0 := cT h0 q4
          refine AC.seq ?_
          refine AC.region ?_
          refine AO.op rfl (AOp.assign rfl rfl (ltb rfl) rfl ?_)
          refine AO.nil ?_
          change AC _ _ _ _
          refine AC.ret ?_
          change RetQ _ _ _ .ret _
          obtain rfl := Option.some.inj h0
          refine retq rfl rfl
        · replace h0 := cF h0 q4
          refine AC.seq ?_
          refine AC.region ?_
          refine AO.op rfl (AOp.ieql rfl rfl (ltb rfl) rfl rfl ?_)
          refine AO.op rfl (AOp.assign rfl rfl (ltb rfl) rfl ?_)
          refine AO.nil ?_
          change AC _ _ _ _
          refine AC.cond rfl (fun q5 => ?_) (fun q5 => ?_)
          · replace h0 := cT h0 q5
            refine AC.seq ?_
            refine AC.region ?_
            refine AO.op rfl (AOp.assign rfl rfl (ltb rfl) rfl ?_)
            refine AO.nil ?_
            change AC _ _ _ _
            refine AC.ret ?_
            change RetQ _ _ _ .ret _
            obtain rfl := Option.some.inj h0
            refine retq rfl rfl
          · replace h0 := cF h0 q5
            refine AC.seq ?_
            refine AC.region ?_
            refine AO.op rfl (AOp.move rfl rfl (ltb rfl) rfl ?_)
            refine AO.op rfl (AOp.assign rfl rfl (ltb rfl) rfl ?_)
            refine AO.nil ?_
            change AC _ _ _ _
            refine AC.ret ?_
            change RetQ _ _ _ .ret _
            obtain rfl := Option.some.inj h0
            refine retq rfl rfl

theorem callFromBits (x : Nat) (w : World) : (callFunc 81 #[.int .u64 x]).run Try.prog w = .ok (.value (.float .f64 x)) w := by
  rw [run_callFunc_extern Try.func81 (by kernel_rfl) (by kernel_rfl) (by kernel_rfl) (e := Extern.MathFloatBits.float64frombits) (by kernel_rfl), run_f64frombits Try.prog x]
  rfl

set_option maxRecDepth 100000 in
set_option maxHeartbeats 1000000 in
/-- math.Inf -/
theorem w_Inf (a0 : Int) (r0 : Nat) (h0 : p_Inf a0 = some r0) : FnD Try.prog 54 [di .i64 a0] (fun r => r = dfl r0) := by
  refine FnD.of (by kernel_rfl) Try.func54 rfl Try.ntmps54 rfl (leb rfl) fun W ok => ?_
  unfold p_Inf at h0
  refine AC.seq ?_
  refine AC.region ?_
  refine AO.op rfl (AOp.assign rfl rfl (ltb rfl) rfl ?_)
  refine AO.nil ?_
  change AC _ _ _ _
  refine AC.seq ?_
  refine AC.region ?_
  refine AO.op rfl (AOp.assign rfl rfl (ltb rfl) rfl ?_)
  refine AO.nil ?_
  change AC _ _ _ _
  refine AC.seq ?_
  refine AC.seq ?_
  refine AC.region ?_
  refine AO.op rfl (AOp.move rfl rfl (ltb rfl) rfl ?_)
  refine AO.op rfl (AOp.igeq rfl rfl (ltb rfl) rfl rfl ?_)
  refine AO.nil ?_
  change AC _ _ _ _
  refine AC.cond rfl (fun q1 => ?_) (fun q1 => ?_)
  · replace h0 := cT h0 q1
    refine AC.region ?_
    refine AO.op rfl (AOp.assign rfl rfl (ltb rfl) rfl ?_)
    refine AO.nil ?_
    change AC _ _ _ _
    refine AC.seq ?_
    refine AC.region ?_
    refine AO.op rfl (AOp.move rfl rfl (ltb rfl) rfl ?_)
    obtain ⟨q2, h0⟩ := need_elim h0
    refine AO.op rfl (AOp.callX [.int .u64 ((((9218868437227405312 : Int)).toNat : Nat) : Int)] rfl rfl (ltb rfl) (by rw [q2]; rfl) (callFromBits (((9218868437227405312 : Int)).toNat)) ?_)
    refine AO.op rfl (AOp.assign rfl rfl (ltb rfl) rfl ?_)
    refine AO.nil ?_
    change AC _ _ _ _
    refine AC.ret ?_
    change RetQ _ _ _ .ret _
    obtain rfl := Option.some.inj h0
    refine retq rfl rfl
  · replace h0 := cF h0 q1
    refine AC.region ?_
    refine AO.op rfl (AOp.assign rfl rfl (ltb rfl) rfl ?_)
    refine AO.nil ?_
    change AC _ _ _ _
    refine AC.seq ?_
    refine AC.region ?_
    refine AO.op rfl (AOp.move rfl rfl (ltb rfl) rfl ?_)
    obtain ⟨q3, h0⟩ := need_elim h0
    refine AO.op rfl (AOp.callX [.int .u64 ((((18442240474082181120 : Int)).toNat : Nat) : Int)] rfl rfl (ltb rfl) (by rw [q3]; rfl) (callFromBits (((18442240474082181120 : Int)).toNat)) ?_)
    refine AO.op rfl (AOp.assign rfl rfl (ltb rfl) rfl ?_)
    refine AO.nil ?_
    change AC _ _ _ _
    refine AC.ret ?_
    change RetQ _ _ _ .ret _
    obtain rfl := Option.some.inj h0
    refine retq rfl rfl

set_option maxRecDepth 100000 in
set_option maxHeartbeats 1000000 in
/-- pub-orthodrome/pub/gogeom.NewBounds -/
theorem w_NewBounds (F : Nat) (a0 : Int) (r0 : TGeom_Bounds) (h0 : p_NewBounds F a0 = some r0) : FnD Try.prog 53 [di .i64 a0] (fun r => r = .pt (c_TGeom_Bounds r0)) := by
  refine FnD.of (by kernel_rfl) Try.func53 rfl Try.ntmps53 rfl (leb rfl) fun W ok => ?_
  unfold p_NewBounds at h0
  refine AC.seq ?_
  refine AC.region ?_
  refine AO.op rfl (AOp.assign rfl rfl (ltb rfl) rfl ?_)
  refine AO.nil ?_
  change AC _ _ _ _
  refine AC.seq ?_
  refine AC.region ?_
  refine AO.op rfl (AOp.move rfl rfl (ltb rfl) rfl ?_)
  obtain ⟨y1, q2, h0⟩ := bind_elim h0
  refine AO.op rfl (AOp.callD rfl rfl (ltb rfl) rfl rfl (w_Layout_Stride a0 y1 q2) ?_)
  rintro _ rfl
  refine AO.op rfl (AOp.assign rfl rfl (ltb rfl) rfl ?_)
  refine AO.nil ?_
  change AC _ _ _ _
  refine AC.seq ?_
  refine AC.room ?_
  refine AC.room ?_
  obtain ⟨q3, h0⟩ := need_elim h0
  obtain ⟨q4, h0⟩ := need_elim h0
  refine AC.drawS [0, 1, 2, 3, 4] [1, 3] [5] (fun L => [bif L 1 then .fix 40 (List.map (fun z => SV.d (keS0 z)) (List.replicate (y1).toNat (0 : Nat))) else .dead, bif L 3 then .fix 40 (List.map (fun z => SV.d (keS0 z)) (List.replicate (y1).toNat (0 : Nat))) else .dead]) [(1, SV.noO2 0 2), (3, SV.noO2 1 2)] mixed (by kernel_rfl) (fun L L' h => by simp only [h 1 (by decide), h 3 (by decide)]) rfl ?_
  refine AS.op [3] [] [1] [3] rfl rfl rfl (by kernel_rfl) (by kernel_rfl) rfl rfl (fun _ _ _ h => AOp.move rfl rfl (ltb rfl) rfl h) (by kernel_rfl) ?_
  refine AS.mid [9] [] [1] [3] rfl rfl rfl rfl (by kernel_rfl) (by kernel_rfl) rfl rfl (fun _ _ _ h => AOp.makeL (f := fun z => SV.d (keS0 z)) (z0 := (0 : Nat)) rfl rfl (ltb rfl) rfl rfl el80 info40 rfl rfl (by decide) q3.1 q3.2 rfl (AO.sink 0 2 rfl rfl rfl (.cons rfl (.cons (noO2_cond (noO2_fixl (fun _ => rfl)) rfl) .nil)) (noO2_fixl (fun _ => rfl)) h)) (by kernel_rfl) rfl ?_
  refine AS.op [3] [] [3] [1] rfl rfl rfl (by kernel_rfl) (by kernel_rfl) rfl rfl (fun _ _ _ h => AOp.move rfl rfl (ltb rfl) rfl h) (by kernel_rfl) ?_
  refine AS.mid [11] [] [3] [1] rfl rfl rfl rfl (by kernel_rfl) (by kernel_rfl) rfl rfl (fun _ _ _ h => AOp.makeL (f := fun z => SV.d (keS0 z)) (z0 := (0 : Nat)) rfl rfl (ltb rfl) rfl rfl el80 info40 rfl rfl (by decide) q4.1 q4.2 rfl (AO.sink 1 2 rfl rfl rfl (.cons (noO2_cond (noO2_fixl (fun _ => rfl)) rfl) (.cons rfl .nil)) (noO2_fixl (fun _ => rfl)) h)) (by kernel_rfl) rfl ?_
  refine AS.op [10] [1] [] [3] rfl rfl rfl (by kernel_rfl) (by kernel_rfl) rfl rfl (fun _ _ _ h => AOp.assign rfl rfl (ltb rfl) rfl h) (by kernel_rfl) ?_
  refine AS.done ?_
  refine AO.objs (obs' := [.fix 40 (List.map (fun z => SV.d (keS0 z)) (List.replicate (y1).toNat (0 : Nat))), .fix 40 (List.map (fun z => SV.d (keS0 z)) (List.replicate (y1).toNat (0 : Nat)))]) rfl ?_
  refine AO.op rfl (AOp.assign rfl rfl (ltb rfl) rfl ?_)
  refine AO.nil ?_
  change AC _ _ _ _
  refine AC.seq ?_
  refine AC.seq ?_
  refine AC.region ?_
  refine AO.op rfl (AOp.move rfl rfl (ltb rfl) rfl ?_)
  refine AO.op rfl (AOp.move rfl rfl (ltb rfl) rfl ?_)
  refine AO.nil ?_
  change AC _ _ _ _
  obtain ⟨o5, l6, h0⟩ := bind_elim h0
  refine AC.joinE (V := ((List Nat) × (List Nat))) [0, 4, 5] [] 2 (fun g7 => []) (fun g7 => [.fix 40 (List.map (fun z => SV.d (keS0 z)) g7.1), .fix 40 (List.map (fun z => SV.d (keS0 z)) g7.2)]) (fun g7 => (p_NewBounds_k1 a0 y1) g7 = some r0) rfl ?_ ?_
  · refine AC.block ?_
    refine AC.loopP (V := (Int × (List Nat) × (List Nat))) (p_NewBounds_l2 y1) o5 [0, 4, 5, 13] [14] 2 (fun g10 => [(14, .d (di .i64 g10.1))]) (fun g10 => [.fix 40 (List.map (fun z => SV.d (keS0 z)) g10.2.1), .fix 40 (List.map (fun z => SV.d (keS0 z)) g10.2.2)]) F ((0 : Int), (List.replicate (y1).toNat (0 : Nat)), (List.replicate (y1).toNat (0 : Nat))) l6 rfl rfl (LeL.refl _) rfl (okU_mk rfl (okU_cons (okU_fixl (fun _ => rfl)) (okU_cons (okU_fixl (fun _ => rfl)) okU_nil))) ?_
    intro n12 g10 h1
    unfold p_NewBounds_l2 at h1
    refine AC.seq ?_
    refine AC.region ?_
    refine AO.op rfl (AOp.ilss rfl rfl (ltb rfl) rfl rfl ?_)
    refine AO.nil ?_
    change AC _ _ _ _
    refine AC.seq ?_
    refine AC.cond rfl (fun q13 => ?_) (fun q13 => ?_)
    · replace h1 := cT h1 q13
      refine AC.skip ?_
      change AC _ _ _ _
      refine AC.seq ?_
      refine AC.block ?_
      refine AC.seq ?_
      refine AC.region ?_
      refine AO.op rfl (AOp.move rfl rfl (ltb rfl) rfl ?_)
      refine AO.op rfl (AOp.assign rfl rfl (ltb rfl) rfl ?_)
      refine AO.nil ?_
      change AC _ _ _ _
      refine AC.region ?_
      refine AO.op rfl (AOp.move rfl rfl (ltb rfl) rfl ?_)
      refine AO.op rfl (AOp.move rfl rfl (ltb rfl) rfl ?_)
      refine AO.op rfl (AOp.move rfl rfl (ltb rfl) rfl ?_)
      refine AO.op rfl (AOp.move rfl rfl (ltb rfl) rfl ?_)
      obtain ⟨y14, q15, h1⟩ := bind_elim h1
      refine AO.op rfl (AOp.callD rfl rfl (ltb rfl) rfl rfl (w_Inf (1 : Int) y14 q15) ?_)
      rintro _ rfl
      obtain ⟨y16, q17, h1⟩ := bind_elim h1
      refine AO.op rfl (AOp.callD rfl rfl (ltb rfl) rfl rfl (w_Inf (-1 : Int) y16 q17) ?_)
      rintro _ rfl
      obtain ⟨q18, h1⟩ := need_elim h1
      refine AO.op rfl (AOp.indexSl rfl rfl (ltb rfl) rfl rfl el80 q18.1 q18.2 ?_)
      obtain ⟨q19, h1⟩ := need_elim h1
      refine AO.op rfl (AOp.storeL (f := fun z => SV.d (keS0 z)) (l := g10.2.1) (i := (g10.1).toNat) (v := y14) rfl rfl rfl rfl size40 rfl rfl rfl q19 ?_)
      obtain ⟨q20, h1⟩ := need_elim h1
      refine AO.op rfl (AOp.indexSl rfl rfl (ltb rfl) rfl rfl el80 q20.1 q20.2 ?_)
      obtain ⟨q21, h1⟩ := need_elim h1
      refine AO.op rfl (AOp.storeL (f := fun z => SV.d (keS0 z)) (l := g10.2.2) (i := (g10.1).toNat) (v := y16) rfl rfl rfl rfl size40 rfl rfl rfl q21 ?_)
      refine AO.nil ?_
      change AC _ _ _ _
      refine AC.region ?_
      obtain ⟨q22, h1⟩ := need_elim h1
      refine AO.op rfl (AOp.iadd rfl rfl (ltb rfl) rfl rfl rfl q22.1 q22.2 ?_)
      refine AO.op rfl (AOp.move rfl rfl (ltb rfl) rfl ?_)
      refine AO.nil ?_
      exact ⟨((g10.1 + (1 : Int)), (g10.2.1.set (g10.1).toNat y14), (g10.2.2.set (g10.1).toNat y16)), _, rfl, (LeL.refl _), rfl, (okU_mk rfl (okU_cons (okU_fixl (fun _ => rfl)) (okU_cons (okU_fixl (fun _ => rfl)) okU_nil))), h1⟩
    · replace h1 := cF h1 q13
      refine AC.exit ?_
      obtain rfl := Option.some.inj h1
      exact ⟨(g10.2.1, g10.2.2), _, rfl, (LeL.refl _), rfl, (okU_mk rfl (okU_cons (okU_fixl (fun _ => rfl)) (okU_cons (okU_fixl (fun _ => rfl)) okU_nil))), aftL h0⟩
  · intro g7 h0
    unfold p_NewBounds_k1 at h0
    change AC _ _ _ _
    refine AC.seq ?_
    refine AC.region ?_
    refine AO.op rfl (AOp.move rfl rfl (ltb rfl) rfl ?_)
    refine AO.op rfl (AOp.move rfl rfl (ltb rfl) rfl ?_)
    refine AO.op rfl (AOp.move rfl rfl (ltb rfl) rfl ?_)
    obtain ⟨q8, h0⟩ := need_elim h0
    refine AO.freezeF (ds := (List.map keS0 g7.1)) 27 0 rfl rfl rfl (by rw [List.map_map]; rfl) (by rw [q8]; exact len1 _ _) (Nat.le_refl _) ?_
    obtain ⟨q9, h0⟩ := need_elim h0
    refine AO.freezeF (ds := (List.map keS0 g7.2)) 28 1 rfl rfl rfl (by rw [List.map_map]; rfl) (by rw [q9]; exact len1 _ _) (Nat.le_refl _) ?_
    refine AO.op rfl (AOp.build rfl rfl (ltb rfl) zero110 rfl places110 rfl rfl ?_)
    refine AO.op rfl (AOp.box rfl rfl (ltb rfl) rfl rfl ?_)
    refine AO.op rfl (AOp.assign rfl rfl (ltb rfl) rfl ?_)
    refine AO.nil ?_
    change AC _ _ _ _
    refine AC.ret ?_
    change RetQ _ _ _ .ret _
    obtain rfl := Option.some.inj h0
    refine retq rfl rfl

set_option maxRecDepth 100000 in
set_option maxHeartbeats 1000000 in
/-- pub-orthodrome/pub/gogeom.DoorBoundsParts -/
theorem w_DoorBoundsParts (a0 : TGeom_Bounds) (r0 : (Int × (List Nat) × (List Nat))) (h0 : p_DoorBoundsParts a0 = some r0) : FnD Try.prog 80 [.pt (c_TGeom_Bounds a0)] (fun r => r = .tu [di .i64 r0.1, eS0 r0.2.1, eS0 r0.2.2]) := by
  refine FnD.of (by kernel_rfl) Try.func80 rfl Try.ntmps80 rfl (leb rfl) fun W ok => ?_
  unfold p_DoorBoundsParts at h0
  refine AC.seq ?_
  refine AC.region ?_
  refine AO.op rfl (AOp.assign rfl rfl (ltb rfl) rfl ?_)
  refine AO.op rfl (AOp.assign rfl rfl (ltb rfl) rfl ?_)
  refine AO.op rfl (AOp.assign rfl rfl (ltb rfl) rfl ?_)
  refine AO.nil ?_
  change AC _ _ _ _
  refine AC.seq ?_
  refine AC.draw 15 mixed (by kernel_rfl) ?_
  refine AD.op [0] rfl (by kernel_rfl) rfl rfl (fun _ _ h => AOp.move rfl rfl (ltb rfl) rfl h) ?_
  refine AD.op [5] rfl (by kernel_rfl) rfl rfl (fun _ _ h => AOp.nilCheck rfl rfl (ltb rfl) rfl rfl h) ?_
  refine AD.op [6] rfl (by kernel_rfl) rfl rfl (fun _ _ h => AOp.fieldAddrPt rfl rfl (ltb rfl) rfl fo110_0 h) ?_
  refine AD.op [7] rfl (by kernel_rfl) rfl rfl (fun _ _ h => AOp.loadEp rfl rfl (ltb rfl) rfl agg79 rfl h) ?_
  refine AD.op [0] rfl (by kernel_rfl) rfl rfl (fun _ _ h => AOp.move rfl rfl (ltb rfl) rfl h) ?_
  refine AD.op [9] rfl (by kernel_rfl) rfl rfl (fun _ _ h => AOp.nilCheck rfl rfl (ltb rfl) rfl rfl h) ?_
  refine AD.op [10] rfl (by kernel_rfl) rfl rfl (fun _ _ h => AOp.fieldAddrPt rfl rfl (ltb rfl) rfl fo110_1 h) ?_
  refine AD.op [11] rfl (by kernel_rfl) rfl rfl (fun _ _ h => AOp.loadEp rfl rfl (ltb rfl) rfl agg80 rfl h) ?_
  refine AD.op [0] rfl (by kernel_rfl) rfl rfl (fun _ _ h => AOp.move rfl rfl (ltb rfl) rfl h) ?_
  refine AD.op [13] rfl (by kernel_rfl) rfl rfl (fun _ _ h => AOp.nilCheck rfl rfl (ltb rfl) rfl rfl h) ?_
  refine AD.op [14] rfl (by kernel_rfl) rfl rfl (fun _ _ h => AOp.fieldAddrPt rfl rfl (ltb rfl) rfl fo110_2 h) ?_
  refine AD.op [15] rfl (by kernel_rfl) rfl rfl (fun _ _ h => AOp.loadEp rfl rfl (ltb rfl) rfl agg80 rfl h) ?_
  refine AD.op [8] rfl (by kernel_rfl) rfl rfl (fun _ _ h => AOp.assign rfl rfl (ltb rfl) rfl h) ?_
  refine AD.op [12] rfl (by kernel_rfl) rfl rfl (fun _ _ h => AOp.assign rfl rfl (ltb rfl) rfl h) ?_
  refine AD.op [16] rfl (by kernel_rfl) rfl rfl (fun _ _ h => AOp.assign rfl rfl (ltb rfl) rfl h) ?_
  refine AD.done ?_
  refine AO.nil ?_
  change AC _ _ _ _
  refine AC.ret ?_
  change RetQ _ _ _ .ret _
  obtain rfl := Option.some.inj h0
  refine retq rfl rfl

set_option maxRecDepth 100000 in
set_option maxHeartbeats 1000000 in
/-- pub-orthodrome/impl.floats -/
theorem w_floats (a0 : (List Nat)) (r0 : (List Nat)) (h0 : p_floats a0 = some r0) : FnD Try.prog 62 [eS0 a0] (fun r => r = eS0 r0) := by
  refine FnD.of (by kernel_rfl) Try.func62 rfl Try.ntmps62 rfl (leb rfl) fun W ok => ?_
  unfold p_floats at h0
  refine AC.seq ?_
  refine AC.region ?_
  refine AO.op rfl (AOp.assign rfl rfl (ltb rfl) rfl ?_)
  refine AO.nil ?_
  change AC _ _ _ _
  refine AC.seq ?_
  refine AC.region ?_
  refine AO.op rfl (AOp.move rfl rfl (ltb rfl) rfl ?_)
  obtain ⟨q1, h0⟩ := need_elim h0
  refine AO.op rfl (AOp.appendNil (m := a0.length) (news := (List.map keS0 a0)) rfl rfl (ltb rfl) rfl rfl el22 info40 rfl (by decide) (len1 _ _) (one1 _ (fun _ => rfl) _) (small63 q1) (small q1 (by decide)) ?_)
  refine AO.op rfl (AOp.assign rfl rfl (ltb rfl) rfl ?_)
  refine AO.nil ?_
  change AC _ _ _ _
  refine AC.ret ?_
  change RetQ _ _ _ .ret _
  obtain rfl := Option.some.inj h0
  refine retq rfl rfl

set_option maxRecDepth 100000 in
set_option maxHeartbeats 1000000 in
/-- pub-orthodrome/impl.plainBox -/
theorem w_plainBox (a0 : TGeom_Bounds) (r0 : TImpl_Box) (h0 : p_plainBox a0 = some r0) : FnD Try.prog 52 [.pt (c_TGeom_Bounds a0)] (fun r => r = e_TImpl_Box r0) := by
  refine FnD.of (by kernel_rfl) Try.func52 rfl Try.ntmps52 rfl (leb rfl) fun W ok => ?_
  unfold p_plainBox at h0
  refine AC.seq ?_
  refine AC.region ?_
  refine AO.op rfl (AOp.alloc rfl rfl (ltb rfl) zero24 rfl ?_)
  refine AO.nil ?_
  change AC _ _ _ _
  refine AC.seq ?_
  refine AC.region ?_
  refine AO.op rfl (AOp.move rfl rfl (ltb rfl) rfl ?_)
  obtain ⟨y1, q2, h0⟩ := bind_elim h0
  refine AO.op rfl (AOp.callD rfl rfl (ltb rfl) rfl rfl (w_DoorBoundsParts a0 y1 q2) ?_)
  rintro _ rfl
  refine AO.op rfl (AOp.move rfl rfl (ltb rfl) rfl ?_)
  first | refine AO.op rfl (AOp.extractD rfl rfl (ltb rfl) rfl rfl ?_) | refine AO.op rfl (AOp.extract rfl rfl (ltb rfl) rfl rfl ?_)
  first | refine AO.op rfl (AOp.extractD rfl rfl (ltb rfl) rfl rfl ?_) | refine AO.op rfl (AOp.extract rfl rfl (ltb rfl) rfl rfl ?_)
  first | refine AO.op rfl (AOp.extractD rfl rfl (ltb rfl) rfl rfl ?_) | refine AO.op rfl (AOp.extract rfl rfl (ltb rfl) rfl rfl ?_)
  refine AO.op rfl (AOp.assign rfl rfl (ltb rfl) rfl ?_)
  refine AO.op rfl (AOp.assign rfl rfl (ltb rfl) rfl ?_)
  refine AO.op rfl (AOp.assign rfl rfl (ltb rfl) rfl ?_)
  refine AO.nil ?_
  change AC _ _ _ _
  refine AC.seq ?_
  refine AC.region ?_
  refine AO.op rfl (AOp.move rfl rfl (ltb rfl) rfl ?_)
  refine AO.op rfl (AOp.move rfl rfl (ltb rfl) rfl ?_)
  obtain ⟨y3, q4, h0⟩ := bind_elim h0
  refine AO.op rfl (AOp.callD rfl rfl (ltb rfl) rfl rfl (w_floats y1.2.1 y3 q4) ?_)
  rintro _ rfl
  refine AO.op rfl (AOp.move rfl rfl (ltb rfl) rfl ?_)
  obtain ⟨y5, q6, h0⟩ := bind_elim h0
  refine AO.op rfl (AOp.callD rfl rfl (ltb rfl) rfl rfl (w_floats y1.2.2 y5 q6) ?_)
  rintro _ rfl
  refine AO.op rfl (AOp.build rfl rfl (ltb rfl) zero24 rfl places24 rfl rfl ?_)
  refine AO.op rfl (AOp.store rfl rfl rfl rfl size24 rfl rfl rfl (leb rfl) ?_)
  refine AO.nil ?_
  change AC _ _ _ _
  refine AC.ret ?_
  change RetQ _ _ _ .ret _
  obtain rfl := Option.some.inj h0
  refine retq rfl rfl

set_option maxRecDepth 100000 in
set_option maxHeartbeats 1000000 in
/-- pub-orthodrome/impl.NewBox -/
theorem w_NewBox (F : Nat) (a0 : Int) (r0 : (TImpl_Box × Bool)) (h0 : p_NewBox F a0 = some r0) : FnD Try.prog 23 [di .i64 a0] (fun r => r = .tu [e_TImpl_Box r0.1, dbool r0.2]) := by
  refine FnD.wrap (g := 51) (m := 2) (fun vs w h => idle51 vs w h) (by kernel_rfl) Try.func23 rfl Try.ntmps23 rfl (leb rfl) fun W ok => ?_
  unfold p_NewBox at h0
  refine AW.seq ?_
  refine AC.region ?_
  refine AO.op rfl (AOp.alloc rfl rfl (ltb rfl) zero24 rfl ?_)
  refine AO.op rfl (AOp.alloc rfl rfl (ltb rfl) zero4 rfl ?_)
  refine AO.nil ?_
  refine ⟨rfl, ?_⟩
  refine AW.defer (caps := [.tmp 2, .tmp 3]) rfl rfl rfl (ltb rfl) rfl rfl rfl rfl (by kernel_rfl) rfl fun df => ?_
  refine AC.seq ?_
  refine AC.region ?_
  refine AO.op rfl (AOp.move rfl rfl (ltb rfl) rfl ?_)
  obtain ⟨y1, q2, h0⟩ := bind_elim h0
  refine AO.op rfl (AOp.callD rfl rfl (ltb rfl) rfl rfl (w_NewBounds F a0 y1 q2) ?_)
  rintro _ rfl
  obtain ⟨y3, q4, h0⟩ := bind_elim h0
  refine AO.op rfl (AOp.callD rfl rfl (ltb rfl) rfl rfl (w_plainBox y1 y3 q4) ?_)
  rintro _ rfl
  refine AO.op rfl (AOp.store rfl rfl rfl rfl size24 rfl rfl rfl (leb rfl) ?_)
  refine AO.op rfl (AOp.store rfl rfl rfl rfl size4 rfl rfl rfl (leb rfl) ?_)
  refine AO.nil ?_
  change AC _ _ _ _
  refine AC.ret ?_
  change RetQ _ _ _ .ret _
  obtain rfl := Option.some.inj h0
  refine retq rfl rfl

set_option maxRecDepth 100000 in
set_option maxHeartbeats 1000000 in
/-- pub-orthodrome/spec.Stride -/
theorem w_Stride (a0 : Int) (r0 : Int) (h0 : p_Stride a0 = some r0) : FnD Try.prog 14 [di .i64 a0] (fun r => r = di .i64 r0) := by
  refine FnD.of (by kernel_rfl) Try.func14 rfl Try.ntmps14 rfl (leb rfl) fun W ok => ?_
  unfold p_Stride at h0
  refine AC.seq ?_
  refine AC.region ?_
  refine AO.op rfl (AOp.assign rfl rfl (ltb rfl) rfl ?_)
  refine AO.nil ?_
  change AC _ _ _ _
  refine AC.seq ?_
  refine AC.block ?_
  refine AC.seq ?_
  refine AC.region ?_
  refine AO.op rfl (AOp.move rfl rfl (ltb rfl) rfl ?_)
  refine AO.op rfl (AOp.ilss rfl rfl (ltb rfl) rfl rfl ?_)
  refine AO.op rfl (AOp.assign rfl rfl (ltb rfl) rfl ?_)
  refine AO.nil ?_
  change AC _ _ _ _
  refine AC.cond rfl (fun q1 => ?_) (fun q1 => ?_)
  · replace h0 := cT h0 q1
    refine AC.seq ?_
    refine AC.region ?_
    refine AO.op rfl (AOp.assign rfl rfl (ltb rfl) rfl ?_)
    refine AO.nil ?_
    change AC _ _ _ _
    refine AC.ret ?_
    change RetQ _ _ _ .ret _
    obtain rfl := Option.some.inj h0
    refine retq rfl rfl
  · replace h0 := cF h0 q1
    refine AC.seq ?_
    refine AC.region ?_
    refine AO.op rfl (AOp.move rfl rfl (ltb rfl) rfl ?_)
    refine AO.op rfl (AOp.ieql rfl rfl (ltb rfl) rfl rfl ?_)
    refine AO.op rfl (AOp.assign rfl rfl (ltb rfl) rfl ?_)
    refine AO.nil ?_
    change AC _ _ _ _
    refine AC.cond rfl (fun q2 => ?_) (fun q2 => ?_)
    · replace h0 := cT h0 q2
      refine AC.seq ?_
      refine AC.region ?_
      refine AO.op rfl (AOp.assign rfl rfl (ltb rfl) rfl ?_)
      refine AO.nil ?_
      change AC _ _ _ _
      refine AC.ret ?_
      change RetQ _ _ _ .ret _
      obtain rfl := Option.some.inj h0
      refine retq rfl rfl
    · replace h0 := cF h0 q2
      refine AC.seq ?_
      refine AC.region ?_
      refine AO.op rfl (AOp.move rfl rfl (ltb rfl) rfl ?_)
      refine AO.op rfl (AOp.ieql rfl rfl (ltb rfl) rfl rfl ?_)
      refine AO.op rfl (AOp.move rfl rfl (ltb rfl) rfl ?_)
      refine AO.dec (decide (a0 = (2 : Int))) (fun q3 => ?_) (fun q3 => ?_)
      · replace h0 := cT h0 q3
        refine AO.guardN rfl rfl rfl (ltb rfl) rfl q3 ?_
        refine AO.guardN rfl rfl rfl (ltb rfl) rfl q3 ?_
        refine AO.op rfl (AOp.pick rfl rfl (ltb rfl) rfl q3 rfl ?_)
        refine AO.op rfl (AOp.assign rfl rfl (ltb rfl) rfl ?_)
        refine AO.nil ?_
        change AC _ _ _ _
        refine AC.condT rfl rfl ?_
        refine AC.seq ?_
        refine AC.region ?_
        refine AO.op rfl (AOp.assign rfl rfl (ltb rfl) rfl ?_)
        refine AO.nil ?_
        change AC _ _ _ _
        refine AC.ret ?_
        change RetQ _ _ _ .ret _
        obtain rfl := Option.some.inj h0
        refine retq rfl rfl
      · replace h0 := cF h0 q3
        refine AO.guardY rfl rfl rfl q3 (AOp.move rfl rfl (ltb rfl) rfl ?_)
        refine AO.guardY rfl rfl rfl q3 (AOp.ieql rfl rfl (ltb rfl) rfl rfl ?_)
        refine AO.op rfl (AOp.pickN rfl rfl (ltb rfl) rfl q3 rfl ?_)
        refine AO.op rfl (AOp.assign rfl rfl (ltb rfl) rfl ?_)
        refine AO.nil ?_
        change AC _ _ _ _
        refine AC.cond rfl (fun q4 => ?_) (fun q4 => ?_)
        · replace h0 := cT h0 q4
          refine AC.seq ?_
          refine AC.region ?_
          refine AO.op rfl (AOp.assign rfl rfl (ltb rfl) rfl ?_)
          refine AO.nil ?_
          change AC _ _ _ _
          refine AC.ret ?_
          change RetQ _ _ _ .ret _
          obtain rfl := Option.some.inj h0
          refine retq rfl rfl
        · replace h0 := cF h0 q4
          refine AC.skip ?_
          change AC _ _ _ _
          refine AC.seq ?_
          refine AC.region ?_
          refine AO.op rfl (AOp.move rfl rfl (ltb rfl) rfl ?_)
          refine AO.op rfl (AOp.assign rfl rfl (ltb rfl) rfl ?_)
          refine AO.nil ?_
          change AC _ _ _ _
          refine AC.ret ?_
          change RetQ _ _ _ .ret _
          obtain rfl := Option.some.inj h0
          refine retq rfl rfl

set_option maxRecDepth 100000 in
set_option maxHeartbeats 1000000 in
/-- pub-orthodrome/spec.NewBox -/
theorem w_NewBox_25 (F : Nat) (a0 : Int) (r0 : TImpl_Box) (h0 : p_NewBox_25 F a0 = some r0) : FnD Try.prog 25 [di .i64 a0] (fun r => r = e_TImpl_Box r0) := by
  refine FnD.of (by kernel_rfl) Try.func25 rfl Try.ntmps25 rfl (leb rfl) fun W ok => ?_
  unfold p_NewBox_25 at h0
  refine AC.seq ?_
  refine AC.region ?_
  refine AO.op rfl (AOp.alloc rfl rfl (ltb rfl) zero24 rfl ?_)
  refine AO.nil ?_
  change AC _ _ _ _
  refine AC.seq ?_
  refine AC.region ?_
  refine AO.op rfl (AOp.move rfl rfl (ltb rfl) rfl ?_)
  refine AO.op rfl (AOp.build rfl rfl (ltb rfl) zero24 rfl places24 rfl rfl ?_)
  refine AO.op rfl (AOp.alloc rfl rfl (ltb rfl) zero24 rfl ?_)
  refine AO.op rfl (AOp.store rfl rfl rfl rfl size24 rfl rfl rfl (leb rfl) ?_)
  refine AO.nil ?_
  change AC _ _ _ _
  refine AC.seq ?_
  refine AC.seq ?_
  refine AC.region ?_
  refine AO.op rfl (AOp.move rfl rfl (ltb rfl) rfl ?_)
  obtain ⟨y1, q2, h0⟩ := bind_elim h0
  refine AO.op rfl (AOp.callD rfl rfl (ltb rfl) rfl rfl (w_Stride a0 y1 q2) ?_)
  rintro _ rfl
  refine AO.op rfl (AOp.move rfl rfl (ltb rfl) rfl ?_)
  refine AO.nil ?_
  change AC _ _ _ _
  refine AC.adoptO 1 1 40 1 rfl rfl ?_
  refine AC.adoptO 1 2 40 1 rfl rfl ?_
  obtain ⟨o3, l4, h0⟩ := bind_elim h0
  refine AC.joinE (V := ((List Nat) × (List Nat))) [2, 3] [] 4 (fun g5 => []) (fun g5 => [.fix 24 [.d (di .i64 (0 : Int)), .d (.v (.slice none 0 0)), .d (.v (.slice none 0 0))], .fix 24 [.d (di .i64 a0), .own 2, .own 3], .grow 40 1 (List.map keS0 g5.1), .grow 40 1 (List.map keS0 g5.2)]) (fun g5 => (p_NewBox_25_k1 a0) g5 = some r0) rfl ?_ ?_
  · refine AC.block ?_
    refine AC.loopP (V := (Int × (List Nat) × (List Nat))) (p_NewBox_25_l2 y1) o3 [2, 3, 7] [8] 4 (fun g6 => [(8, .d (di .i64 g6.1))]) (fun g6 => [.fix 24 [.d (di .i64 (0 : Int)), .d (.v (.slice none 0 0)), .d (.v (.slice none 0 0))], .fix 24 [.d (di .i64 a0), .own 2, .own 3], .grow 40 1 (List.map keS0 g6.2.1), .grow 40 1 (List.map keS0 g6.2.2)]) F ((0 : Int), [], []) l4 rfl rfl (LeL.refl _) rfl rfl ?_
    intro n8 g6 h1
    unfold p_NewBox_25_l2 at h1
    refine AC.seq ?_
    refine AC.region ?_
    refine AO.op rfl (AOp.ilss rfl rfl (ltb rfl) rfl rfl ?_)
    refine AO.nil ?_
    change AC _ _ _ _
    refine AC.seq ?_
    refine AC.cond rfl (fun q9 => ?_) (fun q9 => ?_)
    · replace h1 := cT h1 q9
      refine AC.skip ?_
      change AC _ _ _ _
      refine AC.seq ?_
      refine AC.block ?_
      refine AC.seq ?_
      refine AC.draw 4 mixed (by kernel_rfl) ?_
      refine AD.op [3] rfl (by kernel_rfl) rfl rfl (fun _ _ h => AOp.fieldAddr rfl rfl (ltb rfl) rfl fo24_1 h) ?_
      refine AD.op [10] rfl (by kernel_rfl) rfl rfl (fun _ _ h => AOp.load1 rfl rfl (ltb rfl) rfl agg22 rfl rfl h) ?_
      obtain ⟨y10, q11, h1⟩ := bind_elim h1
      refine AD.op [] rfl (by kernel_rfl) rfl rfl (fun _ _ h => AOp.callD rfl rfl (ltb rfl) rfl rfl (w_Inf (1 : Int) y10 q11) (by rintro _ rfl; exact h)) ?_
      refine AD.op [12] rfl (by kernel_rfl) rfl rfl (fun _ _ h => AOp.buildSliceD rfl rfl (ltb rfl) el22 zero40 rfl (leb rfl) rfl rfl rfl rfl h) ?_
      refine AD.done ?_
      refine AO.subO 1 rfl (.cons (SVLe.refl _) (.cons (SVLe.any _) (.cons (SVLe.refl _) .nil))) ?_
      obtain ⟨q12, h1⟩ := need_elim h1
      refine AO.op rfl (AOp.appendOwn' (n := g6.2.1.length) (m := [y10].length) (news := (List.map keS0 [y10])) rfl rfl (ltb rfl) rfl rfl el22 info40 rfl (by decide) rfl (len1 _ _) (len1 _ _) (one1 _ (fun _ => rfl) _) q12 (by decide) rfl rfl (cat1 _ _ _) ?_)
      refine AO.op rfl (AOp.fieldAddr rfl rfl (ltb rfl) rfl fo24_1 ?_)
      refine AO.op rfl (AOp.storeOwn rfl rfl rfl rfl rfl rfl size22 rfl rfl (leb rfl) ?_)
      refine AO.nil ?_
      change AC _ _ _ _
      refine AC.draw 4 mixed (by kernel_rfl) ?_
      refine AD.op [3] rfl (by kernel_rfl) rfl rfl (fun _ _ h => AOp.fieldAddr rfl rfl (ltb rfl) rfl fo24_2 h) ?_
      refine AD.op [16] rfl (by kernel_rfl) rfl rfl (fun _ _ h => AOp.load1 rfl rfl (ltb rfl) rfl agg22 rfl rfl h) ?_
      obtain ⟨y13, q14, h1⟩ := bind_elim h1
      refine AD.op [] rfl (by kernel_rfl) rfl rfl (fun _ _ h => AOp.callD rfl rfl (ltb rfl) rfl rfl (w_Inf (-1 : Int) y13 q14) (by rintro _ rfl; exact h)) ?_
      refine AD.op [18] rfl (by kernel_rfl) rfl rfl (fun _ _ h => AOp.buildSliceD rfl rfl (ltb rfl) el22 zero40 rfl (leb rfl) rfl rfl rfl rfl h) ?_
      refine AD.done ?_
      refine AO.subO 1 rfl (.cons (SVLe.refl _) (.cons (SVLe.refl _) (.cons (SVLe.any _) .nil))) ?_
      obtain ⟨q15, h1⟩ := need_elim h1
      refine AO.op rfl (AOp.appendOwn' (n := g6.2.2.length) (m := [y13].length) (news := (List.map keS0 [y13])) rfl rfl (ltb rfl) rfl rfl el22 info40 rfl (by decide) rfl (len1 _ _) (len1 _ _) (one1 _ (fun _ => rfl) _) q15 (by decide) rfl rfl (cat1 _ _ _) ?_)
      refine AO.op rfl (AOp.fieldAddr rfl rfl (ltb rfl) rfl fo24_2 ?_)
      refine AO.op rfl (AOp.storeOwn rfl rfl rfl rfl rfl rfl size22 rfl rfl (leb rfl) ?_)
      refine AO.nil ?_
      change AC _ _ _ _
      refine AC.region ?_
      obtain ⟨q16, h1⟩ := need_elim h1
      refine AO.op rfl (AOp.iadd rfl rfl (ltb rfl) rfl rfl rfl q16.1 q16.2 ?_)
      refine AO.op rfl (AOp.move rfl rfl (ltb rfl) rfl ?_)
      refine AO.nil ?_
      exact ⟨((g6.1 + (1 : Int)), (g6.2.1 ++ [y10]), (g6.2.2 ++ [y13])), _, rfl, (LeL.refl _), rfl, rfl, h1⟩
    · replace h1 := cF h1 q9
      refine AC.exit ?_
      obtain rfl := Option.some.inj h1
      exact ⟨(g6.2.1, g6.2.2), _, rfl, (LeL.refl _), rfl, rfl, aftL h0⟩
  · intro g5 h0
    unfold p_NewBox_25_k1 at h0
    change AC _ _ _ _
    refine AC.seq ?_
    refine AC.region ?_
    refine AO.op rfl (AOp.loadN rfl rfl (ltb rfl) rfl agg24 size24 rfl (leb rfl) rfl ?_)
    refine AO.subO 1 rfl (.cons (SVLe.refl _) (.cons (SVLe.any _) (.cons (SVLe.refl _) .nil))) ?_
    refine AO.freezeG 2 rfl rfl rfl ?_
    refine AO.subO 1 rfl (.cons (SVLe.refl _) (.cons (SVLe.refl _) (.cons (SVLe.any _) .nil))) ?_
    refine AO.freezeG 3 rfl rfl rfl ?_
    refine AO.op rfl (AOp.store rfl rfl rfl rfl size24 rfl rfl rfl (leb rfl) ?_)
    refine AO.nil ?_
    change AC _ _ _ _
    refine AC.ret ?_
    change RetQ _ _ _ .ret _
    obtain rfl := Option.some.inj h0
    refine retq rfl rfl

set_option maxRecDepth 100000 in
set_option maxHeartbeats 1000000 in
/-- pub-orthodrome/spec.SameBox -/
theorem w_SameBox (F : Nat) (a0 : TImpl_Box) (a1 : TImpl_Box) (r0 : Bool) (h0 : p_SameBox F a0 a1 = some r0) : FnD Try.prog 24 [e_TImpl_Box a0, e_TImpl_Box a1] (fun r => r = dbool r0) := by
  refine FnD.of (by kernel_rfl) Try.func24 rfl Try.ntmps24 rfl (leb rfl) fun W ok => ?_
  unfold p_SameBox at h0
  refine AC.seq ?_
  refine AC.region ?_
  refine AO.op rfl (AOp.box rfl rfl (ltb rfl) rfl rfl ?_)
  refine AO.op rfl (AOp.box rfl rfl (ltb rfl) rfl rfl ?_)
  refine AO.op rfl (AOp.assign rfl rfl (ltb rfl) rfl ?_)
  refine AO.nil ?_
  change AC _ _ _ _
  refine AC.seq ?_
  refine AC.joinP (V := Bool) [2, 3] [37] 2 (fun g1 => [(37, .d (dbool g1))]) (fun g1 => [.fix 24 [.d (di .i64 a0.Layout), .d (eS0 a0.Min), .d (eS0 a0.Max)], .fix 24 [.d (di .i64 a1.Layout), .d (eS0 a1.Min), .d (eS0 a1.Max)]]) (fun g1 => (p_SameBox_k1 a0 a1 F) g1 = some r0) rfl ?_ ?_
  · refine AC.region ?_
    refine AO.op rfl (AOp.fieldAddr rfl rfl (ltb rfl) rfl fo24_0 ?_)
    refine AO.op rfl (AOp.load1 rfl rfl (ltb rfl) rfl agg3 rfl rfl ?_)
    refine AO.op rfl (AOp.fieldAddr rfl rfl (ltb rfl) rfl fo24_0 ?_)
    refine AO.op rfl (AOp.load1 rfl rfl (ltb rfl) rfl agg3 rfl rfl ?_)
    refine AO.op rfl (AOp.ineq rfl rfl (ltb rfl) rfl rfl ?_)
    refine AO.op rfl (AOp.move rfl rfl (ltb rfl) rfl ?_)
    refine AO.dec (!decide (a0.Layout = a1.Layout)) (fun q21 => ?_) (fun q21 => ?_)
    · replace h0 := cT h0 q21
      refine AO.guardN rfl rfl rfl (ltb rfl) rfl q21 ?_
      refine AO.guardN rfl rfl rfl (ltb rfl) rfl q21 ?_
      refine AO.guardN rfl rfl rfl (ltb rfl) rfl q21 ?_
      refine AO.guardN rfl rfl rfl (ltb rfl) rfl q21 ?_
      refine AO.guardN rfl rfl rfl (ltb rfl) rfl q21 ?_
      refine AO.guardN rfl rfl rfl (ltb rfl) rfl q21 ?_
      refine AO.guardN rfl rfl rfl (ltb rfl) rfl q21 ?_
      refine AO.op rfl (AOp.pick rfl rfl (ltb rfl) rfl q21 rfl ?_)
      refine AO.op rfl (AOp.move rfl rfl (ltb rfl) rfl ?_)
      refine AO.guardN rfl rfl rfl (ltb rfl) rfl rfl ?_
      refine AO.guardN rfl rfl rfl (ltb rfl) rfl rfl ?_
      refine AO.guardN rfl rfl rfl (ltb rfl) rfl rfl ?_
      refine AO.guardN rfl rfl rfl (ltb rfl) rfl rfl ?_
      refine AO.guardN rfl rfl rfl (ltb rfl) rfl rfl ?_
      refine AO.guardN rfl rfl rfl (ltb rfl) rfl rfl ?_
      refine AO.guardN rfl rfl rfl (ltb rfl) rfl rfl ?_
      refine AO.op rfl (AOp.pick rfl rfl (ltb rfl) rfl rfl rfl ?_)
      refine AO.op rfl (AOp.move rfl rfl (ltb rfl) rfl ?_)
      refine AO.guardN rfl rfl rfl (ltb rfl) rfl rfl ?_
      refine AO.guardN rfl rfl rfl (ltb rfl) rfl rfl ?_
      refine AO.guardN rfl rfl rfl (ltb rfl) rfl rfl ?_
      refine AO.guardN rfl rfl rfl (ltb rfl) rfl rfl ?_
      refine AO.guardN rfl rfl rfl (ltb rfl) rfl rfl ?_
      refine AO.guardN rfl rfl rfl (ltb rfl) rfl rfl ?_
      refine AO.guardN rfl rfl rfl (ltb rfl) rfl rfl ?_
      refine AO.op rfl (AOp.pick rfl rfl (ltb rfl) rfl rfl rfl ?_)
      refine AO.nil ?_
      exact ⟨true, _, rfl, (LeL.refl _), rfl, rfl, h0⟩
    · replace h0 := cF h0 q21
      refine AO.guardY rfl rfl rfl q21 (AOp.fieldAddr rfl rfl (ltb rfl) rfl fo24_1 ?_)
      refine AO.guardY rfl rfl rfl q21 (AOp.load1 rfl rfl (ltb rfl) rfl agg22 rfl rfl ?_)
      refine AO.guardY rfl rfl rfl q21 (AOp.lenDs (n := a0.Min.length) (cells := (List.map keS0 a0.Min)) rfl rfl (ltb rfl) rfl el22 (by decide) (len1 _ _) ?_)
      refine AO.guardY rfl rfl rfl q21 (AOp.fieldAddr rfl rfl (ltb rfl) rfl fo24_1 ?_)
      refine AO.guardY rfl rfl rfl q21 (AOp.load1 rfl rfl (ltb rfl) rfl agg22 rfl rfl ?_)
      refine AO.guardY rfl rfl rfl q21 (AOp.lenDs (n := a1.Min.length) (cells := (List.map keS0 a1.Min)) rfl rfl (ltb rfl) rfl el22 (by decide) (len1 _ _) ?_)
      refine AO.guardY rfl rfl rfl q21 (AOp.ineq rfl rfl (ltb rfl) rfl rfl ?_)
      refine AO.op rfl (AOp.pickN rfl rfl (ltb rfl) rfl q21 rfl ?_)
      refine AO.op rfl (AOp.move rfl rfl (ltb rfl) rfl ?_)
      refine AO.dec (!decide (((a0.Min.length : Nat) : Int) = ((a1.Min.length : Nat) : Int))) (fun q22 => ?_) (fun q22 => ?_)
      · replace h0 := cT h0 q22
        refine AO.guardN rfl rfl rfl (ltb rfl) rfl q22 ?_
        refine AO.guardN rfl rfl rfl (ltb rfl) rfl q22 ?_
        refine AO.guardN rfl rfl rfl (ltb rfl) rfl q22 ?_
        refine AO.guardN rfl rfl rfl (ltb rfl) rfl q22 ?_
        refine AO.guardN rfl rfl rfl (ltb rfl) rfl q22 ?_
        refine AO.guardN rfl rfl rfl (ltb rfl) rfl q22 ?_
        refine AO.guardN rfl rfl rfl (ltb rfl) rfl q22 ?_
        refine AO.op rfl (AOp.pick rfl rfl (ltb rfl) rfl q22 rfl ?_)
        refine AO.op rfl (AOp.move rfl rfl (ltb rfl) rfl ?_)
        refine AO.guardN rfl rfl rfl (ltb rfl) rfl rfl ?_
        refine AO.guardN rfl rfl rfl (ltb rfl) rfl rfl ?_
        refine AO.guardN rfl rfl rfl (ltb rfl) rfl rfl ?_
        refine AO.guardN rfl rfl rfl (ltb rfl) rfl rfl ?_
        refine AO.guardN rfl rfl rfl (ltb rfl) rfl rfl ?_
        refine AO.guardN rfl rfl rfl (ltb rfl) rfl rfl ?_
        refine AO.guardN rfl rfl rfl (ltb rfl) rfl rfl ?_
        refine AO.op rfl (AOp.pick rfl rfl (ltb rfl) rfl rfl rfl ?_)
        refine AO.nil ?_
        exact ⟨true, _, rfl, (LeL.refl _), rfl, rfl, h0⟩
      · replace h0 := cF h0 q22
        refine AO.guardY rfl rfl rfl q22 (AOp.fieldAddr rfl rfl (ltb rfl) rfl fo24_2 ?_)
        refine AO.guardY rfl rfl rfl q22 (AOp.load1 rfl rfl (ltb rfl) rfl agg22 rfl rfl ?_)
        refine AO.guardY rfl rfl rfl q22 (AOp.lenDs (n := a0.Max.length) (cells := (List.map keS0 a0.Max)) rfl rfl (ltb rfl) rfl el22 (by decide) (len1 _ _) ?_)
        refine AO.guardY rfl rfl rfl q22 (AOp.fieldAddr rfl rfl (ltb rfl) rfl fo24_2 ?_)
        refine AO.guardY rfl rfl rfl q22 (AOp.load1 rfl rfl (ltb rfl) rfl agg22 rfl rfl ?_)
        refine AO.guardY rfl rfl rfl q22 (AOp.lenDs (n := a1.Max.length) (cells := (List.map keS0 a1.Max)) rfl rfl (ltb rfl) rfl el22 (by decide) (len1 _ _) ?_)
        refine AO.guardY rfl rfl rfl q22 (AOp.ineq rfl rfl (ltb rfl) rfl rfl ?_)
        refine AO.op rfl (AOp.pickN rfl rfl (ltb rfl) rfl q22 rfl ?_)
        refine AO.op rfl (AOp.move rfl rfl (ltb rfl) rfl ?_)
        refine AO.dec (!decide (((a0.Max.length : Nat) : Int) = ((a1.Max.length : Nat) : Int))) (fun q23 => ?_) (fun q23 => ?_)
        · replace h0 := cT h0 q23
          refine AO.guardN rfl rfl rfl (ltb rfl) rfl q23 ?_
          refine AO.guardN rfl rfl rfl (ltb rfl) rfl q23 ?_
          refine AO.guardN rfl rfl rfl (ltb rfl) rfl q23 ?_
          refine AO.guardN rfl rfl rfl (ltb rfl) rfl q23 ?_
          refine AO.guardN rfl rfl rfl (ltb rfl) rfl q23 ?_
          refine AO.guardN rfl rfl rfl (ltb rfl) rfl q23 ?_
          refine AO.guardN rfl rfl rfl (ltb rfl) rfl q23 ?_
          refine AO.op rfl (AOp.pick rfl rfl (ltb rfl) rfl q23 rfl ?_)
          refine AO.nil ?_
          exact ⟨true, _, rfl, (LeL.refl _), rfl, rfl, h0⟩
        · replace h0 := cF h0 q23
          refine AO.guardY rfl rfl rfl q23 (AOp.fieldAddr rfl rfl (ltb rfl) rfl fo24_1 ?_)
          refine AO.guardY rfl rfl rfl q23 (AOp.load1 rfl rfl (ltb rfl) rfl agg22 rfl rfl ?_)
          refine AO.guardY rfl rfl rfl q23 (AOp.lenDs (n := a0.Min.length) (cells := (List.map keS0 a0.Min)) rfl rfl (ltb rfl) rfl el22 (by decide) (len1 _ _) ?_)
          refine AO.guardY rfl rfl rfl q23 (AOp.fieldAddr rfl rfl (ltb rfl) rfl fo24_2 ?_)
          refine AO.guardY rfl rfl rfl q23 (AOp.load1 rfl rfl (ltb rfl) rfl agg22 rfl rfl ?_)
          refine AO.guardY rfl rfl rfl q23 (AOp.lenDs (n := a0.Max.length) (cells := (List.map keS0 a0.Max)) rfl rfl (ltb rfl) rfl el22 (by decide) (len1 _ _) ?_)
          refine AO.guardY rfl rfl rfl q23 (AOp.ineq rfl rfl (ltb rfl) rfl rfl ?_)
          refine AO.op rfl (AOp.pickN rfl rfl (ltb rfl) rfl q23 rfl ?_)
          refine AO.nil ?_
          exact ⟨(!decide (((a0.Min.length : Nat) : Int) = ((a0.Max.length : Nat) : Int))), _, rfl, (LeL.refl _), rfl, rfl, h0⟩
  · intro g1 h0
    unfold p_SameBox_k1 at h0
    refine AC.cond rfl (fun q2 => ?_) (fun q2 => ?_)
    · replace h0 := cT h0 q2
      refine AC.seq ?_
      refine AC.region ?_
      refine AO.op rfl (AOp.assign rfl rfl (ltb rfl) rfl ?_)
      refine AO.nil ?_
      change AC _ _ _ _
      refine AC.ret ?_
      change RetQ _ _ _ .ret _
      obtain rfl := Option.some.inj h0
      refine retq rfl rfl
    · replace h0 := cF h0 q2
      refine AC.skip ?_
      change AC _ _ _ _
      refine AC.seq ?_
      refine AC.seq ?_
      refine AC.region ?_
      refine AO.op rfl (AOp.fieldAddr rfl rfl (ltb rfl) rfl fo24_1 ?_)
      refine AO.op rfl (AOp.load1 rfl rfl (ltb rfl) rfl agg22 rfl rfl ?_)
      refine AO.op rfl (AOp.lenDs (n := a0.Min.length) (cells := (List.map keS0 a0.Min)) rfl rfl (ltb rfl) rfl el22 (by decide) (len1 _ _) ?_)
      refine AO.op rfl (AOp.move rfl rfl (ltb rfl) rfl ?_)
      refine AO.nil ?_
      change AC _ _ _ _
      obtain ⟨o3, l4, h0⟩ := bind_elim h0
      refine AC.joinE (V := Unit) [] [] 2 (fun g5 => []) (fun g5 => [.fix 24 [.d (di .i64 a0.Layout), .d (eS0 a0.Min), .d (eS0 a0.Max)], .fix 24 [.d (di .i64 a1.Layout), .d (eS0 a1.Min), .d (eS0 a1.Max)]]) (fun g5 => p_SameBox_k2 g5 = some r0) rfl ?_ ?_
      · refine AC.block ?_
        refine AC.loopP (V := Int) (p_SameBox_l3 a0 a1) o3 [2, 3, 40] [41] 2 (fun g6 => [(41, .d (di .i64 g6))]) (fun g6 => [.fix 24 [.d (di .i64 a0.Layout), .d (eS0 a0.Min), .d (eS0 a0.Max)], .fix 24 [.d (di .i64 a1.Layout), .d (eS0 a1.Min), .d (eS0 a1.Max)]]) F (0 : Int) l4 rfl rfl (LeL.refl _) rfl rfl ?_
        intro n8 g6 h1
        unfold p_SameBox_l3 at h1
        refine AC.seq ?_
        refine AC.region ?_
        refine AO.op rfl (AOp.ilss rfl rfl (ltb rfl) rfl rfl ?_)
        refine AO.nil ?_
        change AC _ _ _ _
        refine AC.seq ?_
        refine AC.cond rfl (fun q9 => ?_) (fun q9 => ?_)
        · replace h1 := cT h1 q9
          refine AC.skip ?_
          change AC _ _ _ _
          refine AC.seq ?_
          refine AC.block ?_
          refine AC.seq ?_
          refine AC.region ?_
          refine AO.op rfl (AOp.move rfl rfl (ltb rfl) rfl ?_)
          refine AO.op rfl (AOp.assign rfl rfl (ltb rfl) rfl ?_)
          refine AO.nil ?_
          change AC _ _ _ _
          refine AC.seq ?_
          refine AC.draw 24 mixed (by kernel_rfl) ?_
          refine AD.op [2] rfl (by kernel_rfl) rfl rfl (fun _ _ h => AOp.fieldAddr rfl rfl (ltb rfl) rfl fo24_1 h) ?_
          refine AD.op [44] rfl (by kernel_rfl) rfl rfl (fun _ _ h => AOp.load1 rfl rfl (ltb rfl) rfl agg22 rfl rfl h) ?_
          refine AD.op [5] rfl (by kernel_rfl) rfl rfl (fun _ _ h => AOp.move rfl rfl (ltb rfl) rfl h) ?_
          obtain ⟨x10, q11, h1⟩ := idx_elim h1
          refine AD.op [45, 46] rfl (by kernel_rfl) rfl rfl (fun _ _ h => AOp.indexDs (cells := (List.map keS0 a0.Min)) rfl rfl (ltb rfl) rfl rfl el22 (by decide) q11.1 (lt1 q11.2) h) ?_
          refine AD.op [47] rfl (by kernel_rfl) rfl rfl (fun _ _ h => AOp.loadEp rfl rfl (ltb rfl) rfl agg40 (at1 q11.2) h) ?_
          refine AD.op [3] rfl (by kernel_rfl) rfl rfl (fun _ _ h => AOp.fieldAddr rfl rfl (ltb rfl) rfl fo24_1 h) ?_
          refine AD.op [49] rfl (by kernel_rfl) rfl rfl (fun _ _ h => AOp.load1 rfl rfl (ltb rfl) rfl agg22 rfl rfl h) ?_
          refine AD.op [5] rfl (by kernel_rfl) rfl rfl (fun _ _ h => AOp.move rfl rfl (ltb rfl) rfl h) ?_
          obtain ⟨x12, q13, h1⟩ := idx_elim h1
          refine AD.op [50, 51] rfl (by kernel_rfl) rfl rfl (fun _ _ h => AOp.indexDs (cells := (List.map keS0 a1.Min)) rfl rfl (ltb rfl) rfl rfl el22 (by decide) q13.1 (lt1 q13.2) h) ?_
          refine AD.op [52] rfl (by kernel_rfl) rfl rfl (fun _ _ h => AOp.loadEp rfl rfl (ltb rfl) rfl agg40 (at1 q13.2) h) ?_
          refine AD.op [48, 53] rfl (by kernel_rfl) rfl rfl (fun _ _ h => AOp.fneq rfl rfl (ltb rfl) rfl rfl h) ?_
          refine AD.op [54] rfl (by kernel_rfl) rfl rfl (fun _ _ h => AOp.move rfl rfl (ltb rfl) rfl h) ?_
          refine AD.dec (!feq x10 x12) (fun q14 => ?_) (fun q14 => ?_)
          · replace h1 := cT h1 q14
            refine AD.opN rfl rfl rfl (ltb rfl) rfl q14 ?_
            refine AD.opN rfl rfl rfl (ltb rfl) rfl q14 ?_
            refine AD.opN rfl rfl rfl (ltb rfl) rfl q14 ?_
            refine AD.opN rfl rfl rfl (ltb rfl) rfl q14 ?_
            refine AD.opN rfl rfl rfl (ltb rfl) rfl q14 ?_
            refine AD.opN rfl rfl rfl (ltb rfl) rfl q14 ?_
            refine AD.opN rfl rfl rfl (ltb rfl) rfl q14 ?_
            refine AD.opN rfl rfl rfl (ltb rfl) rfl q14 ?_
            refine AD.opN rfl rfl rfl (ltb rfl) rfl q14 ?_
            refine AD.opN rfl rfl rfl (ltb rfl) rfl q14 ?_
            refine AD.opN rfl rfl rfl (ltb rfl) rfl q14 ?_
            refine AD.op [55, 66] rfl (by kernel_rfl) rfl rfl (fun _ _ h => AOp.pick rfl rfl (ltb rfl) rfl q14 rfl h) ?_
            refine AD.done ?_
            refine AO.nil ?_
            change AC _ _ _ _
            refine AC.condT rfl rfl ?_
            refine AC.seq ?_
            refine AC.region ?_
            refine AO.op rfl (AOp.assign rfl rfl (ltb rfl) rfl ?_)
            refine AO.nil ?_
            change AC _ _ _ _
            refine AC.ret ?_
            change RetQ _ _ _ .ret _
            obtain rfl := Option.some.inj h1
            replace h0 := aftR h0
            obtain rfl := Option.some.inj h0
            refine retq rfl rfl
          · replace h1 := cF h1 q14
            refine AD.opY [2, 55] rfl rfl rfl q14 (by kernel_rfl) rfl rfl (fun _ _ h => AOp.fieldAddr rfl rfl (ltb rfl) rfl fo24_2 h) ?_
            refine AD.opY [55, 56] rfl rfl rfl q14 (by kernel_rfl) rfl rfl (fun _ _ h => AOp.load1 rfl rfl (ltb rfl) rfl agg22 rfl rfl h) ?_
            refine AD.opY [5, 55] rfl rfl rfl q14 (by kernel_rfl) rfl rfl (fun _ _ h => AOp.move rfl rfl (ltb rfl) rfl h) ?_
            obtain ⟨x15, q16, h1⟩ := idx_elim h1
            refine AD.opY [55, 57, 58] rfl rfl rfl q14 (by kernel_rfl) rfl rfl (fun _ _ h => AOp.indexDs (cells := (List.map keS0 a0.Max)) rfl rfl (ltb rfl) rfl rfl el22 (by decide) q16.1 (lt1 q16.2) h) ?_
            refine AD.opY [55, 59] rfl rfl rfl q14 (by kernel_rfl) rfl rfl (fun _ _ h => AOp.loadEp rfl rfl (ltb rfl) rfl agg40 (at1 q16.2) h) ?_
            refine AD.opY [3, 55] rfl rfl rfl q14 (by kernel_rfl) rfl rfl (fun _ _ h => AOp.fieldAddr rfl rfl (ltb rfl) rfl fo24_2 h) ?_
            refine AD.opY [55, 61] rfl rfl rfl q14 (by kernel_rfl) rfl rfl (fun _ _ h => AOp.load1 rfl rfl (ltb rfl) rfl agg22 rfl rfl h) ?_
            refine AD.opY [5, 55] rfl rfl rfl q14 (by kernel_rfl) rfl rfl (fun _ _ h => AOp.move rfl rfl (ltb rfl) rfl h) ?_
            obtain ⟨x17, q18, h1⟩ := idx_elim h1
            refine AD.opY [55, 62, 63] rfl rfl rfl q14 (by kernel_rfl) rfl rfl (fun _ _ h => AOp.indexDs (cells := (List.map keS0 a1.Max)) rfl rfl (ltb rfl) rfl rfl el22 (by decide) q18.1 (lt1 q18.2) h) ?_
            refine AD.opY [55, 64] rfl rfl rfl q14 (by kernel_rfl) rfl rfl (fun _ _ h => AOp.loadEp rfl rfl (ltb rfl) rfl agg40 (at1 q18.2) h) ?_
            refine AD.opY [55, 60, 65] rfl rfl rfl q14 (by kernel_rfl) rfl rfl (fun _ _ h => AOp.fneq rfl rfl (ltb rfl) rfl rfl h) ?_
            refine AD.op [55, 66] rfl (by kernel_rfl) rfl rfl (fun _ _ h => AOp.pickN rfl rfl (ltb rfl) rfl q14 rfl h) ?_
            refine AD.done ?_
            refine AO.nil ?_
            change AC _ _ _ _
            refine AC.cond rfl (fun q19 => ?_) (fun q19 => ?_)
            · replace h1 := cT h1 q19
              refine AC.seq ?_
              refine AC.region ?_
              refine AO.op rfl (AOp.assign rfl rfl (ltb rfl) rfl ?_)
              refine AO.nil ?_
              change AC _ _ _ _
              refine AC.ret ?_
              change RetQ _ _ _ .ret _
              obtain rfl := Option.some.inj h1
              replace h0 := aftR h0
              obtain rfl := Option.some.inj h0
              refine retq rfl rfl
            · replace h1 := cF h1 q19
              refine AC.skip ?_
              change AC _ _ _ _
              refine AC.region ?_
              obtain ⟨q20, h1⟩ := need_elim h1
              refine AO.op rfl (AOp.iadd rfl rfl (ltb rfl) rfl rfl rfl q20.1 q20.2 ?_)
              refine AO.op rfl (AOp.move rfl rfl (ltb rfl) rfl ?_)
              refine AO.nil ?_
              exact ⟨(g6 + (1 : Int)), _, rfl, (LeL.refl _), rfl, rfl, h1⟩
        · replace h1 := cF h1 q9
          refine AC.exit ?_
          obtain rfl := Option.some.inj h1
          exact ⟨(), _, rfl, (LeL.refl _), rfl, rfl, aftL h0⟩
      · intro g5 h0
        unfold p_SameBox_k2 at h0
        change AC _ _ _ _
        refine AC.seq ?_
        refine AC.region ?_
        refine AO.op rfl (AOp.assign rfl rfl (ltb rfl) rfl ?_)
        refine AO.nil ?_
        change AC _ _ _ _
        refine AC.ret ?_
        change RetQ _ _ _ .ret _
        obtain rfl := Option.some.inj h0
        refine retq rfl rfl

set_option maxRecDepth 100000 in
set_option maxHeartbeats 1000000 in
/-- pub-orthodrome/laws.FnNewBox -/
theorem w_FnNewBox (F : Nat) (a0 : Int) (r0 : Bool) (h0 : p_FnNewBox F a0 = some r0) : FnD Try.prog 6 [di .i64 a0] (fun r => r = dbool r0) := by
  refine FnD.of (by kernel_rfl) Try.func6 rfl Try.ntmps6 rfl (leb rfl) fun W ok => ?_
  unfold p_FnNewBox at h0
  refine AC.seq ?_
  refine AC.region ?_
  refine AO.op rfl (AOp.assign rfl rfl (ltb rfl) rfl ?_)
  refine AO.nil ?_
  change AC _ _ _ _
  refine AC.seq ?_
  refine AC.joinP (V := Bool) [0] [10] 0 (fun g1 => [(10, .d (dbool g1))]) (fun g1 => []) (fun g1 => (p_FnNewBox_k1 a0 F) g1 = some r0) rfl ?_ ?_
  · refine AC.region ?_
    refine AO.op rfl (AOp.move rfl rfl (ltb rfl) rfl ?_)
    refine AO.op rfl (AOp.ilss rfl rfl (ltb rfl) rfl rfl ?_)
    refine AO.op rfl (AOp.move rfl rfl (ltb rfl) rfl ?_)
    refine AO.dec (decide (a0 < (0 : Int))) (fun q10 => ?_) (fun q10 => ?_)
    · replace h0 := cT h0 q10
      refine AO.guardN rfl rfl rfl (ltb rfl) rfl q10 ?_
      refine AO.guardN rfl rfl rfl (ltb rfl) rfl q10 ?_
      refine AO.op rfl (AOp.pick rfl rfl (ltb rfl) rfl q10 rfl ?_)
      refine AO.nil ?_
      exact ⟨true, _, rfl, (LeL.refl _), rfl, rfl, h0⟩
    · replace h0 := cF h0 q10
      refine AO.guardY rfl rfl rfl q10 (AOp.move rfl rfl (ltb rfl) rfl ?_)
      refine AO.guardY rfl rfl rfl q10 (AOp.igtr rfl rfl (ltb rfl) rfl rfl ?_)
      refine AO.op rfl (AOp.pickN rfl rfl (ltb rfl) rfl q10 rfl ?_)
      refine AO.nil ?_
      exact ⟨(decide ((9 : Int) < a0)), _, rfl, (LeL.refl _), rfl, rfl, h0⟩
  · intro g1 h0
    unfold p_FnNewBox_k1 at h0
    refine AC.cond rfl (fun q2 => ?_) (fun q2 => ?_)
    · replace h0 := cT h0 q2
      refine AC.seq ?_
      refine AC.region ?_
      refine AO.op rfl (AOp.assign rfl rfl (ltb rfl) rfl ?_)
      refine AO.nil ?_
      change AC _ _ _ _
      refine AC.ret ?_
      change RetQ _ _ _ .ret _
      obtain rfl := Option.some.inj h0
      refine retq rfl rfl
    · replace h0 := cF h0 q2
      refine AC.skip ?_
      change AC _ _ _ _
      refine AC.seq ?_
      refine AC.region ?_
      refine AO.op rfl (AOp.move rfl rfl (ltb rfl) rfl ?_)
      obtain ⟨y3, q4, h0⟩ := bind_elim h0
      refine AO.op rfl (AOp.callD rfl rfl (ltb rfl) rfl rfl (w_NewBox F a0 y3 q4) ?_)
      rintro _ rfl
      refine AO.op rfl (AOp.move rfl rfl (ltb rfl) rfl ?_)
      first | refine AO.op rfl (AOp.extractD rfl rfl (ltb rfl) rfl rfl ?_) | refine AO.op rfl (AOp.extract rfl rfl (ltb rfl) rfl rfl ?_)
      first | refine AO.op rfl (AOp.extractD rfl rfl (ltb rfl) rfl rfl ?_) | refine AO.op rfl (AOp.extract rfl rfl (ltb rfl) rfl rfl ?_)
      refine AO.op rfl (AOp.alloc rfl rfl (ltb rfl) zero24 rfl ?_)
      refine AO.op rfl (AOp.store rfl rfl rfl rfl size24 rfl rfl rfl (leb rfl) ?_)
      refine AO.op rfl (AOp.assign rfl rfl (ltb rfl) rfl ?_)
      refine AO.nil ?_
      change AC _ _ _ _
      refine AC.seq ?_
      refine AC.draw 8 mixed (by kernel_rfl) ?_
      refine AD.op [4] rfl (by kernel_rfl) rfl rfl (fun _ _ h => AOp.move rfl rfl (ltb rfl) rfl h) ?_
      refine AD.op [16] rfl (by kernel_rfl) rfl rfl (fun _ _ h => AOp.move rfl rfl (ltb rfl) rfl h) ?_
      refine AD.dec y3.2 (fun q5 => ?_) (fun q5 => ?_)
      · replace h0 := cT h0 q5
        refine AD.opY [3, 17] rfl rfl rfl q5 (by kernel_rfl) rfl rfl (fun _ _ h => AOp.loadN rfl rfl (ltb rfl) rfl agg24 size24 rfl (leb rfl) rfl h) ?_
        refine AD.opY [0, 17] rfl rfl rfl q5 (by kernel_rfl) rfl rfl (fun _ _ h => AOp.move rfl rfl (ltb rfl) rfl h) ?_
        obtain ⟨y6, q7, h0⟩ := bind_elim h0
        refine AD.opY [17, 19] rfl rfl rfl q5 (by kernel_rfl) rfl rfl (fun _ _ h => AOp.callD rfl rfl (ltb rfl) rfl rfl (w_NewBox_25 F a0 y6 q7) (by rintro _ rfl; exact h)) ?_
        obtain ⟨y8, q9, h0⟩ := bind_elim h0
        refine AD.opY [17, 18, 20] rfl rfl rfl q5 (by kernel_rfl) rfl rfl (fun _ _ h => AOp.callD rfl rfl (ltb rfl) rfl rfl (w_SameBox F y3.1 y6 y8 q9) (by rintro _ rfl; exact h)) ?_
        refine AD.op [17, 21] rfl (by kernel_rfl) rfl rfl (fun _ _ h => AOp.pick rfl rfl (ltb rfl) rfl q5 rfl h) ?_
        refine AD.op [22] rfl (by kernel_rfl) rfl rfl (fun _ _ h => AOp.assign rfl rfl (ltb rfl) rfl h) ?_
        refine AD.done ?_
        refine AO.nil ?_
        change AC _ _ _ _
        refine AC.ret ?_
        change RetQ _ _ _ .ret _
        obtain rfl := Option.some.inj h0
        refine retq rfl rfl
      · replace h0 := cF h0 q5
        refine AD.opN rfl rfl rfl (ltb rfl) rfl q5 ?_
        refine AD.opN rfl rfl rfl (ltb rfl) rfl q5 ?_
        refine AD.opN rfl rfl rfl (ltb rfl) rfl q5 ?_
        refine AD.opN rfl rfl rfl (ltb rfl) rfl q5 ?_
        refine AD.op [17, 21] rfl (by kernel_rfl) rfl rfl (fun _ _ h => AOp.pickN rfl rfl (ltb rfl) rfl q5 rfl h) ?_
        refine AD.op [22] rfl (by kernel_rfl) rfl rfl (fun _ _ h => AOp.assign rfl rfl (ltb rfl) rfl h) ?_
        refine AD.done ?_
        refine AO.nil ?_
        change AC _ _ _ _
        refine AC.ret ?_
        change RetQ _ _ _ .ret _
        obtain rfl := Option.some.inj h0
        refine retq rfl rfl

end Go.Proofs.Ythijpgkejnnjeaa.Wk
