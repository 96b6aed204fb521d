/- Proved: functions of the program compute what the printed functions say, wherever these say something. -/
import Derived.Test.YtdpkjmoeapibnaaPRf
import Derived.Test.YtdpkjmoeapibnaaVmDraw4
import Derived.Test.YtdpkjmoeapibnaaVmInl
import Derived.Test.YtdpkjmoeapibnaaVmNaN
import Derived.Test.YtdpkjmoeapibnaaFltDy
import Derived.Test.YtdpkjmoeapibnaaFltMin
import Derived.Test.YtdpkjmoeapibnaaVmFin
import Derived.Test.YtdpkjmoeapibnaaProg
namespace Go.Proofs.Ytdpkjmoeapibnaa.Wk
open Go.Vm
set_option linter.unusedVariables false
set_option linter.unusedSimpArgs false
theorem agg22 : aggT Try.prog 22 = some false := by kernel_rfl
theorem agg23 : aggT Try.prog 23 = some false := by kernel_rfl
theorem agg25 : aggT Try.prog 25 = some false := by kernel_rfl
theorem agg26 : aggT Try.prog 26 = some false := by kernel_rfl
theorem agg28 : aggT Try.prog 28 = some true := by kernel_rfl
theorem agg3 : aggT Try.prog 3 = some false := by kernel_rfl
theorem agg48 : aggT Try.prog 48 = some false := by kernel_rfl
theorem el22 : elemT Try.prog 22 = some (48, 1) := by kernel_rfl
theorem el23 : elemT Try.prog 23 = some (25, 1) := by kernel_rfl
theorem el25 : elemT Try.prog 25 = some (3, 1) := by kernel_rfl
theorem el26 : elemT Try.prog 26 = some (28, 7) := by kernel_rfl
theorem fi28_3 : fieldIx Try.prog 28 3 = some 3 := by kernel_rfl
theorem fo28_0 : fieldOff Try.prog 28 0 = some 0 := by kernel_rfl
theorem fo28_1 : fieldOff Try.prog 28 1 = some 1 := by kernel_rfl
theorem fo28_2 : fieldOff Try.prog 28 2 = some 2 := by kernel_rfl
theorem fo28_3 : fieldOff Try.prog 28 3 = some 3 := by kernel_rfl
theorem fo28_4 : fieldOff Try.prog 28 4 = some 4 := by kernel_rfl
theorem fo28_5 : fieldOff Try.prog 28 5 = some 5 := by kernel_rfl
theorem fo28_6 : fieldOff Try.prog 28 6 = some 6 := by kernel_rfl
theorem idle23 (vs : Array Value) (w : World) (h : vs.size = 2) : CallsD Try.prog 23 vs .returning w fun e u' w' => e = .returned (.tuple #[]) ∧ u' = .returning ∧ w' = w := by
  obtain ⟨x0, x1, rfl⟩ : ∃ x0 x1, vs = #[x0, x1] := by
    obtain ⟨l⟩ := vs
    match l, h with
    | [x0, x1], _ => exact ⟨x0, x1, rfl⟩
  refine callsD_of_wpS Try.func23 rfl fun c₀ cs hu => ?_
  apply wpS_seq
  apply wpS_region
  simp [wpOpsS, go_sem, recoverD, hu, Try.ntmps23, Exit.thenS]
  refine wpS_cond (t := false) (by simp [Act.eval, Array.replicate]) ?_
  simp only [Bool.false_eq_true, if_false]
  refine wpS_of_wp (wp_skip ?_)
  cases c₀
  simp_all [bodyPostS, results, Try.results23]
theorem info3 : (Try.prog.info? 3).map (fun i => (i.zero, i.size, i.bytes)) = some (some (.int .i64 0), 1, 8) := by kernel_rfl
theorem info48 : (Try.prog.info? 48).map (fun i => (i.zero, i.size, i.bytes)) = some (some (.float .f64 0), 1, 8) := by kernel_rfl
theorem mixed : Try.prog.follows .mixedOrders = true := by kernel_rfl
def pl28 : Nat → Option (Nat × Nat) := fun i => ([(0, 1), (1, 1), (2, 1), (3, 1), (4, 1), (5, 1), (6, 1)] : List (Nat × Nat))[i]?
theorem places28 : placesT Try.prog 28 = some pl28 := by kernel_rfl
theorem size22 : sizeT Try.prog 22 = some 1 := by kernel_rfl
theorem size28 : sizeT Try.prog 28 = some 7 := by kernel_rfl
theorem size4 : sizeT Try.prog 4 = some 1 := by kernel_rfl
theorem size48 : sizeT Try.prog 48 = some 1 := by kernel_rfl
theorem zero22 : (Try.prog.info? 22).map (·.zero) = some (some (.slice none 0 0)) := by kernel_rfl
theorem zero28 : (Try.prog.info? 28).map (·.zero) = some (some (.agg #[.int .i64 0, .int .i64 0, .int .i64 0, .slice none 0 0, .slice none 0 0, .slice none 0 0, .slice none 0 0])) := by kernel_rfl
theorem zero3 : (Try.prog.info? 3).map (·.zero) = some (some (.int .i64 0)) := by kernel_rfl
theorem zero4 : (Try.prog.info? 4).map (·.zero) = some (some (.bool false)) := by kernel_rfl
set_option maxRecDepth 100000 in
set_option maxHeartbeats 1000000 in
/-- pub-orthodrome/laws.zzFits3 -/
theorem w_zzFits3 (F : Nat) (a0 : (List (List Int))) (r0 : Bool) (h0 : p_zzFits3 F a0 = some r0) : FnD Try.prog 6 [eS1 a0] (fun r => r = dbool r0) := by
  refine FnD.of (by kernel_rfl) Try.func6 rfl Try.ntmps6 rfl (leb rfl) fun W ok => ?_
  unfold p_zzFits3 at h0
  refine AC.seq ?_
  refine AC.region ?_
  refine AO.op rfl (AOp.assign rfl rfl (ltb rfl) rfl ?_)
  refine AO.nil ?_
  change AC _ _ _ _
  refine AC.seq ?_
  refine AC.seq ?_
  refine AC.region ?_
  refine AO.op rfl (AOp.move rfl rfl (ltb rfl) rfl ?_)
  refine AO.op rfl (AOp.lenDs (n := a0.length) (cells := (List.map keS1 a0)) rfl rfl (ltb rfl) rfl el23 (by decide) (len1 _ _) ?_)
  refine AO.op rfl (AOp.igtr rfl rfl (ltb rfl) rfl rfl ?_)
  refine AO.nil ?_
  change AC _ _ _ _
  refine AC.cond rfl (fun q1 => ?_) (fun q1 => ?_)
  · replace h0 := cT h0 q1
    refine AC.seq ?_
    refine AC.region ?_
    refine AO.op rfl (AOp.assign rfl rfl (ltb rfl) rfl ?_)
    refine AO.nil ?_
    change AC _ _ _ _
    refine AC.ret ?_
    change RetQ _ _ _ .ret _
    obtain rfl := Option.some.inj h0
    refine retq rfl rfl
  · replace h0 := cF h0 q1
    refine AC.skip ?_
    change AC _ _ _ _
    refine AC.seq ?_
    refine AC.seq ?_
    refine AC.region ?_
    refine AO.op rfl (AOp.move rfl rfl (ltb rfl) rfl ?_)
    refine AO.op rfl (AOp.lenDs (n := a0.length) (cells := (List.map keS1 a0)) rfl rfl (ltb rfl) rfl el23 (by decide) (len1 _ _) ?_)
    refine AO.op rfl (AOp.move rfl rfl (ltb rfl) rfl ?_)
    refine AO.nil ?_
    change AC _ _ _ _
    obtain ⟨o2, l3, h0⟩ := bind_elim h0
    refine AC.joinE (V := Unit) [] [] 0 (fun g4 => []) (fun g4 => []) (fun g4 => p_zzFits3_k1 g4 = some r0) rfl ?_ ?_
    · refine AC.block ?_
      refine AC.loopP (V := Int) (p_zzFits3_l2 a0) o2 [8, 9] [10] 0 (fun g5 => [(10, .d (di .i64 g5))]) (fun g5 => []) F (0 : Int) l3 rfl rfl (LeL.refl _) rfl rfl ?_
      intro n7 g5 h1
      unfold p_zzFits3_l2 at h1
      refine AC.seq ?_
      refine AC.region ?_
      refine AO.op rfl (AOp.ilss rfl rfl (ltb rfl) rfl rfl ?_)
      refine AO.nil ?_
      change AC _ _ _ _
      refine AC.seq ?_
      refine AC.cond rfl (fun q8 => ?_) (fun q8 => ?_)
      · replace h1 := cT h1 q8
        refine AC.skip ?_
        change AC _ _ _ _
        refine AC.seq ?_
        refine AC.block ?_
        refine AC.seq ?_
        refine AC.region ?_
        obtain ⟨x9, q10, h1⟩ := idx_elim h1
        refine AO.op rfl (AOp.indexDs (cells := (List.map keS1 a0)) rfl rfl (ltb rfl) rfl rfl el23 (by decide) q10.1 (lt1 q10.2) ?_)
        refine AO.op rfl (AOp.loadEp rfl rfl (ltb rfl) rfl agg25 (at1 q10.2) ?_)
        refine AO.op rfl (AOp.assign rfl rfl (ltb rfl) rfl ?_)
        refine AO.nil ?_
        change AC _ _ _ _
        refine AC.seq ?_
        refine AC.region ?_
        refine AO.op rfl (AOp.move rfl rfl (ltb rfl) rfl ?_)
        refine AO.op rfl (AOp.lenDs (n := x9.length) (cells := (List.map keS2 x9)) rfl rfl (ltb rfl) rfl el25 (by decide) (len1 _ _) ?_)
        refine AO.op rfl (AOp.igtr rfl rfl (ltb rfl) rfl rfl ?_)
        refine AO.nil ?_
        change AC _ _ _ _
        refine AC.cond rfl (fun q11 => ?_) (fun q11 => ?_)
        · replace h1 := cT h1 q11
          refine AC.seq ?_
          refine AC.region ?_
          refine AO.op rfl (AOp.assign rfl rfl (ltb rfl) rfl ?_)
          refine AO.nil ?_
          change AC _ _ _ _
          refine AC.ret ?_
          change RetQ _ _ _ .ret _
          obtain rfl := Option.some.inj h1
          replace h0 := aftR h0
          obtain rfl := Option.some.inj h0
          refine retq rfl rfl
        · replace h1 := cF h1 q11
          refine AC.skip ?_
          change AC _ _ _ _
          refine AC.region ?_
          obtain ⟨q12, h1⟩ := need_elim h1
          refine AO.op rfl (AOp.iadd rfl rfl (ltb rfl) rfl rfl rfl q12.1 q12.2 ?_)
          refine AO.op rfl (AOp.move rfl rfl (ltb rfl) rfl ?_)
          refine AO.nil ?_
          exact ⟨(g5 + (1 : Int)), _, rfl, (LeL.refl _), rfl, rfl, h1⟩
      · replace h1 := cF h1 q8
        refine AC.exit ?_
        obtain rfl := Option.some.inj h1
        exact ⟨(), _, rfl, (LeL.refl _), rfl, rfl, aftL h0⟩
    · intro g4 h0
      unfold p_zzFits3_k1 at h0
      change AC _ _ _ _
      refine AC.seq ?_
      refine AC.region ?_
      refine AO.op rfl (AOp.assign rfl rfl (ltb rfl) rfl ?_)
      refine AO.nil ?_
      change AC _ _ _ _
      refine AC.ret ?_
      change RetQ _ _ _ .ret _
      obtain rfl := Option.some.inj h0
      refine retq rfl rfl

set_option maxRecDepth 100000 in
set_option maxHeartbeats 1000000 in
/-- pub-orthodrome/laws.fStride -/
theorem w_fStride (a0 : Int) (r0 : Bool) (h0 : p_fStride a0 = some r0) : FnD Try.prog 20 [di .i64 a0] (fun r => r = dbool r0) := by
  refine FnD.of (by kernel_rfl) Try.func20 rfl Try.ntmps20 rfl (leb rfl) fun W ok => ?_
  unfold p_fStride at h0
  refine AC.seq ?_
  refine AC.region ?_
  refine AO.op rfl (AOp.assign rfl rfl (ltb rfl) rfl ?_)
  refine AO.nil ?_
  change AC _ _ _ _
  refine AC.seq ?_
  refine AC.region ?_
  refine AO.op rfl (AOp.move rfl rfl (ltb rfl) rfl ?_)
  refine AO.op rfl (AOp.igeq rfl rfl (ltb rfl) rfl rfl ?_)
  refine AO.op rfl (AOp.move rfl rfl (ltb rfl) rfl ?_)
  refine AO.dec (decide ((2 : Int) ≤ a0)) (fun q1 => ?_) (fun q1 => ?_)
  · replace h0 := cT h0 q1
    refine AO.guardY rfl rfl rfl q1 (AOp.move rfl rfl (ltb rfl) rfl ?_)
    refine AO.guardY rfl rfl rfl q1 (AOp.ileq rfl rfl (ltb rfl) rfl rfl ?_)
    refine AO.op rfl (AOp.pick rfl rfl (ltb rfl) rfl q1 rfl ?_)
    refine AO.op rfl (AOp.assign rfl rfl (ltb rfl) rfl ?_)
    refine AO.nil ?_
    change AC _ _ _ _
    refine AC.ret ?_
    change RetQ _ _ _ .ret _
    obtain rfl := Option.some.inj h0
    refine retq rfl rfl
  · replace h0 := cF h0 q1
    refine AO.guardN rfl rfl rfl (ltb rfl) rfl q1 ?_
    refine AO.guardN rfl rfl rfl (ltb rfl) rfl q1 ?_
    refine AO.op rfl (AOp.pickN rfl rfl (ltb rfl) rfl q1 rfl ?_)
    refine AO.op rfl (AOp.assign rfl rfl (ltb rfl) rfl ?_)
    refine AO.nil ?_
    change AC _ _ _ _
    refine AC.ret ?_
    change RetQ _ _ _ .ret _
    obtain rfl := Option.some.inj h0
    refine retq rfl rfl

set_option maxRecDepth 100000 in
set_option maxHeartbeats 1000000 in
/-- pub-orthodrome/laws.fLayout -/
theorem w_fLayout (a0 : Int) (r0 : Int) (h0 : p_fLayout a0 = some r0) : FnD Try.prog 21 [di .i64 a0] (fun r => r = di .i64 r0) := by
  refine FnD.of (by kernel_rfl) Try.func21 rfl Try.ntmps21 rfl (leb rfl) fun W ok => ?_
  unfold p_fLayout at h0
  refine AC.seq ?_
  refine AC.region ?_
  refine AO.op rfl (AOp.assign rfl rfl (ltb rfl) rfl ?_)
  refine AO.nil ?_
  change AC _ _ _ _
  refine AC.seq ?_
  refine AC.seq ?_
  refine AC.region ?_
  refine AO.op rfl (AOp.move rfl rfl (ltb rfl) rfl ?_)
  refine AO.op rfl (AOp.ieql rfl rfl (ltb rfl) rfl rfl ?_)
  refine AO.nil ?_
  change AC _ _ _ _
  refine AC.cond rfl (fun q1 => ?_) (fun q1 => ?_)
  · replace h0 := cT h0 q1
    refine AC.seq ?_
    refine AC.region ?_
    refine AO.op rfl (AOp.assign rfl rfl (ltb rfl) rfl ?_)
    refine AO.nil ?_
    change AC _ _ _ _
    refine AC.ret ?_
    change RetQ _ _ _ .ret _
    obtain rfl := Option.some.inj h0
    refine retq rfl rfl
  · replace h0 := cF h0 q1
    refine AC.skip ?_
    change AC _ _ _ _
    refine AC.seq ?_
    refine AC.seq ?_
    refine AC.region ?_
    refine AO.op rfl (AOp.move rfl rfl (ltb rfl) rfl ?_)
    refine AO.op rfl (AOp.ieql rfl rfl (ltb rfl) rfl rfl ?_)
    refine AO.nil ?_
    change AC _ _ _ _
    refine AC.cond rfl (fun q2 => ?_) (fun q2 => ?_)
    · replace h0 := cT h0 q2
      refine AC.seq ?_
      refine AC.region ?_
      refine AO.op rfl (AOp.assign rfl rfl (ltb rfl) rfl ?_)
      refine AO.nil ?_
      change AC _ _ _ _
      refine AC.ret ?_
      change RetQ _ _ _ .ret _
      obtain rfl := Option.some.inj h0
      refine retq rfl rfl
    · replace h0 := cF h0 q2
      refine AC.skip ?_
      change AC _ _ _ _
      refine AC.seq ?_
      refine AC.region ?_
      refine AO.op rfl (AOp.move rfl rfl (ltb rfl) rfl ?_)
      refine AO.op rfl (AOp.assign rfl rfl (ltb rfl) rfl ?_)
      refine AO.nil ?_
      change AC _ _ _ _
      refine AC.ret ?_
      change RetQ _ _ _ .ret _
      obtain rfl := Option.some.inj h0
      refine retq rfl rfl

set_option maxRecDepth 100000 in
set_option maxHeartbeats 1000000 in
/-- pub-orthodrome/spec.Weight -/
theorem w_Weight_b (Rec_ : TImpl_Geom → Int → Option Int) (hR : ∀ (a0 : TImpl_Geom) (a1 : Int) (r0 : Int), Rec_ a0 a1 = some r0 → FnD Try.prog 50 [e_TImpl_Geom a0, di .i64 a1] (fun r => r = di .i64 r0)) (F : Nat) (a0 : TImpl_Geom) (a1 : Int) (r0 : Int) (h0 : p_Weight_b Rec_ F a0 a1 = some r0) : FnD Try.prog 50 [e_TImpl_Geom a0, di .i64 a1] (fun r => r = di .i64 r0) := by
  refine FnD.of (by kernel_rfl) Try.func50 rfl Try.ntmps50 rfl (leb rfl) fun W ok => ?_
  unfold p_Weight_b at h0
  refine AC.seq ?_
  refine AC.region ?_
  refine AO.op rfl (AOp.box rfl rfl (ltb rfl) rfl rfl ?_)
  refine AO.op rfl (AOp.assign rfl rfl (ltb rfl) rfl ?_)
  refine AO.nil ?_
  change AC _ _ _ _
  refine AC.seq ?_
  refine AC.region ?_
  refine AO.op rfl (AOp.fieldAddr rfl rfl (ltb rfl) rfl fo28_3 ?_)
  refine AO.op rfl (AOp.load1 rfl rfl (ltb rfl) rfl agg22 rfl rfl ?_)
  refine AO.op rfl (AOp.lenDs (n := a0.Flat.length) (cells := (List.map keS0 a0.Flat)) rfl rfl (ltb rfl) rfl el22 (by decide) (len1 _ _) ?_)
  obtain ⟨q1, h0⟩ := need_elim h0
  refine AO.op rfl (AOp.iadd rfl rfl (ltb rfl) rfl rfl rfl q1.1 q1.2 ?_)
  refine AO.op rfl (AOp.fieldAddr rfl rfl (ltb rfl) rfl fo28_4 ?_)
  refine AO.op rfl (AOp.load1 rfl rfl (ltb rfl) rfl agg25 rfl rfl ?_)
  refine AO.op rfl (AOp.lenDs (n := a0.Ends.length) (cells := (List.map keS2 a0.Ends)) rfl rfl (ltb rfl) rfl el25 (by decide) (len1 _ _) ?_)
  obtain ⟨q2, h0⟩ := need_elim h0
  refine AO.op rfl (AOp.iadd rfl rfl (ltb rfl) rfl rfl rfl q2.1 q2.2 ?_)
  refine AO.op rfl (AOp.assign rfl rfl (ltb rfl) rfl ?_)
  refine AO.nil ?_
  change AC _ _ _ _
  refine AC.seq ?_
  refine AC.seq ?_
  refine AC.region ?_
  refine AO.op rfl (AOp.fieldAddr rfl rfl (ltb rfl) rfl fo28_5 ?_)
  refine AO.op rfl (AOp.load1 rfl rfl (ltb rfl) rfl agg23 rfl rfl ?_)
  refine AO.op rfl (AOp.lenDs (n := a0.Endss.length) (cells := (List.map keS1 a0.Endss)) rfl rfl (ltb rfl) rfl el23 (by decide) (len1 _ _) ?_)
  refine AO.op rfl (AOp.move rfl rfl (ltb rfl) rfl ?_)
  refine AO.nil ?_
  change AC _ _ _ _
  obtain ⟨o3, l4, h0⟩ := bind_elim h0
  refine AC.joinE (V := Int) [1, 2] [5] 1 (fun g5 => [(5, .d (di .i64 g5))]) (fun g5 => [.fix 28 [.d (di .i64 a0.Kind), .d (di .i64 a0.Layout), .d (di .i64 a0.SRID), .d (eS0 a0.Flat), .d (eS2 a0.Ends), .d (eS1 a0.Endss), .d (eS3 a0.Kids)]]) (fun g5 => (p_Weight_k1 a0 a1 F Rec_) g5 = some r0) rfl ?_ ?_
  · refine AC.block ?_
    refine AC.loopP (V := (Int × Int)) (p_Weight_l4 a0) o3 [1, 2, 19, 20] [5, 21] 1 (fun g21 => [(5, .d (di .i64 g21.1)), (21, .d (di .i64 g21.2))]) (fun g21 => [.fix 28 [.d (di .i64 a0.Kind), .d (di .i64 a0.Layout), .d (di .i64 a0.SRID), .d (eS0 a0.Flat), .d (eS2 a0.Ends), .d (eS1 a0.Endss), .d (eS3 a0.Kids)]]) F ((((1 : Int) + ((a0.Flat.length : Nat) : Int)) + ((a0.Ends.length : Nat) : Int)), (0 : Int)) l4 rfl rfl (LeL.refl _) rfl rfl ?_
    intro n23 g21 h1
    unfold p_Weight_l4 at h1
    refine AC.seq ?_
    refine AC.region ?_
    refine AO.op rfl (AOp.ilss rfl rfl (ltb rfl) rfl rfl ?_)
    refine AO.nil ?_
    change AC _ _ _ _
    refine AC.seq ?_
    refine AC.cond rfl (fun q24 => ?_) (fun q24 => ?_)
    · replace h1 := cT h1 q24
      refine AC.skip ?_
      change AC _ _ _ _
      refine AC.seq ?_
      refine AC.block ?_
      refine AC.seq ?_
      refine AC.region ?_
      obtain ⟨x25, q26, h1⟩ := idx_elim h1
      refine AO.op rfl (AOp.indexDs (cells := (List.map keS1 a0.Endss)) rfl rfl (ltb rfl) rfl rfl el23 (by decide) q26.1 (lt1 q26.2) ?_)
      refine AO.op rfl (AOp.loadEp rfl rfl (ltb rfl) rfl agg25 (at1 q26.2) ?_)
      refine AO.op rfl (AOp.assign rfl rfl (ltb rfl) rfl ?_)
      refine AO.nil ?_
      change AC _ _ _ _
      refine AC.region ?_
      refine AO.op rfl (AOp.move rfl rfl (ltb rfl) rfl ?_)
      refine AO.op rfl (AOp.move rfl rfl (ltb rfl) rfl ?_)
      refine AO.op rfl (AOp.lenDs (n := x25.length) (cells := (List.map keS2 x25)) rfl rfl (ltb rfl) rfl el25 (by decide) (len1 _ _) ?_)
      obtain ⟨q27, h1⟩ := need_elim h1
      refine AO.op rfl (AOp.iadd rfl rfl (ltb rfl) rfl rfl rfl q27.1 q27.2 ?_)
      obtain ⟨q28, h1⟩ := need_elim h1
      refine AO.op rfl (AOp.iadd rfl rfl (ltb rfl) rfl rfl rfl q28.1 q28.2 ?_)
      refine AO.op rfl (AOp.assign rfl rfl (ltb rfl) rfl ?_)
      refine AO.nil ?_
      change AC _ _ _ _
      refine AC.region ?_
      obtain ⟨q29, h1⟩ := need_elim h1
      refine AO.op rfl (AOp.iadd rfl rfl (ltb rfl) rfl rfl rfl q29.1 q29.2 ?_)
      refine AO.op rfl (AOp.move rfl rfl (ltb rfl) rfl ?_)
      refine AO.nil ?_
      exact ⟨((g21.1 + ((1 : Int) + ((x25.length : Nat) : Int))), (g21.2 + (1 : Int))), _, rfl, (LeL.refl _), rfl, rfl, h1⟩
    · replace h1 := cF h1 q24
      refine AC.exit ?_
      obtain rfl := Option.some.inj h1
      exact ⟨g21.1, _, rfl, (LeL.refl _), rfl, rfl, aftL h0⟩
  · intro g5 h0
    unfold p_Weight_k1 at h0
    change AC _ _ _ _
    refine AC.seq ?_
    refine AC.seq ?_
    refine AC.region ?_
    refine AO.op rfl (AOp.fieldAddr rfl rfl (ltb rfl) rfl fo28_6 ?_)
    refine AO.op rfl (AOp.load1 rfl rfl (ltb rfl) rfl agg26 rfl rfl ?_)
    refine AO.op rfl (AOp.lenDs (n := a0.Kids.length) (cells := (List.flatMap c0_TImpl_Geom a0.Kids)) rfl rfl (ltb rfl) rfl el26 (by decide) (lenN _ 7 c0_TImpl_Geom_len _) ?_)
    refine AO.op rfl (AOp.move rfl rfl (ltb rfl) rfl ?_)
    refine AO.nil ?_
    change AC _ _ _ _
    obtain ⟨o6, l7, h0⟩ := bind_elim h0
    refine AC.joinE (V := Int) [] [5] 1 (fun g8 => [(5, .d (di .i64 g8))]) (fun g8 => [.fix 28 [.d (di .i64 a0.Kind), .d (di .i64 a0.Layout), .d (di .i64 a0.SRID), .d (eS0 a0.Flat), .d (eS2 a0.Ends), .d (eS1 a0.Endss), .d (eS3 a0.Kids)]]) (fun g8 => p_Weight_k2 g8 = some r0) rfl ?_ ?_
    · refine AC.block ?_
      refine AC.loopP (V := (Int × Int)) (p_Weight_l3 a0 a1 Rec_) o6 [1, 32, 33] [5, 34] 1 (fun g9 => [(5, .d (di .i64 g9.1)), (34, .d (di .i64 g9.2))]) (fun g9 => [.fix 28 [.d (di .i64 a0.Kind), .d (di .i64 a0.Layout), .d (di .i64 a0.SRID), .d (eS0 a0.Flat), .d (eS2 a0.Ends), .d (eS1 a0.Endss), .d (eS3 a0.Kids)]]) F (g5, (0 : Int)) l7 rfl rfl (LeL.refl _) rfl rfl ?_
      intro n11 g9 h1
      unfold p_Weight_l3 at h1
      refine AC.seq ?_
      refine AC.region ?_
      refine AO.op rfl (AOp.ilss rfl rfl (ltb rfl) rfl rfl ?_)
      refine AO.nil ?_
      change AC _ _ _ _
      refine AC.seq ?_
      refine AC.cond rfl (fun q12 => ?_) (fun q12 => ?_)
      · replace h1 := cT h1 q12
        refine AC.skip ?_
        change AC _ _ _ _
        refine AC.seq ?_
        refine AC.block ?_
        refine AC.seq ?_
        refine AC.region ?_
        obtain ⟨x13, q14, h1⟩ := idx_elim h1
        refine AO.op rfl (AOp.indexDs (cells := (List.flatMap c0_TImpl_Geom a0.Kids)) rfl rfl (ltb rfl) rfl rfl el26 (by decide) q14.1 (ltN 7 c0_TImpl_Geom_len (by decide) q14.2) ?_)
        refine AO.op rfl (AOp.loadEpN rfl rfl (ltb rfl) rfl agg28 size28 (leN 7 c0_TImpl_Geom_len q14.2) ((atN 7 c0_TImpl_Geom_len q14.2).trans (c0_TImpl_Geom_eq x13)) ?_)
        refine AO.op rfl (AOp.alloc rfl rfl (ltb rfl) zero28 rfl ?_)
        refine AO.op rfl (AOp.store rfl rfl rfl rfl size28 rfl rfl rfl (leb rfl) ?_)
        refine AO.nil ?_
        change AC _ _ _ _
        refine AC.seq ?_
        refine AC.seq ?_
        refine AC.region ?_
        refine AO.op rfl (AOp.move rfl rfl (ltb rfl) rfl ?_)
        refine AO.op rfl (AOp.move rfl rfl (ltb rfl) rfl ?_)
        refine AO.op rfl (AOp.igtr rfl rfl (ltb rfl) rfl rfl ?_)
        refine AO.nil ?_
        change AC _ _ _ _
        refine AC.cond rfl (fun q15 => ?_) (fun q15 => ?_)
        · replace h1 := cT h1 q15
          refine AC.seq ?_
          refine AC.region ?_
          refine AO.op rfl (AOp.move rfl rfl (ltb rfl) rfl ?_)
          refine AO.op rfl (AOp.assign rfl rfl (ltb rfl) rfl ?_)
          refine AO.nil ?_
          change AC _ _ _ _
          refine AC.ret ?_
          change RetQ _ _ _ .ret _
          obtain rfl := Option.some.inj h1
          replace h0 := aftR h0
          obtain rfl := Option.some.inj h0
          refine retq rfl rfl
        · replace h1 := cF h1 q15
          refine AC.skip ?_
          change AC _ _ _ _
          refine AC.region ?_
          refine AO.op rfl (AOp.move rfl rfl (ltb rfl) rfl ?_)
          refine AO.op rfl (AOp.loadN rfl rfl (ltb rfl) rfl agg28 size28 rfl (leb rfl) rfl ?_)
          refine AO.op rfl (AOp.move rfl rfl (ltb rfl) rfl ?_)
          refine AO.op rfl (AOp.move rfl rfl (ltb rfl) rfl ?_)
          obtain ⟨q16, h1⟩ := need_elim h1
          refine AO.op rfl (AOp.isub rfl rfl (ltb rfl) rfl rfl rfl q16.1 q16.2 ?_)
          obtain ⟨y17, q18, h1⟩ := bind_elim h1
          refine AO.op rfl (AOp.callD rfl rfl (ltb rfl) rfl rfl (hR x13 (a1 - g9.1) y17 q18) ?_)
          rintro _ rfl
          obtain ⟨q19, h1⟩ := need_elim h1
          refine AO.op rfl (AOp.iadd rfl rfl (ltb rfl) rfl rfl rfl q19.1 q19.2 ?_)
          refine AO.op rfl (AOp.assign rfl rfl (ltb rfl) rfl ?_)
          refine AO.nil ?_
          change AC _ _ _ _
          refine AC.region ?_
          obtain ⟨q20, h1⟩ := need_elim h1
          refine AO.op rfl (AOp.iadd rfl rfl (ltb rfl) rfl rfl rfl q20.1 q20.2 ?_)
          refine AO.op rfl (AOp.move rfl rfl (ltb rfl) rfl ?_)
          refine AO.nil ?_
          exact ⟨((g9.1 + y17), (g9.2 + (1 : Int))), _, rfl, (LeL.refl _), rfl, rfl, h1⟩
      · replace h1 := cF h1 q12
        refine AC.exit ?_
        obtain rfl := Option.some.inj h1
        exact ⟨g9.1, _, rfl, (LeL.refl _), rfl, rfl, aftL h0⟩
    · intro g8 h0
      unfold p_Weight_k2 at h0
      change AC _ _ _ _
      refine AC.seq ?_
      refine AC.region ?_
      refine AO.op rfl (AOp.move rfl rfl (ltb rfl) rfl ?_)
      refine AO.op rfl (AOp.assign rfl rfl (ltb rfl) rfl ?_)
      refine AO.nil ?_
      change AC _ _ _ _
      refine AC.ret ?_
      change RetQ _ _ _ .ret _
      obtain rfl := Option.some.inj h0
      refine retq rfl rfl
theorem w_Weight : ∀ (F : Nat) (a0 : TImpl_Geom) (a1 : Int) (r0 : Int), p_Weight F a0 a1 = some r0 → FnD Try.prog 50 [e_TImpl_Geom a0, di .i64 a1] (fun r => r = di .i64 r0)
  | 0, _, _, _, h => by cases h
  | F + 1, a0, a1, r0, h => w_Weight_b _ (fun a0 a1 r0 h => w_Weight F a0 a1 r0 h) F a0 a1 r0 h

set_option maxRecDepth 100000 in
set_option maxHeartbeats 1000000 in
/-- pub-orthodrome/laws.gLayouts -/
theorem w_gLayouts_b (Rec_ : TImpl_Geom → Int → Option Bool) (hR : ∀ (a0 : TImpl_Geom) (a1 : Int) (r0 : Bool), Rec_ a0 a1 = some r0 → FnD Try.prog 51 [e_TImpl_Geom a0, di .i64 a1] (fun r => r = dbool r0)) (F : Nat) (a0 : TImpl_Geom) (a1 : Int) (r0 : Bool) (h0 : p_gLayouts_b Rec_ F a0 a1 = some r0) : FnD Try.prog 51 [e_TImpl_Geom a0, di .i64 a1] (fun r => r = dbool r0) := by
  refine FnD.of (by kernel_rfl) Try.func51 rfl Try.ntmps51 rfl (leb rfl) fun W ok => ?_
  unfold p_gLayouts_b at h0
  refine AC.seq ?_
  refine AC.region ?_
  refine AO.op rfl (AOp.box rfl rfl (ltb rfl) rfl rfl ?_)
  refine AO.op rfl (AOp.assign rfl rfl (ltb rfl) rfl ?_)
  refine AO.nil ?_
  change AC _ _ _ _
  refine AC.seq ?_
  refine AC.seq ?_
  refine AC.region ?_
  refine AO.op rfl (AOp.fieldAddr rfl rfl (ltb rfl) rfl fo28_6 ?_)
  refine AO.op rfl (AOp.load1 rfl rfl (ltb rfl) rfl agg26 rfl rfl ?_)
  refine AO.op rfl (AOp.lenDs (n := a0.Kids.length) (cells := (List.flatMap c0_TImpl_Geom a0.Kids)) rfl rfl (ltb rfl) rfl el26 (by decide) (lenN _ 7 c0_TImpl_Geom_len _) ?_)
  refine AO.op rfl (AOp.move rfl rfl (ltb rfl) rfl ?_)
  refine AO.nil ?_
  change AC _ _ _ _
  obtain ⟨o1, l2, h0⟩ := bind_elim h0
  refine AC.joinE (V := Unit) [1, 2] [] 1 (fun g3 => []) (fun g3 => [.fix 28 [.d (di .i64 a0.Kind), .d (di .i64 a0.Layout), .d (di .i64 a0.SRID), .d (eS0 a0.Flat), .d (eS2 a0.Ends), .d (eS1 a0.Endss), .d (eS3 a0.Kids)]]) (fun g3 => (p_gLayouts_k1 a0 a1) g3 = some r0) rfl ?_ ?_
  · refine AC.block ?_
    refine AC.loopP (V := Int) (p_gLayouts_l2 a0 a1 Rec_) o1 [1, 2, 8, 9] [10] 1 (fun g7 => [(10, .d (di .i64 g7))]) (fun g7 => [.fix 28 [.d (di .i64 a0.Kind), .d (di .i64 a0.Layout), .d (di .i64 a0.SRID), .d (eS0 a0.Flat), .d (eS2 a0.Ends), .d (eS1 a0.Endss), .d (eS3 a0.Kids)]]) F (0 : Int) l2 rfl rfl (LeL.refl _) rfl rfl ?_
    intro n9 g7 h1
    unfold p_gLayouts_l2 at h1
    refine AC.seq ?_
    refine AC.region ?_
    refine AO.op rfl (AOp.ilss rfl rfl (ltb rfl) rfl rfl ?_)
    refine AO.nil ?_
    change AC _ _ _ _
    refine AC.seq ?_
    refine AC.cond rfl (fun q10 => ?_) (fun q10 => ?_)
    · replace h1 := cT h1 q10
      refine AC.skip ?_
      change AC _ _ _ _
      refine AC.seq ?_
      refine AC.block ?_
      refine AC.seq ?_
      refine AC.region ?_
      obtain ⟨x11, q12, h1⟩ := idx_elim h1
      refine AO.op rfl (AOp.indexDs (cells := (List.flatMap c0_TImpl_Geom a0.Kids)) rfl rfl (ltb rfl) rfl rfl el26 (by decide) q12.1 (ltN 7 c0_TImpl_Geom_len (by decide) q12.2) ?_)
      refine AO.op rfl (AOp.loadEpN rfl rfl (ltb rfl) rfl agg28 size28 (leN 7 c0_TImpl_Geom_len q12.2) ((atN 7 c0_TImpl_Geom_len q12.2).trans (c0_TImpl_Geom_eq x11)) ?_)
      refine AO.op rfl (AOp.alloc rfl rfl (ltb rfl) zero28 rfl ?_)
      refine AO.op rfl (AOp.store rfl rfl rfl rfl size28 rfl rfl rfl (leb rfl) ?_)
      refine AO.nil ?_
      change AC _ _ _ _
      refine AC.seq ?_
      refine AC.region ?_
      refine AO.op rfl (AOp.loadN rfl rfl (ltb rfl) rfl agg28 size28 rfl (leb rfl) rfl ?_)
      refine AO.op rfl (AOp.move rfl rfl (ltb rfl) rfl ?_)
      obtain ⟨y13, q14, h1⟩ := bind_elim h1
      refine AO.op rfl (AOp.callD rfl rfl (ltb rfl) rfl rfl (hR x11 a1 y13 q14) ?_)
      rintro _ rfl
      refine AO.op rfl (AOp.bnot rfl rfl (ltb rfl) rfl ?_)
      refine AO.nil ?_
      change AC _ _ _ _
      refine AC.cond rfl (fun q15 => ?_) (fun q15 => ?_)
      · replace h1 := cT h1 q15
        refine AC.seq ?_
        refine AC.region ?_
        refine AO.op rfl (AOp.assign rfl rfl (ltb rfl) rfl ?_)
        refine AO.nil ?_
        change AC _ _ _ _
        refine AC.ret ?_
        change RetQ _ _ _ .ret _
        obtain rfl := Option.some.inj h1
        replace h0 := aftR h0
        obtain rfl := Option.some.inj h0
        refine retq rfl rfl
      · replace h1 := cF h1 q15
        refine AC.skip ?_
        change AC _ _ _ _
        refine AC.region ?_
        obtain ⟨q16, h1⟩ := need_elim h1
        refine AO.op rfl (AOp.iadd rfl rfl (ltb rfl) rfl rfl rfl q16.1 q16.2 ?_)
        refine AO.op rfl (AOp.move rfl rfl (ltb rfl) rfl ?_)
        refine AO.nil ?_
        exact ⟨(g7 + (1 : Int)), _, rfl, (LeL.refl _), rfl, rfl, h1⟩
    · replace h1 := cF h1 q10
      refine AC.exit ?_
      obtain rfl := Option.some.inj h1
      exact ⟨(), _, rfl, (LeL.refl _), rfl, rfl, aftL h0⟩
  · intro g3 h0
    unfold p_gLayouts_k1 at h0
    change AC _ _ _ _
    refine AC.seq ?_
    refine AC.region ?_
    refine AO.op rfl (AOp.fieldAddr rfl rfl (ltb rfl) rfl fo28_1 ?_)
    refine AO.op rfl (AOp.load1 rfl rfl (ltb rfl) rfl agg3 rfl rfl ?_)
    refine AO.op rfl (AOp.move rfl rfl (ltb rfl) rfl ?_)
    refine AO.op rfl (AOp.ileq rfl rfl (ltb rfl) rfl rfl ?_)
    refine AO.op rfl (AOp.move rfl rfl (ltb rfl) rfl ?_)
    refine AO.dec (decide (a0.Layout ≤ a1)) (fun q4 => ?_) (fun q4 => ?_)
    · replace h0 := cT h0 q4
      refine AO.guardY rfl rfl rfl q4 (AOp.fieldAddr rfl rfl (ltb rfl) rfl fo28_1 ?_)
      refine AO.guardY rfl rfl rfl q4 (AOp.load1 rfl rfl (ltb rfl) rfl agg3 rfl rfl ?_)
      refine AO.guardY rfl rfl rfl q4 (AOp.igeq rfl rfl (ltb rfl) rfl rfl ?_)
      refine AO.guardY rfl rfl rfl q4 (AOp.move rfl rfl (ltb rfl) rfl ?_)
      refine AO.dec (decide ((1 : Int) ≤ a0.Layout)) (fun q5 => ?_) (fun q5 => ?_)
      · replace h0 := cT h0 q5
        refine AO.guardN rfl rfl rfl (ltb rfl) rfl q5 ?_
        refine AO.guardN rfl rfl rfl (ltb rfl) rfl q5 ?_
        refine AO.guardN rfl rfl rfl (ltb rfl) rfl q5 ?_
        refine AO.guardN rfl rfl rfl (ltb rfl) rfl q5 ?_
        refine AO.guardU rfl rfl rfl (ltb rfl) rfl ?_
        refine AO.guardU rfl rfl rfl (ltb rfl) rfl ?_
        refine AO.guardU rfl rfl rfl (ltb rfl) rfl ?_
        refine AO.guardN rfl rfl rfl (ltb rfl) rfl q5 ?_
        refine AO.guardY rfl rfl rfl q4 (AOp.pick rfl rfl (ltb rfl) rfl q5 rfl ?_)
        refine AO.op rfl (AOp.pick rfl rfl (ltb rfl) rfl q4 rfl ?_)
        refine AO.op rfl (AOp.assign rfl rfl (ltb rfl) rfl ?_)
        refine AO.nil ?_
        change AC _ _ _ _
        refine AC.ret ?_
        change RetQ _ _ _ .ret _
        obtain rfl := Option.some.inj h0
        refine retq rfl rfl
      · replace h0 := cF h0 q5
        refine AO.guardY rfl rfl rfl q5 (AOp.fieldAddr rfl rfl (ltb rfl) rfl fo28_0 ?_)
        refine AO.guardY rfl rfl rfl q5 (AOp.load1 rfl rfl (ltb rfl) rfl agg3 rfl rfl ?_)
        refine AO.guardY rfl rfl rfl q5 (AOp.ieql rfl rfl (ltb rfl) rfl rfl ?_)
        refine AO.guardY rfl rfl rfl q5 (AOp.move rfl rfl (ltb rfl) rfl ?_)
        refine AO.dec (decide (a0.Kind = (7 : Int))) (fun q6 => ?_) (fun q6 => ?_)
        · replace h0 := cT h0 q6
          refine AO.guardY rfl rfl rfl q6 (AOp.fieldAddr rfl rfl (ltb rfl) rfl fo28_1 ?_)
          refine AO.guardY rfl rfl rfl q6 (AOp.load1 rfl rfl (ltb rfl) rfl agg3 rfl rfl ?_)
          refine AO.guardY rfl rfl rfl q6 (AOp.igeq rfl rfl (ltb rfl) rfl rfl ?_)
          refine AO.guardY rfl rfl rfl q5 (AOp.pick rfl rfl (ltb rfl) rfl q6 rfl ?_)
          refine AO.guardY rfl rfl rfl q4 (AOp.pickN rfl rfl (ltb rfl) rfl q5 rfl ?_)
          refine AO.op rfl (AOp.pick rfl rfl (ltb rfl) rfl q4 rfl ?_)
          refine AO.op rfl (AOp.assign rfl rfl (ltb rfl) rfl ?_)
          refine AO.nil ?_
          change AC _ _ _ _
          refine AC.ret ?_
          change RetQ _ _ _ .ret _
          obtain rfl := Option.some.inj h0
          refine retq rfl rfl
        · replace h0 := cF h0 q6
          refine AO.guardN rfl rfl rfl (ltb rfl) rfl q6 ?_
          refine AO.guardN rfl rfl rfl (ltb rfl) rfl q6 ?_
          refine AO.guardN rfl rfl rfl (ltb rfl) rfl q6 ?_
          refine AO.guardY rfl rfl rfl q5 (AOp.pickN rfl rfl (ltb rfl) rfl q6 rfl ?_)
          refine AO.guardY rfl rfl rfl q4 (AOp.pickN rfl rfl (ltb rfl) rfl q5 rfl ?_)
          refine AO.op rfl (AOp.pick rfl rfl (ltb rfl) rfl q4 rfl ?_)
          refine AO.op rfl (AOp.assign rfl rfl (ltb rfl) rfl ?_)
          refine AO.nil ?_
          change AC _ _ _ _
          refine AC.ret ?_
          change RetQ _ _ _ .ret _
          obtain rfl := Option.some.inj h0
          refine retq rfl rfl
    · replace h0 := cF h0 q4
      refine AO.guardN rfl rfl rfl (ltb rfl) rfl q4 ?_
      refine AO.guardN rfl rfl rfl (ltb rfl) rfl q4 ?_
      refine AO.guardN rfl rfl rfl (ltb rfl) rfl q4 ?_
      refine AO.guardN rfl rfl rfl (ltb rfl) rfl q4 ?_
      refine AO.guardU rfl rfl rfl (ltb rfl) rfl ?_
      refine AO.guardU rfl rfl rfl (ltb rfl) rfl ?_
      refine AO.guardU rfl rfl rfl (ltb rfl) rfl ?_
      refine AO.guardU rfl rfl rfl (ltb rfl) rfl ?_
      refine AO.guardU rfl rfl rfl (ltb rfl) rfl ?_
      refine AO.guardU rfl rfl rfl (ltb rfl) rfl ?_
      refine AO.guardU rfl rfl rfl (ltb rfl) rfl ?_
      refine AO.guardU rfl rfl rfl (ltb rfl) rfl ?_
      refine AO.guardN rfl rfl rfl (ltb rfl) rfl q4 ?_
      refine AO.op rfl (AOp.pickN rfl rfl (ltb rfl) rfl q4 rfl ?_)
      refine AO.op rfl (AOp.assign rfl rfl (ltb rfl) rfl ?_)
      refine AO.nil ?_
      change AC _ _ _ _
      refine AC.ret ?_
      change RetQ _ _ _ .ret _
      obtain rfl := Option.some.inj h0
      refine retq rfl rfl
theorem w_gLayouts : ∀ (F : Nat) (a0 : TImpl_Geom) (a1 : Int) (r0 : Bool), p_gLayouts F a0 a1 = some r0 → FnD Try.prog 51 [e_TImpl_Geom a0, di .i64 a1] (fun r => r = dbool r0)
  | 0, _, _, _, h => by cases h
  | F + 1, a0, a1, r0, h => w_gLayouts_b _ (fun a0 a1 r0 h => w_gLayouts F a0 a1 r0 h) F a0 a1 r0 h

set_option maxRecDepth 100000 in
set_option maxHeartbeats 1000000 in
/-- pub-orthodrome/laws.gSmall -/
theorem w_gSmall (F : Nat) (a0 : (List TImpl_Geom)) (r0 : Bool) (h0 : p_gSmall F a0 = some r0) : FnD Try.prog 39 [eS3 a0] (fun r => r = dbool r0) := by
  refine FnD.of (by kernel_rfl) Try.func39 rfl Try.ntmps39 rfl (leb rfl) fun W ok => ?_
  unfold p_gSmall at h0
  refine AC.seq ?_
  refine AC.region ?_
  refine AO.op rfl (AOp.assign rfl rfl (ltb rfl) rfl ?_)
  refine AO.nil ?_
  change AC _ _ _ _
  refine AC.seq ?_
  refine AC.region ?_
  refine AO.op rfl (AOp.assign rfl rfl (ltb rfl) rfl ?_)
  refine AO.nil ?_
  change AC _ _ _ _
  refine AC.seq ?_
  refine AC.seq ?_
  refine AC.region ?_
  refine AO.op rfl (AOp.move rfl rfl (ltb rfl) rfl ?_)
  refine AO.op rfl (AOp.lenDs (n := a0.length) (cells := (List.flatMap c0_TImpl_Geom a0)) rfl rfl (ltb rfl) rfl el26 (by decide) (lenN _ 7 c0_TImpl_Geom_len _) ?_)
  refine AO.op rfl (AOp.move rfl rfl (ltb rfl) rfl ?_)
  refine AO.nil ?_
  change AC _ _ _ _
  obtain ⟨o1, l2, h0⟩ := bind_elim h0
  refine AC.joinE (V := Unit) [] [] 0 (fun g3 => []) (fun g3 => []) (fun g3 => p_gSmall_k1 g3 = some r0) rfl ?_ ?_
  · refine AC.block ?_
    refine AC.loopP (V := (Int × Int)) (p_gSmall_l2 a0 F) o1 [6, 7] [3, 8] 0 (fun g4 => [(3, .d (di .i64 g4.1)), (8, .d (di .i64 g4.2))]) (fun g4 => []) F ((2000 : Int), (0 : Int)) l2 rfl rfl (LeL.refl _) rfl rfl ?_
    intro n6 g4 h1
    unfold p_gSmall_l2 at h1
    refine AC.seq ?_
    refine AC.region ?_
    refine AO.op rfl (AOp.ilss rfl rfl (ltb rfl) rfl rfl ?_)
    refine AO.nil ?_
    change AC _ _ _ _
    refine AC.seq ?_
    refine AC.cond rfl (fun q7 => ?_) (fun q7 => ?_)
    · replace h1 := cT h1 q7
      refine AC.skip ?_
      change AC _ _ _ _
      refine AC.seq ?_
      refine AC.block ?_
      refine AC.seq ?_
      refine AC.region ?_
      obtain ⟨x8, q9, h1⟩ := idx_elim h1
      refine AO.op rfl (AOp.indexDs (cells := (List.flatMap c0_TImpl_Geom a0)) rfl rfl (ltb rfl) rfl rfl el26 (by decide) q9.1 (ltN 7 c0_TImpl_Geom_len (by decide) q9.2) ?_)
      refine AO.op rfl (AOp.loadEpN rfl rfl (ltb rfl) rfl agg28 size28 (leN 7 c0_TImpl_Geom_len q9.2) ((atN 7 c0_TImpl_Geom_len q9.2).trans (c0_TImpl_Geom_eq x8)) ?_)
      refine AO.op rfl (AOp.alloc rfl rfl (ltb rfl) zero28 rfl ?_)
      refine AO.op rfl (AOp.store rfl rfl rfl rfl size28 rfl rfl rfl (leb rfl) ?_)
      refine AO.nil ?_
      change AC _ _ _ _
      refine AC.seq ?_
      refine AC.region ?_
      refine AO.op rfl (AOp.move rfl rfl (ltb rfl) rfl ?_)
      refine AO.op rfl (AOp.loadN rfl rfl (ltb rfl) rfl agg28 size28 rfl (leb rfl) rfl ?_)
      refine AO.op rfl (AOp.move rfl rfl (ltb rfl) rfl ?_)
      obtain ⟨y10, q11, h1⟩ := bind_elim h1
      refine AO.op rfl (AOp.callD rfl rfl (ltb rfl) rfl rfl (w_Weight F x8 g4.1 y10 q11) ?_)
      rintro _ rfl
      obtain ⟨q12, h1⟩ := need_elim h1
      refine AO.op rfl (AOp.isub rfl rfl (ltb rfl) rfl rfl rfl q12.1 q12.2 ?_)
      refine AO.op rfl (AOp.assign rfl rfl (ltb rfl) rfl ?_)
      refine AO.nil ?_
      change AC _ _ _ _
      refine AC.seq ?_
      refine AC.region ?_
      refine AO.op rfl (AOp.move rfl rfl (ltb rfl) rfl ?_)
      refine AO.op rfl (AOp.ilss rfl rfl (ltb rfl) rfl rfl ?_)
      refine AO.op rfl (AOp.move rfl rfl (ltb rfl) rfl ?_)
      refine AO.dec (decide ((g4.1 - y10) < (0 : Int))) (fun q13 => ?_) (fun q13 => ?_)
      · replace h1 := cT h1 q13
        refine AO.guardN rfl rfl rfl (ltb rfl) rfl q13 ?_
        refine AO.guardN rfl rfl rfl (ltb rfl) rfl q13 ?_
        refine AO.guardN rfl rfl rfl (ltb rfl) rfl q13 ?_
        refine AO.op rfl (AOp.pick rfl rfl (ltb rfl) rfl q13 rfl ?_)
        refine AO.nil ?_
        change AC _ _ _ _
        refine AC.condT rfl rfl ?_
        refine AC.seq ?_
        refine AC.region ?_
        refine AO.op rfl (AOp.assign rfl rfl (ltb rfl) rfl ?_)
        refine AO.nil ?_
        change AC _ _ _ _
        refine AC.ret ?_
        change RetQ _ _ _ .ret _
        obtain rfl := Option.some.inj h1
        replace h0 := aftR h0
        obtain rfl := Option.some.inj h0
        refine retq rfl rfl
      · replace h1 := cF h1 q13
        refine AO.guardY rfl rfl rfl q13 (AOp.loadN rfl rfl (ltb rfl) rfl agg28 size28 rfl (leb rfl) rfl ?_)
        obtain ⟨y14, q15, h1⟩ := bind_elim h1
        refine AO.guardY rfl rfl rfl q13 (AOp.callD rfl rfl (ltb rfl) rfl rfl (w_gLayouts F x8 (9 : Int) y14 q15) ?_)
        rintro _ rfl
        refine AO.guardY rfl rfl rfl q13 (AOp.bnot rfl rfl (ltb rfl) rfl ?_)
        refine AO.op rfl (AOp.pickN rfl rfl (ltb rfl) rfl q13 rfl ?_)
        refine AO.nil ?_
        change AC _ _ _ _
        refine AC.cond rfl (fun q16 => ?_) (fun q16 => ?_)
        · replace h1 := cT h1 q16
          refine AC.seq ?_
          refine AC.region ?_
          refine AO.op rfl (AOp.assign rfl rfl (ltb rfl) rfl ?_)
          refine AO.nil ?_
          change AC _ _ _ _
          refine AC.ret ?_
          change RetQ _ _ _ .ret _
          obtain rfl := Option.some.inj h1
          replace h0 := aftR h0
          obtain rfl := Option.some.inj h0
          refine retq rfl rfl
        · replace h1 := cF h1 q16
          refine AC.skip ?_
          change AC _ _ _ _
          refine AC.region ?_
          obtain ⟨q17, h1⟩ := need_elim h1
          refine AO.op rfl (AOp.iadd rfl rfl (ltb rfl) rfl rfl rfl q17.1 q17.2 ?_)
          refine AO.op rfl (AOp.move rfl rfl (ltb rfl) rfl ?_)
          refine AO.nil ?_
          exact ⟨((g4.1 - y10), (g4.2 + (1 : Int))), _, rfl, (LeL.refl _), rfl, rfl, h1⟩
    · replace h1 := cF h1 q7
      refine AC.exit ?_
      obtain rfl := Option.some.inj h1
      exact ⟨(), _, rfl, (LeL.refl _), rfl, rfl, aftL h0⟩
  · intro g3 h0
    unfold p_gSmall_k1 at h0
    change AC _ _ _ _
    refine AC.seq ?_
    refine AC.region ?_
    refine AO.op rfl (AOp.assign rfl rfl (ltb rfl) rfl ?_)
    refine AO.nil ?_
    change AC _ _ _ _
    refine AC.ret ?_
    change RetQ _ _ _ .ret _
    obtain rfl := Option.some.inj h0
    refine retq rfl rfl

set_option maxRecDepth 100000 in
set_option maxHeartbeats 1000000 in
/-- pub-orthodrome/spec.Stride -/
theorem w_Stride (a0 : Int) (r0 : Int) (h0 : p_Stride a0 = some r0) : FnD Try.prog 27 [di .i64 a0] (fun r => r = di .i64 r0) := by
  refine FnD.of (by kernel_rfl) Try.func27 rfl Try.ntmps27 rfl (leb rfl) fun W ok => ?_
  unfold p_Stride at h0
  refine AC.seq ?_
  refine AC.region ?_
  refine AO.op rfl (AOp.assign rfl rfl (ltb rfl) rfl ?_)
  refine AO.nil ?_
  change AC _ _ _ _
  refine AC.seq ?_
  refine AC.block ?_
  refine AC.seq ?_
  refine AC.region ?_
  refine AO.op rfl (AOp.move rfl rfl (ltb rfl) rfl ?_)
  refine AO.op rfl (AOp.ilss rfl rfl (ltb rfl) rfl rfl ?_)
  refine AO.op rfl (AOp.assign rfl rfl (ltb rfl) rfl ?_)
  refine AO.nil ?_
  change AC _ _ _ _
  refine AC.cond rfl (fun q1 => ?_) (fun q1 => ?_)
  · replace h0 := cT h0 q1
    refine AC.seq ?_
    refine AC.region ?_
    refine AO.op rfl (AOp.assign rfl rfl (ltb rfl) rfl ?_)
    refine AO.nil ?_
    change AC _ _ _ _
    refine AC.ret ?_
    change RetQ _ _ _ .ret _
    obtain rfl := Option.some.inj h0
    refine retq rfl rfl
  · replace h0 := cF h0 q1
    refine AC.seq ?_
    refine AC.region ?_
    refine AO.op rfl (AOp.move rfl rfl (ltb rfl) rfl ?_)
    refine AO.op rfl (AOp.ieql rfl rfl (ltb rfl) rfl rfl ?_)
    refine AO.op rfl (AOp.assign rfl rfl (ltb rfl) rfl ?_)
    refine AO.nil ?_
    change AC _ _ _ _
    refine AC.cond rfl (fun q2 => ?_) (fun q2 => ?_)
    · replace h0 := cT h0 q2
      refine AC.seq ?_
      refine AC.region ?_
      refine AO.op rfl (AOp.assign rfl rfl (ltb rfl) rfl ?_)
      refine AO.nil ?_
      change AC _ _ _ _
      refine AC.ret ?_
      change RetQ _ _ _ .ret _
      obtain rfl := Option.some.inj h0
      refine retq rfl rfl
    · replace h0 := cF h0 q2
      refine AC.seq ?_
      refine AC.region ?_
      refine AO.op rfl (AOp.move rfl rfl (ltb rfl) rfl ?_)
      refine AO.op rfl (AOp.ieql rfl rfl (ltb rfl) rfl rfl ?_)
      refine AO.op rfl (AOp.move rfl rfl (ltb rfl) rfl ?_)
      refine AO.dec (decide (a0 = (2 : Int))) (fun q3 => ?_) (fun q3 => ?_)
      · replace h0 := cT h0 q3
        refine AO.guardN rfl rfl rfl (ltb rfl) rfl q3 ?_
        refine AO.guardN rfl rfl rfl (ltb rfl) rfl q3 ?_
        refine AO.op rfl (AOp.pick rfl rfl (ltb rfl) rfl q3 rfl ?_)
        refine AO.op rfl (AOp.assign rfl rfl (ltb rfl) rfl ?_)
        refine AO.nil ?_
        change AC _ _ _ _
        refine AC.condT rfl rfl ?_
        refine AC.seq ?_
        refine AC.region ?_
        refine AO.op rfl (AOp.assign rfl rfl (ltb rfl) rfl ?_)
        refine AO.nil ?_
        change AC _ _ _ _
        refine AC.ret ?_
        change RetQ _ _ _ .ret _
        obtain rfl := Option.some.inj h0
        refine retq rfl rfl
      · replace h0 := cF h0 q3
        refine AO.guardY rfl rfl rfl q3 (AOp.move rfl rfl (ltb rfl) rfl ?_)
        refine AO.guardY rfl rfl rfl q3 (AOp.ieql rfl rfl (ltb rfl) rfl rfl ?_)
        refine AO.op rfl (AOp.pickN rfl rfl (ltb rfl) rfl q3 rfl ?_)
        refine AO.op rfl (AOp.assign rfl rfl (ltb rfl) rfl ?_)
        refine AO.nil ?_
        change AC _ _ _ _
        refine AC.cond rfl (fun q4 => ?_) (fun q4 => ?_)
        · replace h0 := cT h0 q4
          refine AC.seq ?_
          refine AC.region ?_
          refine AO.op rfl (AOp.assign rfl rfl (ltb rfl) rfl ?_)
          refine AO.nil ?_
          change AC _ _ _ _
          refine AC.ret ?_
          change RetQ _ _ _ .ret _
          obtain rfl := Option.some.inj h0
          refine retq rfl rfl
        · replace h0 := cF h0 q4
          refine AC.skip ?_
          change AC _ _ _ _
          refine AC.seq ?_
          refine AC.region ?_
          refine AO.op rfl (AOp.move rfl rfl (ltb rfl) rfl ?_)
          refine AO.op rfl (AOp.assign rfl rfl (ltb rfl) rfl ?_)
          refine AO.nil ?_
          change AC _ _ _ _
          refine AC.ret ?_
          change RetQ _ _ _ .ret _
          obtain rfl := Option.some.inj h0
          refine retq rfl rfl

set_option maxRecDepth 100000 in
set_option maxHeartbeats 1000000 in
/-- pub-orthodrome/spec.Cover -/
theorem w_Cover (a0 : Int) (a1 : Int) (r0 : Int) (h0 : p_Cover a0 a1 = some r0) : FnD Try.prog 61 [di .i64 a0, di .i64 a1] (fun r => r = di .i64 r0) := by
  refine FnD.of (by kernel_rfl) Try.func61 rfl Try.ntmps61 rfl (leb rfl) fun W ok => ?_
  unfold p_Cover at h0
  refine AC.seq ?_
  refine AC.region ?_
  refine AO.op rfl (AOp.assign rfl rfl (ltb rfl) rfl ?_)
  refine AO.nil ?_
  change AC _ _ _ _
  refine AC.seq ?_
  refine AC.seq ?_
  refine AC.region ?_
  refine AO.op rfl (AOp.move rfl rfl (ltb rfl) rfl ?_)
  refine AO.op rfl (AOp.ieql rfl rfl (ltb rfl) rfl rfl ?_)
  refine AO.op rfl (AOp.move rfl rfl (ltb rfl) rfl ?_)
  refine AO.dec (decide (a0 = (2 : Int))) (fun q1 => ?_) (fun q1 => ?_)
  · replace h0 := cT h0 q1
    refine AO.guardY rfl rfl rfl q1 (AOp.move rfl rfl (ltb rfl) rfl ?_)
    refine AO.guardY rfl rfl rfl q1 (AOp.ieql rfl rfl (ltb rfl) rfl rfl ?_)
    refine AO.op rfl (AOp.pick rfl rfl (ltb rfl) rfl q1 rfl ?_)
    refine AO.op rfl (AOp.move rfl rfl (ltb rfl) rfl ?_)
    refine AO.dec (decide (a1 = (3 : Int))) (fun q2 => ?_) (fun q2 => ?_)
    · replace h0 := cT h0 q2
      refine AO.guardN rfl rfl rfl (ltb rfl) rfl q2 ?_
      refine AO.guardN rfl rfl rfl (ltb rfl) rfl q2 ?_
      refine AO.guardN rfl rfl rfl (ltb rfl) rfl q2 ?_
      refine AO.guardU rfl rfl rfl (ltb rfl) rfl ?_
      refine AO.guardU rfl rfl rfl (ltb rfl) rfl ?_
      refine AO.guardN rfl rfl rfl (ltb rfl) rfl q2 ?_
      refine AO.op rfl (AOp.pick rfl rfl (ltb rfl) rfl q2 rfl ?_)
      refine AO.nil ?_
      change AC _ _ _ _
      refine AC.condT rfl rfl ?_
      refine AC.seq ?_
      refine AC.region ?_
      refine AO.op rfl (AOp.assign rfl rfl (ltb rfl) rfl ?_)
      refine AO.nil ?_
      change AC _ _ _ _
      refine AC.ret ?_
      change RetQ _ _ _ .ret _
      obtain rfl := Option.some.inj h0
      refine retq rfl rfl
    · replace h0 := cF h0 q2
      refine AO.guardY rfl rfl rfl q2 (AOp.move rfl rfl (ltb rfl) rfl ?_)
      refine AO.guardY rfl rfl rfl q2 (AOp.ieql rfl rfl (ltb rfl) rfl rfl ?_)
      refine AO.guardY rfl rfl rfl q2 (AOp.move rfl rfl (ltb rfl) rfl ?_)
      refine AO.dec (decide (a0 = (3 : Int))) (fun q3 => ?_) (fun q3 => ?_)
      · replace h0 := cT h0 q3
        refine AO.guardY rfl rfl rfl q3 (AOp.move rfl rfl (ltb rfl) rfl ?_)
        refine AO.guardY rfl rfl rfl q3 (AOp.ieql rfl rfl (ltb rfl) rfl rfl ?_)
        refine AO.guardY rfl rfl rfl q2 (AOp.pick rfl rfl (ltb rfl) rfl q3 rfl ?_)
        refine AO.op rfl (AOp.pickN rfl rfl (ltb rfl) rfl q2 rfl ?_)
        refine AO.nil ?_
        change AC _ _ _ _
        refine AC.cond rfl (fun q4 => ?_) (fun q4 => ?_)
        · replace h0 := cT h0 q4
          refine AC.seq ?_
          refine AC.region ?_
          refine AO.op rfl (AOp.assign rfl rfl (ltb rfl) rfl ?_)
          refine AO.nil ?_
          change AC _ _ _ _
          refine AC.ret ?_
          change RetQ _ _ _ .ret _
          obtain rfl := Option.some.inj h0
          refine retq rfl rfl
        · replace h0 := cF h0 q4
          refine AC.skip ?_
          change AC _ _ _ _
          refine AC.seq ?_
          refine AC.region ?_
          refine AO.op rfl (AOp.move rfl rfl (ltb rfl) rfl ?_)
          refine AO.op rfl (AOp.move rfl rfl (ltb rfl) rfl ?_)
          refine AO.op rfl (AOp.imax rfl rfl (ltb rfl) rfl rfl ?_)
          refine AO.op rfl (AOp.assign rfl rfl (ltb rfl) rfl ?_)
          refine AO.nil ?_
          change AC _ _ _ _
          refine AC.ret ?_
          change RetQ _ _ _ .ret _
          obtain rfl := Option.some.inj h0
          refine retq rfl rfl
      · replace h0 := cF h0 q3
        refine AO.guardN rfl rfl rfl (ltb rfl) rfl q3 ?_
        refine AO.guardN rfl rfl rfl (ltb rfl) rfl q3 ?_
        refine AO.guardY rfl rfl rfl q2 (AOp.pickN rfl rfl (ltb rfl) rfl q3 rfl ?_)
        refine AO.op rfl (AOp.pickN rfl rfl (ltb rfl) rfl q2 rfl ?_)
        refine AO.nil ?_
        change AC _ _ _ _
        refine AC.condF rfl rfl ?_
        refine AC.skip ?_
        change AC _ _ _ _
        refine AC.seq ?_
        refine AC.region ?_
        refine AO.op rfl (AOp.move rfl rfl (ltb rfl) rfl ?_)
        refine AO.op rfl (AOp.move rfl rfl (ltb rfl) rfl ?_)
        refine AO.op rfl (AOp.imax rfl rfl (ltb rfl) rfl rfl ?_)
        refine AO.op rfl (AOp.assign rfl rfl (ltb rfl) rfl ?_)
        refine AO.nil ?_
        change AC _ _ _ _
        refine AC.ret ?_
        change RetQ _ _ _ .ret _
        obtain rfl := Option.some.inj h0
        refine retq rfl rfl
  · replace h0 := cF h0 q1
    refine AO.guardN rfl rfl rfl (ltb rfl) rfl q1 ?_
    refine AO.guardN rfl rfl rfl (ltb rfl) rfl q1 ?_
    refine AO.op rfl (AOp.pickN rfl rfl (ltb rfl) rfl q1 rfl ?_)
    refine AO.op rfl (AOp.move rfl rfl (ltb rfl) rfl ?_)
    refine AO.guardY rfl rfl rfl rfl (AOp.move rfl rfl (ltb rfl) rfl ?_)
    refine AO.guardY rfl rfl rfl rfl (AOp.ieql rfl rfl (ltb rfl) rfl rfl ?_)
    refine AO.guardY rfl rfl rfl rfl (AOp.move rfl rfl (ltb rfl) rfl ?_)
    refine AO.dec (decide (a0 = (3 : Int))) (fun q5 => ?_) (fun q5 => ?_)
    · replace h0 := cT h0 q5
      refine AO.guardY rfl rfl rfl q5 (AOp.move rfl rfl (ltb rfl) rfl ?_)
      refine AO.guardY rfl rfl rfl q5 (AOp.ieql rfl rfl (ltb rfl) rfl rfl ?_)
      refine AO.guardY rfl rfl rfl rfl (AOp.pick rfl rfl (ltb rfl) rfl q5 rfl ?_)
      refine AO.op rfl (AOp.pickN rfl rfl (ltb rfl) rfl rfl rfl ?_)
      refine AO.nil ?_
      change AC _ _ _ _
      refine AC.cond rfl (fun q6 => ?_) (fun q6 => ?_)
      · replace h0 := cT h0 q6
        refine AC.seq ?_
        refine AC.region ?_
        refine AO.op rfl (AOp.assign rfl rfl (ltb rfl) rfl ?_)
        refine AO.nil ?_
        change AC _ _ _ _
        refine AC.ret ?_
        change RetQ _ _ _ .ret _
        obtain rfl := Option.some.inj h0
        refine retq rfl rfl
      · replace h0 := cF h0 q6
        refine AC.skip ?_
        change AC _ _ _ _
        refine AC.seq ?_
        refine AC.region ?_
        refine AO.op rfl (AOp.move rfl rfl (ltb rfl) rfl ?_)
        refine AO.op rfl (AOp.move rfl rfl (ltb rfl) rfl ?_)
        refine AO.op rfl (AOp.imax rfl rfl (ltb rfl) rfl rfl ?_)
        refine AO.op rfl (AOp.assign rfl rfl (ltb rfl) rfl ?_)
        refine AO.nil ?_
        change AC _ _ _ _
        refine AC.ret ?_
        change RetQ _ _ _ .ret _
        obtain rfl := Option.some.inj h0
        refine retq rfl rfl
    · replace h0 := cF h0 q5
      refine AO.guardN rfl rfl rfl (ltb rfl) rfl q5 ?_
      refine AO.guardN rfl rfl rfl (ltb rfl) rfl q5 ?_
      refine AO.guardY rfl rfl rfl rfl (AOp.pickN rfl rfl (ltb rfl) rfl q5 rfl ?_)
      refine AO.op rfl (AOp.pickN rfl rfl (ltb rfl) rfl rfl rfl ?_)
      refine AO.nil ?_
      change AC _ _ _ _
      refine AC.condF rfl rfl ?_
      refine AC.skip ?_
      change AC _ _ _ _
      refine AC.seq ?_
      refine AC.region ?_
      refine AO.op rfl (AOp.move rfl rfl (ltb rfl) rfl ?_)
      refine AO.op rfl (AOp.move rfl rfl (ltb rfl) rfl ?_)
      refine AO.op rfl (AOp.imax rfl rfl (ltb rfl) rfl rfl ?_)
      refine AO.op rfl (AOp.assign rfl rfl (ltb rfl) rfl ?_)
      refine AO.nil ?_
      change AC _ _ _ _
      refine AC.ret ?_
      change RetQ _ _ _ .ret _
      obtain rfl := Option.some.inj h0
      refine retq rfl rfl

set_option maxRecDepth 100000 in
set_option maxHeartbeats 1000000 in
/-- pub-orthodrome/spec.LayoutOf -/
theorem w_LayoutOf_b (Rec_ : TImpl_Geom → Option Int) (hR : ∀ (a0 : TImpl_Geom) (r0 : Int), Rec_ a0 = some r0 → FnD Try.prog 52 [e_TImpl_Geom a0] (fun r => r = di .i64 r0)) (F : Nat) (a0 : TImpl_Geom) (r0 : Int) (h0 : p_LayoutOf_b Rec_ F a0 = some r0) : FnD Try.prog 52 [e_TImpl_Geom a0] (fun r => r = di .i64 r0) := by
  refine FnD.of (by kernel_rfl) Try.func52 rfl Try.ntmps52 rfl (leb rfl) fun W ok => ?_
  unfold p_LayoutOf_b at h0
  refine AC.seq ?_
  refine AC.region ?_
  refine AO.op rfl (AOp.box rfl rfl (ltb rfl) rfl rfl ?_)
  refine AO.op rfl (AOp.assign rfl rfl (ltb rfl) rfl ?_)
  refine AO.nil ?_
  change AC _ _ _ _
  refine AC.seq ?_
  refine AC.region ?_
  refine AO.op rfl (AOp.fieldAddr rfl rfl (ltb rfl) rfl fo28_1 ?_)
  refine AO.op rfl (AOp.load1 rfl rfl (ltb rfl) rfl agg3 rfl rfl ?_)
  refine AO.op rfl (AOp.assign rfl rfl (ltb rfl) rfl ?_)
  refine AO.nil ?_
  change AC _ _ _ _
  refine AC.seq ?_
  refine AC.joinP (V := Bool) [1, 3] [14] 1 (fun g1 => [(14, .d (dbool g1))]) (fun g1 => [.fix 28 [.d (di .i64 a0.Kind), .d (di .i64 a0.Layout), .d (di .i64 a0.SRID), .d (eS0 a0.Flat), .d (eS2 a0.Ends), .d (eS1 a0.Endss), .d (eS3 a0.Kids)]]) (fun g1 => (p_LayoutOf_k1 a0 F Rec_) g1 = some r0) rfl ?_ ?_
  · refine AC.region ?_
    refine AO.op rfl (AOp.fieldAddr rfl rfl (ltb rfl) rfl fo28_0 ?_)
    refine AO.op rfl (AOp.load1 rfl rfl (ltb rfl) rfl agg3 rfl rfl ?_)
    refine AO.op rfl (AOp.ineq rfl rfl (ltb rfl) rfl rfl ?_)
    refine AO.op rfl (AOp.move rfl rfl (ltb rfl) rfl ?_)
    refine AO.dec (!decide (a0.Kind = (7 : Int))) (fun q17 => ?_) (fun q17 => ?_)
    · replace h0 := cT h0 q17
      refine AO.guardN rfl rfl rfl (ltb rfl) rfl q17 ?_
      refine AO.guardN rfl rfl rfl (ltb rfl) rfl q17 ?_
      refine AO.op rfl (AOp.pick rfl rfl (ltb rfl) rfl q17 rfl ?_)
      refine AO.nil ?_
      exact ⟨true, _, rfl, (LeL.refl _), rfl, rfl, h0⟩
    · replace h0 := cF h0 q17
      refine AO.guardY rfl rfl rfl q17 (AOp.move rfl rfl (ltb rfl) rfl ?_)
      refine AO.guardY rfl rfl rfl q17 (AOp.ineq rfl rfl (ltb rfl) rfl rfl ?_)
      refine AO.op rfl (AOp.pickN rfl rfl (ltb rfl) rfl q17 rfl ?_)
      refine AO.nil ?_
      exact ⟨(!decide (a0.Layout = (0 : Int))), _, rfl, (LeL.refl _), rfl, rfl, h0⟩
  · intro g1 h0
    unfold p_LayoutOf_k1 at h0
    refine AC.cond rfl (fun q2 => ?_) (fun q2 => ?_)
    · replace h0 := cT h0 q2
      refine AC.seq ?_
      refine AC.region ?_
      refine AO.op rfl (AOp.move rfl rfl (ltb rfl) rfl ?_)
      refine AO.op rfl (AOp.assign rfl rfl (ltb rfl) rfl ?_)
      refine AO.nil ?_
      change AC _ _ _ _
      refine AC.ret ?_
      change RetQ _ _ _ .ret _
      obtain rfl := Option.some.inj h0
      refine retq rfl rfl
    · replace h0 := cF h0 q2
      refine AC.skip ?_
      change AC _ _ _ _
      refine AC.seq ?_
      refine AC.seq ?_
      refine AC.region ?_
      refine AO.op rfl (AOp.fieldAddr rfl rfl (ltb rfl) rfl fo28_6 ?_)
      refine AO.op rfl (AOp.load1 rfl rfl (ltb rfl) rfl agg26 rfl rfl ?_)
      refine AO.op rfl (AOp.lenDs (n := a0.Kids.length) (cells := (List.flatMap c0_TImpl_Geom a0.Kids)) rfl rfl (ltb rfl) rfl el26 (by decide) (lenN _ 7 c0_TImpl_Geom_len _) ?_)
      refine AO.op rfl (AOp.move rfl rfl (ltb rfl) rfl ?_)
      refine AO.nil ?_
      change AC _ _ _ _
      obtain ⟨o3, l4, h0⟩ := bind_elim h0
      refine AC.joinE (V := Int) [] [3] 1 (fun g5 => [(3, .d (di .i64 g5))]) (fun g5 => [.fix 28 [.d (di .i64 a0.Kind), .d (di .i64 a0.Layout), .d (di .i64 a0.SRID), .d (eS0 a0.Flat), .d (eS2 a0.Ends), .d (eS1 a0.Endss), .d (eS3 a0.Kids)]]) (fun g5 => p_LayoutOf_k2 g5 = some r0) rfl ?_ ?_
      · refine AC.block ?_
        refine AC.loopP (V := (Int × Int)) (p_LayoutOf_l3 a0 Rec_) o3 [17, 18] [3, 19] 1 (fun g6 => [(3, .d (di .i64 g6.1)), (19, .d (di .i64 g6.2))]) (fun g6 => [.fix 28 [.d (di .i64 a0.Kind), .d (di .i64 a0.Layout), .d (di .i64 a0.SRID), .d (eS0 a0.Flat), .d (eS2 a0.Ends), .d (eS1 a0.Endss), .d (eS3 a0.Kids)]]) F (a0.Layout, (0 : Int)) l4 rfl rfl (LeL.refl _) rfl rfl ?_
        intro n8 g6 h1
        unfold p_LayoutOf_l3 at h1
        refine AC.seq ?_
        refine AC.region ?_
        refine AO.op rfl (AOp.ilss rfl rfl (ltb rfl) rfl rfl ?_)
        refine AO.nil ?_
        change AC _ _ _ _
        refine AC.seq ?_
        refine AC.cond rfl (fun q9 => ?_) (fun q9 => ?_)
        · replace h1 := cT h1 q9
          refine AC.skip ?_
          change AC _ _ _ _
          refine AC.seq ?_
          refine AC.block ?_
          refine AC.seq ?_
          refine AC.region ?_
          obtain ⟨x10, q11, h1⟩ := idx_elim h1
          refine AO.op rfl (AOp.indexDs (cells := (List.flatMap c0_TImpl_Geom a0.Kids)) rfl rfl (ltb rfl) rfl rfl el26 (by decide) q11.1 (ltN 7 c0_TImpl_Geom_len (by decide) q11.2) ?_)
          refine AO.op rfl (AOp.loadEpN rfl rfl (ltb rfl) rfl agg28 size28 (leN 7 c0_TImpl_Geom_len q11.2) ((atN 7 c0_TImpl_Geom_len q11.2).trans (c0_TImpl_Geom_eq x10)) ?_)
          refine AO.op rfl (AOp.alloc rfl rfl (ltb rfl) zero28 rfl ?_)
          refine AO.op rfl (AOp.store rfl rfl rfl rfl size28 rfl rfl rfl (leb rfl) ?_)
          refine AO.nil ?_
          change AC _ _ _ _
          refine AC.region ?_
          refine AO.op rfl (AOp.move rfl rfl (ltb rfl) rfl ?_)
          refine AO.op rfl (AOp.loadN rfl rfl (ltb rfl) rfl agg28 size28 rfl (leb rfl) rfl ?_)
          obtain ⟨y12, q13, h1⟩ := bind_elim h1
          refine AO.op rfl (AOp.callD rfl rfl (ltb rfl) rfl rfl (hR x10 y12 q13) ?_)
          rintro _ rfl
          obtain ⟨y14, q15, h1⟩ := bind_elim h1
          refine AO.op rfl (AOp.callD rfl rfl (ltb rfl) rfl rfl (w_Cover g6.1 y12 y14 q15) ?_)
          rintro _ rfl
          refine AO.op rfl (AOp.assign rfl rfl (ltb rfl) rfl ?_)
          refine AO.nil ?_
          change AC _ _ _ _
          refine AC.region ?_
          obtain ⟨q16, h1⟩ := need_elim h1
          refine AO.op rfl (AOp.iadd rfl rfl (ltb rfl) rfl rfl rfl q16.1 q16.2 ?_)
          refine AO.op rfl (AOp.move rfl rfl (ltb rfl) rfl ?_)
          refine AO.nil ?_
          exact ⟨(y14, (g6.2 + (1 : Int))), _, rfl, (LeL.refl _), rfl, rfl, h1⟩
        · replace h1 := cF h1 q9
          refine AC.exit ?_
          obtain rfl := Option.some.inj h1
          exact ⟨g6.1, _, rfl, (LeL.refl _), rfl, rfl, aftL h0⟩
      · intro g5 h0
        unfold p_LayoutOf_k2 at h0
        change AC _ _ _ _
        refine AC.seq ?_
        refine AC.region ?_
        refine AO.op rfl (AOp.move rfl rfl (ltb rfl) rfl ?_)
        refine AO.op rfl (AOp.assign rfl rfl (ltb rfl) rfl ?_)
        refine AO.nil ?_
        change AC _ _ _ _
        refine AC.ret ?_
        change RetQ _ _ _ .ret _
        obtain rfl := Option.some.inj h0
        refine retq rfl rfl
theorem w_LayoutOf : ∀ (F : Nat) (a0 : TImpl_Geom) (r0 : Int), p_LayoutOf F a0 = some r0 → FnD Try.prog 52 [e_TImpl_Geom a0] (fun r => r = di .i64 r0)
  | 0, _, _, h => by cases h
  | F + 1, a0, r0, h => w_LayoutOf_b _ (fun a0 r0 h => w_LayoutOf F a0 r0 h) F a0 r0 h

set_option maxRecDepth 100000 in
set_option maxHeartbeats 1000000 in
/-- pub-orthodrome/spec.goodEnds -/
theorem w_goodEnds (F : Nat) (a0 : (List Int)) (a1 : Int) (a2 : Int) (a3 : Bool) (r0 : (Int × Bool)) (h0 : p_goodEnds F a0 a1 a2 a3 = some r0) : FnD Try.prog 53 [eS2 a0, di .i64 a1, di .i64 a2, dbool a3] (fun r => r = .tu [di .i64 r0.1, dbool r0.2]) := by
  refine FnD.of (by kernel_rfl) Try.func53 rfl Try.ntmps53 rfl (leb rfl) fun W ok => ?_
  unfold p_goodEnds at h0
  refine AC.seq ?_
  refine AC.region ?_
  refine AO.op rfl (AOp.assign rfl rfl (ltb rfl) rfl ?_)
  refine AO.op rfl (AOp.assign rfl rfl (ltb rfl) rfl ?_)
  refine AO.nil ?_
  change AC _ _ _ _
  refine AC.seq ?_
  refine AC.seq ?_
  refine AC.region ?_
  refine AO.op rfl (AOp.move rfl rfl (ltb rfl) rfl ?_)
  refine AO.op rfl (AOp.lenDs (n := a0.length) (cells := (List.map keS2 a0)) rfl rfl (ltb rfl) rfl el25 (by decide) (len1 _ _) ?_)
  refine AO.op rfl (AOp.move rfl rfl (ltb rfl) rfl ?_)
  refine AO.nil ?_
  change AC _ _ _ _
  obtain ⟨o1, l2, h0⟩ := bind_elim h0
  refine AC.joinE (V := Int) [] [1] 0 (fun g3 => [(1, .d (di .i64 g3))]) (fun g3 => []) (fun g3 => p_goodEnds_k1 g3 = some r0) rfl ?_ ?_
  · refine AC.block ?_
    refine AC.loopP (V := (Int × Int)) (p_goodEnds_l2 a0 a2 a3) o1 [2, 3, 12, 13] [1, 14] 0 (fun g4 => [(1, .d (di .i64 g4.1)), (14, .d (di .i64 g4.2))]) (fun g4 => []) F (a1, (0 : Int)) l2 rfl rfl (LeL.refl _) rfl rfl ?_
    intro n6 g4 h1
    unfold p_goodEnds_l2 at h1
    refine AC.seq ?_
    refine AC.region ?_
    refine AO.op rfl (AOp.ilss rfl rfl (ltb rfl) rfl rfl ?_)
    refine AO.nil ?_
    change AC _ _ _ _
    refine AC.seq ?_
    refine AC.cond rfl (fun q7 => ?_) (fun q7 => ?_)
    · replace h1 := cT h1 q7
      refine AC.skip ?_
      change AC _ _ _ _
      refine AC.seq ?_
      refine AC.block ?_
      refine AC.seq ?_
      refine AC.region ?_
      obtain ⟨x8, q9, h1⟩ := idx_elim h1
      refine AO.op rfl (AOp.indexDs (cells := (List.map keS2 a0)) rfl rfl (ltb rfl) rfl rfl el25 (by decide) q9.1 (lt1 q9.2) ?_)
      refine AO.op rfl (AOp.loadEp rfl rfl (ltb rfl) rfl agg3 (at1 q9.2) ?_)
      refine AO.op rfl (AOp.assign rfl rfl (ltb rfl) rfl ?_)
      refine AO.nil ?_
      change AC _ _ _ _
      refine AC.seq ?_
      refine AC.joinP (V := Bool) [1, 2, 3, 11, 12, 13, 14] [38] 0 (fun g10 => [(38, .d (dbool g10))]) (fun g10 => []) (fun g10 => (p_goodEnds_k3 g4 (iter (p_goodEnds_l2 a0 a2 a3) n6) x8) g10 = some o1) rfl ?_ ?_
      · refine AC.region ?_
        refine AO.op rfl (AOp.move rfl rfl (ltb rfl) rfl ?_)
        refine AO.op rfl (AOp.move rfl rfl (ltb rfl) rfl ?_)
        refine AO.op rfl (AOp.ilss rfl rfl (ltb rfl) rfl rfl ?_)
        refine AO.op rfl (AOp.move rfl rfl (ltb rfl) rfl ?_)
        refine AO.dec (decide (x8 < g4.1)) (fun q13 => ?_) (fun q13 => ?_)
        · replace h1 := cT h1 q13
          refine AO.guardN rfl rfl rfl (ltb rfl) rfl q13 ?_
          refine AO.guardN rfl rfl rfl (ltb rfl) rfl q13 ?_
          refine AO.guardN rfl rfl rfl (ltb rfl) rfl q13 ?_
          refine AO.guardN rfl rfl rfl (ltb rfl) rfl q13 ?_
          refine AO.guardN rfl rfl rfl (ltb rfl) rfl q13 ?_
          refine AO.guardN rfl rfl rfl (ltb rfl) rfl q13 ?_
          refine AO.op rfl (AOp.pick rfl rfl (ltb rfl) rfl q13 rfl ?_)
          refine AO.op rfl (AOp.move rfl rfl (ltb rfl) rfl ?_)
          refine AO.guardN rfl rfl rfl (ltb rfl) rfl rfl ?_
          refine AO.guardN rfl rfl rfl (ltb rfl) rfl rfl ?_
          refine AO.guardU rfl rfl rfl (ltb rfl) rfl ?_
          refine AO.guardU rfl rfl rfl (ltb rfl) rfl ?_
          refine AO.guardU rfl rfl rfl (ltb rfl) rfl ?_
          refine AO.guardU rfl rfl rfl (ltb rfl) rfl ?_
          refine AO.guardU rfl rfl rfl (ltb rfl) rfl ?_
          refine AO.guardN rfl rfl rfl (ltb rfl) rfl rfl ?_
          refine AO.op rfl (AOp.pick rfl rfl (ltb rfl) rfl rfl rfl ?_)
          refine AO.nil ?_
          exact ⟨true, _, rfl, (LeL.refl _), rfl, rfl, h1⟩
        · replace h1 := cF h1 q13
          refine AO.guardY rfl rfl rfl q13 (AOp.move rfl rfl (ltb rfl) rfl ?_)
          refine AO.guardY rfl rfl rfl q13 (AOp.move rfl rfl (ltb rfl) rfl ?_)
          obtain ⟨q14, h1⟩ := need_elim h1
          refine AO.guardY rfl rfl rfl q13 (AOp.isub rfl rfl (ltb rfl) rfl rfl rfl q14.1 q14.2 ?_)
          refine AO.guardY rfl rfl rfl q13 (AOp.move rfl rfl (ltb rfl) rfl ?_)
          obtain ⟨q15, h1⟩ := need_elim h1
          refine AO.guardY rfl rfl rfl q13 (AOp.irem rfl rfl (ltb rfl) rfl rfl q15 rfl ?_)
          refine AO.guardY rfl rfl rfl q13 (AOp.ineq rfl rfl (ltb rfl) rfl rfl ?_)
          refine AO.op rfl (AOp.pickN rfl rfl (ltb rfl) rfl q13 rfl ?_)
          refine AO.op rfl (AOp.move rfl rfl (ltb rfl) rfl ?_)
          refine AO.dec (!decide ((Int.tmod (x8 - g4.1) a2) = (0 : Int))) (fun q16 => ?_) (fun q16 => ?_)
          · replace h1 := cT h1 q16
            refine AO.guardN rfl rfl rfl (ltb rfl) rfl q16 ?_
            refine AO.guardN rfl rfl rfl (ltb rfl) rfl q16 ?_
            refine AO.guardU rfl rfl rfl (ltb rfl) rfl ?_
            refine AO.guardU rfl rfl rfl (ltb rfl) rfl ?_
            refine AO.guardU rfl rfl rfl (ltb rfl) rfl ?_
            refine AO.guardU rfl rfl rfl (ltb rfl) rfl ?_
            refine AO.guardU rfl rfl rfl (ltb rfl) rfl ?_
            refine AO.guardN rfl rfl rfl (ltb rfl) rfl q16 ?_
            refine AO.op rfl (AOp.pick rfl rfl (ltb rfl) rfl q16 rfl ?_)
            refine AO.nil ?_
            exact ⟨true, _, rfl, (LeL.refl _), rfl, rfl, h1⟩
          · replace h1 := cF h1 q16
            refine AO.guardY rfl rfl rfl q16 (AOp.move rfl rfl (ltb rfl) rfl ?_)
            refine AO.guardY rfl rfl rfl q16 (AOp.move rfl rfl (ltb rfl) rfl ?_)
            refine AO.dec a3 (fun q17 => ?_) (fun q17 => ?_)
            · replace h1 := cT h1 q17
              refine AO.guardY rfl rfl rfl q17 (AOp.move rfl rfl (ltb rfl) rfl ?_)
              refine AO.guardY rfl rfl rfl q17 (AOp.move rfl rfl (ltb rfl) rfl ?_)
              obtain ⟨q18, h1⟩ := need_elim h1
              refine AO.guardY rfl rfl rfl q17 (AOp.isub rfl rfl (ltb rfl) rfl rfl rfl q18.1 q18.2 ?_)
              refine AO.guardY rfl rfl rfl q17 (AOp.move rfl rfl (ltb rfl) rfl ?_)
              refine AO.guardY rfl rfl rfl q17 (AOp.igtr rfl rfl (ltb rfl) rfl rfl ?_)
              refine AO.guardY rfl rfl rfl q16 (AOp.pick rfl rfl (ltb rfl) rfl q17 rfl ?_)
              refine AO.op rfl (AOp.pickN rfl rfl (ltb rfl) rfl q16 rfl ?_)
              refine AO.nil ?_
              exact ⟨(decide (a2 < (x8 - g4.1))), _, rfl, (LeL.refl _), rfl, rfl, h1⟩
            · replace h1 := cF h1 q17
              refine AO.guardN rfl rfl rfl (ltb rfl) rfl q17 ?_
              refine AO.guardN rfl rfl rfl (ltb rfl) rfl q17 ?_
              refine AO.guardN rfl rfl rfl (ltb rfl) rfl q17 ?_
              refine AO.guardN rfl rfl rfl (ltb rfl) rfl q17 ?_
              refine AO.guardN rfl rfl rfl (ltb rfl) rfl q17 ?_
              refine AO.guardY rfl rfl rfl q16 (AOp.pickN rfl rfl (ltb rfl) rfl q17 rfl ?_)
              refine AO.op rfl (AOp.pickN rfl rfl (ltb rfl) rfl q16 rfl ?_)
              refine AO.nil ?_
              exact ⟨false, _, rfl, (LeL.refl _), rfl, rfl, h1⟩
      · intro g10 h1
        unfold p_goodEnds_k3 at h1
        refine AC.cond rfl (fun q11 => ?_) (fun q11 => ?_)
        · replace h1 := cT h1 q11
          refine AC.seq ?_
          refine AC.region ?_
          refine AO.op rfl (AOp.move rfl rfl (ltb rfl) rfl ?_)
          refine AO.op rfl (AOp.assign rfl rfl (ltb rfl) rfl ?_)
          refine AO.op rfl (AOp.assign rfl rfl (ltb rfl) rfl ?_)
          refine AO.nil ?_
          change AC _ _ _ _
          refine AC.ret ?_
          change RetQ _ _ _ .ret _
          obtain rfl := Option.some.inj h1
          replace h0 := aftR h0
          obtain rfl := Option.some.inj h0
          refine retq rfl rfl
        · replace h1 := cF h1 q11
          refine AC.skip ?_
          change AC _ _ _ _
          refine AC.region ?_
          refine AO.op rfl (AOp.move rfl rfl (ltb rfl) rfl ?_)
          refine AO.op rfl (AOp.assign rfl rfl (ltb rfl) rfl ?_)
          refine AO.nil ?_
          change AC _ _ _ _
          refine AC.region ?_
          obtain ⟨q12, h1⟩ := need_elim h1
          refine AO.op rfl (AOp.iadd rfl rfl (ltb rfl) rfl rfl rfl q12.1 q12.2 ?_)
          refine AO.op rfl (AOp.move rfl rfl (ltb rfl) rfl ?_)
          refine AO.nil ?_
          exact ⟨(x8, (g4.2 + (1 : Int))), _, rfl, (LeL.refl _), rfl, rfl, h1⟩
    · replace h1 := cF h1 q7
      refine AC.exit ?_
      obtain rfl := Option.some.inj h1
      exact ⟨g4.1, _, rfl, (LeL.refl _), rfl, rfl, aftL h0⟩
  · intro g3 h0
    unfold p_goodEnds_k1 at h0
    change AC _ _ _ _
    refine AC.seq ?_
    refine AC.region ?_
    refine AO.op rfl (AOp.move rfl rfl (ltb rfl) rfl ?_)
    refine AO.op rfl (AOp.assign rfl rfl (ltb rfl) rfl ?_)
    refine AO.op rfl (AOp.assign rfl rfl (ltb rfl) rfl ?_)
    refine AO.nil ?_
    change AC _ _ _ _
    refine AC.ret ?_
    change RetQ _ _ _ .ret _
    obtain rfl := Option.some.inj h0
    refine retq rfl rfl

set_option maxRecDepth 100000 in
set_option maxHeartbeats 1000000 in
/-- pub-orthodrome/spec.Good -/
theorem w_Good_b (Rec_ : TImpl_Geom → Option Bool) (hR : ∀ (a0 : TImpl_Geom) (r0 : Bool), Rec_ a0 = some r0 → FnD Try.prog 40 [e_TImpl_Geom a0] (fun r => r = dbool r0)) (F : Nat) (a0 : TImpl_Geom) (r0 : Bool) (h0 : p_Good_b Rec_ F a0 = some r0) : FnD Try.prog 40 [e_TImpl_Geom a0] (fun r => r = dbool r0) := by
  refine FnD.of (by kernel_rfl) Try.func40 rfl Try.ntmps40 rfl (leb rfl) fun W ok => ?_
  unfold p_Good_b at h0
  refine AC.seq ?_
  refine AC.region ?_
  refine AO.op rfl (AOp.box rfl rfl (ltb rfl) rfl rfl ?_)
  refine AO.op rfl (AOp.assign rfl rfl (ltb rfl) rfl ?_)
  refine AO.nil ?_
  change AC _ _ _ _
  refine AC.seq ?_
  refine AC.region ?_
  refine AO.op rfl (AOp.fieldAddr rfl rfl (ltb rfl) rfl fo28_1 ?_)
  refine AO.op rfl (AOp.load1 rfl rfl (ltb rfl) rfl agg3 rfl rfl ?_)
  obtain ⟨y1, q2, h0⟩ := bind_elim h0
  refine AO.op rfl (AOp.callD rfl rfl (ltb rfl) rfl rfl (w_Stride a0.Layout y1 q2) ?_)
  rintro _ rfl
  refine AO.op rfl (AOp.assign rfl rfl (ltb rfl) rfl ?_)
  refine AO.nil ?_
  change AC _ _ _ _
  refine AC.seq ?_
  refine AC.seq ?_
  refine AC.region ?_
  refine AO.op rfl (AOp.fieldAddr rfl rfl (ltb rfl) rfl fo28_0 ?_)
  refine AO.op rfl (AOp.load1 rfl rfl (ltb rfl) rfl agg3 rfl rfl ?_)
  refine AO.op rfl (AOp.ieql rfl rfl (ltb rfl) rfl rfl ?_)
  refine AO.nil ?_
  change AC _ _ _ _
  refine AC.cond rfl (fun q3 => ?_) (fun q3 => ?_)
  · replace h0 := cT h0 q3
    refine AC.seq ?_
    refine AC.seq ?_
    refine AC.region ?_
    refine AO.op rfl (AOp.fieldAddr rfl rfl (ltb rfl) rfl fo28_6 ?_)
    refine AO.op rfl (AOp.load1 rfl rfl (ltb rfl) rfl agg26 rfl rfl ?_)
    refine AO.op rfl (AOp.lenDs (n := a0.Kids.length) (cells := (List.flatMap c0_TImpl_Geom a0.Kids)) rfl rfl (ltb rfl) rfl el26 (by decide) (lenN _ 7 c0_TImpl_Geom_len _) ?_)
    refine AO.op rfl (AOp.move rfl rfl (ltb rfl) rfl ?_)
    refine AO.nil ?_
    change AC _ _ _ _
    obtain ⟨o4, l5, h0⟩ := bind_elim h0
    refine AC.joinE (V := Unit) [1] [] 1 (fun g6 => []) (fun g6 => [.fix 28 [.d (di .i64 a0.Kind), .d (di .i64 a0.Layout), .d (di .i64 a0.SRID), .d (eS0 a0.Flat), .d (eS2 a0.Ends), .d (eS1 a0.Endss), .d (eS3 a0.Kids)]]) (fun g6 => (p_Good_k1 a0) g6 = some r0) rfl ?_ ?_
    · refine AC.block ?_
      refine AC.loopP (V := Int) (p_Good_l3 a0 F Rec_) o4 [1, 20, 21] [22] 1 (fun g11 => [(22, .d (di .i64 g11))]) (fun g11 => [.fix 28 [.d (di .i64 a0.Kind), .d (di .i64 a0.Layout), .d (di .i64 a0.SRID), .d (eS0 a0.Flat), .d (eS2 a0.Ends), .d (eS1 a0.Endss), .d (eS3 a0.Kids)]]) F (0 : Int) l5 rfl rfl (LeL.refl _) rfl rfl ?_
      intro n13 g11 h1
      unfold p_Good_l3 at h1
      refine AC.seq ?_
      refine AC.region ?_
      refine AO.op rfl (AOp.ilss rfl rfl (ltb rfl) rfl rfl ?_)
      refine AO.nil ?_
      change AC _ _ _ _
      refine AC.seq ?_
      refine AC.cond rfl (fun q14 => ?_) (fun q14 => ?_)
      · replace h1 := cT h1 q14
        refine AC.skip ?_
        change AC _ _ _ _
        refine AC.seq ?_
        refine AC.block ?_
        refine AC.seq ?_
        refine AC.region ?_
        obtain ⟨x15, q16, h1⟩ := idx_elim h1
        refine AO.op rfl (AOp.indexDs (cells := (List.flatMap c0_TImpl_Geom a0.Kids)) rfl rfl (ltb rfl) rfl rfl el26 (by decide) q16.1 (ltN 7 c0_TImpl_Geom_len (by decide) q16.2) ?_)
        refine AO.op rfl (AOp.loadEpN rfl rfl (ltb rfl) rfl agg28 size28 (leN 7 c0_TImpl_Geom_len q16.2) ((atN 7 c0_TImpl_Geom_len q16.2).trans (c0_TImpl_Geom_eq x15)) ?_)
        refine AO.op rfl (AOp.alloc rfl rfl (ltb rfl) zero28 rfl ?_)
        refine AO.op rfl (AOp.store rfl rfl rfl rfl size28 rfl rfl rfl (leb rfl) ?_)
        refine AO.nil ?_
        change AC _ _ _ _
        refine AC.seq ?_
        refine AC.draw 15 mixed (by kernel_rfl) ?_
        refine AD.op [5] rfl (by kernel_rfl) rfl rfl (fun _ _ h => AOp.loadN rfl rfl (ltb rfl) rfl agg28 size28 rfl (leb rfl) rfl h) ?_
        obtain ⟨y17, q18, h1⟩ := bind_elim h1
        refine AD.op [26] rfl (by kernel_rfl) rfl rfl (fun _ _ h => AOp.callD rfl rfl (ltb rfl) rfl rfl (hR x15 y17 q18) (by rintro _ rfl; exact h)) ?_
        refine AD.op [27] rfl (by kernel_rfl) rfl rfl (fun _ _ h => AOp.bnot rfl rfl (ltb rfl) rfl h) ?_
        refine AD.op [28] rfl (by kernel_rfl) rfl rfl (fun _ _ h => AOp.move rfl rfl (ltb rfl) rfl h) ?_
        refine AD.dec (!y17) (fun q19 => ?_) (fun q19 => ?_)
        · replace h1 := cT h1 q19
          refine AD.opN rfl rfl rfl (ltb rfl) rfl q19 ?_
          refine AD.opN rfl rfl rfl (ltb rfl) rfl q19 ?_
          refine AD.opN rfl rfl rfl (ltb rfl) rfl q19 ?_
          refine AD.opN rfl rfl rfl (ltb rfl) rfl q19 ?_
          refine AD.opU rfl rfl rfl (ltb rfl) rfl ?_
          refine AD.opU rfl rfl rfl (ltb rfl) rfl ?_
          refine AD.opU rfl rfl rfl (ltb rfl) rfl ?_
          refine AD.opU rfl rfl rfl (ltb rfl) rfl ?_
          refine AD.opU rfl rfl rfl (ltb rfl) rfl ?_
          refine AD.opN rfl rfl rfl (ltb rfl) rfl q19 ?_
          refine AD.op [29, 39] rfl (by kernel_rfl) rfl rfl (fun _ _ h => AOp.pick rfl rfl (ltb rfl) rfl q19 rfl h) ?_
          refine AD.done ?_
          refine AO.nil ?_
          change AC _ _ _ _
          refine AC.condT rfl rfl ?_
          refine AC.seq ?_
          refine AC.region ?_
          refine AO.op rfl (AOp.assign rfl rfl (ltb rfl) rfl ?_)
          refine AO.nil ?_
          change AC _ _ _ _
          refine AC.ret ?_
          change RetQ _ _ _ .ret _
          obtain rfl := Option.some.inj h1
          replace h0 := aftR h0
          obtain rfl := Option.some.inj h0
          refine retq rfl rfl
        · replace h1 := cF h1 q19
          refine AD.opY [1, 29] rfl rfl rfl q19 (by kernel_rfl) rfl rfl (fun _ _ h => AOp.fieldAddr rfl rfl (ltb rfl) rfl fo28_1 h) ?_
          refine AD.opY [29, 30] rfl rfl rfl q19 (by kernel_rfl) rfl rfl (fun _ _ h => AOp.load1 rfl rfl (ltb rfl) rfl agg3 rfl rfl h) ?_
          refine AD.opY [29, 31] rfl rfl rfl q19 (by kernel_rfl) rfl rfl (fun _ _ h => AOp.ineq rfl rfl (ltb rfl) rfl rfl h) ?_
          refine AD.opY [29, 32] rfl rfl rfl q19 (by kernel_rfl) rfl rfl (fun _ _ h => AOp.move rfl rfl (ltb rfl) rfl h) ?_
          refine AD.dec (!decide (a0.Layout = (0 : Int))) (fun q20 => ?_) (fun q20 => ?_)
          · replace h1 := cT h1 q20
            refine AD.opY [5, 33] rfl rfl rfl q20 (by kernel_rfl) rfl rfl (fun _ _ h => AOp.loadN rfl rfl (ltb rfl) rfl agg28 size28 rfl (leb rfl) rfl h) ?_
            obtain ⟨y21, q22, h1⟩ := bind_elim h1
            refine AD.opY [33, 34] rfl rfl rfl q20 (by kernel_rfl) rfl rfl (fun _ _ h => AOp.callD rfl rfl (ltb rfl) rfl rfl (w_LayoutOf F x15 y21 q22) (by rintro _ rfl; exact h)) ?_
            refine AD.opY [1, 33] rfl rfl rfl q20 (by kernel_rfl) rfl rfl (fun _ _ h => AOp.fieldAddr rfl rfl (ltb rfl) rfl fo28_1 h) ?_
            refine AD.opY [33, 36] rfl rfl rfl q20 (by kernel_rfl) rfl rfl (fun _ _ h => AOp.load1 rfl rfl (ltb rfl) rfl agg3 rfl rfl h) ?_
            refine AD.opY [33, 35, 37] rfl rfl rfl q20 (by kernel_rfl) rfl rfl (fun _ _ h => AOp.ineq rfl rfl (ltb rfl) rfl rfl h) ?_
            refine AD.opY [29, 33, 38] rfl rfl rfl q19 (by kernel_rfl) rfl rfl (fun _ _ h => AOp.pick rfl rfl (ltb rfl) rfl q20 rfl h) ?_
            refine AD.op [29, 39] rfl (by kernel_rfl) rfl rfl (fun _ _ h => AOp.pickN rfl rfl (ltb rfl) rfl q19 rfl h) ?_
            refine AD.done ?_
            refine AO.nil ?_
            change AC _ _ _ _
            refine AC.cond rfl (fun q23 => ?_) (fun q23 => ?_)
            · replace h1 := cT h1 q23
              refine AC.seq ?_
              refine AC.region ?_
              refine AO.op rfl (AOp.assign rfl rfl (ltb rfl) rfl ?_)
              refine AO.nil ?_
              change AC _ _ _ _
              refine AC.ret ?_
              change RetQ _ _ _ .ret _
              obtain rfl := Option.some.inj h1
              replace h0 := aftR h0
              obtain rfl := Option.some.inj h0
              refine retq rfl rfl
            · replace h1 := cF h1 q23
              refine AC.skip ?_
              change AC _ _ _ _
              refine AC.region ?_
              obtain ⟨q24, h1⟩ := need_elim h1
              refine AO.op rfl (AOp.iadd rfl rfl (ltb rfl) rfl rfl rfl q24.1 q24.2 ?_)
              refine AO.op rfl (AOp.move rfl rfl (ltb rfl) rfl ?_)
              refine AO.nil ?_
              exact ⟨(g11 + (1 : Int)), _, rfl, (LeL.refl _), rfl, rfl, h1⟩
          · replace h1 := cF h1 q20
            refine AD.opN rfl rfl rfl (ltb rfl) rfl q20 ?_
            refine AD.opN rfl rfl rfl (ltb rfl) rfl q20 ?_
            refine AD.opN rfl rfl rfl (ltb rfl) rfl q20 ?_
            refine AD.opN rfl rfl rfl (ltb rfl) rfl q20 ?_
            refine AD.opN rfl rfl rfl (ltb rfl) rfl q20 ?_
            refine AD.opY [29, 33, 38] rfl rfl rfl q19 (by kernel_rfl) rfl rfl (fun _ _ h => AOp.pickN rfl rfl (ltb rfl) rfl q20 rfl h) ?_
            refine AD.op [29, 39] rfl (by kernel_rfl) rfl rfl (fun _ _ h => AOp.pickN rfl rfl (ltb rfl) rfl q19 rfl h) ?_
            refine AD.done ?_
            refine AO.nil ?_
            change AC _ _ _ _
            refine AC.condF rfl rfl ?_
            refine AC.skip ?_
            change AC _ _ _ _
            refine AC.region ?_
            obtain ⟨q25, h1⟩ := need_elim h1
            refine AO.op rfl (AOp.iadd rfl rfl (ltb rfl) rfl rfl rfl q25.1 q25.2 ?_)
            refine AO.op rfl (AOp.move rfl rfl (ltb rfl) rfl ?_)
            refine AO.nil ?_
            exact ⟨(g11 + (1 : Int)), _, rfl, (LeL.refl _), rfl, rfl, h1⟩
      · replace h1 := cF h1 q14
        refine AC.exit ?_
        obtain rfl := Option.some.inj h1
        exact ⟨(), _, rfl, (LeL.refl _), rfl, rfl, aftL h0⟩
    · intro g6 h0
      unfold p_Good_k1 at h0
      change AC _ _ _ _
      refine AC.joinP (V := Bool) [] [2] 1 (fun g7 => [(2, .d (dbool g7))]) (fun g7 => [.fix 28 [.d (di .i64 a0.Kind), .d (di .i64 a0.Layout), .d (di .i64 a0.SRID), .d (eS0 a0.Flat), .d (eS2 a0.Ends), .d (eS1 a0.Endss), .d (eS3 a0.Kids)]]) (fun g7 => p_Good_k2 g7 = some r0) rfl ?_ ?_
      · refine AC.region ?_
        refine AO.op rfl (AOp.fieldAddr rfl rfl (ltb rfl) rfl fo28_1 ?_)
        refine AO.op rfl (AOp.load1 rfl rfl (ltb rfl) rfl agg3 rfl rfl ?_)
        refine AO.op rfl (AOp.igeq rfl rfl (ltb rfl) rfl rfl ?_)
        refine AO.op rfl (AOp.move rfl rfl (ltb rfl) rfl ?_)
        refine AO.dec (decide ((0 : Int) ≤ a0.Layout)) (fun q8 => ?_) (fun q8 => ?_)
        · replace h0 := cT h0 q8
          refine AO.guardY rfl rfl rfl q8 (AOp.fieldAddr rfl rfl (ltb rfl) rfl fo28_3 ?_)
          refine AO.guardY rfl rfl rfl q8 (AOp.load1 rfl rfl (ltb rfl) rfl agg22 rfl rfl ?_)
          refine AO.guardY rfl rfl rfl q8 (AOp.lenDs (n := a0.Flat.length) (cells := (List.map keS0 a0.Flat)) rfl rfl (ltb rfl) rfl el22 (by decide) (len1 _ _) ?_)
          refine AO.guardY rfl rfl rfl q8 (AOp.fieldAddr rfl rfl (ltb rfl) rfl fo28_4 ?_)
          refine AO.guardY rfl rfl rfl q8 (AOp.load1 rfl rfl (ltb rfl) rfl agg25 rfl rfl ?_)
          refine AO.guardY rfl rfl rfl q8 (AOp.lenDs (n := a0.Ends.length) (cells := (List.map keS2 a0.Ends)) rfl rfl (ltb rfl) rfl el25 (by decide) (len1 _ _) ?_)
          obtain ⟨q9, h0⟩ := need_elim h0
          refine AO.guardY rfl rfl rfl q8 (AOp.iadd rfl rfl (ltb rfl) rfl rfl rfl q9.1 q9.2 ?_)
          refine AO.guardY rfl rfl rfl q8 (AOp.fieldAddr rfl rfl (ltb rfl) rfl fo28_5 ?_)
          refine AO.guardY rfl rfl rfl q8 (AOp.load1 rfl rfl (ltb rfl) rfl agg23 rfl rfl ?_)
          refine AO.guardY rfl rfl rfl q8 (AOp.lenDs (n := a0.Endss.length) (cells := (List.map keS1 a0.Endss)) rfl rfl (ltb rfl) rfl el23 (by decide) (len1 _ _) ?_)
          obtain ⟨q10, h0⟩ := need_elim h0
          refine AO.guardY rfl rfl rfl q8 (AOp.iadd rfl rfl (ltb rfl) rfl rfl rfl q10.1 q10.2 ?_)
          refine AO.guardY rfl rfl rfl q8 (AOp.ieql rfl rfl (ltb rfl) rfl rfl ?_)
          refine AO.op rfl (AOp.pick rfl rfl (ltb rfl) rfl q8 rfl ?_)
          refine AO.op rfl (AOp.assign rfl rfl (ltb rfl) rfl ?_)
          refine AO.nil ?_
          exact ⟨(decide (((((a0.Flat.length : Nat) : Int) + ((a0.Ends.length : Nat) : Int)) + ((a0.Endss.length : Nat) : Int)) = (0 : Int))), _, rfl, (LeL.refl _), rfl, rfl, h0⟩
        · replace h0 := cF h0 q8
          refine AO.guardN rfl rfl rfl (ltb rfl) rfl q8 ?_
          refine AO.guardN rfl rfl rfl (ltb rfl) rfl q8 ?_
          refine AO.guardN rfl rfl rfl (ltb rfl) rfl q8 ?_
          refine AO.guardN rfl rfl rfl (ltb rfl) rfl q8 ?_
          refine AO.guardN rfl rfl rfl (ltb rfl) rfl q8 ?_
          refine AO.guardN rfl rfl rfl (ltb rfl) rfl q8 ?_
          refine AO.guardN rfl rfl rfl (ltb rfl) rfl q8 ?_
          refine AO.guardN rfl rfl rfl (ltb rfl) rfl q8 ?_
          refine AO.guardN rfl rfl rfl (ltb rfl) rfl q8 ?_
          refine AO.guardN rfl rfl rfl (ltb rfl) rfl q8 ?_
          refine AO.guardN rfl rfl rfl (ltb rfl) rfl q8 ?_
          refine AO.guardN rfl rfl rfl (ltb rfl) rfl q8 ?_
          refine AO.op rfl (AOp.pickN rfl rfl (ltb rfl) rfl q8 rfl ?_)
          refine AO.op rfl (AOp.assign rfl rfl (ltb rfl) rfl ?_)
          refine AO.nil ?_
          exact ⟨false, _, rfl, (LeL.refl _), rfl, rfl, h0⟩
      · intro g7 h0
        unfold p_Good_k2 at h0
        refine AC.ret ?_
        change RetQ _ _ _ .ret _
        obtain rfl := Option.some.inj h0
        refine retq rfl rfl
  · replace h0 := cF h0 q3
    refine AC.skip ?_
    change AC _ _ _ _
    refine AC.joinP (V := Unit) [1, 3] [] 1 (fun g26 => []) (fun g26 => [.fix 28 [.d (di .i64 a0.Kind), .d (di .i64 a0.Layout), .d (di .i64 a0.SRID), .d (eS0 a0.Flat), .d (eS2 a0.Ends), .d (eS1 a0.Endss), .d (eS3 a0.Kids)]]) (fun g26 => (p_Good_k4 a0 F y1) g26 = some r0) rfl ?_ ?_
    · refine AC.seq ?_
      refine AC.region ?_
      refine AO.op rfl (AOp.move rfl rfl (ltb rfl) rfl ?_)
      refine AO.op rfl (AOp.ieql rfl rfl (ltb rfl) rfl rfl ?_)
      refine AO.op rfl (AOp.move rfl rfl (ltb rfl) rfl ?_)
      refine AO.dec (decide (y1 = (0 : Int))) (fun q56 => ?_) (fun q56 => ?_)
      · replace h0 := cT h0 q56
        refine AO.guardN rfl rfl rfl (ltb rfl) rfl q56 ?_
        refine AO.guardN rfl rfl rfl (ltb rfl) rfl q56 ?_
        refine AO.guardN rfl rfl rfl (ltb rfl) rfl q56 ?_
        refine AO.guardN rfl rfl rfl (ltb rfl) rfl q56 ?_
        refine AO.guardN rfl rfl rfl (ltb rfl) rfl q56 ?_
        refine AO.guardN rfl rfl rfl (ltb rfl) rfl q56 ?_
        refine AO.op rfl (AOp.pick rfl rfl (ltb rfl) rfl q56 rfl ?_)
        refine AO.op rfl (AOp.move rfl rfl (ltb rfl) rfl ?_)
        refine AO.guardN rfl rfl rfl (ltb rfl) rfl rfl ?_
        refine AO.guardN rfl rfl rfl (ltb rfl) rfl rfl ?_
        refine AO.guardN rfl rfl rfl (ltb rfl) rfl rfl ?_
        refine AO.guardN rfl rfl rfl (ltb rfl) rfl rfl ?_
        refine AO.op rfl (AOp.pick rfl rfl (ltb rfl) rfl rfl rfl ?_)
        refine AO.op rfl (AOp.move rfl rfl (ltb rfl) rfl ?_)
        refine AO.guardN rfl rfl rfl (ltb rfl) rfl rfl ?_
        refine AO.guardN rfl rfl rfl (ltb rfl) rfl rfl ?_
        refine AO.guardN rfl rfl rfl (ltb rfl) rfl rfl ?_
        refine AO.guardN rfl rfl rfl (ltb rfl) rfl rfl ?_
        refine AO.guardN rfl rfl rfl (ltb rfl) rfl rfl ?_
        refine AO.guardU rfl rfl rfl (ltb rfl) rfl ?_
        refine AO.guardU rfl rfl rfl (ltb rfl) rfl ?_
        refine AO.guardU rfl rfl rfl (ltb rfl) rfl ?_
        refine AO.guardN rfl rfl rfl (ltb rfl) rfl rfl ?_
        refine AO.op rfl (AOp.pick rfl rfl (ltb rfl) rfl rfl rfl ?_)
        refine AO.nil ?_
        change AC _ _ _ _
        refine AC.condT rfl rfl ?_
        refine AC.seq ?_
        refine AC.region ?_
        refine AO.op rfl (AOp.assign rfl rfl (ltb rfl) rfl ?_)
        refine AO.nil ?_
        change AC _ _ _ _
        refine AC.ret ?_
        change RetQ _ _ _ .ret _
        obtain rfl := Option.some.inj h0
        refine retq rfl rfl
      · replace h0 := cF h0 q56
        refine AO.guardY rfl rfl rfl q56 (AOp.fieldAddr rfl rfl (ltb rfl) rfl fo28_3 ?_)
        refine AO.guardY rfl rfl rfl q56 (AOp.load1 rfl rfl (ltb rfl) rfl agg22 rfl rfl ?_)
        refine AO.guardY rfl rfl rfl q56 (AOp.lenDs (n := a0.Flat.length) (cells := (List.map keS0 a0.Flat)) rfl rfl (ltb rfl) rfl el22 (by decide) (len1 _ _) ?_)
        refine AO.guardY rfl rfl rfl q56 (AOp.move rfl rfl (ltb rfl) rfl ?_)
        obtain ⟨q57, h0⟩ := need_elim h0
        refine AO.guardY rfl rfl rfl q56 (AOp.irem rfl rfl (ltb rfl) rfl rfl q57 rfl ?_)
        refine AO.guardY rfl rfl rfl q56 (AOp.ineq rfl rfl (ltb rfl) rfl rfl ?_)
        refine AO.op rfl (AOp.pickN rfl rfl (ltb rfl) rfl q56 rfl ?_)
        refine AO.op rfl (AOp.move rfl rfl (ltb rfl) rfl ?_)
        refine AO.dec (!decide ((Int.tmod ((a0.Flat.length : Nat) : Int) y1) = (0 : Int))) (fun q58 => ?_) (fun q58 => ?_)
        · replace h0 := cT h0 q58
          refine AO.guardN rfl rfl rfl (ltb rfl) rfl q58 ?_
          refine AO.guardN rfl rfl rfl (ltb rfl) rfl q58 ?_
          refine AO.guardN rfl rfl rfl (ltb rfl) rfl q58 ?_
          refine AO.guardN rfl rfl rfl (ltb rfl) rfl q58 ?_
          refine AO.op rfl (AOp.pick rfl rfl (ltb rfl) rfl q58 rfl ?_)
          refine AO.op rfl (AOp.move rfl rfl (ltb rfl) rfl ?_)
          refine AO.guardN rfl rfl rfl (ltb rfl) rfl rfl ?_
          refine AO.guardN rfl rfl rfl (ltb rfl) rfl rfl ?_
          refine AO.guardN rfl rfl rfl (ltb rfl) rfl rfl ?_
          refine AO.guardN rfl rfl rfl (ltb rfl) rfl rfl ?_
          refine AO.guardN rfl rfl rfl (ltb rfl) rfl rfl ?_
          refine AO.guardU rfl rfl rfl (ltb rfl) rfl ?_
          refine AO.guardU rfl rfl rfl (ltb rfl) rfl ?_
          refine AO.guardU rfl rfl rfl (ltb rfl) rfl ?_
          refine AO.guardN rfl rfl rfl (ltb rfl) rfl rfl ?_
          refine AO.op rfl (AOp.pick rfl rfl (ltb rfl) rfl rfl rfl ?_)
          refine AO.nil ?_
          change AC _ _ _ _
          refine AC.condT rfl rfl ?_
          refine AC.seq ?_
          refine AC.region ?_
          refine AO.op rfl (AOp.assign rfl rfl (ltb rfl) rfl ?_)
          refine AO.nil ?_
          change AC _ _ _ _
          refine AC.ret ?_
          change RetQ _ _ _ .ret _
          obtain rfl := Option.some.inj h0
          refine retq rfl rfl
        · replace h0 := cF h0 q58
          refine AO.guardY rfl rfl rfl q58 (AOp.fieldAddr rfl rfl (ltb rfl) rfl fo28_6 ?_)
          refine AO.guardY rfl rfl rfl q58 (AOp.load1 rfl rfl (ltb rfl) rfl agg26 rfl rfl ?_)
          refine AO.guardY rfl rfl rfl q58 (AOp.lenDs (n := a0.Kids.length) (cells := (List.flatMap c0_TImpl_Geom a0.Kids)) rfl rfl (ltb rfl) rfl el26 (by decide) (lenN _ 7 c0_TImpl_Geom_len _) ?_)
          refine AO.guardY rfl rfl rfl q58 (AOp.igtr rfl rfl (ltb rfl) rfl rfl ?_)
          refine AO.op rfl (AOp.pickN rfl rfl (ltb rfl) rfl q58 rfl ?_)
          refine AO.op rfl (AOp.move rfl rfl (ltb rfl) rfl ?_)
          refine AO.dec (decide ((0 : Int) < ((a0.Kids.length : Nat) : Int))) (fun q59 => ?_) (fun q59 => ?_)
          · replace h0 := cT h0 q59
            refine AO.guardN rfl rfl rfl (ltb rfl) rfl q59 ?_
            refine AO.guardN rfl rfl rfl (ltb rfl) rfl q59 ?_
            refine AO.guardN rfl rfl rfl (ltb rfl) rfl q59 ?_
            refine AO.guardN rfl rfl rfl (ltb rfl) rfl q59 ?_
            refine AO.guardN rfl rfl rfl (ltb rfl) rfl q59 ?_
            refine AO.guardU rfl rfl rfl (ltb rfl) rfl ?_
            refine AO.guardU rfl rfl rfl (ltb rfl) rfl ?_
            refine AO.guardU rfl rfl rfl (ltb rfl) rfl ?_
            refine AO.guardN rfl rfl rfl (ltb rfl) rfl q59 ?_
            refine AO.op rfl (AOp.pick rfl rfl (ltb rfl) rfl q59 rfl ?_)
            refine AO.nil ?_
            change AC _ _ _ _
            refine AC.condT rfl rfl ?_
            refine AC.seq ?_
            refine AC.region ?_
            refine AO.op rfl (AOp.assign rfl rfl (ltb rfl) rfl ?_)
            refine AO.nil ?_
            change AC _ _ _ _
            refine AC.ret ?_
            change RetQ _ _ _ .ret _
            obtain rfl := Option.some.inj h0
            refine retq rfl rfl
          · replace h0 := cF h0 q59
            refine AO.guardY rfl rfl rfl q59 (AOp.fieldAddr rfl rfl (ltb rfl) rfl fo28_5 ?_)
            refine AO.guardY rfl rfl rfl q59 (AOp.load1 rfl rfl (ltb rfl) rfl agg23 rfl rfl ?_)
            refine AO.guardY rfl rfl rfl q59 (AOp.lenDs (n := a0.Endss.length) (cells := (List.map keS1 a0.Endss)) rfl rfl (ltb rfl) rfl el23 (by decide) (len1 _ _) ?_)
            refine AO.guardY rfl rfl rfl q59 (AOp.igtr rfl rfl (ltb rfl) rfl rfl ?_)
            refine AO.guardY rfl rfl rfl q59 (AOp.move rfl rfl (ltb rfl) rfl ?_)
            refine AO.dec (decide ((0 : Int) < ((a0.Endss.length : Nat) : Int))) (fun q60 => ?_) (fun q60 => ?_)
            · replace h0 := cT h0 q60
              refine AO.guardY rfl rfl rfl q60 (AOp.fieldAddr rfl rfl (ltb rfl) rfl fo28_0 ?_)
              refine AO.guardY rfl rfl rfl q60 (AOp.load1 rfl rfl (ltb rfl) rfl agg3 rfl rfl ?_)
              refine AO.guardY rfl rfl rfl q60 (AOp.ineq rfl rfl (ltb rfl) rfl rfl ?_)
              refine AO.guardY rfl rfl rfl q59 (AOp.pick rfl rfl (ltb rfl) rfl q60 rfl ?_)
              refine AO.op rfl (AOp.pickN rfl rfl (ltb rfl) rfl q59 rfl ?_)
              refine AO.nil ?_
              change AC _ _ _ _
              refine AC.cond rfl (fun q61 => ?_) (fun q61 => ?_)
              · replace h0 := cT h0 q61
                refine AC.seq ?_
                refine AC.region ?_
                refine AO.op rfl (AOp.assign rfl rfl (ltb rfl) rfl ?_)
                refine AO.nil ?_
                change AC _ _ _ _
                refine AC.ret ?_
                change RetQ _ _ _ .ret _
                obtain rfl := Option.some.inj h0
                refine retq rfl rfl
              · replace h0 := cF h0 q61
                refine AC.skip ?_
                exact ⟨(), _, rfl, (LeL.refl _), rfl, rfl, h0⟩
            · replace h0 := cF h0 q60
              refine AO.guardN rfl rfl rfl (ltb rfl) rfl q60 ?_
              refine AO.guardN rfl rfl rfl (ltb rfl) rfl q60 ?_
              refine AO.guardN rfl rfl rfl (ltb rfl) rfl q60 ?_
              refine AO.guardY rfl rfl rfl q59 (AOp.pickN rfl rfl (ltb rfl) rfl q60 rfl ?_)
              refine AO.op rfl (AOp.pickN rfl rfl (ltb rfl) rfl q59 rfl ?_)
              refine AO.nil ?_
              change AC _ _ _ _
              refine AC.condF rfl rfl ?_
              refine AC.skip ?_
              exact ⟨(), _, rfl, (LeL.refl _), rfl, rfl, h0⟩
    · intro g26 h0
      unfold p_Good_k4 at h0
      refine AC.seq ?_
      refine AC.seq ?_
      refine AC.region ?_
      refine AO.op rfl (AOp.fieldAddr rfl rfl (ltb rfl) rfl fo28_0 ?_)
      refine AO.op rfl (AOp.load1 rfl rfl (ltb rfl) rfl agg3 rfl rfl ?_)
      refine AO.nil ?_
      change AC _ _ _ _
      refine AC.block ?_
      refine AC.seq ?_
      refine AC.region ?_
      refine AO.op rfl (AOp.ieql rfl rfl (ltb rfl) rfl rfl ?_)
      refine AO.op rfl (AOp.assign rfl rfl (ltb rfl) rfl ?_)
      refine AO.nil ?_
      change AC _ _ _ _
      refine AC.cond rfl (fun q27 => ?_) (fun q27 => ?_)
      · replace h0 := cT h0 q27
        refine AC.seq ?_
        refine AC.region ?_
        refine AO.op rfl (AOp.fieldAddr rfl rfl (ltb rfl) rfl fo28_4 ?_)
        refine AO.op rfl (AOp.load1 rfl rfl (ltb rfl) rfl agg25 rfl rfl ?_)
        refine AO.op rfl (AOp.lenDs (n := a0.Ends.length) (cells := (List.map keS2 a0.Ends)) rfl rfl (ltb rfl) rfl el25 (by decide) (len1 _ _) ?_)
        refine AO.op rfl (AOp.ieql rfl rfl (ltb rfl) rfl rfl ?_)
        refine AO.op rfl (AOp.move rfl rfl (ltb rfl) rfl ?_)
        refine AO.dec (decide (((a0.Ends.length : Nat) : Int) = (0 : Int))) (fun q28 => ?_) (fun q28 => ?_)
        · replace h0 := cT h0 q28
          refine AO.guardY rfl rfl rfl q28 (AOp.fieldAddr rfl rfl (ltb rfl) rfl fo28_3 ?_)
          refine AO.guardY rfl rfl rfl q28 (AOp.load1 rfl rfl (ltb rfl) rfl agg22 rfl rfl ?_)
          refine AO.guardY rfl rfl rfl q28 (AOp.lenDs (n := a0.Flat.length) (cells := (List.map keS0 a0.Flat)) rfl rfl (ltb rfl) rfl el22 (by decide) (len1 _ _) ?_)
          refine AO.guardY rfl rfl rfl q28 (AOp.move rfl rfl (ltb rfl) rfl ?_)
          refine AO.guardY rfl rfl rfl q28 (AOp.ileq rfl rfl (ltb rfl) rfl rfl ?_)
          refine AO.op rfl (AOp.pick rfl rfl (ltb rfl) rfl q28 rfl ?_)
          refine AO.op rfl (AOp.assign rfl rfl (ltb rfl) rfl ?_)
          refine AO.nil ?_
          change AC _ _ _ _
          refine AC.ret ?_
          change RetQ _ _ _ .ret _
          obtain rfl := Option.some.inj h0
          refine retq rfl rfl
        · replace h0 := cF h0 q28
          refine AO.guardN rfl rfl rfl (ltb rfl) rfl q28 ?_
          refine AO.guardN rfl rfl rfl (ltb rfl) rfl q28 ?_
          refine AO.guardN rfl rfl rfl (ltb rfl) rfl q28 ?_
          refine AO.guardN rfl rfl rfl (ltb rfl) rfl q28 ?_
          refine AO.guardN rfl rfl rfl (ltb rfl) rfl q28 ?_
          refine AO.op rfl (AOp.pickN rfl rfl (ltb rfl) rfl q28 rfl ?_)
          refine AO.op rfl (AOp.assign rfl rfl (ltb rfl) rfl ?_)
          refine AO.nil ?_
          change AC _ _ _ _
          refine AC.ret ?_
          change RetQ _ _ _ .ret _
          obtain rfl := Option.some.inj h0
          refine retq rfl rfl
      · replace h0 := cF h0 q27
        refine AC.joinP (V := Bool) [1, 3, 87] [101] 1 (fun g29 => [(101, .d (dbool g29))]) (fun g29 => [.fix 28 [.d (di .i64 a0.Kind), .d (di .i64 a0.Layout), .d (di .i64 a0.SRID), .d (eS0 a0.Flat), .d (eS2 a0.Ends), .d (eS1 a0.Endss), .d (eS3 a0.Kids)]]) (fun g29 => (p_Good_k5 a0 F y1) g29 = some r0) rfl ?_ ?_
        · refine AC.seq ?_
          refine AC.region ?_
          refine AO.op rfl (AOp.ieql rfl rfl (ltb rfl) rfl rfl ?_)
          refine AO.op rfl (AOp.assign rfl rfl (ltb rfl) rfl ?_)
          refine AO.nil ?_
          change AC _ _ _ _
          refine AC.cond rfl (fun q55 => ?_) (fun q55 => ?_)
          · replace h0 := cT h0 q55
            refine AC.skip ?_
            exact ⟨(decide (a0.Kind = (2 : Int))), _, rfl, (LeL.refl _), rfl, rfl, h0⟩
          · replace h0 := cF h0 q55
            refine AC.region ?_
            refine AO.op rfl (AOp.ieql rfl rfl (ltb rfl) rfl rfl ?_)
            refine AO.op rfl (AOp.assign rfl rfl (ltb rfl) rfl ?_)
            refine AO.nil ?_
            exact ⟨(decide (a0.Kind = (8 : Int))), _, rfl, (LeL.refl _), rfl, rfl, h0⟩
        · intro g29 h0
          unfold p_Good_k5 at h0
          refine AC.cond rfl (fun q30 => ?_) (fun q30 => ?_)
          · replace h0 := cT h0 q30
            refine AC.seq ?_
            refine AC.region ?_
            refine AO.op rfl (AOp.fieldAddr rfl rfl (ltb rfl) rfl fo28_4 ?_)
            refine AO.op rfl (AOp.load1 rfl rfl (ltb rfl) rfl agg25 rfl rfl ?_)
            refine AO.op rfl (AOp.lenDs (n := a0.Ends.length) (cells := (List.map keS2 a0.Ends)) rfl rfl (ltb rfl) rfl el25 (by decide) (len1 _ _) ?_)
            refine AO.op rfl (AOp.ieql rfl rfl (ltb rfl) rfl rfl ?_)
            refine AO.op rfl (AOp.assign rfl rfl (ltb rfl) rfl ?_)
            refine AO.nil ?_
            change AC _ _ _ _
            refine AC.ret ?_
            change RetQ _ _ _ .ret _
            obtain rfl := Option.some.inj h0
            refine retq rfl rfl
          · replace h0 := cF h0 q30
            refine AC.joinP (V := Bool) [1, 3, 87] [108] 1 (fun g31 => [(108, .d (dbool g31))]) (fun g31 => [.fix 28 [.d (di .i64 a0.Kind), .d (di .i64 a0.Layout), .d (di .i64 a0.SRID), .d (eS0 a0.Flat), .d (eS2 a0.Ends), .d (eS1 a0.Endss), .d (eS3 a0.Kids)]]) (fun g31 => (p_Good_k6 a0 F y1) g31 = some r0) rfl ?_ ?_
            · refine AC.seq ?_
              refine AC.region ?_
              refine AO.op rfl (AOp.ieql rfl rfl (ltb rfl) rfl rfl ?_)
              refine AO.op rfl (AOp.assign rfl rfl (ltb rfl) rfl ?_)
              refine AO.nil ?_
              change AC _ _ _ _
              refine AC.cond rfl (fun q53 => ?_) (fun q53 => ?_)
              · replace h0 := cT h0 q53
                refine AC.skip ?_
                exact ⟨(decide (a0.Kind = (3 : Int))), _, rfl, (LeL.refl _), rfl, rfl, h0⟩
              · replace h0 := cF h0 q53
                refine AC.seq ?_
                refine AC.region ?_
                refine AO.op rfl (AOp.ieql rfl rfl (ltb rfl) rfl rfl ?_)
                refine AO.op rfl (AOp.assign rfl rfl (ltb rfl) rfl ?_)
                refine AO.nil ?_
                change AC _ _ _ _
                refine AC.cond rfl (fun q54 => ?_) (fun q54 => ?_)
                · replace h0 := cT h0 q54
                  refine AC.skip ?_
                  exact ⟨(decide (a0.Kind = (4 : Int))), _, rfl, (LeL.refl _), rfl, rfl, h0⟩
                · replace h0 := cF h0 q54
                  refine AC.region ?_
                  refine AO.op rfl (AOp.ieql rfl rfl (ltb rfl) rfl rfl ?_)
                  refine AO.op rfl (AOp.assign rfl rfl (ltb rfl) rfl ?_)
                  refine AO.nil ?_
                  exact ⟨(decide (a0.Kind = (5 : Int))), _, rfl, (LeL.refl _), rfl, rfl, h0⟩
            · intro g31 h0
              unfold p_Good_k6 at h0
              refine AC.cond rfl (fun q32 => ?_) (fun q32 => ?_)
              · replace h0 := cT h0 q32
                refine AC.seq ?_
                refine AC.region ?_
                refine AO.op rfl (AOp.fieldAddr rfl rfl (ltb rfl) rfl fo28_4 ?_)
                refine AO.op rfl (AOp.load1 rfl rfl (ltb rfl) rfl agg25 rfl rfl ?_)
                refine AO.op rfl (AOp.move rfl rfl (ltb rfl) rfl ?_)
                refine AO.op rfl (AOp.fieldAddr rfl rfl (ltb rfl) rfl fo28_0 ?_)
                refine AO.op rfl (AOp.load1 rfl rfl (ltb rfl) rfl agg3 rfl rfl ?_)
                refine AO.op rfl (AOp.ieql rfl rfl (ltb rfl) rfl rfl ?_)
                obtain ⟨y33, q34, h0⟩ := bind_elim h0
                refine AO.op rfl (AOp.callD rfl rfl (ltb rfl) rfl rfl (w_goodEnds F a0.Ends (0 : Int) y1 (decide (a0.Kind = (4 : Int))) y33 q34) ?_)
                rintro _ rfl
                refine AO.op rfl (AOp.move rfl rfl (ltb rfl) rfl ?_)
                first | refine AO.op rfl (AOp.extractD rfl rfl (ltb rfl) rfl rfl ?_) | refine AO.op rfl (AOp.extract rfl rfl (ltb rfl) rfl rfl ?_)
                first | refine AO.op rfl (AOp.extractD rfl rfl (ltb rfl) rfl rfl ?_) | refine AO.op rfl (AOp.extract rfl rfl (ltb rfl) rfl rfl ?_)
                refine AO.op rfl (AOp.assign rfl rfl (ltb rfl) rfl ?_)
                refine AO.op rfl (AOp.assign rfl rfl (ltb rfl) rfl ?_)
                refine AO.nil ?_
                change AC _ _ _ _
                refine AC.seq ?_
                refine AC.region ?_
                refine AO.op rfl (AOp.move rfl rfl (ltb rfl) rfl ?_)
                refine AO.op rfl (AOp.move rfl rfl (ltb rfl) rfl ?_)
                refine AO.dec y33.2 (fun q35 => ?_) (fun q35 => ?_)
                · replace h0 := cT h0 q35
                  refine AO.guardY rfl rfl rfl q35 (AOp.move rfl rfl (ltb rfl) rfl ?_)
                  refine AO.guardY rfl rfl rfl q35 (AOp.fieldAddr rfl rfl (ltb rfl) rfl fo28_3 ?_)
                  refine AO.guardY rfl rfl rfl q35 (AOp.load1 rfl rfl (ltb rfl) rfl agg22 rfl rfl ?_)
                  refine AO.guardY rfl rfl rfl q35 (AOp.lenDs (n := a0.Flat.length) (cells := (List.map keS0 a0.Flat)) rfl rfl (ltb rfl) rfl el22 (by decide) (len1 _ _) ?_)
                  refine AO.guardY rfl rfl rfl q35 (AOp.ieql rfl rfl (ltb rfl) rfl rfl ?_)
                  refine AO.op rfl (AOp.pick rfl rfl (ltb rfl) rfl q35 rfl ?_)
                  refine AO.op rfl (AOp.assign rfl rfl (ltb rfl) rfl ?_)
                  refine AO.nil ?_
                  change AC _ _ _ _
                  refine AC.ret ?_
                  change RetQ _ _ _ .ret _
                  obtain rfl := Option.some.inj h0
                  refine retq rfl rfl
                · replace h0 := cF h0 q35
                  refine AO.guardN rfl rfl rfl (ltb rfl) rfl q35 ?_
                  refine AO.guardN rfl rfl rfl (ltb rfl) rfl q35 ?_
                  refine AO.guardN rfl rfl rfl (ltb rfl) rfl q35 ?_
                  refine AO.guardN rfl rfl rfl (ltb rfl) rfl q35 ?_
                  refine AO.guardN rfl rfl rfl (ltb rfl) rfl q35 ?_
                  refine AO.op rfl (AOp.pickN rfl rfl (ltb rfl) rfl q35 rfl ?_)
                  refine AO.op rfl (AOp.assign rfl rfl (ltb rfl) rfl ?_)
                  refine AO.nil ?_
                  change AC _ _ _ _
                  refine AC.ret ?_
                  change RetQ _ _ _ .ret _
                  obtain rfl := Option.some.inj h0
                  refine retq rfl rfl
              · replace h0 := cF h0 q32
                refine AC.seq ?_
                refine AC.region ?_
                refine AO.op rfl (AOp.ieql rfl rfl (ltb rfl) rfl rfl ?_)
                refine AO.op rfl (AOp.assign rfl rfl (ltb rfl) rfl ?_)
                refine AO.nil ?_
                change AC _ _ _ _
                refine AC.cond rfl (fun q36 => ?_) (fun q36 => ?_)
                · replace h0 := cT h0 q36
                  refine AC.seq ?_
                  refine AC.region ?_
                  refine AO.op rfl (AOp.assign rfl rfl (ltb rfl) rfl ?_)
                  refine AO.op rfl (AOp.assign rfl rfl (ltb rfl) rfl ?_)
                  refine AO.nil ?_
                  change AC _ _ _ _
                  refine AC.seq ?_
                  refine AC.seq ?_
                  refine AC.region ?_
                  refine AO.op rfl (AOp.fieldAddr rfl rfl (ltb rfl) rfl fo28_5 ?_)
                  refine AO.op rfl (AOp.load1 rfl rfl (ltb rfl) rfl agg23 rfl rfl ?_)
                  refine AO.op rfl (AOp.lenDs (n := a0.Endss.length) (cells := (List.map keS1 a0.Endss)) rfl rfl (ltb rfl) rfl el23 (by decide) (len1 _ _) ?_)
                  refine AO.op rfl (AOp.move rfl rfl (ltb rfl) rfl ?_)
                  refine AO.nil ?_
                  change AC _ _ _ _
                  obtain ⟨o37, l38, h0⟩ := bind_elim h0
                  refine AC.joinE (V := (Int × Bool)) [1] [8, 9] 1 (fun g39 => [(8, .d (di .i64 g39.1)), (9, .d (dbool g39.2))]) (fun g39 => [.fix 28 [.d (di .i64 a0.Kind), .d (di .i64 a0.Layout), .d (di .i64 a0.SRID), .d (eS0 a0.Flat), .d (eS2 a0.Ends), .d (eS1 a0.Endss), .d (eS3 a0.Kids)]]) (fun g39 => (p_Good_k7 a0) g39 = some r0) rfl ?_ ?_
                  · refine AC.block ?_
                    refine AC.loopP (V := (Int × Bool × Int)) (p_Good_l8 a0 F y1) o37 [1, 3, 133, 134] [8, 9, 135] 1 (fun g42 => [(8, .d (di .i64 g42.1)), (9, .d (dbool g42.2.1)), (135, .d (di .i64 g42.2.2))]) (fun g42 => [.fix 28 [.d (di .i64 a0.Kind), .d (di .i64 a0.Layout), .d (di .i64 a0.SRID), .d (eS0 a0.Flat), .d (eS2 a0.Ends), .d (eS1 a0.Endss), .d (eS3 a0.Kids)]]) F ((0 : Int), true, (0 : Int)) l38 rfl rfl (LeL.refl _) rfl rfl ?_
                    intro n44 g42 h1
                    unfold p_Good_l8 at h1
                    refine AC.seq ?_
                    refine AC.region ?_
                    refine AO.op rfl (AOp.ilss rfl rfl (ltb rfl) rfl rfl ?_)
                    refine AO.nil ?_
                    change AC _ _ _ _
                    refine AC.seq ?_
                    refine AC.cond rfl (fun q45 => ?_) (fun q45 => ?_)
                    · replace h1 := cT h1 q45
                      refine AC.skip ?_
                      change AC _ _ _ _
                      refine AC.seq ?_
                      refine AC.block ?_
                      refine AC.seq ?_
                      refine AC.region ?_
                      obtain ⟨x46, q47, h1⟩ := idx_elim h1
                      refine AO.op rfl (AOp.indexDs (cells := (List.map keS1 a0.Endss)) rfl rfl (ltb rfl) rfl rfl el23 (by decide) q47.1 (lt1 q47.2) ?_)
                      refine AO.op rfl (AOp.loadEp rfl rfl (ltb rfl) rfl agg25 (at1 q47.2) ?_)
                      refine AO.op rfl (AOp.assign rfl rfl (ltb rfl) rfl ?_)
                      refine AO.nil ?_
                      change AC _ _ _ _
                      refine AC.seq ?_
                      refine AC.region ?_
                      refine AO.op rfl (AOp.assign rfl rfl (ltb rfl) rfl ?_)
                      refine AO.nil ?_
                      change AC _ _ _ _
                      refine AC.seq ?_
                      refine AC.region ?_
                      refine AO.op rfl (AOp.move rfl rfl (ltb rfl) rfl ?_)
                      refine AO.op rfl (AOp.move rfl rfl (ltb rfl) rfl ?_)
                      refine AO.op rfl (AOp.move rfl rfl (ltb rfl) rfl ?_)
                      obtain ⟨y48, q49, h1⟩ := bind_elim h1
                      refine AO.op rfl (AOp.callD rfl rfl (ltb rfl) rfl rfl (w_goodEnds F x46 g42.1 y1 false y48 q49) ?_)
                      rintro _ rfl
                      refine AO.op rfl (AOp.move rfl rfl (ltb rfl) rfl ?_)
                      first | refine AO.op rfl (AOp.extractD rfl rfl (ltb rfl) rfl rfl ?_) | refine AO.op rfl (AOp.extract rfl rfl (ltb rfl) rfl rfl ?_)
                      first | refine AO.op rfl (AOp.extractD rfl rfl (ltb rfl) rfl rfl ?_) | refine AO.op rfl (AOp.extract rfl rfl (ltb rfl) rfl rfl ?_)
                      refine AO.op rfl (AOp.assign rfl rfl (ltb rfl) rfl ?_)
                      refine AO.op rfl (AOp.assign rfl rfl (ltb rfl) rfl ?_)
                      refine AO.nil ?_
                      change AC _ _ _ _
                      refine AC.region ?_
                      refine AO.op rfl (AOp.move rfl rfl (ltb rfl) rfl ?_)
                      refine AO.op rfl (AOp.move rfl rfl (ltb rfl) rfl ?_)
                      refine AO.dec g42.2.1 (fun q50 => ?_) (fun q50 => ?_)
                      · replace h1 := cT h1 q50
                        refine AO.guardY rfl rfl rfl q50 (AOp.move rfl rfl (ltb rfl) rfl ?_)
                        refine AO.op rfl (AOp.pick rfl rfl (ltb rfl) rfl q50 rfl ?_)
                        refine AO.op rfl (AOp.assign rfl rfl (ltb rfl) rfl ?_)
                        refine AO.nil ?_
                        change AC _ _ _ _
                        refine AC.region ?_
                        obtain ⟨q51, h1⟩ := need_elim h1
                        refine AO.op rfl (AOp.iadd rfl rfl (ltb rfl) rfl rfl rfl q51.1 q51.2 ?_)
                        refine AO.op rfl (AOp.move rfl rfl (ltb rfl) rfl ?_)
                        refine AO.nil ?_
                        exact ⟨(y48.1, y48.2, (g42.2.2 + (1 : Int))), _, rfl, (LeL.refl _), rfl, rfl, h1⟩
                      · replace h1 := cF h1 q50
                        refine AO.guardN rfl rfl rfl (ltb rfl) rfl q50 ?_
                        refine AO.op rfl (AOp.pickN rfl rfl (ltb rfl) rfl q50 rfl ?_)
                        refine AO.op rfl (AOp.assign rfl rfl (ltb rfl) rfl ?_)
                        refine AO.nil ?_
                        change AC _ _ _ _
                        refine AC.region ?_
                        obtain ⟨q52, h1⟩ := need_elim h1
                        refine AO.op rfl (AOp.iadd rfl rfl (ltb rfl) rfl rfl rfl q52.1 q52.2 ?_)
                        refine AO.op rfl (AOp.move rfl rfl (ltb rfl) rfl ?_)
                        refine AO.nil ?_
                        exact ⟨(y48.1, false, (g42.2.2 + (1 : Int))), _, rfl, (LeL.refl _), rfl, rfl, h1⟩
                    · replace h1 := cF h1 q45
                      refine AC.exit ?_
                      obtain rfl := Option.some.inj h1
                      exact ⟨(g42.1, g42.2.1), _, rfl, (LeL.refl _), rfl, rfl, aftL h0⟩
                  · intro g39 h0
                    unfold p_Good_k7 at h0
                    change AC _ _ _ _
                    refine AC.seq ?_
                    refine AC.region ?_
                    refine AO.op rfl (AOp.move rfl rfl (ltb rfl) rfl ?_)
                    refine AO.op rfl (AOp.move rfl rfl (ltb rfl) rfl ?_)
                    refine AO.dec g39.2 (fun q40 => ?_) (fun q40 => ?_)
                    · replace h0 := cT h0 q40
                      refine AO.guardY rfl rfl rfl q40 (AOp.move rfl rfl (ltb rfl) rfl ?_)
                      refine AO.guardY rfl rfl rfl q40 (AOp.fieldAddr rfl rfl (ltb rfl) rfl fo28_3 ?_)
                      refine AO.guardY rfl rfl rfl q40 (AOp.load1 rfl rfl (ltb rfl) rfl agg22 rfl rfl ?_)
                      refine AO.guardY rfl rfl rfl q40 (AOp.lenDs (n := a0.Flat.length) (cells := (List.map keS0 a0.Flat)) rfl rfl (ltb rfl) rfl el22 (by decide) (len1 _ _) ?_)
                      refine AO.guardY rfl rfl rfl q40 (AOp.ieql rfl rfl (ltb rfl) rfl rfl ?_)
                      refine AO.op rfl (AOp.pick rfl rfl (ltb rfl) rfl q40 rfl ?_)
                      refine AO.op rfl (AOp.move rfl rfl (ltb rfl) rfl ?_)
                      refine AO.dec (decide (g39.1 = ((a0.Flat.length : Nat) : Int))) (fun q41 => ?_) (fun q41 => ?_)
                      · replace h0 := cT h0 q41
                        refine AO.guardY rfl rfl rfl q41 (AOp.fieldAddr rfl rfl (ltb rfl) rfl fo28_4 ?_)
                        refine AO.guardY rfl rfl rfl q41 (AOp.load1 rfl rfl (ltb rfl) rfl agg25 rfl rfl ?_)
                        refine AO.guardY rfl rfl rfl q41 (AOp.lenDs (n := a0.Ends.length) (cells := (List.map keS2 a0.Ends)) rfl rfl (ltb rfl) rfl el25 (by decide) (len1 _ _) ?_)
                        refine AO.guardY rfl rfl rfl q41 (AOp.ieql rfl rfl (ltb rfl) rfl rfl ?_)
                        refine AO.op rfl (AOp.pick rfl rfl (ltb rfl) rfl q41 rfl ?_)
                        refine AO.op rfl (AOp.assign rfl rfl (ltb rfl) rfl ?_)
                        refine AO.nil ?_
                        change AC _ _ _ _
                        refine AC.ret ?_
                        change RetQ _ _ _ .ret _
                        obtain rfl := Option.some.inj h0
                        refine retq rfl rfl
                      · replace h0 := cF h0 q41
                        refine AO.guardN rfl rfl rfl (ltb rfl) rfl q41 ?_
                        refine AO.guardN rfl rfl rfl (ltb rfl) rfl q41 ?_
                        refine AO.guardN rfl rfl rfl (ltb rfl) rfl q41 ?_
                        refine AO.guardN rfl rfl rfl (ltb rfl) rfl q41 ?_
                        refine AO.op rfl (AOp.pickN rfl rfl (ltb rfl) rfl q41 rfl ?_)
                        refine AO.op rfl (AOp.assign rfl rfl (ltb rfl) rfl ?_)
                        refine AO.nil ?_
                        change AC _ _ _ _
                        refine AC.ret ?_
                        change RetQ _ _ _ .ret _
                        obtain rfl := Option.some.inj h0
                        refine retq rfl rfl
                    · replace h0 := cF h0 q40
                      refine AO.guardN rfl rfl rfl (ltb rfl) rfl q40 ?_
                      refine AO.guardN rfl rfl rfl (ltb rfl) rfl q40 ?_
                      refine AO.guardN rfl rfl rfl (ltb rfl) rfl q40 ?_
                      refine AO.guardN rfl rfl rfl (ltb rfl) rfl q40 ?_
                      refine AO.guardN rfl rfl rfl (ltb rfl) rfl q40 ?_
                      refine AO.op rfl (AOp.pickN rfl rfl (ltb rfl) rfl q40 rfl ?_)
                      refine AO.op rfl (AOp.move rfl rfl (ltb rfl) rfl ?_)
                      refine AO.guardN rfl rfl rfl (ltb rfl) rfl rfl ?_
                      refine AO.guardN rfl rfl rfl (ltb rfl) rfl rfl ?_
                      refine AO.guardN rfl rfl rfl (ltb rfl) rfl rfl ?_
                      refine AO.guardN rfl rfl rfl (ltb rfl) rfl rfl ?_
                      refine AO.op rfl (AOp.pickN rfl rfl (ltb rfl) rfl rfl rfl ?_)
                      refine AO.op rfl (AOp.assign rfl rfl (ltb rfl) rfl ?_)
                      refine AO.nil ?_
                      change AC _ _ _ _
                      refine AC.ret ?_
                      change RetQ _ _ _ .ret _
                      obtain rfl := Option.some.inj h0
                      refine retq rfl rfl
                · replace h0 := cF h0 q36
                  refine AC.skip ?_
                  change AC _ _ _ _
                  refine AC.seq ?_
                  refine AC.region ?_
                  refine AO.op rfl (AOp.assign rfl rfl (ltb rfl) rfl ?_)
                  refine AO.nil ?_
                  change AC _ _ _ _
                  refine AC.ret ?_
                  change RetQ _ _ _ .ret _
                  obtain rfl := Option.some.inj h0
                  refine retq rfl rfl
theorem w_Good : ∀ (F : Nat) (a0 : TImpl_Geom) (r0 : Bool), p_Good F a0 = some r0 → FnD Try.prog 40 [e_TImpl_Geom a0] (fun r => r = dbool r0)
  | 0, _, _, h => by cases h
  | F + 1, a0, r0, h => w_Good_b _ (fun a0 r0 h => w_Good F a0 r0 h) F a0 r0 h

set_option maxRecDepth 100000 in
set_option maxHeartbeats 1000000 in
/-- pub-orthodrome/laws.gGood -/
theorem w_gGood (F : Nat) (a0 : (List TImpl_Geom)) (r0 : Bool) (h0 : p_gGood F a0 = some r0) : FnD Try.prog 22 [eS3 a0] (fun r => r = dbool r0) := by
  refine FnD.of (by kernel_rfl) Try.func22 rfl Try.ntmps22 rfl (leb rfl) fun W ok => ?_
  unfold p_gGood at h0
  refine AC.seq ?_
  refine AC.region ?_
  refine AO.op rfl (AOp.assign rfl rfl (ltb rfl) rfl ?_)
  refine AO.nil ?_
  change AC _ _ _ _
  refine AC.seq ?_
  refine AC.seq ?_
  refine AC.region ?_
  refine AO.op rfl (AOp.move rfl rfl (ltb rfl) rfl ?_)
  obtain ⟨y1, q2, h0⟩ := bind_elim h0
  refine AO.op rfl (AOp.callD rfl rfl (ltb rfl) rfl rfl (w_gSmall F a0 y1 q2) ?_)
  rintro _ rfl
  refine AO.op rfl (AOp.bnot rfl rfl (ltb rfl) rfl ?_)
  refine AO.nil ?_
  change AC _ _ _ _
  refine AC.cond rfl (fun q3 => ?_) (fun q3 => ?_)
  · replace h0 := cT h0 q3
    refine AC.seq ?_
    refine AC.region ?_
    refine AO.op rfl (AOp.assign rfl rfl (ltb rfl) rfl ?_)
    refine AO.nil ?_
    change AC _ _ _ _
    refine AC.ret ?_
    change RetQ _ _ _ .ret _
    obtain rfl := Option.some.inj h0
    refine retq rfl rfl
  · replace h0 := cF h0 q3
    refine AC.skip ?_
    change AC _ _ _ _
    refine AC.seq ?_
    refine AC.seq ?_
    refine AC.region ?_
    refine AO.op rfl (AOp.move rfl rfl (ltb rfl) rfl ?_)
    refine AO.op rfl (AOp.lenDs (n := a0.length) (cells := (List.flatMap c0_TImpl_Geom a0)) rfl rfl (ltb rfl) rfl el26 (by decide) (lenN _ 7 c0_TImpl_Geom_len _) ?_)
    refine AO.op rfl (AOp.move rfl rfl (ltb rfl) rfl ?_)
    refine AO.nil ?_
    change AC _ _ _ _
    obtain ⟨o4, l5, h0⟩ := bind_elim h0
    refine AC.joinE (V := Unit) [] [] 0 (fun g6 => []) (fun g6 => []) (fun g6 => p_gGood_k1 g6 = some r0) rfl ?_ ?_
    · refine AC.block ?_
      refine AC.loopP (V := Int) (p_gGood_l2 a0 F) o4 [8, 9] [10] 0 (fun g7 => [(10, .d (di .i64 g7))]) (fun g7 => []) F (0 : Int) l5 rfl rfl (LeL.refl _) rfl rfl ?_
      intro n9 g7 h1
      unfold p_gGood_l2 at h1
      refine AC.seq ?_
      refine AC.region ?_
      refine AO.op rfl (AOp.ilss rfl rfl (ltb rfl) rfl rfl ?_)
      refine AO.nil ?_
      change AC _ _ _ _
      refine AC.seq ?_
      refine AC.cond rfl (fun q10 => ?_) (fun q10 => ?_)
      · replace h1 := cT h1 q10
        refine AC.skip ?_
        change AC _ _ _ _
        refine AC.seq ?_
        refine AC.block ?_
        refine AC.seq ?_
        refine AC.region ?_
        obtain ⟨x11, q12, h1⟩ := idx_elim h1
        refine AO.op rfl (AOp.indexDs (cells := (List.flatMap c0_TImpl_Geom a0)) rfl rfl (ltb rfl) rfl rfl el26 (by decide) q12.1 (ltN 7 c0_TImpl_Geom_len (by decide) q12.2) ?_)
        refine AO.op rfl (AOp.loadEpN rfl rfl (ltb rfl) rfl agg28 size28 (leN 7 c0_TImpl_Geom_len q12.2) ((atN 7 c0_TImpl_Geom_len q12.2).trans (c0_TImpl_Geom_eq x11)) ?_)
        refine AO.op rfl (AOp.alloc rfl rfl (ltb rfl) zero28 rfl ?_)
        refine AO.op rfl (AOp.store rfl rfl rfl rfl size28 rfl rfl rfl (leb rfl) ?_)
        refine AO.nil ?_
        change AC _ _ _ _
        refine AC.seq ?_
        refine AC.region ?_
        refine AO.op rfl (AOp.loadN rfl rfl (ltb rfl) rfl agg28 size28 rfl (leb rfl) rfl ?_)
        obtain ⟨y13, q14, h1⟩ := bind_elim h1
        refine AO.op rfl (AOp.callD rfl rfl (ltb rfl) rfl rfl (w_Good F x11 y13 q14) ?_)
        rintro _ rfl
        refine AO.op rfl (AOp.bnot rfl rfl (ltb rfl) rfl ?_)
        refine AO.nil ?_
        change AC _ _ _ _
        refine AC.cond rfl (fun q15 => ?_) (fun q15 => ?_)
        · replace h1 := cT h1 q15
          refine AC.seq ?_
          refine AC.region ?_
          refine AO.op rfl (AOp.assign rfl rfl (ltb rfl) rfl ?_)
          refine AO.nil ?_
          change AC _ _ _ _
          refine AC.ret ?_
          change RetQ _ _ _ .ret _
          obtain rfl := Option.some.inj h1
          replace h0 := aftR h0
          obtain rfl := Option.some.inj h0
          refine retq rfl rfl
        · replace h1 := cF h1 q15
          refine AC.skip ?_
          change AC _ _ _ _
          refine AC.region ?_
          obtain ⟨q16, h1⟩ := need_elim h1
          refine AO.op rfl (AOp.iadd rfl rfl (ltb rfl) rfl rfl rfl q16.1 q16.2 ?_)
          refine AO.op rfl (AOp.move rfl rfl (ltb rfl) rfl ?_)
          refine AO.nil ?_
          exact ⟨(g7 + (1 : Int)), _, rfl, (LeL.refl _), rfl, rfl, h1⟩
      · replace h1 := cF h1 q10
        refine AC.exit ?_
        obtain rfl := Option.some.inj h1
        exact ⟨(), _, rfl, (LeL.refl _), rfl, rfl, aftL h0⟩
    · intro g6 h0
      unfold p_gGood_k1 at h0
      change AC _ _ _ _
      refine AC.seq ?_
      refine AC.region ?_
      refine AO.op rfl (AOp.assign rfl rfl (ltb rfl) rfl ?_)
      refine AO.nil ?_
      change AC _ _ _ _
      refine AC.ret ?_
      change RetQ _ _ _ .ret _
      obtain rfl := Option.some.inj h0
      refine retq rfl rfl

set_option maxRecDepth 100000 in
set_option maxHeartbeats 1000000 in
/-- pub-orthodrome/laws.fRowss -/
theorem w_fRowss (F : Nat) (a0 : (List Nat)) (a1 : (List (List Int))) (a2 : Int) (r0 : (TImpl_Geom × Bool)) (h0 : p_fRowss F a0 a1 a2 = some r0) : FnD Try.prog 7 [eS0 a0, eS1 a1, di .i64 a2] (fun r => r = .tu [e_TImpl_Geom r0.1, dbool r0.2]) := by
  refine FnD.of (by kernel_rfl) Try.func7 rfl Try.ntmps7 rfl (leb rfl) fun W ok => ?_
  unfold p_fRowss at h0
  refine AC.seq ?_
  refine AC.region ?_
  refine AO.op rfl (AOp.alloc rfl rfl (ltb rfl) zero28 rfl ?_)
  refine AO.op rfl (AOp.assign rfl rfl (ltb rfl) rfl ?_)
  refine AO.nil ?_
  change AC _ _ _ _
  refine AC.seq ?_
  refine AC.seq ?_
  refine AC.region ?_
  refine AO.op rfl (AOp.move rfl rfl (ltb rfl) rfl ?_)
  obtain ⟨y1, q2, h0⟩ := bind_elim h0
  refine AO.op rfl (AOp.callD rfl rfl (ltb rfl) rfl rfl (w_fStride a2 y1 q2) ?_)
  rintro _ rfl
  refine AO.op rfl (AOp.bnot rfl rfl (ltb rfl) rfl ?_)
  refine AO.nil ?_
  change AC _ _ _ _
  refine AC.cond rfl (fun q3 => ?_) (fun q3 => ?_)
  · replace h0 := cT h0 q3
    refine AC.seq ?_
    refine AC.region ?_
    refine AO.op rfl (AOp.build rfl rfl (ltb rfl) zero28 rfl places28 rfl rfl ?_)
    refine AO.op rfl (AOp.store rfl rfl rfl rfl size28 rfl rfl rfl (leb rfl) ?_)
    refine AO.op rfl (AOp.assign rfl rfl (ltb rfl) rfl ?_)
    refine AO.nil ?_
    change AC _ _ _ _
    refine AC.subO 0 rfl (.cons (SVLe.refl _) (.cons (SVLe.refl _) (.cons (SVLe.refl _) (.cons (SVLe.nil 1) (.cons (SVLe.nil 1) (.cons (SVLe.nil 1) (.cons (SVLe.nil 7) .nil))))))) ?_
    refine AC.ret ?_
    change RetQ _ _ _ .ret _
    obtain rfl := Option.some.inj h0
    refine retq rfl rfl
  · replace h0 := cF h0 q3
    refine AC.skip ?_
    change AC _ _ _ _
    refine AC.seq ?_
    refine AC.region ?_
    refine AO.op rfl (AOp.move rfl rfl (ltb rfl) rfl ?_)
    obtain ⟨y4, q5, h0⟩ := bind_elim h0
    refine AO.op rfl (AOp.callD rfl rfl (ltb rfl) rfl rfl (w_fLayout a2 y4 q5) ?_)
    rintro _ rfl
    refine AO.op rfl (AOp.move rfl rfl (ltb rfl) rfl ?_)
    refine AO.op rfl (AOp.move rfl rfl (ltb rfl) rfl ?_)
    refine AO.op rfl (AOp.build rfl rfl (ltb rfl) zero28 rfl places28 rfl rfl ?_)
    refine AO.op rfl (AOp.alloc rfl rfl (ltb rfl) zero28 rfl ?_)
    refine AO.op rfl (AOp.store rfl rfl rfl rfl size28 rfl rfl rfl (leb rfl) ?_)
    refine AO.nil ?_
    change AC _ _ _ _
    refine AC.seq ?_
    refine AC.subO 1 rfl (.cons (SVLe.refl _) (.cons (SVLe.refl _) (.cons (SVLe.refl _) (.cons (SVLe.refl _) (.cons (SVLe.nil 1) (.cons (SVLe.refl _) (.cons (SVLe.nil 7) .nil))))))) ?_
    refine AC.draw 4 mixed (by kernel_rfl) ?_
    refine AD.op [8] rfl (by kernel_rfl) rfl rfl (fun _ _ h => AOp.loadN rfl rfl (ltb rfl) rfl agg28 size28 rfl (leb rfl) rfl h) ?_
    refine AD.op [8] rfl (by kernel_rfl) rfl rfl (fun _ _ h => AOp.loadN rfl rfl (ltb rfl) rfl agg28 size28 rfl (leb rfl) rfl h) ?_
    refine AD.op [19] rfl (by kernel_rfl) rfl rfl (fun _ _ h => AOp.buildSliceD rfl rfl (ltb rfl) el26 zero28 rfl (leb rfl) rfl rfl rfl rfl (AO.top (y := .d (eS3 [(TImpl_Geom.mk (6 : Int) y4 (0 : Int) a0 [] a1 [])])) (SVLe.of_eq (by simp only [eS3, List.flatMap_cons, List.flatMap_nil, c0_TImpl_Geom_eq, List.append_nil] <;> rfl)) h)) ?_
    obtain ⟨y6, q7, h0⟩ := bind_elim h0
    refine AD.op [20] rfl (by kernel_rfl) rfl rfl (fun _ _ h => AOp.callD rfl rfl (ltb rfl) rfl rfl (w_gGood F [(TImpl_Geom.mk (6 : Int) y4 (0 : Int) a0 [] a1 [])] y6 q7) (by rintro _ rfl; exact h)) ?_
    refine AD.done ?_
    refine AO.op rfl (AOp.store rfl rfl rfl rfl size28 rfl rfl rfl (leb rfl) ?_)
    refine AO.op rfl (AOp.assign rfl rfl (ltb rfl) rfl ?_)
    refine AO.nil ?_
    change AC _ _ _ _
    refine AC.ret ?_
    change RetQ _ _ _ .ret _
    obtain rfl := Option.some.inj h0
    refine retq rfl rfl

set_option maxRecDepth 100000 in
set_option maxHeartbeats 1000000 in
/-- pub-orthodrome/laws.gHollow -/
theorem w_gHollow (F : Nat) (a0 : TImpl_Geom) (r0 : Bool) (h0 : p_gHollow F a0 = some r0) : FnD Try.prog 8 [e_TImpl_Geom a0] (fun r => r = dbool r0) := by
  refine FnD.of (by kernel_rfl) Try.func8 rfl Try.ntmps8 rfl (leb rfl) fun W ok => ?_
  unfold p_gHollow at h0
  refine AC.seq ?_
  refine AC.region ?_
  refine AO.op rfl (AOp.box rfl rfl (ltb rfl) rfl rfl ?_)
  refine AO.op rfl (AOp.assign rfl rfl (ltb rfl) rfl ?_)
  refine AO.nil ?_
  change AC _ _ _ _
  refine AC.seq ?_
  refine AC.seq ?_
  refine AC.region ?_
  refine AO.op rfl (AOp.fieldAddr rfl rfl (ltb rfl) rfl fo28_5 ?_)
  refine AO.op rfl (AOp.load1 rfl rfl (ltb rfl) rfl agg23 rfl rfl ?_)
  refine AO.op rfl (AOp.lenDs (n := a0.Endss.length) (cells := (List.map keS1 a0.Endss)) rfl rfl (ltb rfl) rfl el23 (by decide) (len1 _ _) ?_)
  refine AO.op rfl (AOp.move rfl rfl (ltb rfl) rfl ?_)
  refine AO.nil ?_
  change AC _ _ _ _
  obtain ⟨o1, l2, h0⟩ := bind_elim h0
  refine AC.joinE (V := Unit) [] [] 1 (fun g3 => []) (fun g3 => [.fix 28 [.d (di .i64 a0.Kind), .d (di .i64 a0.Layout), .d (di .i64 a0.SRID), .d (eS0 a0.Flat), .d (eS2 a0.Ends), .d (eS1 a0.Endss), .d (eS3 a0.Kids)]]) (fun g3 => p_gHollow_k1 g3 = some r0) rfl ?_ ?_
  · refine AC.block ?_
    refine AC.loopP (V := Int) (p_gHollow_l2 a0) o1 [6, 7] [8] 1 (fun g4 => [(8, .d (di .i64 g4))]) (fun g4 => [.fix 28 [.d (di .i64 a0.Kind), .d (di .i64 a0.Layout), .d (di .i64 a0.SRID), .d (eS0 a0.Flat), .d (eS2 a0.Ends), .d (eS1 a0.Endss), .d (eS3 a0.Kids)]]) F (0 : Int) l2 rfl rfl (LeL.refl _) rfl rfl ?_
    intro n6 g4 h1
    unfold p_gHollow_l2 at h1
    refine AC.seq ?_
    refine AC.region ?_
    refine AO.op rfl (AOp.ilss rfl rfl (ltb rfl) rfl rfl ?_)
    refine AO.nil ?_
    change AC _ _ _ _
    refine AC.seq ?_
    refine AC.cond rfl (fun q7 => ?_) (fun q7 => ?_)
    · replace h1 := cT h1 q7
      refine AC.skip ?_
      change AC _ _ _ _
      refine AC.seq ?_
      refine AC.block ?_
      refine AC.seq ?_
      refine AC.region ?_
      obtain ⟨x8, q9, h1⟩ := idx_elim h1
      refine AO.op rfl (AOp.indexDs (cells := (List.map keS1 a0.Endss)) rfl rfl (ltb rfl) rfl rfl el23 (by decide) q9.1 (lt1 q9.2) ?_)
      refine AO.op rfl (AOp.loadEp rfl rfl (ltb rfl) rfl agg25 (at1 q9.2) ?_)
      refine AO.op rfl (AOp.assign rfl rfl (ltb rfl) rfl ?_)
      refine AO.nil ?_
      change AC _ _ _ _
      refine AC.seq ?_
      refine AC.region ?_
      refine AO.op rfl (AOp.move rfl rfl (ltb rfl) rfl ?_)
      refine AO.op rfl (AOp.lenDs (n := x8.length) (cells := (List.map keS2 x8)) rfl rfl (ltb rfl) rfl el25 (by decide) (len1 _ _) ?_)
      refine AO.op rfl (AOp.ieql rfl rfl (ltb rfl) rfl rfl ?_)
      refine AO.nil ?_
      change AC _ _ _ _
      refine AC.cond rfl (fun q10 => ?_) (fun q10 => ?_)
      · replace h1 := cT h1 q10
        refine AC.seq ?_
        refine AC.region ?_
        refine AO.op rfl (AOp.assign rfl rfl (ltb rfl) rfl ?_)
        refine AO.nil ?_
        change AC _ _ _ _
        refine AC.ret ?_
        change RetQ _ _ _ .ret _
        obtain rfl := Option.some.inj h1
        replace h0 := aftR h0
        obtain rfl := Option.some.inj h0
        refine retq rfl rfl
      · replace h1 := cF h1 q10
        refine AC.skip ?_
        change AC _ _ _ _
        refine AC.region ?_
        obtain ⟨q11, h1⟩ := need_elim h1
        refine AO.op rfl (AOp.iadd rfl rfl (ltb rfl) rfl rfl rfl q11.1 q11.2 ?_)
        refine AO.op rfl (AOp.move rfl rfl (ltb rfl) rfl ?_)
        refine AO.nil ?_
        exact ⟨(g4 + (1 : Int)), _, rfl, (LeL.refl _), rfl, rfl, h1⟩
    · replace h1 := cF h1 q7
      refine AC.exit ?_
      obtain rfl := Option.some.inj h1
      exact ⟨(), _, rfl, (LeL.refl _), rfl, rfl, aftL h0⟩
  · intro g3 h0
    unfold p_gHollow_k1 at h0
    change AC _ _ _ _
    refine AC.seq ?_
    refine AC.region ?_
    refine AO.op rfl (AOp.assign rfl rfl (ltb rfl) rfl ?_)
    refine AO.nil ?_
    change AC _ _ _ _
    refine AC.ret ?_
    change RetQ _ _ _ .ret _
    obtain rfl := Option.some.inj h0
    refine retq rfl rfl

set_option maxRecDepth 100000 in
set_option maxHeartbeats 1000000 in
/-- pub-orthodrome/impl.ReverseFlat3 -/
theorem w_ReverseFlat3 (F : Nat) (a0 : (List Nat)) (a1 : (List (List Int))) (a2 : Int) (r0 : ((List Nat) × Bool)) (h0 : p_ReverseFlat3 F a0 a1 a2 = some r0) : FnD Try.prog 9 [eS0 a0, eS1 a1, di .i64 a2] (fun r => r = .tu [eS0 r0.1, dbool r0.2]) := by
  refine FnD.wrap (g := 23) (m := 2) (fun vs w h => idle23 vs w h) (by kernel_rfl) Try.func9 rfl Try.ntmps9 rfl (leb rfl) fun W ok => ?_
  unfold p_ReverseFlat3 at h0
  refine AW.seq ?_
  refine AC.region ?_
  refine AO.op rfl (AOp.alloc rfl rfl (ltb rfl) zero22 rfl ?_)
  refine AO.op rfl (AOp.alloc rfl rfl (ltb rfl) zero4 rfl ?_)
  refine AO.nil ?_
  refine ⟨rfl, ?_⟩
  refine AW.defer (caps := [.tmp 6, .tmp 7]) rfl rfl rfl (ltb rfl) rfl rfl rfl rfl (by kernel_rfl) rfl fun df => ?_
  refine AC.seq ?_
  refine AC.region ?_
  refine AO.op rfl (AOp.move rfl rfl (ltb rfl) rfl ?_)
  refine AO.op rfl (AOp.inl [1, 2, 6, 7] (by kernel_rfl) Try.func24 rfl Try.ntmps24 rfl rfl (ltb rfl) rfl (leb rfl) rfl ?_)
  intro fr1
  refine AC.seq ?_
  refine AC.region ?_
  refine AO.op rfl (AOp.assign rfl rfl (ltb rfl) rfl ?_)
  refine AO.nil ?_
  change AC _ _ _ _
  refine AC.seq ?_
  refine AC.region ?_
  refine AO.op rfl (AOp.move rfl rfl (ltb rfl) rfl ?_)
  obtain ⟨q2, h0⟩ := need_elim h0
  refine AO.op rfl (AOp.appendNew (m := a0.length) (news := (List.map keS0 a0)) rfl rfl (ltb rfl) rfl rfl el22 info48 rfl (by decide) (len1 _ _) (one1 _ (fun _ => rfl) _) (small63 q2) (small q2 (by decide)) ?_)
  refine AO.op rfl (AOp.assign rfl rfl (ltb rfl) rfl ?_)
  refine AO.nil ?_
  change AC _ _ _ _
  refine AC.ret ?_
  refine inlret rfl rfl rfl ?_
  change AO _ _ _ _ _
  refine AO.op rfl (AOp.assign rfl rfl (ltb rfl) rfl ?_)
  refine AO.nil ?_
  change AC _ _ _ _
  refine AC.seq ?_
  refine AC.region ?_
  refine AO.op rfl (AOp.move rfl rfl (ltb rfl) rfl ?_)
  refine AO.op rfl (AOp.move rfl rfl (ltb rfl) rfl ?_)
  refine AO.op rfl (AOp.move rfl rfl (ltb rfl) rfl ?_)
  refine AO.op rfl (AOp.inl [6, 7, 8] (by kernel_rfl) Try.func25 rfl Try.ntmps25 rfl rfl (ltb rfl) rfl (leb rfl) rfl ?_)
  intro fr3
  refine AC.region ?_
  refine AO.op rfl (AOp.move rfl rfl (ltb rfl) rfl ?_)
  refine AO.op rfl (AOp.move rfl rfl (ltb rfl) rfl ?_)
  refine AO.op rfl (AOp.move rfl rfl (ltb rfl) rfl ?_)
  refine AO.op rfl (AOp.inl [] (by kernel_rfl) Try.func41 rfl Try.ntmps41 rfl rfl (ltb rfl) rfl (leb rfl) rfl ?_)
  intro fr4
  refine AC.seq ?_
  refine AC.region ?_
  refine AO.op rfl (AOp.move rfl rfl (ltb rfl) rfl ?_)
  refine AO.op rfl (AOp.lenDs (n := a1.length) (cells := (List.map keS1 a1)) rfl rfl (ltb rfl) rfl el23 (by decide) (len1 _ _) ?_)
  refine AO.op rfl (AOp.move rfl rfl (ltb rfl) rfl ?_)
  refine AO.nil ?_
  change AC _ _ _ _
  obtain ⟨o5, l6, h0⟩ := bind_elim h0
  refine AC.joinE (V := (List Nat)) [] [] 6 (fun g7 => []) (fun g7 => [.fix 22 [.d (.v (.slice none 0 0))], .fix 4 [.d (dbool false)], .dead, .grow 48 1 (List.map keS0 g7), .frame fr3 [(6, .ptr 0 0), (7, .ptr 1 0), (8, .own 3)], .frame fr4 []]) (fun g7 => p_ReverseFlat3_k1 g7 = some r0) rfl ?_ ?_
  · refine AC.block ?_
    refine AC.loopP (V := (Int × Int × (List Nat))) (p_ReverseFlat3_l2 a1 a2 F) o5 [0, 3, 10, 11] [1, 12] 6 (fun g8 => [(1, .d (di .i64 g8.1)), (12, .d (di .i64 g8.2.1))]) (fun g8 => [.fix 22 [.d (.v (.slice none 0 0))], .fix 4 [.d (dbool false)], .dead, .grow 48 1 (List.map keS0 g8.2.2), .frame fr3 [(6, .ptr 0 0), (7, .ptr 1 0), (8, .own 3)], .frame fr4 []]) F ((0 : Int), (0 : Int), a0) l6 rfl rfl (LeL.refl _) rfl rfl ?_
    intro n10 g8 h1
    unfold p_ReverseFlat3_l2 at h1
    refine AC.seq ?_
    refine AC.region ?_
    refine AO.op rfl (AOp.ilss rfl rfl (ltb rfl) rfl rfl ?_)
    refine AO.nil ?_
    change AC _ _ _ _
    refine AC.seq ?_
    refine AC.cond rfl (fun q11 => ?_) (fun q11 => ?_)
    · replace h1 := cT h1 q11
      refine AC.skip ?_
      change AC _ _ _ _
      refine AC.seq ?_
      refine AC.block ?_
      refine AC.seq ?_
      refine AC.region ?_
      obtain ⟨x12, q13, h1⟩ := idx_elim h1
      refine AO.op rfl (AOp.indexDs (cells := (List.map keS1 a1)) rfl rfl (ltb rfl) rfl rfl el23 (by decide) q13.1 (lt1 q13.2) ?_)
      refine AO.op rfl (AOp.loadEp rfl rfl (ltb rfl) rfl agg25 (at1 q13.2) ?_)
      refine AO.op rfl (AOp.assign rfl rfl (ltb rfl) rfl ?_)
      refine AO.nil ?_
      change AC _ _ _ _
      refine AC.seq ?_
      refine AC.seq ?_
      refine AC.region ?_
      refine AO.op rfl (AOp.move rfl rfl (ltb rfl) rfl ?_)
      refine AO.op rfl (AOp.lenDs (n := x12.length) (cells := (List.map keS2 x12)) rfl rfl (ltb rfl) rfl el25 (by decide) (len1 _ _) ?_)
      refine AO.op rfl (AOp.ieql rfl rfl (ltb rfl) rfl rfl ?_)
      refine AO.nil ?_
      change AC _ _ _ _
      refine AC.cond rfl (fun q14 => ?_) (fun q14 => ?_)
      · replace h1 := cT h1 q14
        refine AC.exit ?_
        change AC _ _ _ _
        refine AC.region ?_
        obtain ⟨q15, h1⟩ := need_elim h1
        refine AO.op rfl (AOp.iadd rfl rfl (ltb rfl) rfl rfl rfl q15.1 q15.2 ?_)
        refine AO.op rfl (AOp.move rfl rfl (ltb rfl) rfl ?_)
        refine AO.nil ?_
        exact ⟨(g8.1, (g8.2.1 + (1 : Int)), g8.2.2), _, rfl, (LeL.refl _), rfl, rfl, h1⟩
      · replace h1 := cF h1 q14
        refine AC.skip ?_
        change AC _ _ _ _
        refine AC.seq ?_
        refine AC.region ?_
        refine AO.op rfl (AOp.move rfl rfl (ltb rfl) rfl ?_)
        refine AO.op rfl (AOp.move rfl rfl (ltb rfl) rfl ?_)
        refine AO.op rfl (AOp.move rfl rfl (ltb rfl) rfl ?_)
        refine AO.op rfl (AOp.move rfl rfl (ltb rfl) rfl ?_)
        refine AO.op rfl (AOp.inl [0, 3, 9, 10, 11, 12] (by kernel_rfl) Try.func54 rfl Try.ntmps54 rfl rfl (ltb rfl) rfl (leb rfl) rfl ?_)
        intro fr16
        refine AC.seq ?_
        refine AC.region ?_
        refine AO.op rfl (AOp.move rfl rfl (ltb rfl) rfl ?_)
        refine AO.op rfl (AOp.lenDs (n := x12.length) (cells := (List.map keS2 x12)) rfl rfl (ltb rfl) rfl el25 (by decide) (len1 _ _) ?_)
        refine AO.op rfl (AOp.move rfl rfl (ltb rfl) rfl ?_)
        refine AO.nil ?_
        change AC _ _ _ _
        obtain ⟨o17, l18, h1⟩ := bind_elim h1
        refine AC.joinE (V := (List Nat)) [] [] 7 (fun g19 => []) (fun g19 => [.fix 22 [.d (.v (.slice none 0 0))], .fix 4 [.d (dbool false)], .dead, .grow 48 1 (List.map keS0 g19), .frame fr3 [(6, .ptr 0 0), (7, .ptr 1 0), (8, .own 3)], .frame fr4 [], .frame fr16 [(0, .own 3), (3, .d (di .i64 a2)), (9, .d (eS2 x12)), (10, .d (eS1 a1)), (11, .d (di .i64 ((a1.length : Nat) : Int))), (12, .d (di .i64 g8.2.1))]]) (fun g19 => (p_ReverseFlat3_k3 g8 (iter (p_ReverseFlat3_l2 a1 a2 F) n10) x12) g19 = some o5) rfl ?_ ?_
        · refine AC.block ?_
          refine AC.loopP (V := (Int × Int × (List Nat))) (p_ReverseFlat3_l4 a2 F x12) o17 [0, 3, 10, 11] [1, 12] 7 (fun g24 => [(1, .d (di .i64 g24.1)), (12, .d (di .i64 g24.2.1))]) (fun g24 => [.fix 22 [.d (.v (.slice none 0 0))], .fix 4 [.d (dbool false)], .dead, .grow 48 1 (List.map keS0 g24.2.2), .frame fr3 [(6, .ptr 0 0), (7, .ptr 1 0), (8, .own 3)], .frame fr4 [], .frame fr16 [(0, .own 3), (3, .d (di .i64 a2)), (9, .d (eS2 x12)), (10, .d (eS1 a1)), (11, .d (di .i64 ((a1.length : Nat) : Int))), (12, .d (di .i64 g8.2.1))]]) F (g8.1, (0 : Int), g8.2.2) l18 rfl rfl (LeL.refl _) rfl rfl ?_
          intro n26 g24 h2
          unfold p_ReverseFlat3_l4 at h2
          refine AC.seq ?_
          refine AC.region ?_
          refine AO.op rfl (AOp.ilss rfl rfl (ltb rfl) rfl rfl ?_)
          refine AO.nil ?_
          change AC _ _ _ _
          refine AC.seq ?_
          refine AC.cond rfl (fun q27 => ?_) (fun q27 => ?_)
          · replace h2 := cT h2 q27
            refine AC.skip ?_
            change AC _ _ _ _
            refine AC.seq ?_
            refine AC.block ?_
            refine AC.seq ?_
            refine AC.region ?_
            obtain ⟨x28, q29, h2⟩ := idx_elim h2
            refine AO.op rfl (AOp.indexDs (cells := (List.map keS2 x12)) rfl rfl (ltb rfl) rfl rfl el25 (by decide) q29.1 (lt1 q29.2) ?_)
            refine AO.op rfl (AOp.loadEp rfl rfl (ltb rfl) rfl agg3 (at1 q29.2) ?_)
            refine AO.op rfl (AOp.assign rfl rfl (ltb rfl) rfl ?_)
            refine AO.nil ?_
            change AC _ _ _ _
            refine AC.seq ?_
            refine AC.region ?_
            refine AO.op rfl (AOp.move rfl rfl (ltb rfl) rfl ?_)
            refine AO.op rfl (AOp.move rfl rfl (ltb rfl) rfl ?_)
            refine AO.op rfl (AOp.move rfl rfl (ltb rfl) rfl ?_)
            refine AO.op rfl (AOp.move rfl rfl (ltb rfl) rfl ?_)
            refine AO.op rfl (AOp.inl [0, 3, 9, 10, 11, 12] (by kernel_rfl) Try.func62 rfl Try.ntmps62 rfl rfl (ltb rfl) rfl (leb rfl) rfl ?_)
            intro fr30
            refine AC.seq ?_
            refine AC.region ?_
            refine AO.op rfl (AOp.move rfl rfl (ltb rfl) rfl ?_)
            refine AO.op rfl (AOp.move rfl rfl (ltb rfl) rfl ?_)
            obtain ⟨q31, h2⟩ := need_elim h2
            refine AO.op rfl (AOp.iadd rfl rfl (ltb rfl) rfl rfl rfl q31.1 q31.2 ?_)
            refine AO.op rfl (AOp.move rfl rfl (ltb rfl) rfl ?_)
            refine AO.op rfl (AOp.assign rfl rfl (ltb rfl) rfl ?_)
            refine AO.op rfl (AOp.assign rfl rfl (ltb rfl) rfl ?_)
            refine AO.nil ?_
            change AC _ _ _ _
            obtain ⟨o32, l33, h2⟩ := bind_elim h2
            refine AC.joinE (V := (List Nat)) [] [] 8 (fun g34 => []) (fun g34 => [.fix 22 [.d (.v (.slice none 0 0))], .fix 4 [.d (dbool false)], .dead, .grow 48 1 (List.map keS0 g34), .frame fr3 [(6, .ptr 0 0), (7, .ptr 1 0), (8, .own 3)], .frame fr4 [], .frame fr16 [(0, .own 3), (3, .d (di .i64 a2)), (9, .d (eS2 x12)), (10, .d (eS1 a1)), (11, .d (di .i64 ((a1.length : Nat) : Int))), (12, .d (di .i64 g8.2.1))], .frame fr30 [(0, .own 3), (3, .d (di .i64 a2)), (9, .d (di .i64 x28)), (10, .d (eS2 x12)), (11, .d (di .i64 ((x12.length : Nat) : Int))), (12, .d (di .i64 g24.2.1))]]) (fun g34 => (p_ReverseFlat3_k5 g24 (iter (p_ReverseFlat3_l4 a2 F x12) n26) x28) g34 = some o17) rfl ?_ ?_
            · refine AC.block ?_
              refine AC.loopP (V := (Int × Int × (List Nat))) (p_ReverseFlat3_l6 a2 F) o32 [0, 3] [8, 9] 8 (fun g36 => [(8, .d (di .i64 g36.1)), (9, .d (di .i64 g36.2.1))]) (fun g36 => [.fix 22 [.d (.v (.slice none 0 0))], .fix 4 [.d (dbool false)], .dead, .grow 48 1 (List.map keS0 g36.2.2), .frame fr3 [(6, .ptr 0 0), (7, .ptr 1 0), (8, .own 3)], .frame fr4 [], .frame fr16 [(0, .own 3), (3, .d (di .i64 a2)), (9, .d (eS2 x12)), (10, .d (eS1 a1)), (11, .d (di .i64 ((a1.length : Nat) : Int))), (12, .d (di .i64 g8.2.1))], .frame fr30 [(0, .own 3), (3, .d (di .i64 a2)), (9, .d (di .i64 x28)), (10, .d (eS2 x12)), (11, .d (di .i64 ((x12.length : Nat) : Int))), (12, .d (di .i64 g24.2.1))]]) F ((g24.1 + a2), x28, g24.2.2) l33 rfl rfl (LeL.refl _) rfl rfl ?_
              intro n38 g36 h3
              unfold p_ReverseFlat3_l6 at h3
              refine AC.seq ?_
              refine AC.seq ?_
              refine AC.region ?_
              refine AO.op rfl (AOp.move rfl rfl (ltb rfl) rfl ?_)
              refine AO.op rfl (AOp.move rfl rfl (ltb rfl) rfl ?_)
              refine AO.op rfl (AOp.ileq rfl rfl (ltb rfl) rfl rfl ?_)
              refine AO.nil ?_
              change AC _ _ _ _
              refine AC.cond rfl (fun q39 => ?_) (fun q39 => ?_)
              · replace h3 := cT h3 q39
                refine AC.skip ?_
                change AC _ _ _ _
                refine AC.seq ?_
                refine AC.block ?_
                refine AC.seq ?_
                refine AC.region ?_
                refine AO.op rfl (AOp.move rfl rfl (ltb rfl) rfl ?_)
                refine AO.op rfl (AOp.move rfl rfl (ltb rfl) rfl ?_)
                refine AO.nil ?_
                change AC _ _ _ _
                obtain ⟨o40, l41, h3⟩ := bind_elim h3
                refine AC.joinE (V := (List Nat)) [0, 3, 8, 9] [] 8 (fun g42 => []) (fun g42 => [.fix 22 [.d (.v (.slice none 0 0))], .fix 4 [.d (dbool false)], .dead, .grow 48 1 (List.map keS0 g42), .frame fr3 [(6, .ptr 0 0), (7, .ptr 1 0), (8, .own 3)], .frame fr4 [], .frame fr16 [(0, .own 3), (3, .d (di .i64 a2)), (9, .d (eS2 x12)), (10, .d (eS1 a1)), (11, .d (di .i64 ((a1.length : Nat) : Int))), (12, .d (di .i64 g8.2.1))], .frame fr30 [(0, .own 3), (3, .d (di .i64 a2)), (9, .d (di .i64 x28)), (10, .d (eS2 x12)), (11, .d (di .i64 ((x12.length : Nat) : Int))), (12, .d (di .i64 g24.2.1))]]) (fun g42 => (p_ReverseFlat3_k7 a2 g36 (iter (p_ReverseFlat3_l6 a2 F) n38)) g42 = some o32) rfl ?_ ?_
                · refine AC.block ?_
                  refine AC.loopP (V := (Int × (List Nat))) (p_ReverseFlat3_l8 a2 g36) o40 [0, 3, 8, 9, 24] [25] 8 (fun g45 => [(25, .d (di .i64 g45.1))]) (fun g45 => [.fix 22 [.d (.v (.slice none 0 0))], .fix 4 [.d (dbool false)], .dead, .grow 48 1 (List.map keS0 g45.2), .frame fr3 [(6, .ptr 0 0), (7, .ptr 1 0), (8, .own 3)], .frame fr4 [], .frame fr16 [(0, .own 3), (3, .d (di .i64 a2)), (9, .d (eS2 x12)), (10, .d (eS1 a1)), (11, .d (di .i64 ((a1.length : Nat) : Int))), (12, .d (di .i64 g8.2.1))], .frame fr30 [(0, .own 3), (3, .d (di .i64 a2)), (9, .d (di .i64 x28)), (10, .d (eS2 x12)), (11, .d (di .i64 ((x12.length : Nat) : Int))), (12, .d (di .i64 g24.2.1))]]) F ((0 : Int), g36.2.2) l41 rfl rfl (LeL.refl _) rfl rfl ?_
                  intro n47 g45 h4
                  unfold p_ReverseFlat3_l8 at h4
                  refine AC.seq ?_
                  refine AC.region ?_
                  refine AO.op rfl (AOp.ilss rfl rfl (ltb rfl) rfl rfl ?_)
                  refine AO.nil ?_
                  change AC _ _ _ _
                  refine AC.seq ?_
                  refine AC.cond rfl (fun q48 => ?_) (fun q48 => ?_)
                  · replace h4 := cT h4 q48
                    refine AC.skip ?_
                    change AC _ _ _ _
                    refine AC.seq ?_
                    refine AC.block ?_
                    refine AC.seq ?_
                    refine AC.region ?_
                    refine AO.op rfl (AOp.move rfl rfl (ltb rfl) rfl ?_)
                    refine AO.op rfl (AOp.assign rfl rfl (ltb rfl) rfl ?_)
                    refine AO.nil ?_
                    change AC _ _ _ _
                    obtain ⟨q49, h4⟩ := need_elim h4
                    obtain ⟨q50, h4⟩ := need_elim h4
                    obtain ⟨q51, h4⟩ := need_elim h4
                    obtain ⟨q52, h4⟩ := need_elim h4
                    obtain ⟨q53, h4⟩ := need_elim h4
                    obtain ⟨q54, h4⟩ := need_elim h4
                    obtain ⟨q55, h4⟩ := need_elim h4
                    obtain ⟨x56, q57, h4⟩ := idx_elim h4
                    obtain ⟨q58, h4⟩ := need_elim h4
                    obtain ⟨q59, h4⟩ := need_elim h4
                    obtain ⟨q60, h4⟩ := need_elim h4
                    obtain ⟨x61, q62, h4⟩ := idx_elim h4
                    obtain ⟨q63, h4⟩ := need_elim h4
                    obtain ⟨q64, h4⟩ := need_elim h4
                    refine AC.drawS [0, 1, 2, 3, 4, 5, 6, 7, 8, 9, 10, 11, 12, 13, 14, 15, 16, 17, 18, 19, 20, 21, 22, 23, 24, 25, 26, 27, 28, 29] [29] [30, 31] (fun L => [.fix 22 [.d (.v (.slice none 0 0))], .fix 4 [.d (dbool false)], .dead, bif L 29 then .grow 48 1 (List.map keS0 (g45.2.set (((g36.1 - a2) + g45.1)).toNat x56)) else .grow 48 1 (List.map keS0 g45.2), .frame fr3 [(6, .ptr 0 0), (7, .ptr 1 0), (8, .own 3)], .frame fr4 [], .frame fr16 [(0, .own 3), (3, .d (di .i64 a2)), (9, .d (eS2 x12)), (10, .d (eS1 a1)), (11, .d (di .i64 ((a1.length : Nat) : Int))), (12, .d (di .i64 g8.2.1))], .frame fr30 [(0, .own 3), (3, .d (di .i64 a2)), (9, .d (di .i64 x28)), (10, .d (eS2 x12)), (11, .d (di .i64 ((x12.length : Nat) : Int))), (12, .d (di .i64 g24.2.1))]]) [(29, (fun _ => true))] mixed (by kernel_rfl) (fun L L' h => by simp only [h 29 (by decide)]) rfl ?_
                    refine AS.op [0] [] [29] [] rfl rfl rfl (by kernel_rfl) (by kernel_rfl) rfl rfl (fun _ _ _ h => AOp.move rfl rfl (ltb rfl) rfl h) (by kernel_rfl) ?_
                    refine AS.op [8] [] [29] [] rfl rfl rfl (by kernel_rfl) (by kernel_rfl) rfl rfl (fun _ _ _ h => AOp.move rfl rfl (ltb rfl) rfl h) (by kernel_rfl) ?_
                    refine AS.op [3] [] [29] [] rfl rfl rfl (by kernel_rfl) (by kernel_rfl) rfl rfl (fun _ _ _ h => AOp.move rfl rfl (ltb rfl) rfl h) (by kernel_rfl) ?_
                    refine AS.op [29, 30] [] [29] [] rfl rfl rfl (by kernel_rfl) (by kernel_rfl) rfl rfl (fun _ _ _ h => AOp.isub rfl rfl (ltb rfl) rfl rfl rfl q49.1 q49.2 h) (by kernel_rfl) ?_
                    refine AS.op [10] [] [29] [] rfl rfl rfl (by kernel_rfl) (by kernel_rfl) rfl rfl (fun _ _ _ h => AOp.move rfl rfl (ltb rfl) rfl h) (by kernel_rfl) ?_
                    refine AS.op [31, 32] [] [29] [] rfl rfl rfl (by kernel_rfl) (by kernel_rfl) rfl rfl (fun _ _ _ h => AOp.iadd rfl rfl (ltb rfl) rfl rfl rfl q50.1 q50.2 h) (by kernel_rfl) ?_
                    refine AS.op [0] [] [] [29] rfl rfl rfl (by kernel_rfl) (by kernel_rfl) rfl rfl (fun _ _ _ h => AOp.move rfl rfl (ltb rfl) rfl h) (by kernel_rfl) ?_
                    refine AS.op [9] [] [] [29] rfl rfl rfl (by kernel_rfl) (by kernel_rfl) rfl rfl (fun _ _ _ h => AOp.move rfl rfl (ltb rfl) rfl h) (by kernel_rfl) ?_
                    refine AS.op [3] [] [] [29] rfl rfl rfl (by kernel_rfl) (by kernel_rfl) rfl rfl (fun _ _ _ h => AOp.move rfl rfl (ltb rfl) rfl h) (by kernel_rfl) ?_
                    refine AS.op [35, 36] [] [] [29] rfl rfl rfl (by kernel_rfl) (by kernel_rfl) rfl rfl (fun _ _ _ h => AOp.isub rfl rfl (ltb rfl) rfl rfl rfl q51.1 q51.2 h) (by kernel_rfl) ?_
                    refine AS.op [10] [] [] [29] rfl rfl rfl (by kernel_rfl) (by kernel_rfl) rfl rfl (fun _ _ _ h => AOp.move rfl rfl (ltb rfl) rfl h) (by kernel_rfl) ?_
                    refine AS.op [37, 38] [] [] [29] rfl rfl rfl (by kernel_rfl) (by kernel_rfl) rfl rfl (fun _ _ _ h => AOp.iadd rfl rfl (ltb rfl) rfl rfl rfl q52.1 q52.2 h) (by kernel_rfl) ?_
                    refine AS.op [0] [] [29] [] rfl rfl rfl (by kernel_rfl) (by kernel_rfl) rfl rfl (fun _ _ _ h => AOp.move rfl rfl (ltb rfl) rfl h) (by kernel_rfl) ?_
                    refine AS.op [9] [] [29] [] rfl rfl rfl (by kernel_rfl) (by kernel_rfl) rfl rfl (fun _ _ _ h => AOp.move rfl rfl (ltb rfl) rfl h) (by kernel_rfl) ?_
                    refine AS.op [3] [] [29] [] rfl rfl rfl (by kernel_rfl) (by kernel_rfl) rfl rfl (fun _ _ _ h => AOp.move rfl rfl (ltb rfl) rfl h) (by kernel_rfl) ?_
                    refine AS.op [41, 42] [] [29] [] rfl rfl rfl (by kernel_rfl) (by kernel_rfl) rfl rfl (fun _ _ _ h => AOp.isub rfl rfl (ltb rfl) rfl rfl rfl q53.1 q53.2 h) (by kernel_rfl) ?_
                    refine AS.op [10] [] [29] [] rfl rfl rfl (by kernel_rfl) (by kernel_rfl) rfl rfl (fun _ _ _ h => AOp.move rfl rfl (ltb rfl) rfl h) (by kernel_rfl) ?_
                    refine AS.op [43, 44] [] [29] [] rfl rfl rfl (by kernel_rfl) (by kernel_rfl) rfl rfl (fun _ _ _ h => AOp.iadd rfl rfl (ltb rfl) rfl rfl rfl q54.1 q54.2 h) (by kernel_rfl) ?_
                    refine AS.op [40, 45] [] [29] [] rfl rfl rfl (by kernel_rfl) (by kernel_rfl) rfl rfl (fun _ _ _ h => AOp.indexOwn (cells := (List.map keS0 g45.2)) (n := g45.2.length) rfl rfl (ltb rfl) rfl rfl el22 rfl (by decide) (len1 _ _) q55.1 q55.2 h) (by kernel_rfl) ?_
                    refine AS.op [46] [] [29] [] rfl rfl rfl (by kernel_rfl) (by kernel_rfl) rfl rfl (fun _ _ _ h => AOp.loadO1 rfl rfl (ltb rfl) rfl agg48 rfl (at1 q57.2) h) (by kernel_rfl) ?_
                    refine AS.op [0] [] [29] [] rfl rfl rfl (by kernel_rfl) (by kernel_rfl) rfl rfl (fun _ _ _ h => AOp.move rfl rfl (ltb rfl) rfl h) (by kernel_rfl) ?_
                    refine AS.op [8] [] [29] [] rfl rfl rfl (by kernel_rfl) (by kernel_rfl) rfl rfl (fun _ _ _ h => AOp.move rfl rfl (ltb rfl) rfl h) (by kernel_rfl) ?_
                    refine AS.op [3] [] [29] [] rfl rfl rfl (by kernel_rfl) (by kernel_rfl) rfl rfl (fun _ _ _ h => AOp.move rfl rfl (ltb rfl) rfl h) (by kernel_rfl) ?_
                    refine AS.op [49, 50] [] [29] [] rfl rfl rfl (by kernel_rfl) (by kernel_rfl) rfl rfl (fun _ _ _ h => AOp.isub rfl rfl (ltb rfl) rfl rfl rfl q58.1 q58.2 h) (by kernel_rfl) ?_
                    refine AS.op [10] [] [29] [] rfl rfl rfl (by kernel_rfl) (by kernel_rfl) rfl rfl (fun _ _ _ h => AOp.move rfl rfl (ltb rfl) rfl h) (by kernel_rfl) ?_
                    refine AS.op [51, 52] [] [29] [] rfl rfl rfl (by kernel_rfl) (by kernel_rfl) rfl rfl (fun _ _ _ h => AOp.iadd rfl rfl (ltb rfl) rfl rfl rfl q59.1 q59.2 h) (by kernel_rfl) ?_
                    refine AS.op [48, 53] [] [29] [] rfl rfl rfl (by kernel_rfl) (by kernel_rfl) rfl rfl (fun _ _ _ h => AOp.indexOwn (cells := (List.map keS0 g45.2)) (n := g45.2.length) rfl rfl (ltb rfl) rfl rfl el22 rfl (by decide) (len1 _ _) q60.1 q60.2 h) (by kernel_rfl) ?_
                    refine AS.op [54] [] [29] [] rfl rfl rfl (by kernel_rfl) (by kernel_rfl) rfl rfl (fun _ _ _ h => AOp.loadO1 rfl rfl (ltb rfl) rfl agg48 rfl (at1 q62.2) h) (by kernel_rfl) ?_
                    refine AS.op [28, 33] [] [29] [] rfl rfl rfl (by kernel_rfl) (by kernel_rfl) rfl rfl (fun _ _ _ h => AOp.indexOwn (cells := (List.map keS0 g45.2)) (n := g45.2.length) rfl rfl (ltb rfl) rfl rfl el22 rfl (by decide) (len1 _ _) q63.1 q63.2 h) (by kernel_rfl) ?_
                    refine AS.mid0 [47, 56] [] [29] [] rfl rfl rfl rfl (by kernel_rfl) (by kernel_rfl) rfl rfl (fun _ _ _ h => AOp.storeOL (f := keS0) (l := g45.2) (i := (((g36.1 - a2) + g45.1)).toNat) (v := x56) rfl rfl rfl rfl size48 rfl rfl rfl q64 (AO.dropT h)) (by kernel_rfl) rfl ?_
                    refine AS.done ?_
                    refine AO.objs (obs' := [.fix 22 [.d (.v (.slice none 0 0))], .fix 4 [.d (dbool false)], .dead, .grow 48 1 (List.map keS0 (g45.2.set (((g36.1 - a2) + g45.1)).toNat x56)), .frame fr3 [(6, .ptr 0 0), (7, .ptr 1 0), (8, .own 3)], .frame fr4 [], .frame fr16 [(0, .own 3), (3, .d (di .i64 a2)), (9, .d (eS2 x12)), (10, .d (eS1 a1)), (11, .d (di .i64 ((a1.length : Nat) : Int))), (12, .d (di .i64 g8.2.1))], .frame fr30 [(0, .own 3), (3, .d (di .i64 a2)), (9, .d (di .i64 x28)), (10, .d (eS2 x12)), (11, .d (di .i64 ((x12.length : Nat) : Int))), (12, .d (di .i64 g24.2.1))]]) rfl ?_
                    obtain ⟨q65, h4⟩ := need_elim h4
                    refine AO.op rfl (AOp.indexOwn (cells := (List.map keS0 (g45.2.set (((g36.1 - a2) + g45.1)).toNat x56))) (n := (g45.2.set (((g36.1 - a2) + g45.1)).toNat x56).length) rfl rfl (ltb rfl) rfl rfl el22 rfl (by decide) (len1 _ _) q65.1 q65.2 ?_)
                    obtain ⟨q66, h4⟩ := need_elim h4
                    refine AO.op rfl (AOp.storeOL (f := keS0) (l := (g45.2.set (((g36.1 - a2) + g45.1)).toNat x56)) (i := (((g36.2.1 - a2) + g45.1)).toNat) (v := x61) rfl rfl rfl rfl size48 rfl rfl rfl q66 ?_)
                    refine AO.nil ?_
                    change AC _ _ _ _
                    refine AC.region ?_
                    obtain ⟨q67, h4⟩ := need_elim h4
                    refine AO.op rfl (AOp.iadd rfl rfl (ltb rfl) rfl rfl rfl q67.1 q67.2 ?_)
                    refine AO.op rfl (AOp.move rfl rfl (ltb rfl) rfl ?_)
                    refine AO.nil ?_
                    exact ⟨((g45.1 + (1 : Int)), ((g45.2.set (((g36.1 - a2) + g45.1)).toNat x56).set (((g36.2.1 - a2) + g45.1)).toNat x61)), _, rfl, (LeL.refl _), rfl, rfl, h4⟩
                  · replace h4 := cF h4 q48
                    refine AC.exit ?_
                    obtain rfl := Option.some.inj h4
                    exact ⟨g45.2, _, rfl, (LeL.refl _), rfl, rfl, aftL h3⟩
                · intro g42 h3
                  unfold p_ReverseFlat3_k7 at h3
                  change AC _ _ _ _
                  refine AC.region ?_
                  refine AO.op rfl (AOp.move rfl rfl (ltb rfl) rfl ?_)
                  refine AO.op rfl (AOp.move rfl rfl (ltb rfl) rfl ?_)
                  obtain ⟨q43, h3⟩ := need_elim h3
                  refine AO.op rfl (AOp.iadd rfl rfl (ltb rfl) rfl rfl rfl q43.1 q43.2 ?_)
                  refine AO.op rfl (AOp.move rfl rfl (ltb rfl) rfl ?_)
                  refine AO.op rfl (AOp.move rfl rfl (ltb rfl) rfl ?_)
                  obtain ⟨q44, h3⟩ := need_elim h3
                  refine AO.op rfl (AOp.isub rfl rfl (ltb rfl) rfl rfl rfl q44.1 q44.2 ?_)
                  refine AO.op rfl (AOp.assign rfl rfl (ltb rfl) rfl ?_)
                  refine AO.op rfl (AOp.assign rfl rfl (ltb rfl) rfl ?_)
                  refine AO.nil ?_
                  exact ⟨((g36.1 + a2), (g36.2.1 - a2), g42), _, rfl, (LeL.refl _), rfl, rfl, h3⟩
              · replace h3 := cF h3 q39
                refine AC.exit ?_
                obtain rfl := Option.some.inj h3
                exact ⟨g36.2.2, _, rfl, (LeL.refl _), rfl, rfl, aftL h2⟩
            · intro g34 h2
              unfold p_ReverseFlat3_k5 at h2
              refine inlend rfl rfl rfl ?_
              change AO _ _ _ _ _
              refine AO.nil ?_
              change AC _ _ _ _
              refine AC.region ?_
              refine AO.op rfl (AOp.move rfl rfl (ltb rfl) rfl ?_)
              refine AO.op rfl (AOp.assign rfl rfl (ltb rfl) rfl ?_)
              refine AO.nil ?_
              change AC _ _ _ _
              refine AC.region ?_
              obtain ⟨q35, h2⟩ := need_elim h2
              refine AO.op rfl (AOp.iadd rfl rfl (ltb rfl) rfl rfl rfl q35.1 q35.2 ?_)
              refine AO.op rfl (AOp.move rfl rfl (ltb rfl) rfl ?_)
              refine AO.nil ?_
              exact ⟨(x28, (g24.2.1 + (1 : Int)), g34), _, rfl, (LeL.refl _), rfl, rfl, h2⟩
          · replace h2 := cF h2 q27
            refine AC.exit ?_
            obtain rfl := Option.some.inj h2
            exact ⟨g24.2.2, _, rfl, (LeL.refl _), rfl, rfl, aftL h1⟩
        · intro g19 h1
          unfold p_ReverseFlat3_k3 at h1
          refine inlend rfl rfl rfl ?_
          change AO _ _ _ _ _
          refine AO.nil ?_
          change AC _ _ _ _
          refine AC.region ?_
          refine AO.op rfl (AOp.move rfl rfl (ltb rfl) rfl ?_)
          refine AO.op rfl (AOp.move rfl rfl (ltb rfl) rfl ?_)
          refine AO.op rfl (AOp.lenDs (n := x12.length) (cells := (List.map keS2 x12)) rfl rfl (ltb rfl) rfl el25 (by decide) (len1 _ _) ?_)
          obtain ⟨q20, h1⟩ := need_elim h1
          refine AO.op rfl (AOp.isub rfl rfl (ltb rfl) rfl rfl rfl q20.1 q20.2 ?_)
          obtain ⟨x21, q22, h1⟩ := idx_elim h1
          refine AO.op rfl (AOp.indexDs (cells := (List.map keS2 x12)) rfl rfl (ltb rfl) rfl rfl el25 (by decide) q22.1 (lt1 q22.2) ?_)
          refine AO.op rfl (AOp.loadEp rfl rfl (ltb rfl) rfl agg3 (at1 q22.2) ?_)
          refine AO.op rfl (AOp.assign rfl rfl (ltb rfl) rfl ?_)
          refine AO.nil ?_
          change AC _ _ _ _
          refine AC.region ?_
          obtain ⟨q23, h1⟩ := need_elim h1
          refine AO.op rfl (AOp.iadd rfl rfl (ltb rfl) rfl rfl rfl q23.1 q23.2 ?_)
          refine AO.op rfl (AOp.move rfl rfl (ltb rfl) rfl ?_)
          refine AO.nil ?_
          exact ⟨(x21, (g8.2.1 + (1 : Int)), g19), _, rfl, (LeL.refl _), rfl, rfl, h1⟩
    · replace h1 := cF h1 q11
      refine AC.exit ?_
      obtain rfl := Option.some.inj h1
      exact ⟨g8.2.2, _, rfl, (LeL.refl _), rfl, rfl, aftL h0⟩
  · intro g7 h0
    unfold p_ReverseFlat3_k1 at h0
    refine inlend rfl rfl rfl ?_
    change AO _ _ _ _ _
    refine AO.nil ?_
    refine inlend rfl rfl rfl ?_
    change AO _ _ _ _ _
    refine AO.nil ?_
    change AC _ _ _ _
    refine AC.seq ?_
    refine AC.region ?_
    refine AO.op rfl (AOp.move rfl rfl (ltb rfl) rfl ?_)
    refine AO.op rfl (AOp.storeOwn rfl rfl rfl rfl rfl rfl size22 rfl rfl (leb rfl) ?_)
    refine AO.op rfl (AOp.store rfl rfl rfl rfl size4 rfl rfl rfl (leb rfl) ?_)
    refine AO.nil ?_
    change AC _ _ _ _
    refine AC.ret ?_
    change RetQ _ _ _ .ret _
    obtain rfl := Option.some.inj h0
    refine retq rfl rfl

set_option maxRecDepth 100000 in
set_option maxHeartbeats 1000000 in
/-- pub-orthodrome/spec.Backward -/
theorem w_Backward (F : Nat) (a0 : TImpl_Geom) (r0 : TImpl_Geom) (h0 : p_Backward F a0 = some r0) : FnD Try.prog 11 [e_TImpl_Geom a0] (fun r => r = e_TImpl_Geom r0) := by
  refine FnD.of (by kernel_rfl) Try.func11 rfl Try.ntmps11 rfl (leb rfl) fun W ok => ?_
  unfold p_Backward at h0
  refine AC.seq ?_
  refine AC.region ?_
  refine AO.op rfl (AOp.box rfl rfl (ltb rfl) rfl rfl ?_)
  refine AO.op rfl (AOp.alloc rfl rfl (ltb rfl) zero28 rfl ?_)
  refine AO.nil ?_
  change AC _ _ _ _
  refine AC.seq ?_
  refine AC.region ?_
  refine AO.op rfl (AOp.fieldAddr rfl rfl (ltb rfl) rfl fo28_0 ?_)
  refine AO.op rfl (AOp.load1 rfl rfl (ltb rfl) rfl agg3 rfl rfl ?_)
  refine AO.op rfl (AOp.fieldAddr rfl rfl (ltb rfl) rfl fo28_1 ?_)
  refine AO.op rfl (AOp.load1 rfl rfl (ltb rfl) rfl agg3 rfl rfl ?_)
  refine AO.op rfl (AOp.fieldAddr rfl rfl (ltb rfl) rfl fo28_2 ?_)
  refine AO.op rfl (AOp.load1 rfl rfl (ltb rfl) rfl agg3 rfl rfl ?_)
  refine AO.op rfl (AOp.fieldAddr rfl rfl (ltb rfl) rfl fo28_4 ?_)
  refine AO.op rfl (AOp.load1 rfl rfl (ltb rfl) rfl agg25 rfl rfl ?_)
  refine AO.op rfl (AOp.fieldAddr rfl rfl (ltb rfl) rfl fo28_5 ?_)
  refine AO.op rfl (AOp.load1 rfl rfl (ltb rfl) rfl agg23 rfl rfl ?_)
  refine AO.op rfl (AOp.build rfl rfl (ltb rfl) zero28 rfl places28 rfl rfl ?_)
  refine AO.op rfl (AOp.alloc rfl rfl (ltb rfl) zero28 rfl ?_)
  refine AO.op rfl (AOp.store rfl rfl rfl rfl size28 rfl rfl rfl (leb rfl) ?_)
  refine AO.nil ?_
  change AC _ _ _ _
  refine AC.seq ?_
  refine AC.region ?_
  refine AO.op rfl (AOp.buildOwn rfl rfl (ltb rfl) el25 zero3 rfl (leb rfl) rfl rfl rfl rfl ?_)
  refine AO.op rfl (AOp.fieldAddr rfl rfl (ltb rfl) rfl fo28_4 ?_)
  refine AO.op rfl (AOp.load1 rfl rfl (ltb rfl) rfl agg25 rfl rfl ?_)
  obtain ⟨q1, h0⟩ := need_elim h0
  refine AO.op rfl (AOp.appendOwn' (n := 0) (m := a0.Ends.length) (news := (List.map keS2 a0.Ends)) rfl rfl (ltb rfl) rfl rfl el25 info3 rfl (by decide) rfl rfl (len1 _ _) (one1 _ (fun _ => rfl) _) q1 (by decide) rfl rfl rfl ?_)
  refine AO.op rfl (AOp.assign rfl rfl (ltb rfl) rfl ?_)
  refine AO.nil ?_
  change AC _ _ _ _
  refine AC.seq ?_
  refine AC.seq ?_
  refine AC.region ?_
  refine AO.op rfl (AOp.fieldAddr rfl rfl (ltb rfl) rfl fo28_5 ?_)
  refine AO.op rfl (AOp.load1 rfl rfl (ltb rfl) rfl agg23 rfl rfl ?_)
  refine AO.op rfl (AOp.lenDs (n := a0.Endss.length) (cells := (List.map keS1 a0.Endss)) rfl rfl (ltb rfl) rfl el23 (by decide) (len1 _ _) ?_)
  refine AO.op rfl (AOp.move rfl rfl (ltb rfl) rfl ?_)
  refine AO.nil ?_
  change AC _ _ _ _
  obtain ⟨o2, l3, h0⟩ := bind_elim h0
  refine AC.joinE (V := (List Int)) [1, 2, 3] [4] 4 (fun g4 => [(4, .own 3)]) (fun g4 => [.fix 28 [.d (di .i64 a0.Kind), .d (di .i64 a0.Layout), .d (di .i64 a0.SRID), .d (eS0 a0.Flat), .d (eS2 a0.Ends), .d (eS1 a0.Endss), .d (eS3 a0.Kids)], .fix 28 [.d (di .i64 (0 : Int)), .d (di .i64 (0 : Int)), .d (di .i64 (0 : Int)), .d (.v (.slice none 0 0)), .d (.v (.slice none 0 0)), .d (.v (.slice none 0 0)), .d (.v (.slice none 0 0))], .fix 28 [.d (di .i64 a0.Kind), .d (di .i64 a0.Layout), .d (di .i64 a0.SRID), .d (.v (.slice none 0 0)), .d (eS2 a0.Ends), .d (eS1 a0.Endss), .d (.v (.slice none 0 0))], .grow 3 1 (List.map keS2 g4)]) (fun g4 => (p_Backward_k1 a0 F) g4 = some r0) rfl ?_ ?_
  · refine AC.block ?_
    refine AC.loopP (V := (Int × (List Int))) (p_Backward_l7 a0) o2 [1, 2, 3, 28, 29] [4, 30] 4 (fun g33 => [(4, .own 3), (30, .d (di .i64 g33.1))]) (fun g33 => [.fix 28 [.d (di .i64 a0.Kind), .d (di .i64 a0.Layout), .d (di .i64 a0.SRID), .d (eS0 a0.Flat), .d (eS2 a0.Ends), .d (eS1 a0.Endss), .d (eS3 a0.Kids)], .fix 28 [.d (di .i64 (0 : Int)), .d (di .i64 (0 : Int)), .d (di .i64 (0 : Int)), .d (.v (.slice none 0 0)), .d (.v (.slice none 0 0)), .d (.v (.slice none 0 0)), .d (.v (.slice none 0 0))], .fix 28 [.d (di .i64 a0.Kind), .d (di .i64 a0.Layout), .d (di .i64 a0.SRID), .d (.v (.slice none 0 0)), .d (eS2 a0.Ends), .d (eS1 a0.Endss), .d (.v (.slice none 0 0))], .grow 3 1 (List.map keS2 g33.2)]) F ((0 : Int), a0.Ends) l3 rfl rfl (LeL.refl _) rfl rfl ?_
    intro n35 g33 h1
    unfold p_Backward_l7 at h1
    refine AC.seq ?_
    refine AC.region ?_
    refine AO.op rfl (AOp.ilss rfl rfl (ltb rfl) rfl rfl ?_)
    refine AO.nil ?_
    change AC _ _ _ _
    refine AC.seq ?_
    refine AC.cond rfl (fun q36 => ?_) (fun q36 => ?_)
    · replace h1 := cT h1 q36
      refine AC.skip ?_
      change AC _ _ _ _
      refine AC.seq ?_
      refine AC.block ?_
      refine AC.seq ?_
      refine AC.region ?_
      obtain ⟨x37, q38, h1⟩ := idx_elim h1
      refine AO.op rfl (AOp.indexDs (cells := (List.map keS1 a0.Endss)) rfl rfl (ltb rfl) rfl rfl el23 (by decide) q38.1 (lt1 q38.2) ?_)
      refine AO.op rfl (AOp.loadEp rfl rfl (ltb rfl) rfl agg25 (at1 q38.2) ?_)
      refine AO.op rfl (AOp.assign rfl rfl (ltb rfl) rfl ?_)
      refine AO.nil ?_
      change AC _ _ _ _
      refine AC.region ?_
      refine AO.op rfl (AOp.move rfl rfl (ltb rfl) rfl ?_)
      refine AO.op rfl (AOp.move rfl rfl (ltb rfl) rfl ?_)
      obtain ⟨q39, h1⟩ := need_elim h1
      refine AO.op rfl (AOp.appendOwn' (n := g33.2.length) (m := x37.length) (news := (List.map keS2 x37)) rfl rfl (ltb rfl) rfl rfl el25 info3 rfl (by decide) rfl (len1 _ _) (len1 _ _) (one1 _ (fun _ => rfl) _) q39 (by decide) rfl rfl (cat1 _ _ _) ?_)
      refine AO.op rfl (AOp.assign rfl rfl (ltb rfl) rfl ?_)
      refine AO.nil ?_
      change AC _ _ _ _
      refine AC.region ?_
      obtain ⟨q40, h1⟩ := need_elim h1
      refine AO.op rfl (AOp.iadd rfl rfl (ltb rfl) rfl rfl rfl q40.1 q40.2 ?_)
      refine AO.op rfl (AOp.move rfl rfl (ltb rfl) rfl ?_)
      refine AO.nil ?_
      exact ⟨((g33.1 + (1 : Int)), (g33.2 ++ x37)), _, rfl, (LeL.refl _), rfl, rfl, h1⟩
    · replace h1 := cF h1 q36
      refine AC.exit ?_
      obtain rfl := Option.some.inj h1
      exact ⟨g33.2, _, rfl, (LeL.refl _), rfl, rfl, aftL h0⟩
  · intro g4 h0
    unfold p_Backward_k1 at h0
    change AC _ _ _ _
    refine AC.freezeG 3 rfl rfl rfl ?_
    refine AC.joinP (V := (List Int)) [1, 2, 3] [4] 4 (fun g5 => [(4, .d (eS2 g5))]) (fun g5 => [.fix 28 [.d (di .i64 a0.Kind), .d (di .i64 a0.Layout), .d (di .i64 a0.SRID), .d (eS0 a0.Flat), .d (eS2 a0.Ends), .d (eS1 a0.Endss), .d (eS3 a0.Kids)], .fix 28 [.d (di .i64 (0 : Int)), .d (di .i64 (0 : Int)), .d (di .i64 (0 : Int)), .d (.v (.slice none 0 0)), .d (.v (.slice none 0 0)), .d (.v (.slice none 0 0)), .d (.v (.slice none 0 0))], .fix 28 [.d (di .i64 a0.Kind), .d (di .i64 a0.Layout), .d (di .i64 a0.SRID), .d (.v (.slice none 0 0)), .d (eS2 a0.Ends), .d (eS1 a0.Endss), .d (.v (.slice none 0 0))], .dead]) (fun g5 => (p_Backward_k2 a0 F) g5 = some r0) rfl ?_ ?_
    · refine AC.seq ?_
      refine AC.region ?_
      refine AO.op rfl (AOp.fieldAddr rfl rfl (ltb rfl) rfl fo28_0 ?_)
      refine AO.op rfl (AOp.load1 rfl rfl (ltb rfl) rfl agg3 rfl rfl ?_)
      refine AO.op rfl (AOp.ieql rfl rfl (ltb rfl) rfl rfl ?_)
      refine AO.op rfl (AOp.move rfl rfl (ltb rfl) rfl ?_)
      refine AO.dec (decide (a0.Kind = (1 : Int))) (fun q30 => ?_) (fun q30 => ?_)
      · replace h0 := cT h0 q30
        refine AO.guardN rfl rfl rfl (ltb rfl) rfl q30 ?_
        refine AO.guardN rfl rfl rfl (ltb rfl) rfl q30 ?_
        refine AO.guardN rfl rfl rfl (ltb rfl) rfl q30 ?_
        refine AO.op rfl (AOp.pick rfl rfl (ltb rfl) rfl q30 rfl ?_)
        refine AO.op rfl (AOp.move rfl rfl (ltb rfl) rfl ?_)
        refine AO.guardN rfl rfl rfl (ltb rfl) rfl rfl ?_
        refine AO.guardN rfl rfl rfl (ltb rfl) rfl rfl ?_
        refine AO.guardN rfl rfl rfl (ltb rfl) rfl rfl ?_
        refine AO.op rfl (AOp.pick rfl rfl (ltb rfl) rfl rfl rfl ?_)
        refine AO.nil ?_
        change AC _ _ _ _
        refine AC.condT rfl rfl ?_
        refine AC.region ?_
        refine AO.op rfl (AOp.fieldAddr rfl rfl (ltb rfl) rfl fo28_3 ?_)
        refine AO.op rfl (AOp.load1 rfl rfl (ltb rfl) rfl agg22 rfl rfl ?_)
        refine AO.op rfl (AOp.lenDs (n := a0.Flat.length) (cells := (List.map keS0 a0.Flat)) rfl rfl (ltb rfl) rfl el22 (by decide) (len1 _ _) ?_)
        refine AO.op rfl (AOp.buildSliceD rfl rfl (ltb rfl) el25 zero3 rfl (leb rfl) rfl rfl rfl rfl ?_)
        refine AO.op rfl (AOp.assign rfl rfl (ltb rfl) rfl ?_)
        refine AO.nil ?_
        exact ⟨[((a0.Flat.length : Nat) : Int)], _, rfl, (LeL.refl _), rfl, rfl, h0⟩
      · replace h0 := cF h0 q30
        refine AO.guardY rfl rfl rfl q30 (AOp.fieldAddr rfl rfl (ltb rfl) rfl fo28_0 ?_)
        refine AO.guardY rfl rfl rfl q30 (AOp.load1 rfl rfl (ltb rfl) rfl agg3 rfl rfl ?_)
        refine AO.guardY rfl rfl rfl q30 (AOp.ieql rfl rfl (ltb rfl) rfl rfl ?_)
        refine AO.op rfl (AOp.pickN rfl rfl (ltb rfl) rfl q30 rfl ?_)
        refine AO.op rfl (AOp.move rfl rfl (ltb rfl) rfl ?_)
        refine AO.dec (decide (a0.Kind = (2 : Int))) (fun q31 => ?_) (fun q31 => ?_)
        · replace h0 := cT h0 q31
          refine AO.guardN rfl rfl rfl (ltb rfl) rfl q31 ?_
          refine AO.guardN rfl rfl rfl (ltb rfl) rfl q31 ?_
          refine AO.guardN rfl rfl rfl (ltb rfl) rfl q31 ?_
          refine AO.op rfl (AOp.pick rfl rfl (ltb rfl) rfl q31 rfl ?_)
          refine AO.nil ?_
          change AC _ _ _ _
          refine AC.condT rfl rfl ?_
          refine AC.region ?_
          refine AO.op rfl (AOp.fieldAddr rfl rfl (ltb rfl) rfl fo28_3 ?_)
          refine AO.op rfl (AOp.load1 rfl rfl (ltb rfl) rfl agg22 rfl rfl ?_)
          refine AO.op rfl (AOp.lenDs (n := a0.Flat.length) (cells := (List.map keS0 a0.Flat)) rfl rfl (ltb rfl) rfl el22 (by decide) (len1 _ _) ?_)
          refine AO.op rfl (AOp.buildSliceD rfl rfl (ltb rfl) el25 zero3 rfl (leb rfl) rfl rfl rfl rfl ?_)
          refine AO.op rfl (AOp.assign rfl rfl (ltb rfl) rfl ?_)
          refine AO.nil ?_
          exact ⟨[((a0.Flat.length : Nat) : Int)], _, rfl, (LeL.refl _), rfl, rfl, h0⟩
        · replace h0 := cF h0 q31
          refine AO.guardY rfl rfl rfl q31 (AOp.fieldAddr rfl rfl (ltb rfl) rfl fo28_0 ?_)
          refine AO.guardY rfl rfl rfl q31 (AOp.load1 rfl rfl (ltb rfl) rfl agg3 rfl rfl ?_)
          refine AO.guardY rfl rfl rfl q31 (AOp.ieql rfl rfl (ltb rfl) rfl rfl ?_)
          refine AO.op rfl (AOp.pickN rfl rfl (ltb rfl) rfl q31 rfl ?_)
          refine AO.nil ?_
          change AC _ _ _ _
          refine AC.cond rfl (fun q32 => ?_) (fun q32 => ?_)
          · replace h0 := cT h0 q32
            refine AC.region ?_
            refine AO.op rfl (AOp.fieldAddr rfl rfl (ltb rfl) rfl fo28_3 ?_)
            refine AO.op rfl (AOp.load1 rfl rfl (ltb rfl) rfl agg22 rfl rfl ?_)
            refine AO.op rfl (AOp.lenDs (n := a0.Flat.length) (cells := (List.map keS0 a0.Flat)) rfl rfl (ltb rfl) rfl el22 (by decide) (len1 _ _) ?_)
            refine AO.op rfl (AOp.buildSliceD rfl rfl (ltb rfl) el25 zero3 rfl (leb rfl) rfl rfl rfl rfl ?_)
            refine AO.op rfl (AOp.assign rfl rfl (ltb rfl) rfl ?_)
            refine AO.nil ?_
            exact ⟨[((a0.Flat.length : Nat) : Int)], _, rfl, (LeL.refl _), rfl, rfl, h0⟩
          · replace h0 := cF h0 q32
            refine AC.skip ?_
            exact ⟨g4, _, rfl, (LeL.refl _), rfl, rfl, h0⟩
    · intro g5 h0
      unfold p_Backward_k2 at h0
      refine AC.seq ?_
      refine AC.region ?_
      refine AO.op rfl (AOp.fieldAddr rfl rfl (ltb rfl) rfl fo28_1 ?_)
      refine AO.op rfl (AOp.load1 rfl rfl (ltb rfl) rfl agg3 rfl rfl ?_)
      obtain ⟨y6, q7, h0⟩ := bind_elim h0
      refine AO.op rfl (AOp.callD rfl rfl (ltb rfl) rfl rfl (w_Stride a0.Layout y6 q7) ?_)
      rintro _ rfl
      refine AO.op rfl (AOp.assign rfl rfl (ltb rfl) rfl ?_)
      refine AO.op rfl (AOp.assign rfl rfl (ltb rfl) rfl ?_)
      refine AO.nil ?_
      change AC _ _ _ _
      refine AC.seq ?_
      refine AC.seq ?_
      refine AC.region ?_
      refine AO.op rfl (AOp.move rfl rfl (ltb rfl) rfl ?_)
      refine AO.op rfl (AOp.lenDs (n := g5.length) (cells := (List.map keS2 g5)) rfl rfl (ltb rfl) rfl el25 (by decide) (len1 _ _) ?_)
      refine AO.op rfl (AOp.move rfl rfl (ltb rfl) rfl ?_)
      refine AO.nil ?_
      change AC _ _ _ _
      refine AC.adoptO 2 3 48 1 rfl rfl ?_
      obtain ⟨o8, l9, h0⟩ := bind_elim h0
      refine AC.joinE (V := (List Nat)) [2, 3] [] 5 (fun g10 => []) (fun g10 => [.fix 28 [.d (di .i64 a0.Kind), .d (di .i64 a0.Layout), .d (di .i64 a0.SRID), .d (eS0 a0.Flat), .d (eS2 a0.Ends), .d (eS1 a0.Endss), .d (eS3 a0.Kids)], .fix 28 [.d (di .i64 (0 : Int)), .d (di .i64 (0 : Int)), .d (di .i64 (0 : Int)), .d (.v (.slice none 0 0)), .d (.v (.slice none 0 0)), .d (.v (.slice none 0 0)), .d (.v (.slice none 0 0))], .fix 28 [.d (di .i64 a0.Kind), .d (di .i64 a0.Layout), .d (di .i64 a0.SRID), .own 4, .d (eS2 a0.Ends), .d (eS1 a0.Endss), .d (.v (.slice none 0 0))], .dead, .grow 48 1 (List.map keS0 g10)]) (fun g10 => (p_Backward_k3 a0) g10 = some r0) rfl ?_ ?_
      · refine AC.block ?_
        refine AC.loopP (V := (Int × Int × (List Nat))) (p_Backward_l4 a0 F g5 y6) o8 [1, 2, 3, 7, 58, 59] [8, 60] 5 (fun g11 => [(8, .d (di .i64 g11.1)), (60, .d (di .i64 g11.2.1))]) (fun g11 => [.fix 28 [.d (di .i64 a0.Kind), .d (di .i64 a0.Layout), .d (di .i64 a0.SRID), .d (eS0 a0.Flat), .d (eS2 a0.Ends), .d (eS1 a0.Endss), .d (eS3 a0.Kids)], .fix 28 [.d (di .i64 (0 : Int)), .d (di .i64 (0 : Int)), .d (di .i64 (0 : Int)), .d (.v (.slice none 0 0)), .d (.v (.slice none 0 0)), .d (.v (.slice none 0 0)), .d (.v (.slice none 0 0))], .fix 28 [.d (di .i64 a0.Kind), .d (di .i64 a0.Layout), .d (di .i64 a0.SRID), .own 4, .d (eS2 a0.Ends), .d (eS1 a0.Endss), .d (.v (.slice none 0 0))], .dead, .grow 48 1 (List.map keS0 g11.2.2)]) F ((0 : Int), (0 : Int), []) l9 rfl rfl (LeL.refl _) rfl rfl ?_
        intro n13 g11 h1
        unfold p_Backward_l4 at h1
        refine AC.seq ?_
        refine AC.region ?_
        refine AO.op rfl (AOp.ilss rfl rfl (ltb rfl) rfl rfl ?_)
        refine AO.nil ?_
        change AC _ _ _ _
        refine AC.seq ?_
        refine AC.cond rfl (fun q14 => ?_) (fun q14 => ?_)
        · replace h1 := cT h1 q14
          refine AC.skip ?_
          change AC _ _ _ _
          refine AC.seq ?_
          refine AC.block ?_
          refine AC.seq ?_
          refine AC.region ?_
          obtain ⟨x15, q16, h1⟩ := idx_elim h1
          refine AO.op rfl (AOp.indexDs (cells := (List.map keS2 g5)) rfl rfl (ltb rfl) rfl rfl el25 (by decide) q16.1 (lt1 q16.2) ?_)
          refine AO.op rfl (AOp.loadEp rfl rfl (ltb rfl) rfl agg3 (at1 q16.2) ?_)
          refine AO.op rfl (AOp.assign rfl rfl (ltb rfl) rfl ?_)
          refine AO.nil ?_
          change AC _ _ _ _
          refine AC.seq ?_
          refine AC.seq ?_
          refine AC.region ?_
          refine AO.op rfl (AOp.move rfl rfl (ltb rfl) rfl ?_)
          refine AO.op rfl (AOp.move rfl rfl (ltb rfl) rfl ?_)
          obtain ⟨q17, h1⟩ := need_elim h1
          refine AO.op rfl (AOp.isub rfl rfl (ltb rfl) rfl rfl rfl q17.1 q17.2 ?_)
          refine AO.op rfl (AOp.assign rfl rfl (ltb rfl) rfl ?_)
          refine AO.nil ?_
          change AC _ _ _ _
          obtain ⟨o18, l19, h1⟩ := bind_elim h1
          refine AC.joinE (V := (List Nat)) [1, 2, 3, 7, 10, 58, 59, 60] [] 5 (fun g20 => []) (fun g20 => [.fix 28 [.d (di .i64 a0.Kind), .d (di .i64 a0.Layout), .d (di .i64 a0.SRID), .d (eS0 a0.Flat), .d (eS2 a0.Ends), .d (eS1 a0.Endss), .d (eS3 a0.Kids)], .fix 28 [.d (di .i64 (0 : Int)), .d (di .i64 (0 : Int)), .d (di .i64 (0 : Int)), .d (.v (.slice none 0 0)), .d (.v (.slice none 0 0)), .d (.v (.slice none 0 0)), .d (.v (.slice none 0 0))], .fix 28 [.d (di .i64 a0.Kind), .d (di .i64 a0.Layout), .d (di .i64 a0.SRID), .own 4, .d (eS2 a0.Ends), .d (eS1 a0.Endss), .d (.v (.slice none 0 0))], .dead, .grow 48 1 (List.map keS0 g20)]) (fun g20 => (p_Backward_k5 g11 (iter (p_Backward_l4 a0 F g5 y6) n13) x15) g20 = some o8) rfl ?_ ?_
          · refine AC.block ?_
            refine AC.loopP (V := (Int × (List Nat))) (p_Backward_l6 a0 y6 g11) o18 [1, 2, 3, 7, 8, 10, 58, 59, 60] [11] 5 (fun g22 => [(11, .d (di .i64 g22.1))]) (fun g22 => [.fix 28 [.d (di .i64 a0.Kind), .d (di .i64 a0.Layout), .d (di .i64 a0.SRID), .d (eS0 a0.Flat), .d (eS2 a0.Ends), .d (eS1 a0.Endss), .d (eS3 a0.Kids)], .fix 28 [.d (di .i64 (0 : Int)), .d (di .i64 (0 : Int)), .d (di .i64 (0 : Int)), .d (.v (.slice none 0 0)), .d (.v (.slice none 0 0)), .d (.v (.slice none 0 0)), .d (.v (.slice none 0 0))], .fix 28 [.d (di .i64 a0.Kind), .d (di .i64 a0.Layout), .d (di .i64 a0.SRID), .own 4, .d (eS2 a0.Ends), .d (eS1 a0.Endss), .d (.v (.slice none 0 0))], .dead, .grow 48 1 (List.map keS0 g22.2)]) F ((x15 - y6), g11.2.2) l19 rfl rfl (LeL.refl _) rfl rfl ?_
            intro n24 g22 h2
            unfold p_Backward_l6 at h2
            refine AC.seq ?_
            refine AC.seq ?_
            refine AC.region ?_
            refine AO.op rfl (AOp.move rfl rfl (ltb rfl) rfl ?_)
            refine AO.op rfl (AOp.move rfl rfl (ltb rfl) rfl ?_)
            refine AO.op rfl (AOp.igeq rfl rfl (ltb rfl) rfl rfl ?_)
            refine AO.nil ?_
            change AC _ _ _ _
            refine AC.cond rfl (fun q25 => ?_) (fun q25 => ?_)
            · replace h2 := cT h2 q25
              refine AC.skip ?_
              change AC _ _ _ _
              refine AC.seq ?_
              refine AC.block ?_
              refine AC.draw 9 mixed (by kernel_rfl) ?_
              refine AD.op [3] rfl (by kernel_rfl) rfl rfl (fun _ _ h => AOp.fieldAddr rfl rfl (ltb rfl) rfl fo28_3 h) ?_
              refine AD.op [73] rfl (by kernel_rfl) rfl rfl (fun _ _ h => AOp.load1 rfl rfl (ltb rfl) rfl agg22 rfl rfl h) ?_
              refine AD.op [1] rfl (by kernel_rfl) rfl rfl (fun _ _ h => AOp.fieldAddr rfl rfl (ltb rfl) rfl fo28_3 h) ?_
              refine AD.op [75] rfl (by kernel_rfl) rfl rfl (fun _ _ h => AOp.load1 rfl rfl (ltb rfl) rfl agg22 rfl rfl h) ?_
              refine AD.op [11] rfl (by kernel_rfl) rfl rfl (fun _ _ h => AOp.move rfl rfl (ltb rfl) rfl h) ?_
              refine AD.op [11] rfl (by kernel_rfl) rfl rfl (fun _ _ h => AOp.move rfl rfl (ltb rfl) rfl h) ?_
              refine AD.op [7] rfl (by kernel_rfl) rfl rfl (fun _ _ h => AOp.move rfl rfl (ltb rfl) rfl h) ?_
              obtain ⟨q26, h2⟩ := need_elim h2
              refine AD.op [78, 79] rfl (by kernel_rfl) rfl rfl (fun _ _ h => AOp.iadd rfl rfl (ltb rfl) rfl rfl rfl q26.1 q26.2 h) ?_
              obtain ⟨q27, h2⟩ := need_elim h2
              refine AD.op [76, 77, 80] rfl (by kernel_rfl) rfl rfl (fun _ _ h => AOp.sliceD (cells := (List.map keS0 a0.Flat)) (n := a0.Flat.length) (l := (g22.1).toNat) (hh := ((g22.1 + y6)).toNat) rfl rfl (ltb rfl) rfl (.inr ⟨_, _, _, rfl, rfl, q27.1.1, rfl⟩) (.inr ⟨_, _, _, rfl, rfl, q27.1.2, rfl⟩) el22 (by decide) (len1 _ _) q27.2.1 q27.2.2 (sub1 _ _ _ _) h) ?_
              refine AD.done ?_
              refine AO.subO 2 rfl (.cons (SVLe.refl _) (.cons (SVLe.refl _) (.cons (SVLe.refl _) (.cons (SVLe.any _) (.cons (SVLe.refl _) (.cons (SVLe.refl _) (.cons (SVLe.refl _) .nil))))))) ?_
              obtain ⟨q28, h2⟩ := need_elim h2
              refine AO.op rfl (AOp.appendOwn' (n := g22.2.length) (m := ((a0.Flat.drop (g22.1).toNat).take (((g22.1 + y6)).toNat - (g22.1).toNat)).length) (news := (List.map keS0 ((a0.Flat.drop (g22.1).toNat).take (((g22.1 + y6)).toNat - (g22.1).toNat)))) rfl rfl (ltb rfl) rfl rfl el22 info48 rfl (by decide) rfl (len1 _ _) (len1 _ _) (one1 _ (fun _ => rfl) _) q28 (by decide) rfl rfl (cat1 _ _ _) ?_)
              refine AO.op rfl (AOp.fieldAddr rfl rfl (ltb rfl) rfl fo28_3 ?_)
              refine AO.op rfl (AOp.storeOwn rfl rfl rfl rfl rfl rfl size22 rfl rfl (leb rfl) ?_)
              refine AO.nil ?_
              change AC _ _ _ _
              refine AC.region ?_
              refine AO.op rfl (AOp.move rfl rfl (ltb rfl) rfl ?_)
              refine AO.op rfl (AOp.move rfl rfl (ltb rfl) rfl ?_)
              obtain ⟨q29, h2⟩ := need_elim h2
              refine AO.op rfl (AOp.isub rfl rfl (ltb rfl) rfl rfl rfl q29.1 q29.2 ?_)
              refine AO.op rfl (AOp.assign rfl rfl (ltb rfl) rfl ?_)
              refine AO.nil ?_
              exact ⟨((g22.1 - y6), (g22.2 ++ ((a0.Flat.drop (g22.1).toNat).take (((g22.1 + y6)).toNat - (g22.1).toNat)))), _, rfl, (LeL.refl _), rfl, rfl, h2⟩
            · replace h2 := cF h2 q25
              refine AC.exit ?_
              obtain rfl := Option.some.inj h2
              exact ⟨g22.2, _, rfl, (LeL.refl _), rfl, rfl, aftL h1⟩
          · intro g20 h1
            unfold p_Backward_k5 at h1
            change AC _ _ _ _
            refine AC.region ?_
            refine AO.op rfl (AOp.move rfl rfl (ltb rfl) rfl ?_)
            refine AO.op rfl (AOp.assign rfl rfl (ltb rfl) rfl ?_)
            refine AO.nil ?_
            change AC _ _ _ _
            refine AC.region ?_
            obtain ⟨q21, h1⟩ := need_elim h1
            refine AO.op rfl (AOp.iadd rfl rfl (ltb rfl) rfl rfl rfl q21.1 q21.2 ?_)
            refine AO.op rfl (AOp.move rfl rfl (ltb rfl) rfl ?_)
            refine AO.nil ?_
            exact ⟨(x15, (g11.2.1 + (1 : Int)), g20), _, rfl, (LeL.refl _), rfl, rfl, h1⟩
        · replace h1 := cF h1 q14
          refine AC.exit ?_
          obtain rfl := Option.some.inj h1
          exact ⟨g11.2.2, _, rfl, (LeL.refl _), rfl, rfl, aftL h0⟩
      · intro g10 h0
        unfold p_Backward_k3 at h0
        change AC _ _ _ _
        refine AC.seq ?_
        refine AC.region ?_
        refine AO.op rfl (AOp.loadN rfl rfl (ltb rfl) rfl agg28 size28 rfl (leb rfl) rfl ?_)
        refine AO.subO 2 rfl (.cons (SVLe.refl _) (.cons (SVLe.refl _) (.cons (SVLe.refl _) (.cons (SVLe.any _) (.cons (SVLe.refl _) (.cons (SVLe.refl _) (.cons (SVLe.refl _) .nil))))))) ?_
        refine AO.freezeG 4 rfl rfl rfl ?_
        refine AO.op rfl (AOp.store rfl rfl rfl rfl size28 rfl rfl rfl (leb rfl) ?_)
        refine AO.nil ?_
        change AC _ _ _ _
        refine AC.subO 1 rfl (.cons (SVLe.refl _) (.cons (SVLe.refl _) (.cons (SVLe.refl _) (.cons (SVLe.refl _) (.cons (SVLe.refl _) (.cons (SVLe.refl _) (.cons (SVLe.nil 7) .nil))))))) ?_
        refine AC.ret ?_
        change RetQ _ _ _ .ret _
        obtain rfl := Option.some.inj h0
        refine retq rfl rfl

theorem callBits (x : Nat) (w : World) : (callFunc 26 #[.float .f64 x]).run Try.prog w = .ok (.value (.int .u64 x)) w := by
  rw [run_callFunc_extern Try.func26 (by kernel_rfl) (by kernel_rfl) (by kernel_rfl) (e := Extern.MathFloatBits.float64bits) (by kernel_rfl), run_f64bits Try.prog x]
  rfl

set_option maxRecDepth 100000 in
set_option maxHeartbeats 1000000 in
/-- pub-orthodrome/spec.SameFloats -/
theorem w_SameFloats (F : Nat) (a0 : (List Nat)) (a1 : (List Nat)) (r0 : Bool) (h0 : p_SameFloats F a0 a1 = some r0) : FnD Try.prog 10 [eS0 a0, eS0 a1] (fun r => r = dbool r0) := by
  refine FnD.of (by kernel_rfl) Try.func10 rfl Try.ntmps10 rfl (leb rfl) fun W ok => ?_
  unfold p_SameFloats at h0
  refine AC.seq ?_
  refine AC.region ?_
  refine AO.op rfl (AOp.assign rfl rfl (ltb rfl) rfl ?_)
  refine AO.nil ?_
  change AC _ _ _ _
  refine AC.seq ?_
  refine AC.seq ?_
  refine AC.region ?_
  refine AO.op rfl (AOp.move rfl rfl (ltb rfl) rfl ?_)
  refine AO.op rfl (AOp.lenDs (n := a0.length) (cells := (List.map keS0 a0)) rfl rfl (ltb rfl) rfl el22 (by decide) (len1 _ _) ?_)
  refine AO.op rfl (AOp.move rfl rfl (ltb rfl) rfl ?_)
  refine AO.op rfl (AOp.lenDs (n := a1.length) (cells := (List.map keS0 a1)) rfl rfl (ltb rfl) rfl el22 (by decide) (len1 _ _) ?_)
  refine AO.op rfl (AOp.ineq rfl rfl (ltb rfl) rfl rfl ?_)
  refine AO.nil ?_
  change AC _ _ _ _
  refine AC.cond rfl (fun q1 => ?_) (fun q1 => ?_)
  · replace h0 := cT h0 q1
    refine AC.seq ?_
    refine AC.region ?_
    refine AO.op rfl (AOp.assign rfl rfl (ltb rfl) rfl ?_)
    refine AO.nil ?_
    change AC _ _ _ _
    refine AC.ret ?_
    change RetQ _ _ _ .ret _
    obtain rfl := Option.some.inj h0
    refine retq rfl rfl
  · replace h0 := cF h0 q1
    refine AC.skip ?_
    change AC _ _ _ _
    refine AC.seq ?_
    refine AC.seq ?_
    refine AC.region ?_
    refine AO.op rfl (AOp.move rfl rfl (ltb rfl) rfl ?_)
    refine AO.op rfl (AOp.lenDs (n := a0.length) (cells := (List.map keS0 a0)) rfl rfl (ltb rfl) rfl el22 (by decide) (len1 _ _) ?_)
    refine AO.op rfl (AOp.move rfl rfl (ltb rfl) rfl ?_)
    refine AO.nil ?_
    change AC _ _ _ _
    obtain ⟨o2, l3, h0⟩ := bind_elim h0
    refine AC.joinE (V := Unit) [] [] 0 (fun g4 => []) (fun g4 => []) (fun g4 => p_SameFloats_k1 g4 = some r0) rfl ?_ ?_
    · refine AC.block ?_
      refine AC.loopP (V := Int) (p_SameFloats_l2 a0 a1) o2 [1, 12, 13] [14] 0 (fun g5 => [(14, .d (di .i64 g5))]) (fun g5 => []) F (0 : Int) l3 rfl rfl (LeL.refl _) rfl rfl ?_
      intro n7 g5 h1
      unfold p_SameFloats_l2 at h1
      refine AC.seq ?_
      refine AC.region ?_
      refine AO.op rfl (AOp.ilss rfl rfl (ltb rfl) rfl rfl ?_)
      refine AO.nil ?_
      change AC _ _ _ _
      refine AC.seq ?_
      refine AC.cond rfl (fun q8 => ?_) (fun q8 => ?_)
      · replace h1 := cT h1 q8
        refine AC.skip ?_
        change AC _ _ _ _
        refine AC.seq ?_
        refine AC.block ?_
        refine AC.seq ?_
        refine AC.region ?_
        refine AO.op rfl (AOp.move rfl rfl (ltb rfl) rfl ?_)
        obtain ⟨x9, q10, h1⟩ := idx_elim h1
        refine AO.op rfl (AOp.indexDs (cells := (List.map keS0 a0)) rfl rfl (ltb rfl) rfl rfl el22 (by decide) q10.1 (lt1 q10.2) ?_)
        refine AO.op rfl (AOp.loadEp rfl rfl (ltb rfl) rfl agg48 (at1 q10.2) ?_)
        refine AO.op rfl (AOp.assign rfl rfl (ltb rfl) rfl ?_)
        refine AO.op rfl (AOp.assign rfl rfl (ltb rfl) rfl ?_)
        refine AO.nil ?_
        change AC _ _ _ _
        refine AC.seq ?_
        refine AC.draw 8 mixed (by kernel_rfl) ?_
        refine AD.op [6] rfl (by kernel_rfl) rfl rfl (fun _ _ h => AOp.move rfl rfl (ltb rfl) rfl h) ?_
        refine AD.op [19] rfl (by kernel_rfl) rfl rfl (fun _ _ h => AOp.callX [.float .f64 x9] rfl rfl (ltb rfl) rfl (callBits x9) h) ?_
        refine AD.op [1] rfl (by kernel_rfl) rfl rfl (fun _ _ h => AOp.move rfl rfl (ltb rfl) rfl h) ?_
        refine AD.op [5] rfl (by kernel_rfl) rfl rfl (fun _ _ h => AOp.move rfl rfl (ltb rfl) rfl h) ?_
        obtain ⟨x11, q12, h1⟩ := idx_elim h1
        refine AD.op [21, 22] rfl (by kernel_rfl) rfl rfl (fun _ _ h => AOp.indexDs (cells := (List.map keS0 a1)) rfl rfl (ltb rfl) rfl rfl el22 (by decide) q12.1 (lt1 q12.2) h) ?_
        refine AD.op [23] rfl (by kernel_rfl) rfl rfl (fun _ _ h => AOp.loadEp rfl rfl (ltb rfl) rfl agg48 (at1 q12.2) h) ?_
        refine AD.op [24] rfl (by kernel_rfl) rfl rfl (fun _ _ h => AOp.callX [.float .f64 x11] rfl rfl (ltb rfl) rfl (callBits x11) h) ?_
        refine AD.op [20, 25] rfl (by kernel_rfl) rfl rfl (fun _ _ h => AOp.ineq rfl rfl (ltb rfl) rfl rfl h) ?_
        refine AD.done ?_
        refine AO.nil ?_
        change AC _ _ _ _
        refine AC.cond rfl (fun q13 => ?_) (fun q13 => ?_)
        · replace h1 := cT h1 q13
          refine AC.seq ?_
          refine AC.region ?_
          refine AO.op rfl (AOp.assign rfl rfl (ltb rfl) rfl ?_)
          refine AO.nil ?_
          change AC _ _ _ _
          refine AC.ret ?_
          change RetQ _ _ _ .ret _
          obtain rfl := Option.some.inj h1
          replace h0 := aftR h0
          obtain rfl := Option.some.inj h0
          refine retq rfl rfl
        · replace h1 := cF h1 q13
          refine AC.skip ?_
          change AC _ _ _ _
          refine AC.region ?_
          obtain ⟨q14, h1⟩ := need_elim h1
          refine AO.op rfl (AOp.iadd rfl rfl (ltb rfl) rfl rfl rfl q14.1 q14.2 ?_)
          refine AO.op rfl (AOp.move rfl rfl (ltb rfl) rfl ?_)
          refine AO.nil ?_
          exact ⟨(g5 + (1 : Int)), _, rfl, (LeL.refl _), rfl, rfl, h1⟩
      · replace h1 := cF h1 q8
        refine AC.exit ?_
        obtain rfl := Option.some.inj h1
        exact ⟨(), _, rfl, (LeL.refl _), rfl, rfl, aftL h0⟩
    · intro g4 h0
      unfold p_SameFloats_k1 at h0
      change AC _ _ _ _
      refine AC.seq ?_
      refine AC.region ?_
      refine AO.op rfl (AOp.assign rfl rfl (ltb rfl) rfl ?_)
      refine AO.nil ?_
      change AC _ _ _ _
      refine AC.ret ?_
      change RetQ _ _ _ .ret _
      obtain rfl := Option.some.inj h0
      refine retq rfl rfl

set_option maxRecDepth 100000 in
set_option maxHeartbeats 1000000 in
/-- pub-orthodrome/laws.FnReverseFlat3 -/
theorem w_FnReverseFlat3 (F : Nat) (a0 : (List Nat)) (a1 : (List (List Int))) (a2 : Int) (r0 : Bool) (h0 : p_FnReverseFlat3 F a0 a1 a2 = some r0) : FnD Try.prog 3 [eS0 a0, eS1 a1, di .i64 a2] (fun r => r = dbool r0) := by
  refine FnD.of (by kernel_rfl) Try.func3 rfl Try.ntmps3 rfl (leb rfl) fun W ok => ?_
  unfold p_FnReverseFlat3 at h0
  refine AC.seq ?_
  refine AC.region ?_
  refine AO.op rfl (AOp.assign rfl rfl (ltb rfl) rfl ?_)
  refine AO.nil ?_
  change AC _ _ _ _
  refine AC.seq ?_
  refine AC.joinP (V := Bool) [0, 1, 2] [18] 0 (fun g1 => [(18, .d (dbool g1))]) (fun g1 => []) (fun g1 => (p_FnReverseFlat3_k1 a0 a1 a2 F) g1 = some r0) rfl ?_ ?_
  · refine AC.region ?_
    refine AO.op rfl (AOp.move rfl rfl (ltb rfl) rfl ?_)
    refine AO.op rfl (AOp.lenDs (n := a0.length) (cells := (List.map keS0 a0)) rfl rfl (ltb rfl) rfl el22 (by decide) (len1 _ _) ?_)
    refine AO.op rfl (AOp.igtr rfl rfl (ltb rfl) rfl rfl ?_)
    refine AO.op rfl (AOp.move rfl rfl (ltb rfl) rfl ?_)
    refine AO.dec (decide ((2147483647 : Int) < ((a0.length : Nat) : Int))) (fun q17 => ?_) (fun q17 => ?_)
    · replace h0 := cT h0 q17
      refine AO.guardN rfl rfl rfl (ltb rfl) rfl q17 ?_
      refine AO.guardN rfl rfl rfl (ltb rfl) rfl q17 ?_
      refine AO.guardN rfl rfl rfl (ltb rfl) rfl q17 ?_
      refine AO.op rfl (AOp.pick rfl rfl (ltb rfl) rfl q17 rfl ?_)
      refine AO.nil ?_
      exact ⟨true, _, rfl, (LeL.refl _), rfl, rfl, h0⟩
    · replace h0 := cF h0 q17
      refine AO.guardY rfl rfl rfl q17 (AOp.move rfl rfl (ltb rfl) rfl ?_)
      obtain ⟨y18, q19, h0⟩ := bind_elim h0
      refine AO.guardY rfl rfl rfl q17 (AOp.callD rfl rfl (ltb rfl) rfl rfl (w_zzFits3 F a1 y18 q19) ?_)
      rintro _ rfl
      refine AO.guardY rfl rfl rfl q17 (AOp.bnot rfl rfl (ltb rfl) rfl ?_)
      refine AO.op rfl (AOp.pickN rfl rfl (ltb rfl) rfl q17 rfl ?_)
      refine AO.nil ?_
      exact ⟨(!y18), _, rfl, (LeL.refl _), rfl, rfl, h0⟩
  · intro g1 h0
    unfold p_FnReverseFlat3_k1 at h0
    refine AC.cond rfl (fun q2 => ?_) (fun q2 => ?_)
    · replace h0 := cT h0 q2
      refine AC.seq ?_
      refine AC.region ?_
      refine AO.op rfl (AOp.assign rfl rfl (ltb rfl) rfl ?_)
      refine AO.nil ?_
      change AC _ _ _ _
      refine AC.ret ?_
      change RetQ _ _ _ .ret _
      obtain rfl := Option.some.inj h0
      refine retq rfl rfl
    · replace h0 := cF h0 q2
      refine AC.skip ?_
      change AC _ _ _ _
      refine AC.seq ?_
      refine AC.region ?_
      refine AO.op rfl (AOp.move rfl rfl (ltb rfl) rfl ?_)
      refine AO.op rfl (AOp.move rfl rfl (ltb rfl) rfl ?_)
      refine AO.op rfl (AOp.move rfl rfl (ltb rfl) rfl ?_)
      obtain ⟨y3, q4, h0⟩ := bind_elim h0
      refine AO.op rfl (AOp.callD rfl rfl (ltb rfl) rfl rfl (w_fRowss F a0 a1 a2 y3 q4) ?_)
      rintro _ rfl
      refine AO.op rfl (AOp.move rfl rfl (ltb rfl) rfl ?_)
      first | refine AO.op rfl (AOp.extractD rfl rfl (ltb rfl) rfl rfl ?_) | refine AO.op rfl (AOp.extract rfl rfl (ltb rfl) rfl rfl ?_)
      first | refine AO.op rfl (AOp.extractD rfl rfl (ltb rfl) rfl rfl ?_) | refine AO.op rfl (AOp.extract rfl rfl (ltb rfl) rfl rfl ?_)
      refine AO.op rfl (AOp.alloc rfl rfl (ltb rfl) zero28 rfl ?_)
      refine AO.op rfl (AOp.store rfl rfl rfl rfl size28 rfl rfl rfl (leb rfl) ?_)
      refine AO.op rfl (AOp.assign rfl rfl (ltb rfl) rfl ?_)
      refine AO.nil ?_
      change AC _ _ _ _
      refine AC.seq ?_
      refine AC.joinP (V := Bool) [0, 1, 2, 7] [31] 1 (fun g5 => [(31, .d (dbool g5))]) (fun g5 => [.fix 28 [.d (di .i64 y3.1.Kind), .d (di .i64 y3.1.Layout), .d (di .i64 y3.1.SRID), .d (eS0 y3.1.Flat), .d (eS2 y3.1.Ends), .d (eS1 y3.1.Endss), .d (eS3 y3.1.Kids)]]) (fun g5 => (p_FnReverseFlat3_k2 a0 a1 a2 F y3) g5 = some r0) rfl ?_ ?_
      · refine AC.region ?_
        refine AO.op rfl (AOp.move rfl rfl (ltb rfl) rfl ?_)
        refine AO.op rfl (AOp.bnot rfl rfl (ltb rfl) rfl ?_)
        refine AO.op rfl (AOp.move rfl rfl (ltb rfl) rfl ?_)
        refine AO.dec (!y3.2) (fun q14 => ?_) (fun q14 => ?_)
        · replace h0 := cT h0 q14
          refine AO.guardN rfl rfl rfl (ltb rfl) rfl q14 ?_
          refine AO.guardN rfl rfl rfl (ltb rfl) rfl q14 ?_
          refine AO.op rfl (AOp.pick rfl rfl (ltb rfl) rfl q14 rfl ?_)
          refine AO.nil ?_
          exact ⟨true, _, rfl, (LeL.refl _), rfl, rfl, h0⟩
        · replace h0 := cF h0 q14
          refine AO.guardY rfl rfl rfl q14 (AOp.loadN rfl rfl (ltb rfl) rfl agg28 size28 rfl (leb rfl) rfl ?_)
          obtain ⟨y15, q16, h0⟩ := bind_elim h0
          refine AO.guardY rfl rfl rfl q14 (AOp.callD rfl rfl (ltb rfl) rfl rfl (w_gHollow F y3.1 y15 q16) ?_)
          rintro _ rfl
          refine AO.op rfl (AOp.pickN rfl rfl (ltb rfl) rfl q14 rfl ?_)
          refine AO.nil ?_
          exact ⟨y15, _, rfl, (LeL.refl _), rfl, rfl, h0⟩
      · intro g5 h0
        unfold p_FnReverseFlat3_k2 at h0
        refine AC.cond rfl (fun q6 => ?_) (fun q6 => ?_)
        · replace h0 := cT h0 q6
          refine AC.seq ?_
          refine AC.region ?_
          refine AO.op rfl (AOp.assign rfl rfl (ltb rfl) rfl ?_)
          refine AO.nil ?_
          change AC _ _ _ _
          refine AC.ret ?_
          change RetQ _ _ _ .ret _
          obtain rfl := Option.some.inj h0
          refine retq rfl rfl
        · replace h0 := cF h0 q6
          refine AC.skip ?_
          change AC _ _ _ _
          refine AC.seq ?_
          refine AC.region ?_
          refine AO.op rfl (AOp.move rfl rfl (ltb rfl) rfl ?_)
          refine AO.op rfl (AOp.move rfl rfl (ltb rfl) rfl ?_)
          refine AO.op rfl (AOp.move rfl rfl (ltb rfl) rfl ?_)
          obtain ⟨y7, q8, h0⟩ := bind_elim h0
          refine AO.op rfl (AOp.callD rfl rfl (ltb rfl) rfl rfl (w_ReverseFlat3 F a0 a1 a2 y7 q8) ?_)
          rintro _ rfl
          refine AO.op rfl (AOp.move rfl rfl (ltb rfl) rfl ?_)
          first | refine AO.op rfl (AOp.extractD rfl rfl (ltb rfl) rfl rfl ?_) | refine AO.op rfl (AOp.extract rfl rfl (ltb rfl) rfl rfl ?_)
          first | refine AO.op rfl (AOp.extractD rfl rfl (ltb rfl) rfl rfl ?_) | refine AO.op rfl (AOp.extract rfl rfl (ltb rfl) rfl rfl ?_)
          refine AO.op rfl (AOp.assign rfl rfl (ltb rfl) rfl ?_)
          refine AO.op rfl (AOp.assign rfl rfl (ltb rfl) rfl ?_)
          refine AO.nil ?_
          change AC _ _ _ _
          refine AC.seq ?_
          refine AC.region ?_
          refine AO.op rfl (AOp.move rfl rfl (ltb rfl) rfl ?_)
          refine AO.op rfl (AOp.move rfl rfl (ltb rfl) rfl ?_)
          refine AO.dec y7.2 (fun q9 => ?_) (fun q9 => ?_)
          · replace h0 := cT h0 q9
            refine AO.guardY rfl rfl rfl q9 (AOp.move rfl rfl (ltb rfl) rfl ?_)
            refine AO.guardY rfl rfl rfl q9 (AOp.loadN rfl rfl (ltb rfl) rfl agg28 size28 rfl (leb rfl) rfl ?_)
            obtain ⟨y10, q11, h0⟩ := bind_elim h0
            refine AO.guardY rfl rfl rfl q9 (AOp.callD rfl rfl (ltb rfl) rfl rfl (w_Backward F y3.1 y10 q11) ?_)
            rintro _ rfl
            refine AO.guardY rfl rfl rfl q9 (AOp.fieldD rfl rfl (ltb rfl) rfl fi28_3 rfl ?_)
            obtain ⟨y12, q13, h0⟩ := bind_elim h0
            refine AO.guardY rfl rfl rfl q9 (AOp.callD rfl rfl (ltb rfl) rfl rfl (w_SameFloats F y7.1 y10.Flat y12 q13) ?_)
            rintro _ rfl
            refine AO.op rfl (AOp.pick rfl rfl (ltb rfl) rfl q9 rfl ?_)
            refine AO.op rfl (AOp.assign rfl rfl (ltb rfl) rfl ?_)
            refine AO.nil ?_
            change AC _ _ _ _
            refine AC.ret ?_
            change RetQ _ _ _ .ret _
            obtain rfl := Option.some.inj h0
            refine retq rfl rfl
          · replace h0 := cF h0 q9
            refine AO.guardN rfl rfl rfl (ltb rfl) rfl q9 ?_
            refine AO.guardN rfl rfl rfl (ltb rfl) rfl q9 ?_
            refine AO.guardN rfl rfl rfl (ltb rfl) rfl q9 ?_
            refine AO.guardN rfl rfl rfl (ltb rfl) rfl q9 ?_
            refine AO.guardN rfl rfl rfl (ltb rfl) rfl q9 ?_
            refine AO.op rfl (AOp.pickN rfl rfl (ltb rfl) rfl q9 rfl ?_)
            refine AO.op rfl (AOp.assign rfl rfl (ltb rfl) rfl ?_)
            refine AO.nil ?_
            change AC _ _ _ _
            refine AC.ret ?_
            change RetQ _ _ _ .ret _
            obtain rfl := Option.some.inj h0
            refine retq rfl rfl

end Go.Proofs.Ytdpkjmoeapibnaa.Wk
