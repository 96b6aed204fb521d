/- Proved: functions of the program compute what the printed functions say, wherever these say something. -/
import Derived.Test.YtdpkjmoeapibnaaPFl
import Derived.Test.YtdpkjmoeapibnaaVmDraw4
import Derived.Test.YtdpkjmoeapibnaaVmNaN
import Derived.Test.YtdpkjmoeapibnaaFltDy
import Derived.Test.YtdpkjmoeapibnaaFltMin
import Derived.Test.YtdpkjmoeapibnaaVmFin
import Derived.Test.YtdpkjmoeapibnaaProg
namespace Go.Proofs.Ytdpkjmoeapibnaa.Wk
open Go.Vm
set_option linter.unusedVariables false
set_option linter.unusedSimpArgs false
theorem agg22 : aggT Try.prog 22 = some false := by kernel_rfl
theorem agg23 : aggT Try.prog 23 = some false := by kernel_rfl
theorem agg25 : aggT Try.prog 25 = some false := by kernel_rfl
theorem agg26 : aggT Try.prog 26 = some false := by kernel_rfl
theorem agg28 : aggT Try.prog 28 = some true := by kernel_rfl
theorem agg3 : aggT Try.prog 3 = some false := by kernel_rfl
theorem agg48 : aggT Try.prog 48 = some false := by kernel_rfl
theorem el22 : elemT Try.prog 22 = some (48, 1) := by kernel_rfl
theorem el23 : elemT Try.prog 23 = some (25, 1) := by kernel_rfl
theorem el25 : elemT Try.prog 25 = some (3, 1) := by kernel_rfl
theorem el26 : elemT Try.prog 26 = some (28, 7) := by kernel_rfl
theorem el61 : elemT Try.prog 61 = some (22, 1) := by kernel_rfl
theorem fo28_0 : fieldOff Try.prog 28 0 = some 0 := by kernel_rfl
theorem fo28_1 : fieldOff Try.prog 28 1 = some 1 := by kernel_rfl
theorem fo28_3 : fieldOff Try.prog 28 3 = some 3 := by kernel_rfl
theorem fo28_4 : fieldOff Try.prog 28 4 = some 4 := by kernel_rfl
theorem fo28_5 : fieldOff Try.prog 28 5 = some 5 := by kernel_rfl
theorem fo28_6 : fieldOff Try.prog 28 6 = some 6 := by kernel_rfl
theorem idle37 (vs : Array Value) (w : World) (h : vs.size = 2) : CallsD Try.prog 37 vs .returning w fun e u' w' => e = .returned (.tuple #[]) ∧ u' = .returning ∧ w' = w := by
  obtain ⟨x0, x1, rfl⟩ : ∃ x0 x1, vs = #[x0, x1] := by
    obtain ⟨l⟩ := vs
    match l, h with
    | [x0, x1], _ => exact ⟨x0, x1, rfl⟩
  refine callsD_of_wpS Try.func37 rfl fun c₀ cs hu => ?_
  apply wpS_seq
  apply wpS_region
  simp [wpOpsS, go_sem, recoverD, hu, Try.ntmps37, Exit.thenS]
  refine wpS_cond (t := false) (by simp [Act.eval, Array.replicate]) ?_
  simp only [Bool.false_eq_true, if_false]
  refine wpS_of_wp (wp_skip ?_)
  cases c₀
  simp_all [bodyPostS, results, Try.results37]
theorem info22 : (Try.prog.info? 22).map (fun i => (i.zero, i.size, i.bytes)) = some (some (.slice none 0 0), 1, 24) := by kernel_rfl
theorem info28 : (Try.prog.info? 28).map (fun i => (i.zero, i.size, i.bytes)) = some (some (.agg #[.int .i64 0, .int .i64 0, .int .i64 0, .slice none 0 0, .slice none 0 0, .slice none 0 0, .slice none 0 0]), 7, 120) := by kernel_rfl
theorem info3 : (Try.prog.info? 3).map (fun i => (i.zero, i.size, i.bytes)) = some (some (.int .i64 0), 1, 8) := by kernel_rfl
theorem info48 : (Try.prog.info? 48).map (fun i => (i.zero, i.size, i.bytes)) = some (some (.float .f64 0), 1, 8) := by kernel_rfl
theorem mixed : Try.prog.follows .mixedOrders = true := by kernel_rfl
def pl28 : Nat → Option (Nat × Nat) := fun i => ([(0, 1), (1, 1), (2, 1), (3, 1), (4, 1), (5, 1), (6, 1)] : List (Nat × Nat))[i]?
theorem places28 : placesT Try.prog 28 = some pl28 := by kernel_rfl
theorem size22 : sizeT Try.prog 22 = some 1 := by kernel_rfl
theorem size25 : sizeT Try.prog 25 = some 1 := by kernel_rfl
theorem size28 : sizeT Try.prog 28 = some 7 := by kernel_rfl
theorem size4 : sizeT Try.prog 4 = some 1 := by kernel_rfl
theorem size48 : sizeT Try.prog 48 = some 1 := by kernel_rfl
theorem zero22 : (Try.prog.info? 22).map (·.zero) = some (some (.slice none 0 0)) := by kernel_rfl
theorem zero28 : (Try.prog.info? 28).map (·.zero) = some (some (.agg #[.int .i64 0, .int .i64 0, .int .i64 0, .slice none 0 0, .slice none 0 0, .slice none 0 0, .slice none 0 0])) := by kernel_rfl
theorem zero3 : (Try.prog.info? 3).map (·.zero) = some (some (.int .i64 0)) := by kernel_rfl
theorem zero4 : (Try.prog.info? 4).map (·.zero) = some (some (.bool false)) := by kernel_rfl
theorem zero48 : (Try.prog.info? 48).map (·.zero) = some (some (.float .f64 0)) := by kernel_rfl
set_option maxRecDepth 100000 in
set_option maxHeartbeats 1000000 in
/-- pub-orthodrome/laws.fStride -/
theorem w_fStride (a0 : Int) (r0 : Bool) (h0 : p_fStride a0 = some r0) : FnD Try.prog 20 [di .i64 a0] (fun r => r = dbool r0) := by
  refine FnD.of (by kernel_rfl) Try.func20 rfl Try.ntmps20 rfl (leb rfl) fun W ok => ?_
  unfold p_fStride at h0
  refine AC.seq ?_
  refine AC.region ?_
  refine AO.op rfl (AOp.assign rfl rfl (ltb rfl) rfl ?_)
  refine AO.nil ?_
  change AC _ _ _ _
  refine AC.seq ?_
  refine AC.region ?_
  refine AO.op rfl (AOp.move rfl rfl (ltb rfl) rfl ?_)
  refine AO.op rfl (AOp.igeq rfl rfl (ltb rfl) rfl rfl ?_)
  refine AO.op rfl (AOp.move rfl rfl (ltb rfl) rfl ?_)
  refine AO.dec (decide ((2 : Int) ≤ a0)) (fun q1 => ?_) (fun q1 => ?_)
  · replace h0 := cT h0 q1
    refine AO.guardY rfl rfl rfl q1 (AOp.move rfl rfl (ltb rfl) rfl ?_)
    refine AO.guardY rfl rfl rfl q1 (AOp.ileq rfl rfl (ltb rfl) rfl rfl ?_)
    refine AO.op rfl (AOp.pick rfl rfl (ltb rfl) rfl q1 rfl ?_)
    refine AO.op rfl (AOp.assign rfl rfl (ltb rfl) rfl ?_)
    refine AO.nil ?_
    change AC _ _ _ _
    refine AC.ret ?_
    change RetQ _ _ _ .ret _
    obtain rfl := Option.some.inj h0
    refine retq rfl rfl
  · replace h0 := cF h0 q1
    refine AO.guardN rfl rfl rfl (ltb rfl) rfl q1 ?_
    refine AO.guardN rfl rfl rfl (ltb rfl) rfl q1 ?_
    refine AO.op rfl (AOp.pickN rfl rfl (ltb rfl) rfl q1 rfl ?_)
    refine AO.op rfl (AOp.assign rfl rfl (ltb rfl) rfl ?_)
    refine AO.nil ?_
    change AC _ _ _ _
    refine AC.ret ?_
    change RetQ _ _ _ .ret _
    obtain rfl := Option.some.inj h0
    refine retq rfl rfl

set_option maxRecDepth 100000 in
set_option maxHeartbeats 1000000 in
/-- pub-orthodrome/laws.fLayout -/
theorem w_fLayout (a0 : Int) (r0 : Int) (h0 : p_fLayout a0 = some r0) : FnD Try.prog 21 [di .i64 a0] (fun r => r = di .i64 r0) := by
  refine FnD.of (by kernel_rfl) Try.func21 rfl Try.ntmps21 rfl (leb rfl) fun W ok => ?_
  unfold p_fLayout at h0
  refine AC.seq ?_
  refine AC.region ?_
  refine AO.op rfl (AOp.assign rfl rfl (ltb rfl) rfl ?_)
  refine AO.nil ?_
  change AC _ _ _ _
  refine AC.seq ?_
  refine AC.seq ?_
  refine AC.region ?_
  refine AO.op rfl (AOp.move rfl rfl (ltb rfl) rfl ?_)
  refine AO.op rfl (AOp.ieql rfl rfl (ltb rfl) rfl rfl ?_)
  refine AO.nil ?_
  change AC _ _ _ _
  refine AC.cond rfl (fun q1 => ?_) (fun q1 => ?_)
  · replace h0 := cT h0 q1
    refine AC.seq ?_
    refine AC.region ?_
    refine AO.op rfl (AOp.assign rfl rfl (ltb rfl) rfl ?_)
    refine AO.nil ?_
    change AC _ _ _ _
    refine AC.ret ?_
    change RetQ _ _ _ .ret _
    obtain rfl := Option.some.inj h0
    refine retq rfl rfl
  · replace h0 := cF h0 q1
    refine AC.skip ?_
    change AC _ _ _ _
    refine AC.seq ?_
    refine AC.seq ?_
    refine AC.region ?_
    refine AO.op rfl (AOp.move rfl rfl (ltb rfl) rfl ?_)
    refine AO.op rfl (AOp.ieql rfl rfl (ltb rfl) rfl rfl ?_)
    refine AO.nil ?_
    change AC _ _ _ _
    refine AC.cond rfl (fun q2 => ?_) (fun q2 => ?_)
    · replace h0 := cT h0 q2
      refine AC.seq ?_
      refine AC.region ?_
      refine AO.op rfl (AOp.assign rfl rfl (ltb rfl) rfl ?_)
      refine AO.nil ?_
      change AC _ _ _ _
      refine AC.ret ?_
      change RetQ _ _ _ .ret _
      obtain rfl := Option.some.inj h0
      refine retq rfl rfl
    · replace h0 := cF h0 q2
      refine AC.skip ?_
      change AC _ _ _ _
      refine AC.seq ?_
      refine AC.region ?_
      refine AO.op rfl (AOp.move rfl rfl (ltb rfl) rfl ?_)
      refine AO.op rfl (AOp.assign rfl rfl (ltb rfl) rfl ?_)
      refine AO.nil ?_
      change AC _ _ _ _
      refine AC.ret ?_
      change RetQ _ _ _ .ret _
      obtain rfl := Option.some.inj h0
      refine retq rfl rfl

set_option maxRecDepth 100000 in
set_option maxHeartbeats 1000000 in
/-- pub-orthodrome/spec.Weight -/
theorem w_Weight_b (Rec_ : TImpl_Geom → Int → Option Int) (hR : ∀ (a0 : TImpl_Geom) (a1 : Int) (r0 : Int), Rec_ a0 a1 = some r0 → FnD Try.prog 50 [e_TImpl_Geom a0, di .i64 a1] (fun r => r = di .i64 r0)) (F : Nat) (a0 : TImpl_Geom) (a1 : Int) (r0 : Int) (h0 : p_Weight_b Rec_ F a0 a1 = some r0) : FnD Try.prog 50 [e_TImpl_Geom a0, di .i64 a1] (fun r => r = di .i64 r0) := by
  refine FnD.of (by kernel_rfl) Try.func50 rfl Try.ntmps50 rfl (leb rfl) fun W ok => ?_
  unfold p_Weight_b at h0
  refine AC.seq ?_
  refine AC.region ?_
  refine AO.op rfl (AOp.box rfl rfl (ltb rfl) rfl rfl ?_)
  refine AO.op rfl (AOp.assign rfl rfl (ltb rfl) rfl ?_)
  refine AO.nil ?_
  change AC _ _ _ _
  refine AC.seq ?_
  refine AC.region ?_
  refine AO.op rfl (AOp.fieldAddr rfl rfl (ltb rfl) rfl fo28_3 ?_)
  refine AO.op rfl (AOp.load1 rfl rfl (ltb rfl) rfl agg22 rfl rfl ?_)
  refine AO.op rfl (AOp.lenDs (n := a0.Flat.length) (cells := (List.map keS0 a0.Flat)) rfl rfl (ltb rfl) rfl el22 (by decide) (len1 _ _) ?_)
  obtain ⟨q1, h0⟩ := need_elim h0
  refine AO.op rfl (AOp.iadd rfl rfl (ltb rfl) rfl rfl rfl q1.1 q1.2 ?_)
  refine AO.op rfl (AOp.fieldAddr rfl rfl (ltb rfl) rfl fo28_4 ?_)
  refine AO.op rfl (AOp.load1 rfl rfl (ltb rfl) rfl agg25 rfl rfl ?_)
  refine AO.op rfl (AOp.lenDs (n := a0.Ends.length) (cells := (List.map keS1 a0.Ends)) rfl rfl (ltb rfl) rfl el25 (by decide) (len1 _ _) ?_)
  obtain ⟨q2, h0⟩ := need_elim h0
  refine AO.op rfl (AOp.iadd rfl rfl (ltb rfl) rfl rfl rfl q2.1 q2.2 ?_)
  refine AO.op rfl (AOp.assign rfl rfl (ltb rfl) rfl ?_)
  refine AO.nil ?_
  change AC _ _ _ _
  refine AC.seq ?_
  refine AC.seq ?_
  refine AC.region ?_
  refine AO.op rfl (AOp.fieldAddr rfl rfl (ltb rfl) rfl fo28_5 ?_)
  refine AO.op rfl (AOp.load1 rfl rfl (ltb rfl) rfl agg23 rfl rfl ?_)
  refine AO.op rfl (AOp.lenDs (n := a0.Endss.length) (cells := (List.map keS3 a0.Endss)) rfl rfl (ltb rfl) rfl el23 (by decide) (len1 _ _) ?_)
  refine AO.op rfl (AOp.move rfl rfl (ltb rfl) rfl ?_)
  refine AO.nil ?_
  change AC _ _ _ _
  obtain ⟨o3, l4, h0⟩ := bind_elim h0
  refine AC.joinE (V := Int) [1, 2] [5] 1 (fun g5 => [(5, .d (di .i64 g5))]) (fun g5 => [.fix 28 [.d (di .i64 a0.Kind), .d (di .i64 a0.Layout), .d (di .i64 a0.SRID), .d (eS0 a0.Flat), .d (eS1 a0.Ends), .d (eS3 a0.Endss), .d (eS2 a0.Kids)]]) (fun g5 => (p_Weight_k1 a0 a1 F Rec_) g5 = some r0) rfl ?_ ?_
  · refine AC.block ?_
    refine AC.loopP (V := (Int × Int)) (p_Weight_l4 a0) o3 [1, 2, 19, 20] [5, 21] 1 (fun g21 => [(5, .d (di .i64 g21.1)), (21, .d (di .i64 g21.2))]) (fun g21 => [.fix 28 [.d (di .i64 a0.Kind), .d (di .i64 a0.Layout), .d (di .i64 a0.SRID), .d (eS0 a0.Flat), .d (eS1 a0.Ends), .d (eS3 a0.Endss), .d (eS2 a0.Kids)]]) F ((((1 : Int) + ((a0.Flat.length : Nat) : Int)) + ((a0.Ends.length : Nat) : Int)), (0 : Int)) l4 rfl rfl (LeL.refl _) rfl rfl ?_
    intro n23 g21 h1
    unfold p_Weight_l4 at h1
    refine AC.seq ?_
    refine AC.region ?_
    refine AO.op rfl (AOp.ilss rfl rfl (ltb rfl) rfl rfl ?_)
    refine AO.nil ?_
    change AC _ _ _ _
    refine AC.seq ?_
    refine AC.cond rfl (fun q24 => ?_) (fun q24 => ?_)
    · replace h1 := cT h1 q24
      refine AC.skip ?_
      change AC _ _ _ _
      refine AC.seq ?_
      refine AC.block ?_
      refine AC.seq ?_
      refine AC.region ?_
      obtain ⟨x25, q26, h1⟩ := idx_elim h1
      refine AO.op rfl (AOp.indexDs (cells := (List.map keS3 a0.Endss)) rfl rfl (ltb rfl) rfl rfl el23 (by decide) q26.1 (lt1 q26.2) ?_)
      refine AO.op rfl (AOp.loadEp rfl rfl (ltb rfl) rfl agg25 (at1 q26.2) ?_)
      refine AO.op rfl (AOp.assign rfl rfl (ltb rfl) rfl ?_)
      refine AO.nil ?_
      change AC _ _ _ _
      refine AC.region ?_
      refine AO.op rfl (AOp.move rfl rfl (ltb rfl) rfl ?_)
      refine AO.op rfl (AOp.move rfl rfl (ltb rfl) rfl ?_)
      refine AO.op rfl (AOp.lenDs (n := x25.length) (cells := (List.map keS1 x25)) rfl rfl (ltb rfl) rfl el25 (by decide) (len1 _ _) ?_)
      obtain ⟨q27, h1⟩ := need_elim h1
      refine AO.op rfl (AOp.iadd rfl rfl (ltb rfl) rfl rfl rfl q27.1 q27.2 ?_)
      obtain ⟨q28, h1⟩ := need_elim h1
      refine AO.op rfl (AOp.iadd rfl rfl (ltb rfl) rfl rfl rfl q28.1 q28.2 ?_)
      refine AO.op rfl (AOp.assign rfl rfl (ltb rfl) rfl ?_)
      refine AO.nil ?_
      change AC _ _ _ _
      refine AC.region ?_
      obtain ⟨q29, h1⟩ := need_elim h1
      refine AO.op rfl (AOp.iadd rfl rfl (ltb rfl) rfl rfl rfl q29.1 q29.2 ?_)
      refine AO.op rfl (AOp.move rfl rfl (ltb rfl) rfl ?_)
      refine AO.nil ?_
      exact ⟨((g21.1 + ((1 : Int) + ((x25.length : Nat) : Int))), (g21.2 + (1 : Int))), _, rfl, (LeL.refl _), rfl, rfl, h1⟩
    · replace h1 := cF h1 q24
      refine AC.exit ?_
      obtain rfl := Option.some.inj h1
      exact ⟨g21.1, _, rfl, (LeL.refl _), rfl, rfl, aftL h0⟩
  · intro g5 h0
    unfold p_Weight_k1 at h0
    change AC _ _ _ _
    refine AC.seq ?_
    refine AC.seq ?_
    refine AC.region ?_
    refine AO.op rfl (AOp.fieldAddr rfl rfl (ltb rfl) rfl fo28_6 ?_)
    refine AO.op rfl (AOp.load1 rfl rfl (ltb rfl) rfl agg26 rfl rfl ?_)
    refine AO.op rfl (AOp.lenDs (n := a0.Kids.length) (cells := (List.flatMap c0_TImpl_Geom a0.Kids)) rfl rfl (ltb rfl) rfl el26 (by decide) (lenN _ 7 c0_TImpl_Geom_len _) ?_)
    refine AO.op rfl (AOp.move rfl rfl (ltb rfl) rfl ?_)
    refine AO.nil ?_
    change AC _ _ _ _
    obtain ⟨o6, l7, h0⟩ := bind_elim h0
    refine AC.joinE (V := Int) [] [5] 1 (fun g8 => [(5, .d (di .i64 g8))]) (fun g8 => [.fix 28 [.d (di .i64 a0.Kind), .d (di .i64 a0.Layout), .d (di .i64 a0.SRID), .d (eS0 a0.Flat), .d (eS1 a0.Ends), .d (eS3 a0.Endss), .d (eS2 a0.Kids)]]) (fun g8 => p_Weight_k2 g8 = some r0) rfl ?_ ?_
    · refine AC.block ?_
      refine AC.loopP (V := (Int × Int)) (p_Weight_l3 a0 a1 Rec_) o6 [1, 32, 33] [5, 34] 1 (fun g9 => [(5, .d (di .i64 g9.1)), (34, .d (di .i64 g9.2))]) (fun g9 => [.fix 28 [.d (di .i64 a0.Kind), .d (di .i64 a0.Layout), .d (di .i64 a0.SRID), .d (eS0 a0.Flat), .d (eS1 a0.Ends), .d (eS3 a0.Endss), .d (eS2 a0.Kids)]]) F (g5, (0 : Int)) l7 rfl rfl (LeL.refl _) rfl rfl ?_
      intro n11 g9 h1
      unfold p_Weight_l3 at h1
      refine AC.seq ?_
      refine AC.region ?_
      refine AO.op rfl (AOp.ilss rfl rfl (ltb rfl) rfl rfl ?_)
      refine AO.nil ?_
      change AC _ _ _ _
      refine AC.seq ?_
      refine AC.cond rfl (fun q12 => ?_) (fun q12 => ?_)
      · replace h1 := cT h1 q12
        refine AC.skip ?_
        change AC _ _ _ _
        refine AC.seq ?_
        refine AC.block ?_
        refine AC.seq ?_
        refine AC.region ?_
        obtain ⟨x13, q14, h1⟩ := idx_elim h1
        refine AO.op rfl (AOp.indexDs (cells := (List.flatMap c0_TImpl_Geom a0.Kids)) rfl rfl (ltb rfl) rfl rfl el26 (by decide) q14.1 (ltN 7 c0_TImpl_Geom_len (by decide) q14.2) ?_)
        refine AO.op rfl (AOp.loadEpN rfl rfl (ltb rfl) rfl agg28 size28 (leN 7 c0_TImpl_Geom_len q14.2) ((atN 7 c0_TImpl_Geom_len q14.2).trans (c0_TImpl_Geom_eq x13)) ?_)
        refine AO.op rfl (AOp.alloc rfl rfl (ltb rfl) zero28 rfl ?_)
        refine AO.op rfl (AOp.store rfl rfl rfl rfl size28 rfl rfl rfl (leb rfl) ?_)
        refine AO.nil ?_
        change AC _ _ _ _
        refine AC.seq ?_
        refine AC.seq ?_
        refine AC.region ?_
        refine AO.op rfl (AOp.move rfl rfl (ltb rfl) rfl ?_)
        refine AO.op rfl (AOp.move rfl rfl (ltb rfl) rfl ?_)
        refine AO.op rfl (AOp.igtr rfl rfl (ltb rfl) rfl rfl ?_)
        refine AO.nil ?_
        change AC _ _ _ _
        refine AC.cond rfl (fun q15 => ?_) (fun q15 => ?_)
        · replace h1 := cT h1 q15
          refine AC.seq ?_
          refine AC.region ?_
          refine AO.op rfl (AOp.move rfl rfl (ltb rfl) rfl ?_)
          refine AO.op rfl (AOp.assign rfl rfl (ltb rfl) rfl ?_)
          refine AO.nil ?_
          change AC _ _ _ _
          refine AC.ret ?_
          change RetQ _ _ _ .ret _
          obtain rfl := Option.some.inj h1
          replace h0 := aftR h0
          obtain rfl := Option.some.inj h0
          refine retq rfl rfl
        · replace h1 := cF h1 q15
          refine AC.skip ?_
          change AC _ _ _ _
          refine AC.region ?_
          refine AO.op rfl (AOp.move rfl rfl (ltb rfl) rfl ?_)
          refine AO.op rfl (AOp.loadN rfl rfl (ltb rfl) rfl agg28 size28 rfl (leb rfl) rfl ?_)
          refine AO.op rfl (AOp.move rfl rfl (ltb rfl) rfl ?_)
          refine AO.op rfl (AOp.move rfl rfl (ltb rfl) rfl ?_)
          obtain ⟨q16, h1⟩ := need_elim h1
          refine AO.op rfl (AOp.isub rfl rfl (ltb rfl) rfl rfl rfl q16.1 q16.2 ?_)
          obtain ⟨y17, q18, h1⟩ := bind_elim h1
          refine AO.op rfl (AOp.callD rfl rfl (ltb rfl) rfl rfl (hR x13 (a1 - g9.1) y17 q18) ?_)
          rintro _ rfl
          obtain ⟨q19, h1⟩ := need_elim h1
          refine AO.op rfl (AOp.iadd rfl rfl (ltb rfl) rfl rfl rfl q19.1 q19.2 ?_)
          refine AO.op rfl (AOp.assign rfl rfl (ltb rfl) rfl ?_)
          refine AO.nil ?_
          change AC _ _ _ _
          refine AC.region ?_
          obtain ⟨q20, h1⟩ := need_elim h1
          refine AO.op rfl (AOp.iadd rfl rfl (ltb rfl) rfl rfl rfl q20.1 q20.2 ?_)
          refine AO.op rfl (AOp.move rfl rfl (ltb rfl) rfl ?_)
          refine AO.nil ?_
          exact ⟨((g9.1 + y17), (g9.2 + (1 : Int))), _, rfl, (LeL.refl _), rfl, rfl, h1⟩
      · replace h1 := cF h1 q12
        refine AC.exit ?_
        obtain rfl := Option.some.inj h1
        exact ⟨g9.1, _, rfl, (LeL.refl _), rfl, rfl, aftL h0⟩
    · intro g8 h0
      unfold p_Weight_k2 at h0
      change AC _ _ _ _
      refine AC.seq ?_
      refine AC.region ?_
      refine AO.op rfl (AOp.move rfl rfl (ltb rfl) rfl ?_)
      refine AO.op rfl (AOp.assign rfl rfl (ltb rfl) rfl ?_)
      refine AO.nil ?_
      change AC _ _ _ _
      refine AC.ret ?_
      change RetQ _ _ _ .ret _
      obtain rfl := Option.some.inj h0
      refine retq rfl rfl
theorem w_Weight : ∀ (F : Nat) (a0 : TImpl_Geom) (a1 : Int) (r0 : Int), p_Weight F a0 a1 = some r0 → FnD Try.prog 50 [e_TImpl_Geom a0, di .i64 a1] (fun r => r = di .i64 r0)
  | 0, _, _, _, h => by cases h
  | F + 1, a0, a1, r0, h => w_Weight_b _ (fun a0 a1 r0 h => w_Weight F a0 a1 r0 h) F a0 a1 r0 h

set_option maxRecDepth 100000 in
set_option maxHeartbeats 1000000 in
/-- pub-orthodrome/laws.gLayouts -/
theorem w_gLayouts_b (Rec_ : TImpl_Geom → Int → Option Bool) (hR : ∀ (a0 : TImpl_Geom) (a1 : Int) (r0 : Bool), Rec_ a0 a1 = some r0 → FnD Try.prog 51 [e_TImpl_Geom a0, di .i64 a1] (fun r => r = dbool r0)) (F : Nat) (a0 : TImpl_Geom) (a1 : Int) (r0 : Bool) (h0 : p_gLayouts_b Rec_ F a0 a1 = some r0) : FnD Try.prog 51 [e_TImpl_Geom a0, di .i64 a1] (fun r => r = dbool r0) := by
  refine FnD.of (by kernel_rfl) Try.func51 rfl Try.ntmps51 rfl (leb rfl) fun W ok => ?_
  unfold p_gLayouts_b at h0
  refine AC.seq ?_
  refine AC.region ?_
  refine AO.op rfl (AOp.box rfl rfl (ltb rfl) rfl rfl ?_)
  refine AO.op rfl (AOp.assign rfl rfl (ltb rfl) rfl ?_)
  refine AO.nil ?_
  change AC _ _ _ _
  refine AC.seq ?_
  refine AC.seq ?_
  refine AC.region ?_
  refine AO.op rfl (AOp.fieldAddr rfl rfl (ltb rfl) rfl fo28_6 ?_)
  refine AO.op rfl (AOp.load1 rfl rfl (ltb rfl) rfl agg26 rfl rfl ?_)
  refine AO.op rfl (AOp.lenDs (n := a0.Kids.length) (cells := (List.flatMap c0_TImpl_Geom a0.Kids)) rfl rfl (ltb rfl) rfl el26 (by decide) (lenN _ 7 c0_TImpl_Geom_len _) ?_)
  refine AO.op rfl (AOp.move rfl rfl (ltb rfl) rfl ?_)
  refine AO.nil ?_
  change AC _ _ _ _
  obtain ⟨o1, l2, h0⟩ := bind_elim h0
  refine AC.joinE (V := Unit) [1, 2] [] 1 (fun g3 => []) (fun g3 => [.fix 28 [.d (di .i64 a0.Kind), .d (di .i64 a0.Layout), .d (di .i64 a0.SRID), .d (eS0 a0.Flat), .d (eS1 a0.Ends), .d (eS3 a0.Endss), .d (eS2 a0.Kids)]]) (fun g3 => (p_gLayouts_k1 a0 a1) g3 = some r0) rfl ?_ ?_
  · refine AC.block ?_
    refine AC.loopP (V := Int) (p_gLayouts_l2 a0 a1 Rec_) o1 [1, 2, 8, 9] [10] 1 (fun g7 => [(10, .d (di .i64 g7))]) (fun g7 => [.fix 28 [.d (di .i64 a0.Kind), .d (di .i64 a0.Layout), .d (di .i64 a0.SRID), .d (eS0 a0.Flat), .d (eS1 a0.Ends), .d (eS3 a0.Endss), .d (eS2 a0.Kids)]]) F (0 : Int) l2 rfl rfl (LeL.refl _) rfl rfl ?_
    intro n9 g7 h1
    unfold p_gLayouts_l2 at h1
    refine AC.seq ?_
    refine AC.region ?_
    refine AO.op rfl (AOp.ilss rfl rfl (ltb rfl) rfl rfl ?_)
    refine AO.nil ?_
    change AC _ _ _ _
    refine AC.seq ?_
    refine AC.cond rfl (fun q10 => ?_) (fun q10 => ?_)
    · replace h1 := cT h1 q10
      refine AC.skip ?_
      change AC _ _ _ _
      refine AC.seq ?_
      refine AC.block ?_
      refine AC.seq ?_
      refine AC.region ?_
      obtain ⟨x11, q12, h1⟩ := idx_elim h1
      refine AO.op rfl (AOp.indexDs (cells := (List.flatMap c0_TImpl_Geom a0.Kids)) rfl rfl (ltb rfl) rfl rfl el26 (by decide) q12.1 (ltN 7 c0_TImpl_Geom_len (by decide) q12.2) ?_)
      refine AO.op rfl (AOp.loadEpN rfl rfl (ltb rfl) rfl agg28 size28 (leN 7 c0_TImpl_Geom_len q12.2) ((atN 7 c0_TImpl_Geom_len q12.2).trans (c0_TImpl_Geom_eq x11)) ?_)
      refine AO.op rfl (AOp.alloc rfl rfl (ltb rfl) zero28 rfl ?_)
      refine AO.op rfl (AOp.store rfl rfl rfl rfl size28 rfl rfl rfl (leb rfl) ?_)
      refine AO.nil ?_
      change AC _ _ _ _
      refine AC.seq ?_
      refine AC.region ?_
      refine AO.op rfl (AOp.loadN rfl rfl (ltb rfl) rfl agg28 size28 rfl (leb rfl) rfl ?_)
      refine AO.op rfl (AOp.move rfl rfl (ltb rfl) rfl ?_)
      obtain ⟨y13, q14, h1⟩ := bind_elim h1
      refine AO.op rfl (AOp.callD rfl rfl (ltb rfl) rfl rfl (hR x11 a1 y13 q14) ?_)
      rintro _ rfl
      refine AO.op rfl (AOp.bnot rfl rfl (ltb rfl) rfl ?_)
      refine AO.nil ?_
      change AC _ _ _ _
      refine AC.cond rfl (fun q15 => ?_) (fun q15 => ?_)
      · replace h1 := cT h1 q15
        refine AC.seq ?_
        refine AC.region ?_
        refine AO.op rfl (AOp.assign rfl rfl (ltb rfl) rfl ?_)
        refine AO.nil ?_
        change AC _ _ _ _
        refine AC.ret ?_
        change RetQ _ _ _ .ret _
        obtain rfl := Option.some.inj h1
        replace h0 := aftR h0
        obtain rfl := Option.some.inj h0
        refine retq rfl rfl
      · replace h1 := cF h1 q15
        refine AC.skip ?_
        change AC _ _ _ _
        refine AC.region ?_
        obtain ⟨q16, h1⟩ := need_elim h1
        refine AO.op rfl (AOp.iadd rfl rfl (ltb rfl) rfl rfl rfl q16.1 q16.2 ?_)
        refine AO.op rfl (AOp.move rfl rfl (ltb rfl) rfl ?_)
        refine AO.nil ?_
        exact ⟨(g7 + (1 : Int)), _, rfl, (LeL.refl _), rfl, rfl, h1⟩
    · replace h1 := cF h1 q10
      refine AC.exit ?_
      obtain rfl := Option.some.inj h1
      exact ⟨(), _, rfl, (LeL.refl _), rfl, rfl, aftL h0⟩
  · intro g3 h0
    unfold p_gLayouts_k1 at h0
    change AC _ _ _ _
    refine AC.seq ?_
    refine AC.region ?_
    refine AO.op rfl (AOp.fieldAddr rfl rfl (ltb rfl) rfl fo28_1 ?_)
    refine AO.op rfl (AOp.load1 rfl rfl (ltb rfl) rfl agg3 rfl rfl ?_)
    refine AO.op rfl (AOp.move rfl rfl (ltb rfl) rfl ?_)
    refine AO.op rfl (AOp.ileq rfl rfl (ltb rfl) rfl rfl ?_)
    refine AO.op rfl (AOp.move rfl rfl (ltb rfl) rfl ?_)
    refine AO.dec (decide (a0.Layout ≤ a1)) (fun q4 => ?_) (fun q4 => ?_)
    · replace h0 := cT h0 q4
      refine AO.guardY rfl rfl rfl q4 (AOp.fieldAddr rfl rfl (ltb rfl) rfl fo28_1 ?_)
      refine AO.guardY rfl rfl rfl q4 (AOp.load1 rfl rfl (ltb rfl) rfl agg3 rfl rfl ?_)
      refine AO.guardY rfl rfl rfl q4 (AOp.igeq rfl rfl (ltb rfl) rfl rfl ?_)
      refine AO.guardY rfl rfl rfl q4 (AOp.move rfl rfl (ltb rfl) rfl ?_)
      refine AO.dec (decide ((1 : Int) ≤ a0.Layout)) (fun q5 => ?_) (fun q5 => ?_)
      · replace h0 := cT h0 q5
        refine AO.guardN rfl rfl rfl (ltb rfl) rfl q5 ?_
        refine AO.guardN rfl rfl rfl (ltb rfl) rfl q5 ?_
        refine AO.guardN rfl rfl rfl (ltb rfl) rfl q5 ?_
        refine AO.guardN rfl rfl rfl (ltb rfl) rfl q5 ?_
        refine AO.guardU rfl rfl rfl (ltb rfl) rfl ?_
        refine AO.guardU rfl rfl rfl (ltb rfl) rfl ?_
        refine AO.guardU rfl rfl rfl (ltb rfl) rfl ?_
        refine AO.guardN rfl rfl rfl (ltb rfl) rfl q5 ?_
        refine AO.guardY rfl rfl rfl q4 (AOp.pick rfl rfl (ltb rfl) rfl q5 rfl ?_)
        refine AO.op rfl (AOp.pick rfl rfl (ltb rfl) rfl q4 rfl ?_)
        refine AO.op rfl (AOp.assign rfl rfl (ltb rfl) rfl ?_)
        refine AO.nil ?_
        change AC _ _ _ _
        refine AC.ret ?_
        change RetQ _ _ _ .ret _
        obtain rfl := Option.some.inj h0
        refine retq rfl rfl
      · replace h0 := cF h0 q5
        refine AO.guardY rfl rfl rfl q5 (AOp.fieldAddr rfl rfl (ltb rfl) rfl fo28_0 ?_)
        refine AO.guardY rfl rfl rfl q5 (AOp.load1 rfl rfl (ltb rfl) rfl agg3 rfl rfl ?_)
        refine AO.guardY rfl rfl rfl q5 (AOp.ieql rfl rfl (ltb rfl) rfl rfl ?_)
        refine AO.guardY rfl rfl rfl q5 (AOp.move rfl rfl (ltb rfl) rfl ?_)
        refine AO.dec (decide (a0.Kind = (7 : Int))) (fun q6 => ?_) (fun q6 => ?_)
        · replace h0 := cT h0 q6
          refine AO.guardY rfl rfl rfl q6 (AOp.fieldAddr rfl rfl (ltb rfl) rfl fo28_1 ?_)
          refine AO.guardY rfl rfl rfl q6 (AOp.load1 rfl rfl (ltb rfl) rfl agg3 rfl rfl ?_)
          refine AO.guardY rfl rfl rfl q6 (AOp.igeq rfl rfl (ltb rfl) rfl rfl ?_)
          refine AO.guardY rfl rfl rfl q5 (AOp.pick rfl rfl (ltb rfl) rfl q6 rfl ?_)
          refine AO.guardY rfl rfl rfl q4 (AOp.pickN rfl rfl (ltb rfl) rfl q5 rfl ?_)
          refine AO.op rfl (AOp.pick rfl rfl (ltb rfl) rfl q4 rfl ?_)
          refine AO.op rfl (AOp.assign rfl rfl (ltb rfl) rfl ?_)
          refine AO.nil ?_
          change AC _ _ _ _
          refine AC.ret ?_
          change RetQ _ _ _ .ret _
          obtain rfl := Option.some.inj h0
          refine retq rfl rfl
        · replace h0 := cF h0 q6
          refine AO.guardN rfl rfl rfl (ltb rfl) rfl q6 ?_
          refine AO.guardN rfl rfl rfl (ltb rfl) rfl q6 ?_
          refine AO.guardN rfl rfl rfl (ltb rfl) rfl q6 ?_
          refine AO.guardY rfl rfl rfl q5 (AOp.pickN rfl rfl (ltb rfl) rfl q6 rfl ?_)
          refine AO.guardY rfl rfl rfl q4 (AOp.pickN rfl rfl (ltb rfl) rfl q5 rfl ?_)
          refine AO.op rfl (AOp.pick rfl rfl (ltb rfl) rfl q4 rfl ?_)
          refine AO.op rfl (AOp.assign rfl rfl (ltb rfl) rfl ?_)
          refine AO.nil ?_
          change AC _ _ _ _
          refine AC.ret ?_
          change RetQ _ _ _ .ret _
          obtain rfl := Option.some.inj h0
          refine retq rfl rfl
    · replace h0 := cF h0 q4
      refine AO.guardN rfl rfl rfl (ltb rfl) rfl q4 ?_
      refine AO.guardN rfl rfl rfl (ltb rfl) rfl q4 ?_
      refine AO.guardN rfl rfl rfl (ltb rfl) rfl q4 ?_
      refine AO.guardN rfl rfl rfl (ltb rfl) rfl q4 ?_
      refine AO.guardU rfl rfl rfl (ltb rfl) rfl ?_
      refine AO.guardU rfl rfl rfl (ltb rfl) rfl ?_
      refine AO.guardU rfl rfl rfl (ltb rfl) rfl ?_
      refine AO.guardU rfl rfl rfl (ltb rfl) rfl ?_
      refine AO.guardU rfl rfl rfl (ltb rfl) rfl ?_
      refine AO.guardU rfl rfl rfl (ltb rfl) rfl ?_
      refine AO.guardU rfl rfl rfl (ltb rfl) rfl ?_
      refine AO.guardU rfl rfl rfl (ltb rfl) rfl ?_
      refine AO.guardN rfl rfl rfl (ltb rfl) rfl q4 ?_
      refine AO.op rfl (AOp.pickN rfl rfl (ltb rfl) rfl q4 rfl ?_)
      refine AO.op rfl (AOp.assign rfl rfl (ltb rfl) rfl ?_)
      refine AO.nil ?_
      change AC _ _ _ _
      refine AC.ret ?_
      change RetQ _ _ _ .ret _
      obtain rfl := Option.some.inj h0
      refine retq rfl rfl
theorem w_gLayouts : ∀ (F : Nat) (a0 : TImpl_Geom) (a1 : Int) (r0 : Bool), p_gLayouts F a0 a1 = some r0 → FnD Try.prog 51 [e_TImpl_Geom a0, di .i64 a1] (fun r => r = dbool r0)
  | 0, _, _, _, h => by cases h
  | F + 1, a0, a1, r0, h => w_gLayouts_b _ (fun a0 a1 r0 h => w_gLayouts F a0 a1 r0 h) F a0 a1 r0 h

set_option maxRecDepth 100000 in
set_option maxHeartbeats 1000000 in
/-- pub-orthodrome/laws.gSmall -/
theorem w_gSmall (F : Nat) (a0 : (List TImpl_Geom)) (r0 : Bool) (h0 : p_gSmall F a0 = some r0) : FnD Try.prog 39 [eS2 a0] (fun r => r = dbool r0) := by
  refine FnD.of (by kernel_rfl) Try.func39 rfl Try.ntmps39 rfl (leb rfl) fun W ok => ?_
  unfold p_gSmall at h0
  refine AC.seq ?_
  refine AC.region ?_
  refine AO.op rfl (AOp.assign rfl rfl (ltb rfl) rfl ?_)
  refine AO.nil ?_
  change AC _ _ _ _
  refine AC.seq ?_
  refine AC.region ?_
  refine AO.op rfl (AOp.assign rfl rfl (ltb rfl) rfl ?_)
  refine AO.nil ?_
  change AC _ _ _ _
  refine AC.seq ?_
  refine AC.seq ?_
  refine AC.region ?_
  refine AO.op rfl (AOp.move rfl rfl (ltb rfl) rfl ?_)
  refine AO.op rfl (AOp.lenDs (n := a0.length) (cells := (List.flatMap c0_TImpl_Geom a0)) rfl rfl (ltb rfl) rfl el26 (by decide) (lenN _ 7 c0_TImpl_Geom_len _) ?_)
  refine AO.op rfl (AOp.move rfl rfl (ltb rfl) rfl ?_)
  refine AO.nil ?_
  change AC _ _ _ _
  obtain ⟨o1, l2, h0⟩ := bind_elim h0
  refine AC.joinE (V := Unit) [] [] 0 (fun g3 => []) (fun g3 => []) (fun g3 => p_gSmall_k1 g3 = some r0) rfl ?_ ?_
  · refine AC.block ?_
    refine AC.loopP (V := (Int × Int)) (p_gSmall_l2 a0 F) o1 [6, 7] [3, 8] 0 (fun g4 => [(3, .d (di .i64 g4.1)), (8, .d (di .i64 g4.2))]) (fun g4 => []) F ((2000 : Int), (0 : Int)) l2 rfl rfl (LeL.refl _) rfl rfl ?_
    intro n6 g4 h1
    unfold p_gSmall_l2 at h1
    refine AC.seq ?_
    refine AC.region ?_
    refine AO.op rfl (AOp.ilss rfl rfl (ltb rfl) rfl rfl ?_)
    refine AO.nil ?_
    change AC _ _ _ _
    refine AC.seq ?_
    refine AC.cond rfl (fun q7 => ?_) (fun q7 => ?_)
    · replace h1 := cT h1 q7
      refine AC.skip ?_
      change AC _ _ _ _
      refine AC.seq ?_
      refine AC.block ?_
      refine AC.seq ?_
      refine AC.region ?_
      obtain ⟨x8, q9, h1⟩ := idx_elim h1
      refine AO.op rfl (AOp.indexDs (cells := (List.flatMap c0_TImpl_Geom a0)) rfl rfl (ltb rfl) rfl rfl el26 (by decide) q9.1 (ltN 7 c0_TImpl_Geom_len (by decide) q9.2) ?_)
      refine AO.op rfl (AOp.loadEpN rfl rfl (ltb rfl) rfl agg28 size28 (leN 7 c0_TImpl_Geom_len q9.2) ((atN 7 c0_TImpl_Geom_len q9.2).trans (c0_TImpl_Geom_eq x8)) ?_)
      refine AO.op rfl (AOp.alloc rfl rfl (ltb rfl) zero28 rfl ?_)
      refine AO.op rfl (AOp.store rfl rfl rfl rfl size28 rfl rfl rfl (leb rfl) ?_)
      refine AO.nil ?_
      change AC _ _ _ _
      refine AC.seq ?_
      refine AC.region ?_
      refine AO.op rfl (AOp.move rfl rfl (ltb rfl) rfl ?_)
      refine AO.op rfl (AOp.loadN rfl rfl (ltb rfl) rfl agg28 size28 rfl (leb rfl) rfl ?_)
      refine AO.op rfl (AOp.move rfl rfl (ltb rfl) rfl ?_)
      obtain ⟨y10, q11, h1⟩ := bind_elim h1
      refine AO.op rfl (AOp.callD rfl rfl (ltb rfl) rfl rfl (w_Weight F x8 g4.1 y10 q11) ?_)
      rintro _ rfl
      obtain ⟨q12, h1⟩ := need_elim h1
      refine AO.op rfl (AOp.isub rfl rfl (ltb rfl) rfl rfl rfl q12.1 q12.2 ?_)
      refine AO.op rfl (AOp.assign rfl rfl (ltb rfl) rfl ?_)
      refine AO.nil ?_
      change AC _ _ _ _
      refine AC.seq ?_
      refine AC.region ?_
      refine AO.op rfl (AOp.move rfl rfl (ltb rfl) rfl ?_)
      refine AO.op rfl (AOp.ilss rfl rfl (ltb rfl) rfl rfl ?_)
      refine AO.op rfl (AOp.move rfl rfl (ltb rfl) rfl ?_)
      refine AO.dec (decide ((g4.1 - y10) < (0 : Int))) (fun q13 => ?_) (fun q13 => ?_)
      · replace h1 := cT h1 q13
        refine AO.guardN rfl rfl rfl (ltb rfl) rfl q13 ?_
        refine AO.guardN rfl rfl rfl (ltb rfl) rfl q13 ?_
        refine AO.guardN rfl rfl rfl (ltb rfl) rfl q13 ?_
        refine AO.op rfl (AOp.pick rfl rfl (ltb rfl) rfl q13 rfl ?_)
        refine AO.nil ?_
        change AC _ _ _ _
        refine AC.condT rfl rfl ?_
        refine AC.seq ?_
        refine AC.region ?_
        refine AO.op rfl (AOp.assign rfl rfl (ltb rfl) rfl ?_)
        refine AO.nil ?_
        change AC _ _ _ _
        refine AC.ret ?_
        change RetQ _ _ _ .ret _
        obtain rfl := Option.some.inj h1
        replace h0 := aftR h0
        obtain rfl := Option.some.inj h0
        refine retq rfl rfl
      · replace h1 := cF h1 q13
        refine AO.guardY rfl rfl rfl q13 (AOp.loadN rfl rfl (ltb rfl) rfl agg28 size28 rfl (leb rfl) rfl ?_)
        obtain ⟨y14, q15, h1⟩ := bind_elim h1
        refine AO.guardY rfl rfl rfl q13 (AOp.callD rfl rfl (ltb rfl) rfl rfl (w_gLayouts F x8 (9 : Int) y14 q15) ?_)
        rintro _ rfl
        refine AO.guardY rfl rfl rfl q13 (AOp.bnot rfl rfl (ltb rfl) rfl ?_)
        refine AO.op rfl (AOp.pickN rfl rfl (ltb rfl) rfl q13 rfl ?_)
        refine AO.nil ?_
        change AC _ _ _ _
        refine AC.cond rfl (fun q16 => ?_) (fun q16 => ?_)
        · replace h1 := cT h1 q16
          refine AC.seq ?_
          refine AC.region ?_
          refine AO.op rfl (AOp.assign rfl rfl (ltb rfl) rfl ?_)
          refine AO.nil ?_
          change AC _ _ _ _
          refine AC.ret ?_
          change RetQ _ _ _ .ret _
          obtain rfl := Option.some.inj h1
          replace h0 := aftR h0
          obtain rfl := Option.some.inj h0
          refine retq rfl rfl
        · replace h1 := cF h1 q16
          refine AC.skip ?_
          change AC _ _ _ _
          refine AC.region ?_
          obtain ⟨q17, h1⟩ := need_elim h1
          refine AO.op rfl (AOp.iadd rfl rfl (ltb rfl) rfl rfl rfl q17.1 q17.2 ?_)
          refine AO.op rfl (AOp.move rfl rfl (ltb rfl) rfl ?_)
          refine AO.nil ?_
          exact ⟨((g4.1 - y10), (g4.2 + (1 : Int))), _, rfl, (LeL.refl _), rfl, rfl, h1⟩
    · replace h1 := cF h1 q7
      refine AC.exit ?_
      obtain rfl := Option.some.inj h1
      exact ⟨(), _, rfl, (LeL.refl _), rfl, rfl, aftL h0⟩
  · intro g3 h0
    unfold p_gSmall_k1 at h0
    change AC _ _ _ _
    refine AC.seq ?_
    refine AC.region ?_
    refine AO.op rfl (AOp.assign rfl rfl (ltb rfl) rfl ?_)
    refine AO.nil ?_
    change AC _ _ _ _
    refine AC.ret ?_
    change RetQ _ _ _ .ret _
    obtain rfl := Option.some.inj h0
    refine retq rfl rfl

set_option maxRecDepth 100000 in
set_option maxHeartbeats 1000000 in
/-- pub-orthodrome/spec.Stride -/
theorem w_Stride (a0 : Int) (r0 : Int) (h0 : p_Stride a0 = some r0) : FnD Try.prog 27 [di .i64 a0] (fun r => r = di .i64 r0) := by
  refine FnD.of (by kernel_rfl) Try.func27 rfl Try.ntmps27 rfl (leb rfl) fun W ok => ?_
  unfold p_Stride at h0
  refine AC.seq ?_
  refine AC.region ?_
  refine AO.op rfl (AOp.assign rfl rfl (ltb rfl) rfl ?_)
  refine AO.nil ?_
  change AC _ _ _ _
  refine AC.seq ?_
  refine AC.block ?_
  refine AC.seq ?_
  refine AC.region ?_
  refine AO.op rfl (AOp.move rfl rfl (ltb rfl) rfl ?_)
  refine AO.op rfl (AOp.ilss rfl rfl (ltb rfl) rfl rfl ?_)
  refine AO.op rfl (AOp.assign rfl rfl (ltb rfl) rfl ?_)
  refine AO.nil ?_
  change AC _ _ _ _
  refine AC.cond rfl (fun q1 => ?_) (fun q1 => ?_)
  · replace h0 := cT h0 q1
    refine AC.seq ?_
    refine AC.region ?_
    refine AO.op rfl (AOp.assign rfl rfl (ltb rfl) rfl ?_)
    refine AO.nil ?_
    change AC _ _ _ _
    refine AC.ret ?_
    change RetQ _ _ _ .ret _
    obtain rfl := Option.some.inj h0
    refine retq rfl rfl
  · replace h0 := cF h0 q1
    refine AC.seq ?_
    refine AC.region ?_
    refine AO.op rfl (AOp.move rfl rfl (ltb rfl) rfl ?_)
    refine AO.op rfl (AOp.ieql rfl rfl (ltb rfl) rfl rfl ?_)
    refine AO.op rfl (AOp.assign rfl rfl (ltb rfl) rfl ?_)
    refine AO.nil ?_
    change AC _ _ _ _
    refine AC.cond rfl (fun q2 => ?_) (fun q2 => ?_)
    · replace h0 := cT h0 q2
      refine AC.seq ?_
      refine AC.region ?_
      refine AO.op rfl (AOp.assign rfl rfl (ltb rfl) rfl ?_)
      refine AO.nil ?_
      change AC _ _ _ _
      refine AC.ret ?_
      change RetQ _ _ _ .ret _
      obtain rfl := Option.some.inj h0
      refine retq rfl rfl
    · replace h0 := cF h0 q2
      refine AC.seq ?_
      refine AC.region ?_
      refine AO.op rfl (AOp.move rfl rfl (ltb rfl) rfl ?_)
      refine AO.op rfl (AOp.ieql rfl rfl (ltb rfl) rfl rfl ?_)
      refine AO.op rfl (AOp.move rfl rfl (ltb rfl) rfl ?_)
      refine AO.dec (decide (a0 = (2 : Int))) (fun q3 => ?_) (fun q3 => ?_)
      · replace h0 := cT h0 q3
        refine AO.guardN rfl rfl rfl (ltb rfl) rfl q3 ?_
        refine AO.guardN rfl rfl rfl (ltb rfl) rfl q3 ?_
        refine AO.op rfl (AOp.pick rfl rfl (ltb rfl) rfl q3 rfl ?_)
        refine AO.op rfl (AOp.assign rfl rfl (ltb rfl) rfl ?_)
        refine AO.nil ?_
        change AC _ _ _ _
        refine AC.condT rfl rfl ?_
        refine AC.seq ?_
        refine AC.region ?_
        refine AO.op rfl (AOp.assign rfl rfl (ltb rfl) rfl ?_)
        refine AO.nil ?_
        change AC _ _ _ _
        refine AC.ret ?_
        change RetQ _ _ _ .ret _
        obtain rfl := Option.some.inj h0
        refine retq rfl rfl
      · replace h0 := cF h0 q3
        refine AO.guardY rfl rfl rfl q3 (AOp.move rfl rfl (ltb rfl) rfl ?_)
        refine AO.guardY rfl rfl rfl q3 (AOp.ieql rfl rfl (ltb rfl) rfl rfl ?_)
        refine AO.op rfl (AOp.pickN rfl rfl (ltb rfl) rfl q3 rfl ?_)
        refine AO.op rfl (AOp.assign rfl rfl (ltb rfl) rfl ?_)
        refine AO.nil ?_
        change AC _ _ _ _
        refine AC.cond rfl (fun q4 => ?_) (fun q4 => ?_)
        · replace h0 := cT h0 q4
          refine AC.seq ?_
          refine AC.region ?_
          refine AO.op rfl (AOp.assign rfl rfl (ltb rfl) rfl ?_)
          refine AO.nil ?_
          change AC _ _ _ _
          refine AC.ret ?_
          change RetQ _ _ _ .ret _
          obtain rfl := Option.some.inj h0
          refine retq rfl rfl
        · replace h0 := cF h0 q4
          refine AC.skip ?_
          change AC _ _ _ _
          refine AC.seq ?_
          refine AC.region ?_
          refine AO.op rfl (AOp.move rfl rfl (ltb rfl) rfl ?_)
          refine AO.op rfl (AOp.assign rfl rfl (ltb rfl) rfl ?_)
          refine AO.nil ?_
          change AC _ _ _ _
          refine AC.ret ?_
          change RetQ _ _ _ .ret _
          obtain rfl := Option.some.inj h0
          refine retq rfl rfl

set_option maxRecDepth 100000 in
set_option maxHeartbeats 1000000 in
/-- pub-orthodrome/spec.Cover -/
theorem w_Cover (a0 : Int) (a1 : Int) (r0 : Int) (h0 : p_Cover a0 a1 = some r0) : FnD Try.prog 61 [di .i64 a0, di .i64 a1] (fun r => r = di .i64 r0) := by
  refine FnD.of (by kernel_rfl) Try.func61 rfl Try.ntmps61 rfl (leb rfl) fun W ok => ?_
  unfold p_Cover at h0
  refine AC.seq ?_
  refine AC.region ?_
  refine AO.op rfl (AOp.assign rfl rfl (ltb rfl) rfl ?_)
  refine AO.nil ?_
  change AC _ _ _ _
  refine AC.seq ?_
  refine AC.seq ?_
  refine AC.region ?_
  refine AO.op rfl (AOp.move rfl rfl (ltb rfl) rfl ?_)
  refine AO.op rfl (AOp.ieql rfl rfl (ltb rfl) rfl rfl ?_)
  refine AO.op rfl (AOp.move rfl rfl (ltb rfl) rfl ?_)
  refine AO.dec (decide (a0 = (2 : Int))) (fun q1 => ?_) (fun q1 => ?_)
  · replace h0 := cT h0 q1
    refine AO.guardY rfl rfl rfl q1 (AOp.move rfl rfl (ltb rfl) rfl ?_)
    refine AO.guardY rfl rfl rfl q1 (AOp.ieql rfl rfl (ltb rfl) rfl rfl ?_)
    refine AO.op rfl (AOp.pick rfl rfl (ltb rfl) rfl q1 rfl ?_)
    refine AO.op rfl (AOp.move rfl rfl (ltb rfl) rfl ?_)
    refine AO.dec (decide (a1 = (3 : Int))) (fun q2 => ?_) (fun q2 => ?_)
    · replace h0 := cT h0 q2
      refine AO.guardN rfl rfl rfl (ltb rfl) rfl q2 ?_
      refine AO.guardN rfl rfl rfl (ltb rfl) rfl q2 ?_
      refine AO.guardN rfl rfl rfl (ltb rfl) rfl q2 ?_
      refine AO.guardU rfl rfl rfl (ltb rfl) rfl ?_
      refine AO.guardU rfl rfl rfl (ltb rfl) rfl ?_
      refine AO.guardN rfl rfl rfl (ltb rfl) rfl q2 ?_
      refine AO.op rfl (AOp.pick rfl rfl (ltb rfl) rfl q2 rfl ?_)
      refine AO.nil ?_
      change AC _ _ _ _
      refine AC.condT rfl rfl ?_
      refine AC.seq ?_
      refine AC.region ?_
      refine AO.op rfl (AOp.assign rfl rfl (ltb rfl) rfl ?_)
      refine AO.nil ?_
      change AC _ _ _ _
      refine AC.ret ?_
      change RetQ _ _ _ .ret _
      obtain rfl := Option.some.inj h0
      refine retq rfl rfl
    · replace h0 := cF h0 q2
      refine AO.guardY rfl rfl rfl q2 (AOp.move rfl rfl (ltb rfl) rfl ?_)
      refine AO.guardY rfl rfl rfl q2 (AOp.ieql rfl rfl (ltb rfl) rfl rfl ?_)
      refine AO.guardY rfl rfl rfl q2 (AOp.move rfl rfl (ltb rfl) rfl ?_)
      refine AO.dec (decide (a0 = (3 : Int))) (fun q3 => ?_) (fun q3 => ?_)
      · replace h0 := cT h0 q3
        refine AO.guardY rfl rfl rfl q3 (AOp.move rfl rfl (ltb rfl) rfl ?_)
        refine AO.guardY rfl rfl rfl q3 (AOp.ieql rfl rfl (ltb rfl) rfl rfl ?_)
        refine AO.guardY rfl rfl rfl q2 (AOp.pick rfl rfl (ltb rfl) rfl q3 rfl ?_)
        refine AO.op rfl (AOp.pickN rfl rfl (ltb rfl) rfl q2 rfl ?_)
        refine AO.nil ?_
        change AC _ _ _ _
        refine AC.cond rfl (fun q4 => ?_) (fun q4 => ?_)
        · replace h0 := cT h0 q4
          refine AC.seq ?_
          refine AC.region ?_
          refine AO.op rfl (AOp.assign rfl rfl (ltb rfl) rfl ?_)
          refine AO.nil ?_
          change AC _ _ _ _
          refine AC.ret ?_
          change RetQ _ _ _ .ret _
          obtain rfl := Option.some.inj h0
          refine retq rfl rfl
        · replace h0 := cF h0 q4
          refine AC.skip ?_
          change AC _ _ _ _
          refine AC.seq ?_
          refine AC.region ?_
          refine AO.op rfl (AOp.move rfl rfl (ltb rfl) rfl ?_)
          refine AO.op rfl (AOp.move rfl rfl (ltb rfl) rfl ?_)
          refine AO.op rfl (AOp.imax rfl rfl (ltb rfl) rfl rfl ?_)
          refine AO.op rfl (AOp.assign rfl rfl (ltb rfl) rfl ?_)
          refine AO.nil ?_
          change AC _ _ _ _
          refine AC.ret ?_
          change RetQ _ _ _ .ret _
          obtain rfl := Option.some.inj h0
          refine retq rfl rfl
      · replace h0 := cF h0 q3
        refine AO.guardN rfl rfl rfl (ltb rfl) rfl q3 ?_
        refine AO.guardN rfl rfl rfl (ltb rfl) rfl q3 ?_
        refine AO.guardY rfl rfl rfl q2 (AOp.pickN rfl rfl (ltb rfl) rfl q3 rfl ?_)
        refine AO.op rfl (AOp.pickN rfl rfl (ltb rfl) rfl q2 rfl ?_)
        refine AO.nil ?_
        change AC _ _ _ _
        refine AC.condF rfl rfl ?_
        refine AC.skip ?_
        change AC _ _ _ _
        refine AC.seq ?_
        refine AC.region ?_
        refine AO.op rfl (AOp.move rfl rfl (ltb rfl) rfl ?_)
        refine AO.op rfl (AOp.move rfl rfl (ltb rfl) rfl ?_)
        refine AO.op rfl (AOp.imax rfl rfl (ltb rfl) rfl rfl ?_)
        refine AO.op rfl (AOp.assign rfl rfl (ltb rfl) rfl ?_)
        refine AO.nil ?_
        change AC _ _ _ _
        refine AC.ret ?_
        change RetQ _ _ _ .ret _
        obtain rfl := Option.some.inj h0
        refine retq rfl rfl
  · replace h0 := cF h0 q1
    refine AO.guardN rfl rfl rfl (ltb rfl) rfl q1 ?_
    refine AO.guardN rfl rfl rfl (ltb rfl) rfl q1 ?_
    refine AO.op rfl (AOp.pickN rfl rfl (ltb rfl) rfl q1 rfl ?_)
    refine AO.op rfl (AOp.move rfl rfl (ltb rfl) rfl ?_)
    refine AO.guardY rfl rfl rfl rfl (AOp.move rfl rfl (ltb rfl) rfl ?_)
    refine AO.guardY rfl rfl rfl rfl (AOp.ieql rfl rfl (ltb rfl) rfl rfl ?_)
    refine AO.guardY rfl rfl rfl rfl (AOp.move rfl rfl (ltb rfl) rfl ?_)
    refine AO.dec (decide (a0 = (3 : Int))) (fun q5 => ?_) (fun q5 => ?_)
    · replace h0 := cT h0 q5
      refine AO.guardY rfl rfl rfl q5 (AOp.move rfl rfl (ltb rfl) rfl ?_)
      refine AO.guardY rfl rfl rfl q5 (AOp.ieql rfl rfl (ltb rfl) rfl rfl ?_)
      refine AO.guardY rfl rfl rfl rfl (AOp.pick rfl rfl (ltb rfl) rfl q5 rfl ?_)
      refine AO.op rfl (AOp.pickN rfl rfl (ltb rfl) rfl rfl rfl ?_)
      refine AO.nil ?_
      change AC _ _ _ _
      refine AC.cond rfl (fun q6 => ?_) (fun q6 => ?_)
      · replace h0 := cT h0 q6
        refine AC.seq ?_
        refine AC.region ?_
        refine AO.op rfl (AOp.assign rfl rfl (ltb rfl) rfl ?_)
        refine AO.nil ?_
        change AC _ _ _ _
        refine AC.ret ?_
        change RetQ _ _ _ .ret _
        obtain rfl := Option.some.inj h0
        refine retq rfl rfl
      · replace h0 := cF h0 q6
        refine AC.skip ?_
        change AC _ _ _ _
        refine AC.seq ?_
        refine AC.region ?_
        refine AO.op rfl (AOp.move rfl rfl (ltb rfl) rfl ?_)
        refine AO.op rfl (AOp.move rfl rfl (ltb rfl) rfl ?_)
        refine AO.op rfl (AOp.imax rfl rfl (ltb rfl) rfl rfl ?_)
        refine AO.op rfl (AOp.assign rfl rfl (ltb rfl) rfl ?_)
        refine AO.nil ?_
        change AC _ _ _ _
        refine AC.ret ?_
        change RetQ _ _ _ .ret _
        obtain rfl := Option.some.inj h0
        refine retq rfl rfl
    · replace h0 := cF h0 q5
      refine AO.guardN rfl rfl rfl (ltb rfl) rfl q5 ?_
      refine AO.guardN rfl rfl rfl (ltb rfl) rfl q5 ?_
      refine AO.guardY rfl rfl rfl rfl (AOp.pickN rfl rfl (ltb rfl) rfl q5 rfl ?_)
      refine AO.op rfl (AOp.pickN rfl rfl (ltb rfl) rfl rfl rfl ?_)
      refine AO.nil ?_
      change AC _ _ _ _
      refine AC.condF rfl rfl ?_
      refine AC.skip ?_
      change AC _ _ _ _
      refine AC.seq ?_
      refine AC.region ?_
      refine AO.op rfl (AOp.move rfl rfl (ltb rfl) rfl ?_)
      refine AO.op rfl (AOp.move rfl rfl (ltb rfl) rfl ?_)
      refine AO.op rfl (AOp.imax rfl rfl (ltb rfl) rfl rfl ?_)
      refine AO.op rfl (AOp.assign rfl rfl (ltb rfl) rfl ?_)
      refine AO.nil ?_
      change AC _ _ _ _
      refine AC.ret ?_
      change RetQ _ _ _ .ret _
      obtain rfl := Option.some.inj h0
      refine retq rfl rfl

set_option maxRecDepth 100000 in
set_option maxHeartbeats 1000000 in
/-- pub-orthodrome/spec.LayoutOf -/
theorem w_LayoutOf_b (Rec_ : TImpl_Geom → Option Int) (hR : ∀ (a0 : TImpl_Geom) (r0 : Int), Rec_ a0 = some r0 → FnD Try.prog 52 [e_TImpl_Geom a0] (fun r => r = di .i64 r0)) (F : Nat) (a0 : TImpl_Geom) (r0 : Int) (h0 : p_LayoutOf_b Rec_ F a0 = some r0) : FnD Try.prog 52 [e_TImpl_Geom a0] (fun r => r = di .i64 r0) := by
  refine FnD.of (by kernel_rfl) Try.func52 rfl Try.ntmps52 rfl (leb rfl) fun W ok => ?_
  unfold p_LayoutOf_b at h0
  refine AC.seq ?_
  refine AC.region ?_
  refine AO.op rfl (AOp.box rfl rfl (ltb rfl) rfl rfl ?_)
  refine AO.op rfl (AOp.assign rfl rfl (ltb rfl) rfl ?_)
  refine AO.nil ?_
  change AC _ _ _ _
  refine AC.seq ?_
  refine AC.region ?_
  refine AO.op rfl (AOp.fieldAddr rfl rfl (ltb rfl) rfl fo28_1 ?_)
  refine AO.op rfl (AOp.load1 rfl rfl (ltb rfl) rfl agg3 rfl rfl ?_)
  refine AO.op rfl (AOp.assign rfl rfl (ltb rfl) rfl ?_)
  refine AO.nil ?_
  change AC _ _ _ _
  refine AC.seq ?_
  refine AC.joinP (V := Bool) [1, 3] [14] 1 (fun g1 => [(14, .d (dbool g1))]) (fun g1 => [.fix 28 [.d (di .i64 a0.Kind), .d (di .i64 a0.Layout), .d (di .i64 a0.SRID), .d (eS0 a0.Flat), .d (eS1 a0.Ends), .d (eS3 a0.Endss), .d (eS2 a0.Kids)]]) (fun g1 => (p_LayoutOf_k1 a0 F Rec_) g1 = some r0) rfl ?_ ?_
  · refine AC.region ?_
    refine AO.op rfl (AOp.fieldAddr rfl rfl (ltb rfl) rfl fo28_0 ?_)
    refine AO.op rfl (AOp.load1 rfl rfl (ltb rfl) rfl agg3 rfl rfl ?_)
    refine AO.op rfl (AOp.ineq rfl rfl (ltb rfl) rfl rfl ?_)
    refine AO.op rfl (AOp.move rfl rfl (ltb rfl) rfl ?_)
    refine AO.dec (!decide (a0.Kind = (7 : Int))) (fun q17 => ?_) (fun q17 => ?_)
    · replace h0 := cT h0 q17
      refine AO.guardN rfl rfl rfl (ltb rfl) rfl q17 ?_
      refine AO.guardN rfl rfl rfl (ltb rfl) rfl q17 ?_
      refine AO.op rfl (AOp.pick rfl rfl (ltb rfl) rfl q17 rfl ?_)
      refine AO.nil ?_
      exact ⟨true, _, rfl, (LeL.refl _), rfl, rfl, h0⟩
    · replace h0 := cF h0 q17
      refine AO.guardY rfl rfl rfl q17 (AOp.move rfl rfl (ltb rfl) rfl ?_)
      refine AO.guardY rfl rfl rfl q17 (AOp.ineq rfl rfl (ltb rfl) rfl rfl ?_)
      refine AO.op rfl (AOp.pickN rfl rfl (ltb rfl) rfl q17 rfl ?_)
      refine AO.nil ?_
      exact ⟨(!decide (a0.Layout = (0 : Int))), _, rfl, (LeL.refl _), rfl, rfl, h0⟩
  · intro g1 h0
    unfold p_LayoutOf_k1 at h0
    refine AC.cond rfl (fun q2 => ?_) (fun q2 => ?_)
    · replace h0 := cT h0 q2
      refine AC.seq ?_
      refine AC.region ?_
      refine AO.op rfl (AOp.move rfl rfl (ltb rfl) rfl ?_)
      refine AO.op rfl (AOp.assign rfl rfl (ltb rfl) rfl ?_)
      refine AO.nil ?_
      change AC _ _ _ _
      refine AC.ret ?_
      change RetQ _ _ _ .ret _
      obtain rfl := Option.some.inj h0
      refine retq rfl rfl
    · replace h0 := cF h0 q2
      refine AC.skip ?_
      change AC _ _ _ _
      refine AC.seq ?_
      refine AC.seq ?_
      refine AC.region ?_
      refine AO.op rfl (AOp.fieldAddr rfl rfl (ltb rfl) rfl fo28_6 ?_)
      refine AO.op rfl (AOp.load1 rfl rfl (ltb rfl) rfl agg26 rfl rfl ?_)
      refine AO.op rfl (AOp.lenDs (n := a0.Kids.length) (cells := (List.flatMap c0_TImpl_Geom a0.Kids)) rfl rfl (ltb rfl) rfl el26 (by decide) (lenN _ 7 c0_TImpl_Geom_len _) ?_)
      refine AO.op rfl (AOp.move rfl rfl (ltb rfl) rfl ?_)
      refine AO.nil ?_
      change AC _ _ _ _
      obtain ⟨o3, l4, h0⟩ := bind_elim h0
      refine AC.joinE (V := Int) [] [3] 1 (fun g5 => [(3, .d (di .i64 g5))]) (fun g5 => [.fix 28 [.d (di .i64 a0.Kind), .d (di .i64 a0.Layout), .d (di .i64 a0.SRID), .d (eS0 a0.Flat), .d (eS1 a0.Ends), .d (eS3 a0.Endss), .d (eS2 a0.Kids)]]) (fun g5 => p_LayoutOf_k2 g5 = some r0) rfl ?_ ?_
      · refine AC.block ?_
        refine AC.loopP (V := (Int × Int)) (p_LayoutOf_l3 a0 Rec_) o3 [17, 18] [3, 19] 1 (fun g6 => [(3, .d (di .i64 g6.1)), (19, .d (di .i64 g6.2))]) (fun g6 => [.fix 28 [.d (di .i64 a0.Kind), .d (di .i64 a0.Layout), .d (di .i64 a0.SRID), .d (eS0 a0.Flat), .d (eS1 a0.Ends), .d (eS3 a0.Endss), .d (eS2 a0.Kids)]]) F (a0.Layout, (0 : Int)) l4 rfl rfl (LeL.refl _) rfl rfl ?_
        intro n8 g6 h1
        unfold p_LayoutOf_l3 at h1
        refine AC.seq ?_
        refine AC.region ?_
        refine AO.op rfl (AOp.ilss rfl rfl (ltb rfl) rfl rfl ?_)
        refine AO.nil ?_
        change AC _ _ _ _
        refine AC.seq ?_
        refine AC.cond rfl (fun q9 => ?_) (fun q9 => ?_)
        · replace h1 := cT h1 q9
          refine AC.skip ?_
          change AC _ _ _ _
          refine AC.seq ?_
          refine AC.block ?_
          refine AC.seq ?_
          refine AC.region ?_
          obtain ⟨x10, q11, h1⟩ := idx_elim h1
          refine AO.op rfl (AOp.indexDs (cells := (List.flatMap c0_TImpl_Geom a0.Kids)) rfl rfl (ltb rfl) rfl rfl el26 (by decide) q11.1 (ltN 7 c0_TImpl_Geom_len (by decide) q11.2) ?_)
          refine AO.op rfl (AOp.loadEpN rfl rfl (ltb rfl) rfl agg28 size28 (leN 7 c0_TImpl_Geom_len q11.2) ((atN 7 c0_TImpl_Geom_len q11.2).trans (c0_TImpl_Geom_eq x10)) ?_)
          refine AO.op rfl (AOp.alloc rfl rfl (ltb rfl) zero28 rfl ?_)
          refine AO.op rfl (AOp.store rfl rfl rfl rfl size28 rfl rfl rfl (leb rfl) ?_)
          refine AO.nil ?_
          change AC _ _ _ _
          refine AC.region ?_
          refine AO.op rfl (AOp.move rfl rfl (ltb rfl) rfl ?_)
          refine AO.op rfl (AOp.loadN rfl rfl (ltb rfl) rfl agg28 size28 rfl (leb rfl) rfl ?_)
          obtain ⟨y12, q13, h1⟩ := bind_elim h1
          refine AO.op rfl (AOp.callD rfl rfl (ltb rfl) rfl rfl (hR x10 y12 q13) ?_)
          rintro _ rfl
          obtain ⟨y14, q15, h1⟩ := bind_elim h1
          refine AO.op rfl (AOp.callD rfl rfl (ltb rfl) rfl rfl (w_Cover g6.1 y12 y14 q15) ?_)
          rintro _ rfl
          refine AO.op rfl (AOp.assign rfl rfl (ltb rfl) rfl ?_)
          refine AO.nil ?_
          change AC _ _ _ _
          refine AC.region ?_
          obtain ⟨q16, h1⟩ := need_elim h1
          refine AO.op rfl (AOp.iadd rfl rfl (ltb rfl) rfl rfl rfl q16.1 q16.2 ?_)
          refine AO.op rfl (AOp.move rfl rfl (ltb rfl) rfl ?_)
          refine AO.nil ?_
          exact ⟨(y14, (g6.2 + (1 : Int))), _, rfl, (LeL.refl _), rfl, rfl, h1⟩
        · replace h1 := cF h1 q9
          refine AC.exit ?_
          obtain rfl := Option.some.inj h1
          exact ⟨g6.1, _, rfl, (LeL.refl _), rfl, rfl, aftL h0⟩
      · intro g5 h0
        unfold p_LayoutOf_k2 at h0
        change AC _ _ _ _
        refine AC.seq ?_
        refine AC.region ?_
        refine AO.op rfl (AOp.move rfl rfl (ltb rfl) rfl ?_)
        refine AO.op rfl (AOp.assign rfl rfl (ltb rfl) rfl ?_)
        refine AO.nil ?_
        change AC _ _ _ _
        refine AC.ret ?_
        change RetQ _ _ _ .ret _
        obtain rfl := Option.some.inj h0
        refine retq rfl rfl
theorem w_LayoutOf : ∀ (F : Nat) (a0 : TImpl_Geom) (r0 : Int), p_LayoutOf F a0 = some r0 → FnD Try.prog 52 [e_TImpl_Geom a0] (fun r => r = di .i64 r0)
  | 0, _, _, h => by cases h
  | F + 1, a0, r0, h => w_LayoutOf_b _ (fun a0 r0 h => w_LayoutOf F a0 r0 h) F a0 r0 h

set_option maxRecDepth 100000 in
set_option maxHeartbeats 1000000 in
/-- pub-orthodrome/spec.goodEnds -/
theorem w_goodEnds (F : Nat) (a0 : (List Int)) (a1 : Int) (a2 : Int) (a3 : Bool) (r0 : (Int × Bool)) (h0 : p_goodEnds F a0 a1 a2 a3 = some r0) : FnD Try.prog 53 [eS1 a0, di .i64 a1, di .i64 a2, dbool a3] (fun r => r = .tu [di .i64 r0.1, dbool r0.2]) := by
  refine FnD.of (by kernel_rfl) Try.func53 rfl Try.ntmps53 rfl (leb rfl) fun W ok => ?_
  unfold p_goodEnds at h0
  refine AC.seq ?_
  refine AC.region ?_
  refine AO.op rfl (AOp.assign rfl rfl (ltb rfl) rfl ?_)
  refine AO.op rfl (AOp.assign rfl rfl (ltb rfl) rfl ?_)
  refine AO.nil ?_
  change AC _ _ _ _
  refine AC.seq ?_
  refine AC.seq ?_
  refine AC.region ?_
  refine AO.op rfl (AOp.move rfl rfl (ltb rfl) rfl ?_)
  refine AO.op rfl (AOp.lenDs (n := a0.length) (cells := (List.map keS1 a0)) rfl rfl (ltb rfl) rfl el25 (by decide) (len1 _ _) ?_)
  refine AO.op rfl (AOp.move rfl rfl (ltb rfl) rfl ?_)
  refine AO.nil ?_
  change AC _ _ _ _
  obtain ⟨o1, l2, h0⟩ := bind_elim h0
  refine AC.joinE (V := Int) [] [1] 0 (fun g3 => [(1, .d (di .i64 g3))]) (fun g3 => []) (fun g3 => p_goodEnds_k1 g3 = some r0) rfl ?_ ?_
  · refine AC.block ?_
    refine AC.loopP (V := (Int × Int)) (p_goodEnds_l2 a0 a2 a3) o1 [2, 3, 12, 13] [1, 14] 0 (fun g4 => [(1, .d (di .i64 g4.1)), (14, .d (di .i64 g4.2))]) (fun g4 => []) F (a1, (0 : Int)) l2 rfl rfl (LeL.refl _) rfl rfl ?_
    intro n6 g4 h1
    unfold p_goodEnds_l2 at h1
    refine AC.seq ?_
    refine AC.region ?_
    refine AO.op rfl (AOp.ilss rfl rfl (ltb rfl) rfl rfl ?_)
    refine AO.nil ?_
    change AC _ _ _ _
    refine AC.seq ?_
    refine AC.cond rfl (fun q7 => ?_) (fun q7 => ?_)
    · replace h1 := cT h1 q7
      refine AC.skip ?_
      change AC _ _ _ _
      refine AC.seq ?_
      refine AC.block ?_
      refine AC.seq ?_
      refine AC.region ?_
      obtain ⟨x8, q9, h1⟩ := idx_elim h1
      refine AO.op rfl (AOp.indexDs (cells := (List.map keS1 a0)) rfl rfl (ltb rfl) rfl rfl el25 (by decide) q9.1 (lt1 q9.2) ?_)
      refine AO.op rfl (AOp.loadEp rfl rfl (ltb rfl) rfl agg3 (at1 q9.2) ?_)
      refine AO.op rfl (AOp.assign rfl rfl (ltb rfl) rfl ?_)
      refine AO.nil ?_
      change AC _ _ _ _
      refine AC.seq ?_
      refine AC.joinP (V := Bool) [1, 2, 3, 11, 12, 13, 14] [38] 0 (fun g10 => [(38, .d (dbool g10))]) (fun g10 => []) (fun g10 => (p_goodEnds_k3 g4 (iter (p_goodEnds_l2 a0 a2 a3) n6) x8) g10 = some o1) rfl ?_ ?_
      · refine AC.region ?_
        refine AO.op rfl (AOp.move rfl rfl (ltb rfl) rfl ?_)
        refine AO.op rfl (AOp.move rfl rfl (ltb rfl) rfl ?_)
        refine AO.op rfl (AOp.ilss rfl rfl (ltb rfl) rfl rfl ?_)
        refine AO.op rfl (AOp.move rfl rfl (ltb rfl) rfl ?_)
        refine AO.dec (decide (x8 < g4.1)) (fun q13 => ?_) (fun q13 => ?_)
        · replace h1 := cT h1 q13
          refine AO.guardN rfl rfl rfl (ltb rfl) rfl q13 ?_
          refine AO.guardN rfl rfl rfl (ltb rfl) rfl q13 ?_
          refine AO.guardN rfl rfl rfl (ltb rfl) rfl q13 ?_
          refine AO.guardN rfl rfl rfl (ltb rfl) rfl q13 ?_
          refine AO.guardN rfl rfl rfl (ltb rfl) rfl q13 ?_
          refine AO.guardN rfl rfl rfl (ltb rfl) rfl q13 ?_
          refine AO.op rfl (AOp.pick rfl rfl (ltb rfl) rfl q13 rfl ?_)
          refine AO.op rfl (AOp.move rfl rfl (ltb rfl) rfl ?_)
          refine AO.guardN rfl rfl rfl (ltb rfl) rfl rfl ?_
          refine AO.guardN rfl rfl rfl (ltb rfl) rfl rfl ?_
          refine AO.guardU rfl rfl rfl (ltb rfl) rfl ?_
          refine AO.guardU rfl rfl rfl (ltb rfl) rfl ?_
          refine AO.guardU rfl rfl rfl (ltb rfl) rfl ?_
          refine AO.guardU rfl rfl rfl (ltb rfl) rfl ?_
          refine AO.guardU rfl rfl rfl (ltb rfl) rfl ?_
          refine AO.guardN rfl rfl rfl (ltb rfl) rfl rfl ?_
          refine AO.op rfl (AOp.pick rfl rfl (ltb rfl) rfl rfl rfl ?_)
          refine AO.nil ?_
          exact ⟨true, _, rfl, (LeL.refl _), rfl, rfl, h1⟩
        · replace h1 := cF h1 q13
          refine AO.guardY rfl rfl rfl q13 (AOp.move rfl rfl (ltb rfl) rfl ?_)
          refine AO.guardY rfl rfl rfl q13 (AOp.move rfl rfl (ltb rfl) rfl ?_)
          obtain ⟨q14, h1⟩ := need_elim h1
          refine AO.guardY rfl rfl rfl q13 (AOp.isub rfl rfl (ltb rfl) rfl rfl rfl q14.1 q14.2 ?_)
          refine AO.guardY rfl rfl rfl q13 (AOp.move rfl rfl (ltb rfl) rfl ?_)
          obtain ⟨q15, h1⟩ := need_elim h1
          refine AO.guardY rfl rfl rfl q13 (AOp.irem rfl rfl (ltb rfl) rfl rfl q15 rfl ?_)
          refine AO.guardY rfl rfl rfl q13 (AOp.ineq rfl rfl (ltb rfl) rfl rfl ?_)
          refine AO.op rfl (AOp.pickN rfl rfl (ltb rfl) rfl q13 rfl ?_)
          refine AO.op rfl (AOp.move rfl rfl (ltb rfl) rfl ?_)
          refine AO.dec (!decide ((Int.tmod (x8 - g4.1) a2) = (0 : Int))) (fun q16 => ?_) (fun q16 => ?_)
          · replace h1 := cT h1 q16
            refine AO.guardN rfl rfl rfl (ltb rfl) rfl q16 ?_
            refine AO.guardN rfl rfl rfl (ltb rfl) rfl q16 ?_
            refine AO.guardU rfl rfl rfl (ltb rfl) rfl ?_
            refine AO.guardU rfl rfl rfl (ltb rfl) rfl ?_
            refine AO.guardU rfl rfl rfl (ltb rfl) rfl ?_
            refine AO.guardU rfl rfl rfl (ltb rfl) rfl ?_
            refine AO.guardU rfl rfl rfl (ltb rfl) rfl ?_
            refine AO.guardN rfl rfl rfl (ltb rfl) rfl q16 ?_
            refine AO.op rfl (AOp.pick rfl rfl (ltb rfl) rfl q16 rfl ?_)
            refine AO.nil ?_
            exact ⟨true, _, rfl, (LeL.refl _), rfl, rfl, h1⟩
          · replace h1 := cF h1 q16
            refine AO.guardY rfl rfl rfl q16 (AOp.move rfl rfl (ltb rfl) rfl ?_)
            refine AO.guardY rfl rfl rfl q16 (AOp.move rfl rfl (ltb rfl) rfl ?_)
            refine AO.dec a3 (fun q17 => ?_) (fun q17 => ?_)
            · replace h1 := cT h1 q17
              refine AO.guardY rfl rfl rfl q17 (AOp.move rfl rfl (ltb rfl) rfl ?_)
              refine AO.guardY rfl rfl rfl q17 (AOp.move rfl rfl (ltb rfl) rfl ?_)
              obtain ⟨q18, h1⟩ := need_elim h1
              refine AO.guardY rfl rfl rfl q17 (AOp.isub rfl rfl (ltb rfl) rfl rfl rfl q18.1 q18.2 ?_)
              refine AO.guardY rfl rfl rfl q17 (AOp.move rfl rfl (ltb rfl) rfl ?_)
              refine AO.guardY rfl rfl rfl q17 (AOp.igtr rfl rfl (ltb rfl) rfl rfl ?_)
              refine AO.guardY rfl rfl rfl q16 (AOp.pick rfl rfl (ltb rfl) rfl q17 rfl ?_)
              refine AO.op rfl (AOp.pickN rfl rfl (ltb rfl) rfl q16 rfl ?_)
              refine AO.nil ?_
              exact ⟨(decide (a2 < (x8 - g4.1))), _, rfl, (LeL.refl _), rfl, rfl, h1⟩
            · replace h1 := cF h1 q17
              refine AO.guardN rfl rfl rfl (ltb rfl) rfl q17 ?_
              refine AO.guardN rfl rfl rfl (ltb rfl) rfl q17 ?_
              refine AO.guardN rfl rfl rfl (ltb rfl) rfl q17 ?_
              refine AO.guardN rfl rfl rfl (ltb rfl) rfl q17 ?_
              refine AO.guardN rfl rfl rfl (ltb rfl) rfl q17 ?_
              refine AO.guardY rfl rfl rfl q16 (AOp.pickN rfl rfl (ltb rfl) rfl q17 rfl ?_)
              refine AO.op rfl (AOp.pickN rfl rfl (ltb rfl) rfl q16 rfl ?_)
              refine AO.nil ?_
              exact ⟨false, _, rfl, (LeL.refl _), rfl, rfl, h1⟩
      · intro g10 h1
        unfold p_goodEnds_k3 at h1
        refine AC.cond rfl (fun q11 => ?_) (fun q11 => ?_)
        · replace h1 := cT h1 q11
          refine AC.seq ?_
          refine AC.region ?_
          refine AO.op rfl (AOp.move rfl rfl (ltb rfl) rfl ?_)
          refine AO.op rfl (AOp.assign rfl rfl (ltb rfl) rfl ?_)
          refine AO.op rfl (AOp.assign rfl rfl (ltb rfl) rfl ?_)
          refine AO.nil ?_
          change AC _ _ _ _
          refine AC.ret ?_
          change RetQ _ _ _ .ret _
          obtain rfl := Option.some.inj h1
          replace h0 := aftR h0
          obtain rfl := Option.some.inj h0
          refine retq rfl rfl
        · replace h1 := cF h1 q11
          refine AC.skip ?_
          change AC _ _ _ _
          refine AC.region ?_
          refine AO.op rfl (AOp.move rfl rfl (ltb rfl) rfl ?_)
          refine AO.op rfl (AOp.assign rfl rfl (ltb rfl) rfl ?_)
          refine AO.nil ?_
          change AC _ _ _ _
          refine AC.region ?_
          obtain ⟨q12, h1⟩ := need_elim h1
          refine AO.op rfl (AOp.iadd rfl rfl (ltb rfl) rfl rfl rfl q12.1 q12.2 ?_)
          refine AO.op rfl (AOp.move rfl rfl (ltb rfl) rfl ?_)
          refine AO.nil ?_
          exact ⟨(x8, (g4.2 + (1 : Int))), _, rfl, (LeL.refl _), rfl, rfl, h1⟩
    · replace h1 := cF h1 q7
      refine AC.exit ?_
      obtain rfl := Option.some.inj h1
      exact ⟨g4.1, _, rfl, (LeL.refl _), rfl, rfl, aftL h0⟩
  · intro g3 h0
    unfold p_goodEnds_k1 at h0
    change AC _ _ _ _
    refine AC.seq ?_
    refine AC.region ?_
    refine AO.op rfl (AOp.move rfl rfl (ltb rfl) rfl ?_)
    refine AO.op rfl (AOp.assign rfl rfl (ltb rfl) rfl ?_)
    refine AO.op rfl (AOp.assign rfl rfl (ltb rfl) rfl ?_)
    refine AO.nil ?_
    change AC _ _ _ _
    refine AC.ret ?_
    change RetQ _ _ _ .ret _
    obtain rfl := Option.some.inj h0
    refine retq rfl rfl

set_option maxRecDepth 100000 in
set_option maxHeartbeats 1000000 in
/-- pub-orthodrome/spec.Good -/
theorem w_Good_b (Rec_ : TImpl_Geom → Option Bool) (hR : ∀ (a0 : TImpl_Geom) (r0 : Bool), Rec_ a0 = some r0 → FnD Try.prog 40 [e_TImpl_Geom a0] (fun r => r = dbool r0)) (F : Nat) (a0 : TImpl_Geom) (r0 : Bool) (h0 : p_Good_b Rec_ F a0 = some r0) : FnD Try.prog 40 [e_TImpl_Geom a0] (fun r => r = dbool r0) := by
  refine FnD.of (by kernel_rfl) Try.func40 rfl Try.ntmps40 rfl (leb rfl) fun W ok => ?_
  unfold p_Good_b at h0
  refine AC.seq ?_
  refine AC.region ?_
  refine AO.op rfl (AOp.box rfl rfl (ltb rfl) rfl rfl ?_)
  refine AO.op rfl (AOp.assign rfl rfl (ltb rfl) rfl ?_)
  refine AO.nil ?_
  change AC _ _ _ _
  refine AC.seq ?_
  refine AC.region ?_
  refine AO.op rfl (AOp.fieldAddr rfl rfl (ltb rfl) rfl fo28_1 ?_)
  refine AO.op rfl (AOp.load1 rfl rfl (ltb rfl) rfl agg3 rfl rfl ?_)
  obtain ⟨y1, q2, h0⟩ := bind_elim h0
  refine AO.op rfl (AOp.callD rfl rfl (ltb rfl) rfl rfl (w_Stride a0.Layout y1 q2) ?_)
  rintro _ rfl
  refine AO.op rfl (AOp.assign rfl rfl (ltb rfl) rfl ?_)
  refine AO.nil ?_
  change AC _ _ _ _
  refine AC.seq ?_
  refine AC.seq ?_
  refine AC.region ?_
  refine AO.op rfl (AOp.fieldAddr rfl rfl (ltb rfl) rfl fo28_0 ?_)
  refine AO.op rfl (AOp.load1 rfl rfl (ltb rfl) rfl agg3 rfl rfl ?_)
  refine AO.op rfl (AOp.ieql rfl rfl (ltb rfl) rfl rfl ?_)
  refine AO.nil ?_
  change AC _ _ _ _
  refine AC.cond rfl (fun q3 => ?_) (fun q3 => ?_)
  · replace h0 := cT h0 q3
    refine AC.seq ?_
    refine AC.seq ?_
    refine AC.region ?_
    refine AO.op rfl (AOp.fieldAddr rfl rfl (ltb rfl) rfl fo28_6 ?_)
    refine AO.op rfl (AOp.load1 rfl rfl (ltb rfl) rfl agg26 rfl rfl ?_)
    refine AO.op rfl (AOp.lenDs (n := a0.Kids.length) (cells := (List.flatMap c0_TImpl_Geom a0.Kids)) rfl rfl (ltb rfl) rfl el26 (by decide) (lenN _ 7 c0_TImpl_Geom_len _) ?_)
    refine AO.op rfl (AOp.move rfl rfl (ltb rfl) rfl ?_)
    refine AO.nil ?_
    change AC _ _ _ _
    obtain ⟨o4, l5, h0⟩ := bind_elim h0
    refine AC.joinE (V := Unit) [1] [] 1 (fun g6 => []) (fun g6 => [.fix 28 [.d (di .i64 a0.Kind), .d (di .i64 a0.Layout), .d (di .i64 a0.SRID), .d (eS0 a0.Flat), .d (eS1 a0.Ends), .d (eS3 a0.Endss), .d (eS2 a0.Kids)]]) (fun g6 => (p_Good_k1 a0) g6 = some r0) rfl ?_ ?_
    · refine AC.block ?_
      refine AC.loopP (V := Int) (p_Good_l3 a0 F Rec_) o4 [1, 20, 21] [22] 1 (fun g11 => [(22, .d (di .i64 g11))]) (fun g11 => [.fix 28 [.d (di .i64 a0.Kind), .d (di .i64 a0.Layout), .d (di .i64 a0.SRID), .d (eS0 a0.Flat), .d (eS1 a0.Ends), .d (eS3 a0.Endss), .d (eS2 a0.Kids)]]) F (0 : Int) l5 rfl rfl (LeL.refl _) rfl rfl ?_
      intro n13 g11 h1
      unfold p_Good_l3 at h1
      refine AC.seq ?_
      refine AC.region ?_
      refine AO.op rfl (AOp.ilss rfl rfl (ltb rfl) rfl rfl ?_)
      refine AO.nil ?_
      change AC _ _ _ _
      refine AC.seq ?_
      refine AC.cond rfl (fun q14 => ?_) (fun q14 => ?_)
      · replace h1 := cT h1 q14
        refine AC.skip ?_
        change AC _ _ _ _
        refine AC.seq ?_
        refine AC.block ?_
        refine AC.seq ?_
        refine AC.region ?_
        obtain ⟨x15, q16, h1⟩ := idx_elim h1
        refine AO.op rfl (AOp.indexDs (cells := (List.flatMap c0_TImpl_Geom a0.Kids)) rfl rfl (ltb rfl) rfl rfl el26 (by decide) q16.1 (ltN 7 c0_TImpl_Geom_len (by decide) q16.2) ?_)
        refine AO.op rfl (AOp.loadEpN rfl rfl (ltb rfl) rfl agg28 size28 (leN 7 c0_TImpl_Geom_len q16.2) ((atN 7 c0_TImpl_Geom_len q16.2).trans (c0_TImpl_Geom_eq x15)) ?_)
        refine AO.op rfl (AOp.alloc rfl rfl (ltb rfl) zero28 rfl ?_)
        refine AO.op rfl (AOp.store rfl rfl rfl rfl size28 rfl rfl rfl (leb rfl) ?_)
        refine AO.nil ?_
        change AC _ _ _ _
        refine AC.seq ?_
        refine AC.draw 15 mixed (by kernel_rfl) ?_
        refine AD.op [5] rfl (by kernel_rfl) rfl rfl (fun _ _ h => AOp.loadN rfl rfl (ltb rfl) rfl agg28 size28 rfl (leb rfl) rfl h) ?_
        obtain ⟨y17, q18, h1⟩ := bind_elim h1
        refine AD.op [26] rfl (by kernel_rfl) rfl rfl (fun _ _ h => AOp.callD rfl rfl (ltb rfl) rfl rfl (hR x15 y17 q18) (by rintro _ rfl; exact h)) ?_
        refine AD.op [27] rfl (by kernel_rfl) rfl rfl (fun _ _ h => AOp.bnot rfl rfl (ltb rfl) rfl h) ?_
        refine AD.op [28] rfl (by kernel_rfl) rfl rfl (fun _ _ h => AOp.move rfl rfl (ltb rfl) rfl h) ?_
        refine AD.dec (!y17) (fun q19 => ?_) (fun q19 => ?_)
        · replace h1 := cT h1 q19
          refine AD.opN rfl rfl rfl (ltb rfl) rfl q19 ?_
          refine AD.opN rfl rfl rfl (ltb rfl) rfl q19 ?_
          refine AD.opN rfl rfl rfl (ltb rfl) rfl q19 ?_
          refine AD.opN rfl rfl rfl (ltb rfl) rfl q19 ?_
          refine AD.opU rfl rfl rfl (ltb rfl) rfl ?_
          refine AD.opU rfl rfl rfl (ltb rfl) rfl ?_
          refine AD.opU rfl rfl rfl (ltb rfl) rfl ?_
          refine AD.opU rfl rfl rfl (ltb rfl) rfl ?_
          refine AD.opU rfl rfl rfl (ltb rfl) rfl ?_
          refine AD.opN rfl rfl rfl (ltb rfl) rfl q19 ?_
          refine AD.op [29, 39] rfl (by kernel_rfl) rfl rfl (fun _ _ h => AOp.pick rfl rfl (ltb rfl) rfl q19 rfl h) ?_
          refine AD.done ?_
          refine AO.nil ?_
          change AC _ _ _ _
          refine AC.condT rfl rfl ?_
          refine AC.seq ?_
          refine AC.region ?_
          refine AO.op rfl (AOp.assign rfl rfl (ltb rfl) rfl ?_)
          refine AO.nil ?_
          change AC _ _ _ _
          refine AC.ret ?_
          change RetQ _ _ _ .ret _
          obtain rfl := Option.some.inj h1
          replace h0 := aftR h0
          obtain rfl := Option.some.inj h0
          refine retq rfl rfl
        · replace h1 := cF h1 q19
          refine AD.opY [1, 29] rfl rfl rfl q19 (by kernel_rfl) rfl rfl (fun _ _ h => AOp.fieldAddr rfl rfl (ltb rfl) rfl fo28_1 h) ?_
          refine AD.opY [29, 30] rfl rfl rfl q19 (by kernel_rfl) rfl rfl (fun _ _ h => AOp.load1 rfl rfl (ltb rfl) rfl agg3 rfl rfl h) ?_
          refine AD.opY [29, 31] rfl rfl rfl q19 (by kernel_rfl) rfl rfl (fun _ _ h => AOp.ineq rfl rfl (ltb rfl) rfl rfl h) ?_
          refine AD.opY [29, 32] rfl rfl rfl q19 (by kernel_rfl) rfl rfl (fun _ _ h => AOp.move rfl rfl (ltb rfl) rfl h) ?_
          refine AD.dec (!decide (a0.Layout = (0 : Int))) (fun q20 => ?_) (fun q20 => ?_)
          · replace h1 := cT h1 q20
            refine AD.opY [5, 33] rfl rfl rfl q20 (by kernel_rfl) rfl rfl (fun _ _ h => AOp.loadN rfl rfl (ltb rfl) rfl agg28 size28 rfl (leb rfl) rfl h) ?_
            obtain ⟨y21, q22, h1⟩ := bind_elim h1
            refine AD.opY [33, 34] rfl rfl rfl q20 (by kernel_rfl) rfl rfl (fun _ _ h => AOp.callD rfl rfl (ltb rfl) rfl rfl (w_LayoutOf F x15 y21 q22) (by rintro _ rfl; exact h)) ?_
            refine AD.opY [1, 33] rfl rfl rfl q20 (by kernel_rfl) rfl rfl (fun _ _ h => AOp.fieldAddr rfl rfl (ltb rfl) rfl fo28_1 h) ?_
            refine AD.opY [33, 36] rfl rfl rfl q20 (by kernel_rfl) rfl rfl (fun _ _ h => AOp.load1 rfl rfl (ltb rfl) rfl agg3 rfl rfl h) ?_
            refine AD.opY [33, 35, 37] rfl rfl rfl q20 (by kernel_rfl) rfl rfl (fun _ _ h => AOp.ineq rfl rfl (ltb rfl) rfl rfl h) ?_
            refine AD.opY [29, 33, 38] rfl rfl rfl q19 (by kernel_rfl) rfl rfl (fun _ _ h => AOp.pick rfl rfl (ltb rfl) rfl q20 rfl h) ?_
            refine AD.op [29, 39] rfl (by kernel_rfl) rfl rfl (fun _ _ h => AOp.pickN rfl rfl (ltb rfl) rfl q19 rfl h) ?_
            refine AD.done ?_
            refine AO.nil ?_
            change AC _ _ _ _
            refine AC.cond rfl (fun q23 => ?_) (fun q23 => ?_)
            · replace h1 := cT h1 q23
              refine AC.seq ?_
              refine AC.region ?_
              refine AO.op rfl (AOp.assign rfl rfl (ltb rfl) rfl ?_)
              refine AO.nil ?_
              change AC _ _ _ _
              refine AC.ret ?_
              change RetQ _ _ _ .ret _
              obtain rfl := Option.some.inj h1
              replace h0 := aftR h0
              obtain rfl := Option.some.inj h0
              refine retq rfl rfl
            · replace h1 := cF h1 q23
              refine AC.skip ?_
              change AC _ _ _ _
              refine AC.region ?_
              obtain ⟨q24, h1⟩ := need_elim h1
              refine AO.op rfl (AOp.iadd rfl rfl (ltb rfl) rfl rfl rfl q24.1 q24.2 ?_)
              refine AO.op rfl (AOp.move rfl rfl (ltb rfl) rfl ?_)
              refine AO.nil ?_
              exact ⟨(g11 + (1 : Int)), _, rfl, (LeL.refl _), rfl, rfl, h1⟩
          · replace h1 := cF h1 q20
            refine AD.opN rfl rfl rfl (ltb rfl) rfl q20 ?_
            refine AD.opN rfl rfl rfl (ltb rfl) rfl q20 ?_
            refine AD.opN rfl rfl rfl (ltb rfl) rfl q20 ?_
            refine AD.opN rfl rfl rfl (ltb rfl) rfl q20 ?_
            refine AD.opN rfl rfl rfl (ltb rfl) rfl q20 ?_
            refine AD.opY [29, 33, 38] rfl rfl rfl q19 (by kernel_rfl) rfl rfl (fun _ _ h => AOp.pickN rfl rfl (ltb rfl) rfl q20 rfl h) ?_
            refine AD.op [29, 39] rfl (by kernel_rfl) rfl rfl (fun _ _ h => AOp.pickN rfl rfl (ltb rfl) rfl q19 rfl h) ?_
            refine AD.done ?_
            refine AO.nil ?_
            change AC _ _ _ _
            refine AC.condF rfl rfl ?_
            refine AC.skip ?_
            change AC _ _ _ _
            refine AC.region ?_
            obtain ⟨q25, h1⟩ := need_elim h1
            refine AO.op rfl (AOp.iadd rfl rfl (ltb rfl) rfl rfl rfl q25.1 q25.2 ?_)
            refine AO.op rfl (AOp.move rfl rfl (ltb rfl) rfl ?_)
            refine AO.nil ?_
            exact ⟨(g11 + (1 : Int)), _, rfl, (LeL.refl _), rfl, rfl, h1⟩
      · replace h1 := cF h1 q14
        refine AC.exit ?_
        obtain rfl := Option.some.inj h1
        exact ⟨(), _, rfl, (LeL.refl _), rfl, rfl, aftL h0⟩
    · intro g6 h0
      unfold p_Good_k1 at h0
      change AC _ _ _ _
      refine AC.joinP (V := Bool) [] [2] 1 (fun g7 => [(2, .d (dbool g7))]) (fun g7 => [.fix 28 [.d (di .i64 a0.Kind), .d (di .i64 a0.Layout), .d (di .i64 a0.SRID), .d (eS0 a0.Flat), .d (eS1 a0.Ends), .d (eS3 a0.Endss), .d (eS2 a0.Kids)]]) (fun g7 => p_Good_k2 g7 = some r0) rfl ?_ ?_
      · refine AC.region ?_
        refine AO.op rfl (AOp.fieldAddr rfl rfl (ltb rfl) rfl fo28_1 ?_)
        refine AO.op rfl (AOp.load1 rfl rfl (ltb rfl) rfl agg3 rfl rfl ?_)
        refine AO.op rfl (AOp.igeq rfl rfl (ltb rfl) rfl rfl ?_)
        refine AO.op rfl (AOp.move rfl rfl (ltb rfl) rfl ?_)
        refine AO.dec (decide ((0 : Int) ≤ a0.Layout)) (fun q8 => ?_) (fun q8 => ?_)
        · replace h0 := cT h0 q8
          refine AO.guardY rfl rfl rfl q8 (AOp.fieldAddr rfl rfl (ltb rfl) rfl fo28_3 ?_)
          refine AO.guardY rfl rfl rfl q8 (AOp.load1 rfl rfl (ltb rfl) rfl agg22 rfl rfl ?_)
          refine AO.guardY rfl rfl rfl q8 (AOp.lenDs (n := a0.Flat.length) (cells := (List.map keS0 a0.Flat)) rfl rfl (ltb rfl) rfl el22 (by decide) (len1 _ _) ?_)
          refine AO.guardY rfl rfl rfl q8 (AOp.fieldAddr rfl rfl (ltb rfl) rfl fo28_4 ?_)
          refine AO.guardY rfl rfl rfl q8 (AOp.load1 rfl rfl (ltb rfl) rfl agg25 rfl rfl ?_)
          refine AO.guardY rfl rfl rfl q8 (AOp.lenDs (n := a0.Ends.length) (cells := (List.map keS1 a0.Ends)) rfl rfl (ltb rfl) rfl el25 (by decide) (len1 _ _) ?_)
          obtain ⟨q9, h0⟩ := need_elim h0
          refine AO.guardY rfl rfl rfl q8 (AOp.iadd rfl rfl (ltb rfl) rfl rfl rfl q9.1 q9.2 ?_)
          refine AO.guardY rfl rfl rfl q8 (AOp.fieldAddr rfl rfl (ltb rfl) rfl fo28_5 ?_)
          refine AO.guardY rfl rfl rfl q8 (AOp.load1 rfl rfl (ltb rfl) rfl agg23 rfl rfl ?_)
          refine AO.guardY rfl rfl rfl q8 (AOp.lenDs (n := a0.Endss.length) (cells := (List.map keS3 a0.Endss)) rfl rfl (ltb rfl) rfl el23 (by decide) (len1 _ _) ?_)
          obtain ⟨q10, h0⟩ := need_elim h0
          refine AO.guardY rfl rfl rfl q8 (AOp.iadd rfl rfl (ltb rfl) rfl rfl rfl q10.1 q10.2 ?_)
          refine AO.guardY rfl rfl rfl q8 (AOp.ieql rfl rfl (ltb rfl) rfl rfl ?_)
          refine AO.op rfl (AOp.pick rfl rfl (ltb rfl) rfl q8 rfl ?_)
          refine AO.op rfl (AOp.assign rfl rfl (ltb rfl) rfl ?_)
          refine AO.nil ?_
          exact ⟨(decide (((((a0.Flat.length : Nat) : Int) + ((a0.Ends.length : Nat) : Int)) + ((a0.Endss.length : Nat) : Int)) = (0 : Int))), _, rfl, (LeL.refl _), rfl, rfl, h0⟩
        · replace h0 := cF h0 q8
          refine AO.guardN rfl rfl rfl (ltb rfl) rfl q8 ?_
          refine AO.guardN rfl rfl rfl (ltb rfl) rfl q8 ?_
          refine AO.guardN rfl rfl rfl (ltb rfl) rfl q8 ?_
          refine AO.guardN rfl rfl rfl (ltb rfl) rfl q8 ?_
          refine AO.guardN rfl rfl rfl (ltb rfl) rfl q8 ?_
          refine AO.guardN rfl rfl rfl (ltb rfl) rfl q8 ?_
          refine AO.guardN rfl rfl rfl (ltb rfl) rfl q8 ?_
          refine AO.guardN rfl rfl rfl (ltb rfl) rfl q8 ?_
          refine AO.guardN rfl rfl rfl (ltb rfl) rfl q8 ?_
          refine AO.guardN rfl rfl rfl (ltb rfl) rfl q8 ?_
          refine AO.guardN rfl rfl rfl (ltb rfl) rfl q8 ?_
          refine AO.guardN rfl rfl rfl (ltb rfl) rfl q8 ?_
          refine AO.op rfl (AOp.pickN rfl rfl (ltb rfl) rfl q8 rfl ?_)
          refine AO.op rfl (AOp.assign rfl rfl (ltb rfl) rfl ?_)
          refine AO.nil ?_
          exact ⟨false, _, rfl, (LeL.refl _), rfl, rfl, h0⟩
      · intro g7 h0
        unfold p_Good_k2 at h0
        refine AC.ret ?_
        change RetQ _ _ _ .ret _
        obtain rfl := Option.some.inj h0
        refine retq rfl rfl
  · replace h0 := cF h0 q3
    refine AC.skip ?_
    change AC _ _ _ _
    refine AC.joinP (V := Unit) [1, 3] [] 1 (fun g26 => []) (fun g26 => [.fix 28 [.d (di .i64 a0.Kind), .d (di .i64 a0.Layout), .d (di .i64 a0.SRID), .d (eS0 a0.Flat), .d (eS1 a0.Ends), .d (eS3 a0.Endss), .d (eS2 a0.Kids)]]) (fun g26 => (p_Good_k4 a0 F y1) g26 = some r0) rfl ?_ ?_
    · refine AC.seq ?_
      refine AC.region ?_
      refine AO.op rfl (AOp.move rfl rfl (ltb rfl) rfl ?_)
      refine AO.op rfl (AOp.ieql rfl rfl (ltb rfl) rfl rfl ?_)
      refine AO.op rfl (AOp.move rfl rfl (ltb rfl) rfl ?_)
      refine AO.dec (decide (y1 = (0 : Int))) (fun q56 => ?_) (fun q56 => ?_)
      · replace h0 := cT h0 q56
        refine AO.guardN rfl rfl rfl (ltb rfl) rfl q56 ?_
        refine AO.guardN rfl rfl rfl (ltb rfl) rfl q56 ?_
        refine AO.guardN rfl rfl rfl (ltb rfl) rfl q56 ?_
        refine AO.guardN rfl rfl rfl (ltb rfl) rfl q56 ?_
        refine AO.guardN rfl rfl rfl (ltb rfl) rfl q56 ?_
        refine AO.guardN rfl rfl rfl (ltb rfl) rfl q56 ?_
        refine AO.op rfl (AOp.pick rfl rfl (ltb rfl) rfl q56 rfl ?_)
        refine AO.op rfl (AOp.move rfl rfl (ltb rfl) rfl ?_)
        refine AO.guardN rfl rfl rfl (ltb rfl) rfl rfl ?_
        refine AO.guardN rfl rfl rfl (ltb rfl) rfl rfl ?_
        refine AO.guardN rfl rfl rfl (ltb rfl) rfl rfl ?_
        refine AO.guardN rfl rfl rfl (ltb rfl) rfl rfl ?_
        refine AO.op rfl (AOp.pick rfl rfl (ltb rfl) rfl rfl rfl ?_)
        refine AO.op rfl (AOp.move rfl rfl (ltb rfl) rfl ?_)
        refine AO.guardN rfl rfl rfl (ltb rfl) rfl rfl ?_
        refine AO.guardN rfl rfl rfl (ltb rfl) rfl rfl ?_
        refine AO.guardN rfl rfl rfl (ltb rfl) rfl rfl ?_
        refine AO.guardN rfl rfl rfl (ltb rfl) rfl rfl ?_
        refine AO.guardN rfl rfl rfl (ltb rfl) rfl rfl ?_
        refine AO.guardU rfl rfl rfl (ltb rfl) rfl ?_
        refine AO.guardU rfl rfl rfl (ltb rfl) rfl ?_
        refine AO.guardU rfl rfl rfl (ltb rfl) rfl ?_
        refine AO.guardN rfl rfl rfl (ltb rfl) rfl rfl ?_
        refine AO.op rfl (AOp.pick rfl rfl (ltb rfl) rfl rfl rfl ?_)
        refine AO.nil ?_
        change AC _ _ _ _
        refine AC.condT rfl rfl ?_
        refine AC.seq ?_
        refine AC.region ?_
        refine AO.op rfl (AOp.assign rfl rfl (ltb rfl) rfl ?_)
        refine AO.nil ?_
        change AC _ _ _ _
        refine AC.ret ?_
        change RetQ _ _ _ .ret _
        obtain rfl := Option.some.inj h0
        refine retq rfl rfl
      · replace h0 := cF h0 q56
        refine AO.guardY rfl rfl rfl q56 (AOp.fieldAddr rfl rfl (ltb rfl) rfl fo28_3 ?_)
        refine AO.guardY rfl rfl rfl q56 (AOp.load1 rfl rfl (ltb rfl) rfl agg22 rfl rfl ?_)
        refine AO.guardY rfl rfl rfl q56 (AOp.lenDs (n := a0.Flat.length) (cells := (List.map keS0 a0.Flat)) rfl rfl (ltb rfl) rfl el22 (by decide) (len1 _ _) ?_)
        refine AO.guardY rfl rfl rfl q56 (AOp.move rfl rfl (ltb rfl) rfl ?_)
        obtain ⟨q57, h0⟩ := need_elim h0
        refine AO.guardY rfl rfl rfl q56 (AOp.irem rfl rfl (ltb rfl) rfl rfl q57 rfl ?_)
        refine AO.guardY rfl rfl rfl q56 (AOp.ineq rfl rfl (ltb rfl) rfl rfl ?_)
        refine AO.op rfl (AOp.pickN rfl rfl (ltb rfl) rfl q56 rfl ?_)
        refine AO.op rfl (AOp.move rfl rfl (ltb rfl) rfl ?_)
        refine AO.dec (!decide ((Int.tmod ((a0.Flat.length : Nat) : Int) y1) = (0 : Int))) (fun q58 => ?_) (fun q58 => ?_)
        · replace h0 := cT h0 q58
          refine AO.guardN rfl rfl rfl (ltb rfl) rfl q58 ?_
          refine AO.guardN rfl rfl rfl (ltb rfl) rfl q58 ?_
          refine AO.guardN rfl rfl rfl (ltb rfl) rfl q58 ?_
          refine AO.guardN rfl rfl rfl (ltb rfl) rfl q58 ?_
          refine AO.op rfl (AOp.pick rfl rfl (ltb rfl) rfl q58 rfl ?_)
          refine AO.op rfl (AOp.move rfl rfl (ltb rfl) rfl ?_)
          refine AO.guardN rfl rfl rfl (ltb rfl) rfl rfl ?_
          refine AO.guardN rfl rfl rfl (ltb rfl) rfl rfl ?_
          refine AO.guardN rfl rfl rfl (ltb rfl) rfl rfl ?_
          refine AO.guardN rfl rfl rfl (ltb rfl) rfl rfl ?_
          refine AO.guardN rfl rfl rfl (ltb rfl) rfl rfl ?_
          refine AO.guardU rfl rfl rfl (ltb rfl) rfl ?_
          refine AO.guardU rfl rfl rfl (ltb rfl) rfl ?_
          refine AO.guardU rfl rfl rfl (ltb rfl) rfl ?_
          refine AO.guardN rfl rfl rfl (ltb rfl) rfl rfl ?_
          refine AO.op rfl (AOp.pick rfl rfl (ltb rfl) rfl rfl rfl ?_)
          refine AO.nil ?_
          change AC _ _ _ _
          refine AC.condT rfl rfl ?_
          refine AC.seq ?_
          refine AC.region ?_
          refine AO.op rfl (AOp.assign rfl rfl (ltb rfl) rfl ?_)
          refine AO.nil ?_
          change AC _ _ _ _
          refine AC.ret ?_
          change RetQ _ _ _ .ret _
          obtain rfl := Option.some.inj h0
          refine retq rfl rfl
        · replace h0 := cF h0 q58
          refine AO.guardY rfl rfl rfl q58 (AOp.fieldAddr rfl rfl (ltb rfl) rfl fo28_6 ?_)
          refine AO.guardY rfl rfl rfl q58 (AOp.load1 rfl rfl (ltb rfl) rfl agg26 rfl rfl ?_)
          refine AO.guardY rfl rfl rfl q58 (AOp.lenDs (n := a0.Kids.length) (cells := (List.flatMap c0_TImpl_Geom a0.Kids)) rfl rfl (ltb rfl) rfl el26 (by decide) (lenN _ 7 c0_TImpl_Geom_len _) ?_)
          refine AO.guardY rfl rfl rfl q58 (AOp.igtr rfl rfl (ltb rfl) rfl rfl ?_)
          refine AO.op rfl (AOp.pickN rfl rfl (ltb rfl) rfl q58 rfl ?_)
          refine AO.op rfl (AOp.move rfl rfl (ltb rfl) rfl ?_)
          refine AO.dec (decide ((0 : Int) < ((a0.Kids.length : Nat) : Int))) (fun q59 => ?_) (fun q59 => ?_)
          · replace h0 := cT h0 q59
            refine AO.guardN rfl rfl rfl (ltb rfl) rfl q59 ?_
            refine AO.guardN rfl rfl rfl (ltb rfl) rfl q59 ?_
            refine AO.guardN rfl rfl rfl (ltb rfl) rfl q59 ?_
            refine AO.guardN rfl rfl rfl (ltb rfl) rfl q59 ?_
            refine AO.guardN rfl rfl rfl (ltb rfl) rfl q59 ?_
            refine AO.guardU rfl rfl rfl (ltb rfl) rfl ?_
            refine AO.guardU rfl rfl rfl (ltb rfl) rfl ?_
            refine AO.guardU rfl rfl rfl (ltb rfl) rfl ?_
            refine AO.guardN rfl rfl rfl (ltb rfl) rfl q59 ?_
            refine AO.op rfl (AOp.pick rfl rfl (ltb rfl) rfl q59 rfl ?_)
            refine AO.nil ?_
            change AC _ _ _ _
            refine AC.condT rfl rfl ?_
            refine AC.seq ?_
            refine AC.region ?_
            refine AO.op rfl (AOp.assign rfl rfl (ltb rfl) rfl ?_)
            refine AO.nil ?_
            change AC _ _ _ _
            refine AC.ret ?_
            change RetQ _ _ _ .ret _
            obtain rfl := Option.some.inj h0
            refine retq rfl rfl
          · replace h0 := cF h0 q59
            refine AO.guardY rfl rfl rfl q59 (AOp.fieldAddr rfl rfl (ltb rfl) rfl fo28_5 ?_)
            refine AO.guardY rfl rfl rfl q59 (AOp.load1 rfl rfl (ltb rfl) rfl agg23 rfl rfl ?_)
            refine AO.guardY rfl rfl rfl q59 (AOp.lenDs (n := a0.Endss.length) (cells := (List.map keS3 a0.Endss)) rfl rfl (ltb rfl) rfl el23 (by decide) (len1 _ _) ?_)
            refine AO.guardY rfl rfl rfl q59 (AOp.igtr rfl rfl (ltb rfl) rfl rfl ?_)
            refine AO.guardY rfl rfl rfl q59 (AOp.move rfl rfl (ltb rfl) rfl ?_)
            refine AO.dec (decide ((0 : Int) < ((a0.Endss.length : Nat) : Int))) (fun q60 => ?_) (fun q60 => ?_)
            · replace h0 := cT h0 q60
              refine AO.guardY rfl rfl rfl q60 (AOp.fieldAddr rfl rfl (ltb rfl) rfl fo28_0 ?_)
              refine AO.guardY rfl rfl rfl q60 (AOp.load1 rfl rfl (ltb rfl) rfl agg3 rfl rfl ?_)
              refine AO.guardY rfl rfl rfl q60 (AOp.ineq rfl rfl (ltb rfl) rfl rfl ?_)
              refine AO.guardY rfl rfl rfl q59 (AOp.pick rfl rfl (ltb rfl) rfl q60 rfl ?_)
              refine AO.op rfl (AOp.pickN rfl rfl (ltb rfl) rfl q59 rfl ?_)
              refine AO.nil ?_
              change AC _ _ _ _
              refine AC.cond rfl (fun q61 => ?_) (fun q61 => ?_)
              · replace h0 := cT h0 q61
                refine AC.seq ?_
                refine AC.region ?_
                refine AO.op rfl (AOp.assign rfl rfl (ltb rfl) rfl ?_)
                refine AO.nil ?_
                change AC _ _ _ _
                refine AC.ret ?_
                change RetQ _ _ _ .ret _
                obtain rfl := Option.some.inj h0
                refine retq rfl rfl
              · replace h0 := cF h0 q61
                refine AC.skip ?_
                exact ⟨(), _, rfl, (LeL.refl _), rfl, rfl, h0⟩
            · replace h0 := cF h0 q60
              refine AO.guardN rfl rfl rfl (ltb rfl) rfl q60 ?_
              refine AO.guardN rfl rfl rfl (ltb rfl) rfl q60 ?_
              refine AO.guardN rfl rfl rfl (ltb rfl) rfl q60 ?_
              refine AO.guardY rfl rfl rfl q59 (AOp.pickN rfl rfl (ltb rfl) rfl q60 rfl ?_)
              refine AO.op rfl (AOp.pickN rfl rfl (ltb rfl) rfl q59 rfl ?_)
              refine AO.nil ?_
              change AC _ _ _ _
              refine AC.condF rfl rfl ?_
              refine AC.skip ?_
              exact ⟨(), _, rfl, (LeL.refl _), rfl, rfl, h0⟩
    · intro g26 h0
      unfold p_Good_k4 at h0
      refine AC.seq ?_
      refine AC.seq ?_
      refine AC.region ?_
      refine AO.op rfl (AOp.fieldAddr rfl rfl (ltb rfl) rfl fo28_0 ?_)
      refine AO.op rfl (AOp.load1 rfl rfl (ltb rfl) rfl agg3 rfl rfl ?_)
      refine AO.nil ?_
      change AC _ _ _ _
      refine AC.block ?_
      refine AC.seq ?_
      refine AC.region ?_
      refine AO.op rfl (AOp.ieql rfl rfl (ltb rfl) rfl rfl ?_)
      refine AO.op rfl (AOp.assign rfl rfl (ltb rfl) rfl ?_)
      refine AO.nil ?_
      change AC _ _ _ _
      refine AC.cond rfl (fun q27 => ?_) (fun q27 => ?_)
      · replace h0 := cT h0 q27
        refine AC.seq ?_
        refine AC.region ?_
        refine AO.op rfl (AOp.fieldAddr rfl rfl (ltb rfl) rfl fo28_4 ?_)
        refine AO.op rfl (AOp.load1 rfl rfl (ltb rfl) rfl agg25 rfl rfl ?_)
        refine AO.op rfl (AOp.lenDs (n := a0.Ends.length) (cells := (List.map keS1 a0.Ends)) rfl rfl (ltb rfl) rfl el25 (by decide) (len1 _ _) ?_)
        refine AO.op rfl (AOp.ieql rfl rfl (ltb rfl) rfl rfl ?_)
        refine AO.op rfl (AOp.move rfl rfl (ltb rfl) rfl ?_)
        refine AO.dec (decide (((a0.Ends.length : Nat) : Int) = (0 : Int))) (fun q28 => ?_) (fun q28 => ?_)
        · replace h0 := cT h0 q28
          refine AO.guardY rfl rfl rfl q28 (AOp.fieldAddr rfl rfl (ltb rfl) rfl fo28_3 ?_)
          refine AO.guardY rfl rfl rfl q28 (AOp.load1 rfl rfl (ltb rfl) rfl agg22 rfl rfl ?_)
          refine AO.guardY rfl rfl rfl q28 (AOp.lenDs (n := a0.Flat.length) (cells := (List.map keS0 a0.Flat)) rfl rfl (ltb rfl) rfl el22 (by decide) (len1 _ _) ?_)
          refine AO.guardY rfl rfl rfl q28 (AOp.move rfl rfl (ltb rfl) rfl ?_)
          refine AO.guardY rfl rfl rfl q28 (AOp.ileq rfl rfl (ltb rfl) rfl rfl ?_)
          refine AO.op rfl (AOp.pick rfl rfl (ltb rfl) rfl q28 rfl ?_)
          refine AO.op rfl (AOp.assign rfl rfl (ltb rfl) rfl ?_)
          refine AO.nil ?_
          change AC _ _ _ _
          refine AC.ret ?_
          change RetQ _ _ _ .ret _
          obtain rfl := Option.some.inj h0
          refine retq rfl rfl
        · replace h0 := cF h0 q28
          refine AO.guardN rfl rfl rfl (ltb rfl) rfl q28 ?_
          refine AO.guardN rfl rfl rfl (ltb rfl) rfl q28 ?_
          refine AO.guardN rfl rfl rfl (ltb rfl) rfl q28 ?_
          refine AO.guardN rfl rfl rfl (ltb rfl) rfl q28 ?_
          refine AO.guardN rfl rfl rfl (ltb rfl) rfl q28 ?_
          refine AO.op rfl (AOp.pickN rfl rfl (ltb rfl) rfl q28 rfl ?_)
          refine AO.op rfl (AOp.assign rfl rfl (ltb rfl) rfl ?_)
          refine AO.nil ?_
          change AC _ _ _ _
          refine AC.ret ?_
          change RetQ _ _ _ .ret _
          obtain rfl := Option.some.inj h0
          refine retq rfl rfl
      · replace h0 := cF h0 q27
        refine AC.joinP (V := Bool) [1, 3, 87] [101] 1 (fun g29 => [(101, .d (dbool g29))]) (fun g29 => [.fix 28 [.d (di .i64 a0.Kind), .d (di .i64 a0.Layout), .d (di .i64 a0.SRID), .d (eS0 a0.Flat), .d (eS1 a0.Ends), .d (eS3 a0.Endss), .d (eS2 a0.Kids)]]) (fun g29 => (p_Good_k5 a0 F y1) g29 = some r0) rfl ?_ ?_
        · refine AC.seq ?_
          refine AC.region ?_
          refine AO.op rfl (AOp.ieql rfl rfl (ltb rfl) rfl rfl ?_)
          refine AO.op rfl (AOp.assign rfl rfl (ltb rfl) rfl ?_)
          refine AO.nil ?_
          change AC _ _ _ _
          refine AC.cond rfl (fun q55 => ?_) (fun q55 => ?_)
          · replace h0 := cT h0 q55
            refine AC.skip ?_
            exact ⟨(decide (a0.Kind = (2 : Int))), _, rfl, (LeL.refl _), rfl, rfl, h0⟩
          · replace h0 := cF h0 q55
            refine AC.region ?_
            refine AO.op rfl (AOp.ieql rfl rfl (ltb rfl) rfl rfl ?_)
            refine AO.op rfl (AOp.assign rfl rfl (ltb rfl) rfl ?_)
            refine AO.nil ?_
            exact ⟨(decide (a0.Kind = (8 : Int))), _, rfl, (LeL.refl _), rfl, rfl, h0⟩
        · intro g29 h0
          unfold p_Good_k5 at h0
          refine AC.cond rfl (fun q30 => ?_) (fun q30 => ?_)
          · replace h0 := cT h0 q30
            refine AC.seq ?_
            refine AC.region ?_
            refine AO.op rfl (AOp.fieldAddr rfl rfl (ltb rfl) rfl fo28_4 ?_)
            refine AO.op rfl (AOp.load1 rfl rfl (ltb rfl) rfl agg25 rfl rfl ?_)
            refine AO.op rfl (AOp.lenDs (n := a0.Ends.length) (cells := (List.map keS1 a0.Ends)) rfl rfl (ltb rfl) rfl el25 (by decide) (len1 _ _) ?_)
            refine AO.op rfl (AOp.ieql rfl rfl (ltb rfl) rfl rfl ?_)
            refine AO.op rfl (AOp.assign rfl rfl (ltb rfl) rfl ?_)
            refine AO.nil ?_
            change AC _ _ _ _
            refine AC.ret ?_
            change RetQ _ _ _ .ret _
            obtain rfl := Option.some.inj h0
            refine retq rfl rfl
          · replace h0 := cF h0 q30
            refine AC.joinP (V := Bool) [1, 3, 87] [108] 1 (fun g31 => [(108, .d (dbool g31))]) (fun g31 => [.fix 28 [.d (di .i64 a0.Kind), .d (di .i64 a0.Layout), .d (di .i64 a0.SRID), .d (eS0 a0.Flat), .d (eS1 a0.Ends), .d (eS3 a0.Endss), .d (eS2 a0.Kids)]]) (fun g31 => (p_Good_k6 a0 F y1) g31 = some r0) rfl ?_ ?_
            · refine AC.seq ?_
              refine AC.region ?_
              refine AO.op rfl (AOp.ieql rfl rfl (ltb rfl) rfl rfl ?_)
              refine AO.op rfl (AOp.assign rfl rfl (ltb rfl) rfl ?_)
              refine AO.nil ?_
              change AC _ _ _ _
              refine AC.cond rfl (fun q53 => ?_) (fun q53 => ?_)
              · replace h0 := cT h0 q53
                refine AC.skip ?_
                exact ⟨(decide (a0.Kind = (3 : Int))), _, rfl, (LeL.refl _), rfl, rfl, h0⟩
              · replace h0 := cF h0 q53
                refine AC.seq ?_
                refine AC.region ?_
                refine AO.op rfl (AOp.ieql rfl rfl (ltb rfl) rfl rfl ?_)
                refine AO.op rfl (AOp.assign rfl rfl (ltb rfl) rfl ?_)
                refine AO.nil ?_
                change AC _ _ _ _
                refine AC.cond rfl (fun q54 => ?_) (fun q54 => ?_)
                · replace h0 := cT h0 q54
                  refine AC.skip ?_
                  exact ⟨(decide (a0.Kind = (4 : Int))), _, rfl, (LeL.refl _), rfl, rfl, h0⟩
                · replace h0 := cF h0 q54
                  refine AC.region ?_
                  refine AO.op rfl (AOp.ieql rfl rfl (ltb rfl) rfl rfl ?_)
                  refine AO.op rfl (AOp.assign rfl rfl (ltb rfl) rfl ?_)
                  refine AO.nil ?_
                  exact ⟨(decide (a0.Kind = (5 : Int))), _, rfl, (LeL.refl _), rfl, rfl, h0⟩
            · intro g31 h0
              unfold p_Good_k6 at h0
              refine AC.cond rfl (fun q32 => ?_) (fun q32 => ?_)
              · replace h0 := cT h0 q32
                refine AC.seq ?_
                refine AC.region ?_
                refine AO.op rfl (AOp.fieldAddr rfl rfl (ltb rfl) rfl fo28_4 ?_)
                refine AO.op rfl (AOp.load1 rfl rfl (ltb rfl) rfl agg25 rfl rfl ?_)
                refine AO.op rfl (AOp.move rfl rfl (ltb rfl) rfl ?_)
                refine AO.op rfl (AOp.fieldAddr rfl rfl (ltb rfl) rfl fo28_0 ?_)
                refine AO.op rfl (AOp.load1 rfl rfl (ltb rfl) rfl agg3 rfl rfl ?_)
                refine AO.op rfl (AOp.ieql rfl rfl (ltb rfl) rfl rfl ?_)
                obtain ⟨y33, q34, h0⟩ := bind_elim h0
                refine AO.op rfl (AOp.callD rfl rfl (ltb rfl) rfl rfl (w_goodEnds F a0.Ends (0 : Int) y1 (decide (a0.Kind = (4 : Int))) y33 q34) ?_)
                rintro _ rfl
                refine AO.op rfl (AOp.move rfl rfl (ltb rfl) rfl ?_)
                first | refine AO.op rfl (AOp.extractD rfl rfl (ltb rfl) rfl rfl ?_) | refine AO.op rfl (AOp.extract rfl rfl (ltb rfl) rfl rfl ?_)
                first | refine AO.op rfl (AOp.extractD rfl rfl (ltb rfl) rfl rfl ?_) | refine AO.op rfl (AOp.extract rfl rfl (ltb rfl) rfl rfl ?_)
                refine AO.op rfl (AOp.assign rfl rfl (ltb rfl) rfl ?_)
                refine AO.op rfl (AOp.assign rfl rfl (ltb rfl) rfl ?_)
                refine AO.nil ?_
                change AC _ _ _ _
                refine AC.seq ?_
                refine AC.region ?_
                refine AO.op rfl (AOp.move rfl rfl (ltb rfl) rfl ?_)
                refine AO.op rfl (AOp.move rfl rfl (ltb rfl) rfl ?_)
                refine AO.dec y33.2 (fun q35 => ?_) (fun q35 => ?_)
                · replace h0 := cT h0 q35
                  refine AO.guardY rfl rfl rfl q35 (AOp.move rfl rfl (ltb rfl) rfl ?_)
                  refine AO.guardY rfl rfl rfl q35 (AOp.fieldAddr rfl rfl (ltb rfl) rfl fo28_3 ?_)
                  refine AO.guardY rfl rfl rfl q35 (AOp.load1 rfl rfl (ltb rfl) rfl agg22 rfl rfl ?_)
                  refine AO.guardY rfl rfl rfl q35 (AOp.lenDs (n := a0.Flat.length) (cells := (List.map keS0 a0.Flat)) rfl rfl (ltb rfl) rfl el22 (by decide) (len1 _ _) ?_)
                  refine AO.guardY rfl rfl rfl q35 (AOp.ieql rfl rfl (ltb rfl) rfl rfl ?_)
                  refine AO.op rfl (AOp.pick rfl rfl (ltb rfl) rfl q35 rfl ?_)
                  refine AO.op rfl (AOp.assign rfl rfl (ltb rfl) rfl ?_)
                  refine AO.nil ?_
                  change AC _ _ _ _
                  refine AC.ret ?_
                  change RetQ _ _ _ .ret _
                  obtain rfl := Option.some.inj h0
                  refine retq rfl rfl
                · replace h0 := cF h0 q35
                  refine AO.guardN rfl rfl rfl (ltb rfl) rfl q35 ?_
                  refine AO.guardN rfl rfl rfl (ltb rfl) rfl q35 ?_
                  refine AO.guardN rfl rfl rfl (ltb rfl) rfl q35 ?_
                  refine AO.guardN rfl rfl rfl (ltb rfl) rfl q35 ?_
                  refine AO.guardN rfl rfl rfl (ltb rfl) rfl q35 ?_
                  refine AO.op rfl (AOp.pickN rfl rfl (ltb rfl) rfl q35 rfl ?_)
                  refine AO.op rfl (AOp.assign rfl rfl (ltb rfl) rfl ?_)
                  refine AO.nil ?_
                  change AC _ _ _ _
                  refine AC.ret ?_
                  change RetQ _ _ _ .ret _
                  obtain rfl := Option.some.inj h0
                  refine retq rfl rfl
              · replace h0 := cF h0 q32
                refine AC.seq ?_
                refine AC.region ?_
                refine AO.op rfl (AOp.ieql rfl rfl (ltb rfl) rfl rfl ?_)
                refine AO.op rfl (AOp.assign rfl rfl (ltb rfl) rfl ?_)
                refine AO.nil ?_
                change AC _ _ _ _
                refine AC.cond rfl (fun q36 => ?_) (fun q36 => ?_)
                · replace h0 := cT h0 q36
                  refine AC.seq ?_
                  refine AC.region ?_
                  refine AO.op rfl (AOp.assign rfl rfl (ltb rfl) rfl ?_)
                  refine AO.op rfl (AOp.assign rfl rfl (ltb rfl) rfl ?_)
                  refine AO.nil ?_
                  change AC _ _ _ _
                  refine AC.seq ?_
                  refine AC.seq ?_
                  refine AC.region ?_
                  refine AO.op rfl (AOp.fieldAddr rfl rfl (ltb rfl) rfl fo28_5 ?_)
                  refine AO.op rfl (AOp.load1 rfl rfl (ltb rfl) rfl agg23 rfl rfl ?_)
                  refine AO.op rfl (AOp.lenDs (n := a0.Endss.length) (cells := (List.map keS3 a0.Endss)) rfl rfl (ltb rfl) rfl el23 (by decide) (len1 _ _) ?_)
                  refine AO.op rfl (AOp.move rfl rfl (ltb rfl) rfl ?_)
                  refine AO.nil ?_
                  change AC _ _ _ _
                  obtain ⟨o37, l38, h0⟩ := bind_elim h0
                  refine AC.joinE (V := (Int × Bool)) [1] [8, 9] 1 (fun g39 => [(8, .d (di .i64 g39.1)), (9, .d (dbool g39.2))]) (fun g39 => [.fix 28 [.d (di .i64 a0.Kind), .d (di .i64 a0.Layout), .d (di .i64 a0.SRID), .d (eS0 a0.Flat), .d (eS1 a0.Ends), .d (eS3 a0.Endss), .d (eS2 a0.Kids)]]) (fun g39 => (p_Good_k7 a0) g39 = some r0) rfl ?_ ?_
                  · refine AC.block ?_
                    refine AC.loopP (V := (Int × Bool × Int)) (p_Good_l8 a0 F y1) o37 [1, 3, 133, 134] [8, 9, 135] 1 (fun g42 => [(8, .d (di .i64 g42.1)), (9, .d (dbool g42.2.1)), (135, .d (di .i64 g42.2.2))]) (fun g42 => [.fix 28 [.d (di .i64 a0.Kind), .d (di .i64 a0.Layout), .d (di .i64 a0.SRID), .d (eS0 a0.Flat), .d (eS1 a0.Ends), .d (eS3 a0.Endss), .d (eS2 a0.Kids)]]) F ((0 : Int), true, (0 : Int)) l38 rfl rfl (LeL.refl _) rfl rfl ?_
                    intro n44 g42 h1
                    unfold p_Good_l8 at h1
                    refine AC.seq ?_
                    refine AC.region ?_
                    refine AO.op rfl (AOp.ilss rfl rfl (ltb rfl) rfl rfl ?_)
                    refine AO.nil ?_
                    change AC _ _ _ _
                    refine AC.seq ?_
                    refine AC.cond rfl (fun q45 => ?_) (fun q45 => ?_)
                    · replace h1 := cT h1 q45
                      refine AC.skip ?_
                      change AC _ _ _ _
                      refine AC.seq ?_
                      refine AC.block ?_
                      refine AC.seq ?_
                      refine AC.region ?_
                      obtain ⟨x46, q47, h1⟩ := idx_elim h1
                      refine AO.op rfl (AOp.indexDs (cells := (List.map keS3 a0.Endss)) rfl rfl (ltb rfl) rfl rfl el23 (by decide) q47.1 (lt1 q47.2) ?_)
                      refine AO.op rfl (AOp.loadEp rfl rfl (ltb rfl) rfl agg25 (at1 q47.2) ?_)
                      refine AO.op rfl (AOp.assign rfl rfl (ltb rfl) rfl ?_)
                      refine AO.nil ?_
                      change AC _ _ _ _
                      refine AC.seq ?_
                      refine AC.region ?_
                      refine AO.op rfl (AOp.assign rfl rfl (ltb rfl) rfl ?_)
                      refine AO.nil ?_
                      change AC _ _ _ _
                      refine AC.seq ?_
                      refine AC.region ?_
                      refine AO.op rfl (AOp.move rfl rfl (ltb rfl) rfl ?_)
                      refine AO.op rfl (AOp.move rfl rfl (ltb rfl) rfl ?_)
                      refine AO.op rfl (AOp.move rfl rfl (ltb rfl) rfl ?_)
                      obtain ⟨y48, q49, h1⟩ := bind_elim h1
                      refine AO.op rfl (AOp.callD rfl rfl (ltb rfl) rfl rfl (w_goodEnds F x46 g42.1 y1 false y48 q49) ?_)
                      rintro _ rfl
                      refine AO.op rfl (AOp.move rfl rfl (ltb rfl) rfl ?_)
                      first | refine AO.op rfl (AOp.extractD rfl rfl (ltb rfl) rfl rfl ?_) | refine AO.op rfl (AOp.extract rfl rfl (ltb rfl) rfl rfl ?_)
                      first | refine AO.op rfl (AOp.extractD rfl rfl (ltb rfl) rfl rfl ?_) | refine AO.op rfl (AOp.extract rfl rfl (ltb rfl) rfl rfl ?_)
                      refine AO.op rfl (AOp.assign rfl rfl (ltb rfl) rfl ?_)
                      refine AO.op rfl (AOp.assign rfl rfl (ltb rfl) rfl ?_)
                      refine AO.nil ?_
                      change AC _ _ _ _
                      refine AC.region ?_
                      refine AO.op rfl (AOp.move rfl rfl (ltb rfl) rfl ?_)
                      refine AO.op rfl (AOp.move rfl rfl (ltb rfl) rfl ?_)
                      refine AO.dec g42.2.1 (fun q50 => ?_) (fun q50 => ?_)
                      · replace h1 := cT h1 q50
                        refine AO.guardY rfl rfl rfl q50 (AOp.move rfl rfl (ltb rfl) rfl ?_)
                        refine AO.op rfl (AOp.pick rfl rfl (ltb rfl) rfl q50 rfl ?_)
                        refine AO.op rfl (AOp.assign rfl rfl (ltb rfl) rfl ?_)
                        refine AO.nil ?_
                        change AC _ _ _ _
                        refine AC.region ?_
                        obtain ⟨q51, h1⟩ := need_elim h1
                        refine AO.op rfl (AOp.iadd rfl rfl (ltb rfl) rfl rfl rfl q51.1 q51.2 ?_)
                        refine AO.op rfl (AOp.move rfl rfl (ltb rfl) rfl ?_)
                        refine AO.nil ?_
                        exact ⟨(y48.1, y48.2, (g42.2.2 + (1 : Int))), _, rfl, (LeL.refl _), rfl, rfl, h1⟩
                      · replace h1 := cF h1 q50
                        refine AO.guardN rfl rfl rfl (ltb rfl) rfl q50 ?_
                        refine AO.op rfl (AOp.pickN rfl rfl (ltb rfl) rfl q50 rfl ?_)
                        refine AO.op rfl (AOp.assign rfl rfl (ltb rfl) rfl ?_)
                        refine AO.nil ?_
                        change AC _ _ _ _
                        refine AC.region ?_
                        obtain ⟨q52, h1⟩ := need_elim h1
                        refine AO.op rfl (AOp.iadd rfl rfl (ltb rfl) rfl rfl rfl q52.1 q52.2 ?_)
                        refine AO.op rfl (AOp.move rfl rfl (ltb rfl) rfl ?_)
                        refine AO.nil ?_
                        exact ⟨(y48.1, false, (g42.2.2 + (1 : Int))), _, rfl, (LeL.refl _), rfl, rfl, h1⟩
                    · replace h1 := cF h1 q45
                      refine AC.exit ?_
                      obtain rfl := Option.some.inj h1
                      exact ⟨(g42.1, g42.2.1), _, rfl, (LeL.refl _), rfl, rfl, aftL h0⟩
                  · intro g39 h0
                    unfold p_Good_k7 at h0
                    change AC _ _ _ _
                    refine AC.seq ?_
                    refine AC.region ?_
                    refine AO.op rfl (AOp.move rfl rfl (ltb rfl) rfl ?_)
                    refine AO.op rfl (AOp.move rfl rfl (ltb rfl) rfl ?_)
                    refine AO.dec g39.2 (fun q40 => ?_) (fun q40 => ?_)
                    · replace h0 := cT h0 q40
                      refine AO.guardY rfl rfl rfl q40 (AOp.move rfl rfl (ltb rfl) rfl ?_)
                      refine AO.guardY rfl rfl rfl q40 (AOp.fieldAddr rfl rfl (ltb rfl) rfl fo28_3 ?_)
                      refine AO.guardY rfl rfl rfl q40 (AOp.load1 rfl rfl (ltb rfl) rfl agg22 rfl rfl ?_)
                      refine AO.guardY rfl rfl rfl q40 (AOp.lenDs (n := a0.Flat.length) (cells := (List.map keS0 a0.Flat)) rfl rfl (ltb rfl) rfl el22 (by decide) (len1 _ _) ?_)
                      refine AO.guardY rfl rfl rfl q40 (AOp.ieql rfl rfl (ltb rfl) rfl rfl ?_)
                      refine AO.op rfl (AOp.pick rfl rfl (ltb rfl) rfl q40 rfl ?_)
                      refine AO.op rfl (AOp.move rfl rfl (ltb rfl) rfl ?_)
                      refine AO.dec (decide (g39.1 = ((a0.Flat.length : Nat) : Int))) (fun q41 => ?_) (fun q41 => ?_)
                      · replace h0 := cT h0 q41
                        refine AO.guardY rfl rfl rfl q41 (AOp.fieldAddr rfl rfl (ltb rfl) rfl fo28_4 ?_)
                        refine AO.guardY rfl rfl rfl q41 (AOp.load1 rfl rfl (ltb rfl) rfl agg25 rfl rfl ?_)
                        refine AO.guardY rfl rfl rfl q41 (AOp.lenDs (n := a0.Ends.length) (cells := (List.map keS1 a0.Ends)) rfl rfl (ltb rfl) rfl el25 (by decide) (len1 _ _) ?_)
                        refine AO.guardY rfl rfl rfl q41 (AOp.ieql rfl rfl (ltb rfl) rfl rfl ?_)
                        refine AO.op rfl (AOp.pick rfl rfl (ltb rfl) rfl q41 rfl ?_)
                        refine AO.op rfl (AOp.assign rfl rfl (ltb rfl) rfl ?_)
                        refine AO.nil ?_
                        change AC _ _ _ _
                        refine AC.ret ?_
                        change RetQ _ _ _ .ret _
                        obtain rfl := Option.some.inj h0
                        refine retq rfl rfl
                      · replace h0 := cF h0 q41
                        refine AO.guardN rfl rfl rfl (ltb rfl) rfl q41 ?_
                        refine AO.guardN rfl rfl rfl (ltb rfl) rfl q41 ?_
                        refine AO.guardN rfl rfl rfl (ltb rfl) rfl q41 ?_
                        refine AO.guardN rfl rfl rfl (ltb rfl) rfl q41 ?_
                        refine AO.op rfl (AOp.pickN rfl rfl (ltb rfl) rfl q41 rfl ?_)
                        refine AO.op rfl (AOp.assign rfl rfl (ltb rfl) rfl ?_)
                        refine AO.nil ?_
                        change AC _ _ _ _
                        refine AC.ret ?_
                        change RetQ _ _ _ .ret _
                        obtain rfl := Option.some.inj h0
                        refine retq rfl rfl
                    · replace h0 := cF h0 q40
                      refine AO.guardN rfl rfl rfl (ltb rfl) rfl q40 ?_
                      refine AO.guardN rfl rfl rfl (ltb rfl) rfl q40 ?_
                      refine AO.guardN rfl rfl rfl (ltb rfl) rfl q40 ?_
                      refine AO.guardN rfl rfl rfl (ltb rfl) rfl q40 ?_
                      refine AO.guardN rfl rfl rfl (ltb rfl) rfl q40 ?_
                      refine AO.op rfl (AOp.pickN rfl rfl (ltb rfl) rfl q40 rfl ?_)
                      refine AO.op rfl (AOp.move rfl rfl (ltb rfl) rfl ?_)
                      refine AO.guardN rfl rfl rfl (ltb rfl) rfl rfl ?_
                      refine AO.guardN rfl rfl rfl (ltb rfl) rfl rfl ?_
                      refine AO.guardN rfl rfl rfl (ltb rfl) rfl rfl ?_
                      refine AO.guardN rfl rfl rfl (ltb rfl) rfl rfl ?_
                      refine AO.op rfl (AOp.pickN rfl rfl (ltb rfl) rfl rfl rfl ?_)
                      refine AO.op rfl (AOp.assign rfl rfl (ltb rfl) rfl ?_)
                      refine AO.nil ?_
                      change AC _ _ _ _
                      refine AC.ret ?_
                      change RetQ _ _ _ .ret _
                      obtain rfl := Option.some.inj h0
                      refine retq rfl rfl
                · replace h0 := cF h0 q36
                  refine AC.skip ?_
                  change AC _ _ _ _
                  refine AC.seq ?_
                  refine AC.region ?_
                  refine AO.op rfl (AOp.assign rfl rfl (ltb rfl) rfl ?_)
                  refine AO.nil ?_
                  change AC _ _ _ _
                  refine AC.ret ?_
                  change RetQ _ _ _ .ret _
                  obtain rfl := Option.some.inj h0
                  refine retq rfl rfl
theorem w_Good : ∀ (F : Nat) (a0 : TImpl_Geom) (r0 : Bool), p_Good F a0 = some r0 → FnD Try.prog 40 [e_TImpl_Geom a0] (fun r => r = dbool r0)
  | 0, _, _, h => by cases h
  | F + 1, a0, r0, h => w_Good_b _ (fun a0 r0 h => w_Good F a0 r0 h) F a0 r0 h

set_option maxRecDepth 100000 in
set_option maxHeartbeats 1000000 in
/-- pub-orthodrome/laws.gGood -/
theorem w_gGood (F : Nat) (a0 : (List TImpl_Geom)) (r0 : Bool) (h0 : p_gGood F a0 = some r0) : FnD Try.prog 22 [eS2 a0] (fun r => r = dbool r0) := by
  refine FnD.of (by kernel_rfl) Try.func22 rfl Try.ntmps22 rfl (leb rfl) fun W ok => ?_
  unfold p_gGood at h0
  refine AC.seq ?_
  refine AC.region ?_
  refine AO.op rfl (AOp.assign rfl rfl (ltb rfl) rfl ?_)
  refine AO.nil ?_
  change AC _ _ _ _
  refine AC.seq ?_
  refine AC.seq ?_
  refine AC.region ?_
  refine AO.op rfl (AOp.move rfl rfl (ltb rfl) rfl ?_)
  obtain ⟨y1, q2, h0⟩ := bind_elim h0
  refine AO.op rfl (AOp.callD rfl rfl (ltb rfl) rfl rfl (w_gSmall F a0 y1 q2) ?_)
  rintro _ rfl
  refine AO.op rfl (AOp.bnot rfl rfl (ltb rfl) rfl ?_)
  refine AO.nil ?_
  change AC _ _ _ _
  refine AC.cond rfl (fun q3 => ?_) (fun q3 => ?_)
  · replace h0 := cT h0 q3
    refine AC.seq ?_
    refine AC.region ?_
    refine AO.op rfl (AOp.assign rfl rfl (ltb rfl) rfl ?_)
    refine AO.nil ?_
    change AC _ _ _ _
    refine AC.ret ?_
    change RetQ _ _ _ .ret _
    obtain rfl := Option.some.inj h0
    refine retq rfl rfl
  · replace h0 := cF h0 q3
    refine AC.skip ?_
    change AC _ _ _ _
    refine AC.seq ?_
    refine AC.seq ?_
    refine AC.region ?_
    refine AO.op rfl (AOp.move rfl rfl (ltb rfl) rfl ?_)
    refine AO.op rfl (AOp.lenDs (n := a0.length) (cells := (List.flatMap c0_TImpl_Geom a0)) rfl rfl (ltb rfl) rfl el26 (by decide) (lenN _ 7 c0_TImpl_Geom_len _) ?_)
    refine AO.op rfl (AOp.move rfl rfl (ltb rfl) rfl ?_)
    refine AO.nil ?_
    change AC _ _ _ _
    obtain ⟨o4, l5, h0⟩ := bind_elim h0
    refine AC.joinE (V := Unit) [] [] 0 (fun g6 => []) (fun g6 => []) (fun g6 => p_gGood_k1 g6 = some r0) rfl ?_ ?_
    · refine AC.block ?_
      refine AC.loopP (V := Int) (p_gGood_l2 a0 F) o4 [8, 9] [10] 0 (fun g7 => [(10, .d (di .i64 g7))]) (fun g7 => []) F (0 : Int) l5 rfl rfl (LeL.refl _) rfl rfl ?_
      intro n9 g7 h1
      unfold p_gGood_l2 at h1
      refine AC.seq ?_
      refine AC.region ?_
      refine AO.op rfl (AOp.ilss rfl rfl (ltb rfl) rfl rfl ?_)
      refine AO.nil ?_
      change AC _ _ _ _
      refine AC.seq ?_
      refine AC.cond rfl (fun q10 => ?_) (fun q10 => ?_)
      · replace h1 := cT h1 q10
        refine AC.skip ?_
        change AC _ _ _ _
        refine AC.seq ?_
        refine AC.block ?_
        refine AC.seq ?_
        refine AC.region ?_
        obtain ⟨x11, q12, h1⟩ := idx_elim h1
        refine AO.op rfl (AOp.indexDs (cells := (List.flatMap c0_TImpl_Geom a0)) rfl rfl (ltb rfl) rfl rfl el26 (by decide) q12.1 (ltN 7 c0_TImpl_Geom_len (by decide) q12.2) ?_)
        refine AO.op rfl (AOp.loadEpN rfl rfl (ltb rfl) rfl agg28 size28 (leN 7 c0_TImpl_Geom_len q12.2) ((atN 7 c0_TImpl_Geom_len q12.2).trans (c0_TImpl_Geom_eq x11)) ?_)
        refine AO.op rfl (AOp.alloc rfl rfl (ltb rfl) zero28 rfl ?_)
        refine AO.op rfl (AOp.store rfl rfl rfl rfl size28 rfl rfl rfl (leb rfl) ?_)
        refine AO.nil ?_
        change AC _ _ _ _
        refine AC.seq ?_
        refine AC.region ?_
        refine AO.op rfl (AOp.loadN rfl rfl (ltb rfl) rfl agg28 size28 rfl (leb rfl) rfl ?_)
        obtain ⟨y13, q14, h1⟩ := bind_elim h1
        refine AO.op rfl (AOp.callD rfl rfl (ltb rfl) rfl rfl (w_Good F x11 y13 q14) ?_)
        rintro _ rfl
        refine AO.op rfl (AOp.bnot rfl rfl (ltb rfl) rfl ?_)
        refine AO.nil ?_
        change AC _ _ _ _
        refine AC.cond rfl (fun q15 => ?_) (fun q15 => ?_)
        · replace h1 := cT h1 q15
          refine AC.seq ?_
          refine AC.region ?_
          refine AO.op rfl (AOp.assign rfl rfl (ltb rfl) rfl ?_)
          refine AO.nil ?_
          change AC _ _ _ _
          refine AC.ret ?_
          change RetQ _ _ _ .ret _
          obtain rfl := Option.some.inj h1
          replace h0 := aftR h0
          obtain rfl := Option.some.inj h0
          refine retq rfl rfl
        · replace h1 := cF h1 q15
          refine AC.skip ?_
          change AC _ _ _ _
          refine AC.region ?_
          obtain ⟨q16, h1⟩ := need_elim h1
          refine AO.op rfl (AOp.iadd rfl rfl (ltb rfl) rfl rfl rfl q16.1 q16.2 ?_)
          refine AO.op rfl (AOp.move rfl rfl (ltb rfl) rfl ?_)
          refine AO.nil ?_
          exact ⟨(g7 + (1 : Int)), _, rfl, (LeL.refl _), rfl, rfl, h1⟩
      · replace h1 := cF h1 q10
        refine AC.exit ?_
        obtain rfl := Option.some.inj h1
        exact ⟨(), _, rfl, (LeL.refl _), rfl, rfl, aftL h0⟩
    · intro g6 h0
      unfold p_gGood_k1 at h0
      change AC _ _ _ _
      refine AC.seq ?_
      refine AC.region ?_
      refine AO.op rfl (AOp.assign rfl rfl (ltb rfl) rfl ?_)
      refine AO.nil ?_
      change AC _ _ _ _
      refine AC.ret ?_
      change RetQ _ _ _ .ret _
      obtain rfl := Option.some.inj h0
      refine retq rfl rfl

set_option maxRecDepth 100000 in
set_option maxHeartbeats 1000000 in
/-- pub-orthodrome/laws.fRows -/
theorem w_fRows (F : Nat) (a0 : (List Nat)) (a1 : (List Int)) (a2 : Int) (r0 : (TImpl_Geom × Bool)) (h0 : p_fRows F a0 a1 a2 = some r0) : FnD Try.prog 12 [eS0 a0, eS1 a1, di .i64 a2] (fun r => r = .tu [e_TImpl_Geom r0.1, dbool r0.2]) := by
  refine FnD.of (by kernel_rfl) Try.func12 rfl Try.ntmps12 rfl (leb rfl) fun W ok => ?_
  unfold p_fRows at h0
  refine AC.seq ?_
  refine AC.region ?_
  refine AO.op rfl (AOp.alloc rfl rfl (ltb rfl) zero28 rfl ?_)
  refine AO.op rfl (AOp.assign rfl rfl (ltb rfl) rfl ?_)
  refine AO.nil ?_
  change AC _ _ _ _
  refine AC.seq ?_
  refine AC.seq ?_
  refine AC.region ?_
  refine AO.op rfl (AOp.move rfl rfl (ltb rfl) rfl ?_)
  obtain ⟨y1, q2, h0⟩ := bind_elim h0
  refine AO.op rfl (AOp.callD rfl rfl (ltb rfl) rfl rfl (w_fStride a2 y1 q2) ?_)
  rintro _ rfl
  refine AO.op rfl (AOp.bnot rfl rfl (ltb rfl) rfl ?_)
  refine AO.nil ?_
  change AC _ _ _ _
  refine AC.cond rfl (fun q3 => ?_) (fun q3 => ?_)
  · replace h0 := cT h0 q3
    refine AC.seq ?_
    refine AC.region ?_
    refine AO.op rfl (AOp.build rfl rfl (ltb rfl) zero28 rfl places28 rfl rfl ?_)
    refine AO.op rfl (AOp.store rfl rfl rfl rfl size28 rfl rfl rfl (leb rfl) ?_)
    refine AO.op rfl (AOp.assign rfl rfl (ltb rfl) rfl ?_)
    refine AO.nil ?_
    change AC _ _ _ _
    refine AC.subO 0 rfl (.cons (SVLe.refl _) (.cons (SVLe.refl _) (.cons (SVLe.refl _) (.cons (SVLe.nil 1) (.cons (SVLe.nil 1) (.cons (SVLe.nil 1) (.cons (SVLe.nil 7) .nil))))))) ?_
    refine AC.ret ?_
    change RetQ _ _ _ .ret _
    obtain rfl := Option.some.inj h0
    refine retq rfl rfl
  · replace h0 := cF h0 q3
    refine AC.skip ?_
    change AC _ _ _ _
    refine AC.seq ?_
    refine AC.region ?_
    refine AO.op rfl (AOp.move rfl rfl (ltb rfl) rfl ?_)
    obtain ⟨y4, q5, h0⟩ := bind_elim h0
    refine AO.op rfl (AOp.callD rfl rfl (ltb rfl) rfl rfl (w_fLayout a2 y4 q5) ?_)
    rintro _ rfl
    refine AO.op rfl (AOp.move rfl rfl (ltb rfl) rfl ?_)
    refine AO.op rfl (AOp.move rfl rfl (ltb rfl) rfl ?_)
    refine AO.op rfl (AOp.build rfl rfl (ltb rfl) zero28 rfl places28 rfl rfl ?_)
    refine AO.op rfl (AOp.alloc rfl rfl (ltb rfl) zero28 rfl ?_)
    refine AO.op rfl (AOp.store rfl rfl rfl rfl size28 rfl rfl rfl (leb rfl) ?_)
    refine AO.nil ?_
    change AC _ _ _ _
    refine AC.seq ?_
    refine AC.subO 1 rfl (.cons (SVLe.refl _) (.cons (SVLe.refl _) (.cons (SVLe.refl _) (.cons (SVLe.refl _) (.cons (SVLe.refl _) (.cons (SVLe.nil 1) (.cons (SVLe.nil 7) .nil))))))) ?_
    refine AC.draw 4 mixed (by kernel_rfl) ?_
    refine AD.op [8] rfl (by kernel_rfl) rfl rfl (fun _ _ h => AOp.loadN rfl rfl (ltb rfl) rfl agg28 size28 rfl (leb rfl) rfl h) ?_
    refine AD.op [8] rfl (by kernel_rfl) rfl rfl (fun _ _ h => AOp.loadN rfl rfl (ltb rfl) rfl agg28 size28 rfl (leb rfl) rfl h) ?_
    refine AD.op [19] rfl (by kernel_rfl) rfl rfl (fun _ _ h => AOp.buildSliceD rfl rfl (ltb rfl) el26 zero28 rfl (leb rfl) rfl rfl rfl rfl (AO.top (y := .d (eS2 [(TImpl_Geom.mk (3 : Int) y4 (0 : Int) a0 a1 [] [])])) (SVLe.of_eq (by simp only [eS2, List.flatMap_cons, List.flatMap_nil, c0_TImpl_Geom_eq, List.append_nil] <;> rfl)) h)) ?_
    obtain ⟨y6, q7, h0⟩ := bind_elim h0
    refine AD.op [20] rfl (by kernel_rfl) rfl rfl (fun _ _ h => AOp.callD rfl rfl (ltb rfl) rfl rfl (w_gGood F [(TImpl_Geom.mk (3 : Int) y4 (0 : Int) a0 a1 [] [])] y6 q7) (by rintro _ rfl; exact h)) ?_
    refine AD.done ?_
    refine AO.op rfl (AOp.store rfl rfl rfl rfl size28 rfl rfl rfl (leb rfl) ?_)
    refine AO.op rfl (AOp.assign rfl rfl (ltb rfl) rfl ?_)
    refine AO.nil ?_
    change AC _ _ _ _
    refine AC.ret ?_
    change RetQ _ _ _ .ret _
    obtain rfl := Option.some.inj h0
    refine retq rfl rfl

open Flt (truncD okF inR K20)
def notNan (x : Nat) : Prop := (FloatKind.f64.decode x).isNaN = false
def truncS (x : Nat) (d : Ieee.Datum) : Sem Value :=
  match d with
  | .nan s t =>
    if FloatKind.f64.format.quiet t = t then pure (.float .f64 x) else do
      let kept ← choose (.extern "math.Floor,Ceil,Trunc,RoundToEven.signallingNaN kept" 2)
      pure (.float .f64 (if kept == 1 then x else FloatKind.f64.encode (.nan s (FloatKind.f64.format.quiet t))))
  | d => pure (.float .f64 (FloatKind.f64.encode (d.integral .zero)))
theorem run_trunc (P : Program) (x : Nat) (h : notNan x) (w : World) : (Extern.MathFloor.toIntegral "math.archTrunc" .zero #[.float .f64 x]).run P w = .ok (.float .f64 (truncD x)) w := by
  unfold notNan at h
  have e : Extern.MathFloor.toIntegral "math.archTrunc" .zero #[.float .f64 x] = truncS x (FloatKind.f64.decode x) := rfl
  have e2 : ∀ d : Ieee.Datum, d.isNaN = false → truncS x d = pure (.float .f64 (FloatKind.f64.encode (d.integral .zero))) := by
    intro d hd
    cases d with
    | nan s t => cases hd
    | number s m e => rfl
    | infinity s => rfl
  rw [e, e2 _ h]
  rfl

theorem callTrunc (x : Nat) (h : notNan x) (w : World) : (callFunc 47 #[.float .f64 x]).run Try.prog w = .ok (.value (.float .f64 (truncD x))) w := by
  rw [run_callFunc_extern Try.func47 (by kernel_rfl) (by kernel_rfl) (by kernel_rfl) (e := Extern.MathFloor.toIntegral "math.archTrunc" .zero) (by kernel_rfl), run_trunc Try.prog x h]
  rfl

theorem inR_nn (m x : Nat) (h : fle x m = true) : notNan x := by
  unfold fle at h
  unfold notNan
  unfold Ieee.Format.order at h
  show (Ieee.double.read x).isNaN = false
  generalize Ieee.double.read x = d at *
  cases d with
  | nan s t => simp [Ieee.Datum.order] at h
  | number s m e => rfl
  | infinity s => rfl

set_option maxRecDepth 100000 in
/-- math.Trunc -/
theorem trunc (x : Nat) (h : notNan x) : FnD Try.prog 34 [dfl x] (fun r => r = dfl (truncD x)) := by
  refine FnD.of (by kernel_rfl) Try.func34 rfl Try.ntmps34 rfl (leb rfl) fun W ok => ?_
  refine AC.seq ?_
  refine AC.region ?_
  refine AO.op rfl (AOp.assign rfl rfl (ltb rfl) rfl ?_)
  refine AO.nil ?_
  change AC _ _ _ _
  refine AC.seq ?_
  refine AC.condT rfl rfl ?_
  refine AC.seq ?_
  refine AC.region ?_
  refine AO.op rfl (AOp.move rfl rfl (ltb rfl) rfl ?_)
  refine AO.op rfl (AOp.callX [.float .f64 x] rfl rfl (ltb rfl) rfl (callTrunc x h) ?_)
  refine AO.op rfl (AOp.assign rfl rfl (ltb rfl) rfl ?_)
  refine AO.nil ?_
  change AC _ _ _ _
  refine AC.ret ?_
  change RetQ _ _ _ .ret _
  refine retq rfl ?_
  exact rfl

theorem notNan_of {x : Nat} (h : Flt.isNan x = false) : notNan x := h
theorem callTruncA (x : Nat) (h : Flt.isNan x = true) (w : World) : ∃ r w', (callFunc 47 #[.float .f64 x]).run Try.prog w = .ok (.value r) w' ∧ (w' = w ∨ w' = w.drew) ∧ ∃ z, r = .float .f64 z ∧ Flt.isNan z = true := by
  obtain ⟨r, w', h1, h2, h3⟩ := Flt.run_truncA Try.prog x h w
  refine ⟨r, w', ?_, h2, h3⟩
  rw [run_callFunc_extern Try.func47 (by kernel_rfl) (by kernel_rfl) (by kernel_rfl) (e := Extern.MathFloor.toIntegral "math.archTrunc" .zero) (by kernel_rfl), h1]
  rfl
set_option maxRecDepth 100000 in
theorem truncNN (x : Nat) (h : Flt.isNan x = true) : FnD Try.prog 34 [dfl x] (fun r => ∃ z, r = dfl z ∧ Flt.isNan z = true) := by
  refine FnD.of (by kernel_rfl) Try.func34 rfl Try.ntmps34 rfl (leb rfl) fun W ok => ?_
  refine AC.seq ?_
  refine AC.region ?_
  refine AO.op rfl (AOp.assign rfl rfl (ltb rfl) rfl ?_)
  refine AO.nil ?_
  change AC _ _ _ _
  refine AC.seq ?_
  refine AC.condT rfl rfl ?_
  refine AC.seq ?_
  refine AC.region ?_
  refine AO.op rfl (AOp.move rfl rfl (ltb rfl) rfl ?_)
  refine AO.op rfl (AOp.callXA [.float .f64 x] rfl rfl (ltb rfl) rfl (callTruncA x h) ?_)
  rintro _ ⟨z, rfl, hz⟩
  refine AO.op rfl (AOp.assign rfl rfl (ltb rfl) rfl ?_)
  refine AO.nil ?_
  change AC _ _ _ _
  refine AC.ret ?_
  change RetQ _ _ _ .ret _
  refine retq rfl ?_
  exact ⟨z, rfl, hz⟩

theorem truncA (x : Nat) : FnD Try.prog 34 [dfl x] (fun r => ∃ z, r = dfl z ∧ Flt.TruncR x z) := by
  cases h : Flt.isNan x with
  | false => exact (trunc x h).mono fun r hr => ⟨_, hr, fun _ => rfl, fun h2 => by rw [h] at h2; cases h2⟩
  | true => exact (truncNN x h).mono fun r ⟨z, h1, h2⟩ => ⟨z, h1, fun h3 => by (rw [h] at h3; cases h3), fun _ => h2⟩

set_option maxRecDepth 100000 in
set_option maxHeartbeats 1000000 in
/-- pub-orthodrome/laws.gWhole -/
theorem w_gWhole (a0 : Nat) (r0 : Bool) (h0 : p_gWhole a0 = some r0) : FnD Try.prog 17 [dfl a0] (fun r => r = dbool r0) := by
  refine FnD.of (by kernel_rfl) Try.func17 rfl Try.ntmps17 rfl (leb rfl) fun W ok => ?_
  unfold p_gWhole at h0
  refine AC.seq ?_
  refine AC.region ?_
  refine AO.op rfl (AOp.assign rfl rfl (ltb rfl) rfl ?_)
  refine AO.nil ?_
  change AC _ _ _ _
  refine AC.seq ?_
  refine AC.region ?_
  refine AO.op rfl (AOp.move rfl rfl (ltb rfl) rfl ?_)
  refine AO.op rfl (AOp.fgeq rfl rfl (ltb rfl) rfl rfl ?_)
  refine AO.op rfl (AOp.move rfl rfl (ltb rfl) rfl ?_)
  refine AO.dec (fge a0 (13920626448202203136 : Nat)) (fun q1 => ?_) (fun q1 => ?_)
  · replace h0 := cT h0 q1
    refine AO.guardY rfl rfl rfl q1 (AOp.move rfl rfl (ltb rfl) rfl ?_)
    refine AO.guardY rfl rfl rfl q1 (AOp.fleq rfl rfl (ltb rfl) rfl rfl ?_)
    refine AO.op rfl (AOp.pick rfl rfl (ltb rfl) rfl q1 rfl ?_)
    refine AO.op rfl (AOp.move rfl rfl (ltb rfl) rfl ?_)
    refine AO.dec (fle a0 (4697254411347427328 : Nat)) (fun q2 => ?_) (fun q2 => ?_)
    · replace h0 := cT h0 q2
      refine AO.guardY rfl rfl rfl q2 (AOp.move rfl rfl (ltb rfl) rfl ?_)
      refine AO.guardY rfl rfl rfl q2 (AOp.move rfl rfl (ltb rfl) rfl ?_)
      refine AO.guardY rfl rfl rfl q2 (AOp.callD rfl rfl (ltb rfl) rfl rfl (truncA a0) ?_)
      rintro _ ⟨z3, rfl, hz4⟩
      refine AO.guardY rfl rfl rfl q2 (AOp.feql rfl rfl (ltb rfl) rfl rfl ?_)
      rw [hz4.feq]
      refine AO.op rfl (AOp.pick rfl rfl (ltb rfl) rfl q2 rfl ?_)
      refine AO.op rfl (AOp.assign rfl rfl (ltb rfl) rfl ?_)
      refine AO.nil ?_
      change AC _ _ _ _
      refine AC.ret ?_
      change RetQ _ _ _ .ret _
      obtain rfl := Option.some.inj h0
      refine retq rfl rfl
    · replace h0 := cF h0 q2
      refine AO.guardN rfl rfl rfl (ltb rfl) rfl q2 ?_
      refine AO.guardN rfl rfl rfl (ltb rfl) rfl q2 ?_
      refine AO.guardN rfl rfl rfl (ltb rfl) rfl q2 ?_
      refine AO.guardN rfl rfl rfl (ltb rfl) rfl q2 ?_
      refine AO.op rfl (AOp.pickN rfl rfl (ltb rfl) rfl q2 rfl ?_)
      refine AO.op rfl (AOp.assign rfl rfl (ltb rfl) rfl ?_)
      refine AO.nil ?_
      change AC _ _ _ _
      refine AC.ret ?_
      change RetQ _ _ _ .ret _
      obtain rfl := Option.some.inj h0
      refine retq rfl rfl
  · replace h0 := cF h0 q1
    refine AO.guardN rfl rfl rfl (ltb rfl) rfl q1 ?_
    refine AO.guardN rfl rfl rfl (ltb rfl) rfl q1 ?_
    refine AO.op rfl (AOp.pickN rfl rfl (ltb rfl) rfl q1 rfl ?_)
    refine AO.op rfl (AOp.move rfl rfl (ltb rfl) rfl ?_)
    refine AO.guardN rfl rfl rfl (ltb rfl) rfl rfl ?_
    refine AO.guardN rfl rfl rfl (ltb rfl) rfl rfl ?_
    refine AO.guardN rfl rfl rfl (ltb rfl) rfl rfl ?_
    refine AO.guardN rfl rfl rfl (ltb rfl) rfl rfl ?_
    refine AO.op rfl (AOp.pickN rfl rfl (ltb rfl) rfl rfl rfl ?_)
    refine AO.op rfl (AOp.assign rfl rfl (ltb rfl) rfl ?_)
    refine AO.nil ?_
    change AC _ _ _ _
    refine AC.ret ?_
    change RetQ _ _ _ .ret _
    obtain rfl := Option.some.inj h0
    refine retq rfl rfl

set_option maxRecDepth 100000 in
set_option maxHeartbeats 1000000 in
/-- pub-orthodrome/laws.gEach -/
theorem w_gEach_b (Rec_ : TImpl_Geom → Option Bool) (hR : ∀ (a0 : TImpl_Geom) (r0 : Bool), Rec_ a0 = some r0 → FnD Try.prog 16 [e_TImpl_Geom a0, .v (.func (.func 17) #[] #[])] (fun r => r = dbool r0)) (F : Nat) (a0 : TImpl_Geom) (r0 : Bool) (h0 : p_gEach_b Rec_ F a0 = some r0) : FnD Try.prog 16 [e_TImpl_Geom a0, .v (.func (.func 17) #[] #[])] (fun r => r = dbool r0) := by
  refine FnD.of (by kernel_rfl) Try.func16 rfl Try.ntmps16 rfl (leb rfl) fun W ok => ?_
  unfold p_gEach_b at h0
  refine AC.seq ?_
  refine AC.region ?_
  refine AO.op rfl (AOp.box rfl rfl (ltb rfl) rfl rfl ?_)
  refine AO.op rfl (AOp.assign rfl rfl (ltb rfl) rfl ?_)
  refine AO.nil ?_
  change AC _ _ _ _
  refine AC.seq ?_
  refine AC.seq ?_
  refine AC.region ?_
  refine AO.op rfl (AOp.fieldAddr rfl rfl (ltb rfl) rfl fo28_3 ?_)
  refine AO.op rfl (AOp.load1 rfl rfl (ltb rfl) rfl agg22 rfl rfl ?_)
  refine AO.op rfl (AOp.lenDs (n := a0.Flat.length) (cells := (List.map keS0 a0.Flat)) rfl rfl (ltb rfl) rfl el22 (by decide) (len1 _ _) ?_)
  refine AO.op rfl (AOp.move rfl rfl (ltb rfl) rfl ?_)
  refine AO.nil ?_
  change AC _ _ _ _
  obtain ⟨o1, l2, h0⟩ := bind_elim h0
  refine AC.joinE (V := Unit) [1, 2] [] 1 (fun g3 => []) (fun g3 => [.fix 28 [.d (di .i64 a0.Kind), .d (di .i64 a0.Layout), .d (di .i64 a0.SRID), .d (eS0 a0.Flat), .d (eS1 a0.Ends), .d (eS3 a0.Endss), .d (eS2 a0.Kids)]]) (fun g3 => (p_gEach_k1 a0 F Rec_) g3 = some r0) rfl ?_ ?_
  · refine AC.block ?_
    refine AC.loopP (V := Int) (p_gEach_l4 a0) o1 [1, 2, 10, 11] [12] 1 (fun g17 => [(12, .d (di .i64 g17))]) (fun g17 => [.fix 28 [.d (di .i64 a0.Kind), .d (di .i64 a0.Layout), .d (di .i64 a0.SRID), .d (eS0 a0.Flat), .d (eS1 a0.Ends), .d (eS3 a0.Endss), .d (eS2 a0.Kids)]]) F (0 : Int) l2 rfl rfl (LeL.refl _) rfl rfl ?_
    intro n19 g17 h1
    unfold p_gEach_l4 at h1
    refine AC.seq ?_
    refine AC.region ?_
    refine AO.op rfl (AOp.ilss rfl rfl (ltb rfl) rfl rfl ?_)
    refine AO.nil ?_
    change AC _ _ _ _
    refine AC.seq ?_
    refine AC.cond rfl (fun q20 => ?_) (fun q20 => ?_)
    · replace h1 := cT h1 q20
      refine AC.skip ?_
      change AC _ _ _ _
      refine AC.seq ?_
      refine AC.block ?_
      refine AC.seq ?_
      refine AC.region ?_
      obtain ⟨x21, q22, h1⟩ := idx_elim h1
      refine AO.op rfl (AOp.indexDs (cells := (List.map keS0 a0.Flat)) rfl rfl (ltb rfl) rfl rfl el22 (by decide) q22.1 (lt1 q22.2) ?_)
      refine AO.op rfl (AOp.loadEp rfl rfl (ltb rfl) rfl agg48 (at1 q22.2) ?_)
      refine AO.op rfl (AOp.assign rfl rfl (ltb rfl) rfl ?_)
      refine AO.nil ?_
      change AC _ _ _ _
      refine AC.seq ?_
      refine AC.region ?_
      refine AO.op rfl (AOp.move rfl rfl (ltb rfl) rfl ?_)
      refine AO.op rfl (AOp.move rfl rfl (ltb rfl) rfl ?_)
      obtain ⟨y23, q24, h1⟩ := bind_elim h1
      refine AO.op rfl (AOp.callF rfl rfl (ltb rfl) rfl rfl rfl (w_gWhole x21 y23 q24) ?_)
      rintro _ rfl
      refine AO.op rfl (AOp.bnot rfl rfl (ltb rfl) rfl ?_)
      refine AO.nil ?_
      change AC _ _ _ _
      refine AC.cond rfl (fun q25 => ?_) (fun q25 => ?_)
      · replace h1 := cT h1 q25
        refine AC.seq ?_
        refine AC.region ?_
        refine AO.op rfl (AOp.assign rfl rfl (ltb rfl) rfl ?_)
        refine AO.nil ?_
        change AC _ _ _ _
        refine AC.ret ?_
        change RetQ _ _ _ .ret _
        obtain rfl := Option.some.inj h1
        replace h0 := aftR h0
        obtain rfl := Option.some.inj h0
        refine retq rfl rfl
      · replace h1 := cF h1 q25
        refine AC.skip ?_
        change AC _ _ _ _
        refine AC.region ?_
        obtain ⟨q26, h1⟩ := need_elim h1
        refine AO.op rfl (AOp.iadd rfl rfl (ltb rfl) rfl rfl rfl q26.1 q26.2 ?_)
        refine AO.op rfl (AOp.move rfl rfl (ltb rfl) rfl ?_)
        refine AO.nil ?_
        exact ⟨(g17 + (1 : Int)), _, rfl, (LeL.refl _), rfl, rfl, h1⟩
    · replace h1 := cF h1 q20
      refine AC.exit ?_
      obtain rfl := Option.some.inj h1
      exact ⟨(), _, rfl, (LeL.refl _), rfl, rfl, aftL h0⟩
  · intro g3 h0
    unfold p_gEach_k1 at h0
    change AC _ _ _ _
    refine AC.seq ?_
    refine AC.seq ?_
    refine AC.region ?_
    refine AO.op rfl (AOp.fieldAddr rfl rfl (ltb rfl) rfl fo28_6 ?_)
    refine AO.op rfl (AOp.load1 rfl rfl (ltb rfl) rfl agg26 rfl rfl ?_)
    refine AO.op rfl (AOp.lenDs (n := a0.Kids.length) (cells := (List.flatMap c0_TImpl_Geom a0.Kids)) rfl rfl (ltb rfl) rfl el26 (by decide) (lenN _ 7 c0_TImpl_Geom_len _) ?_)
    refine AO.op rfl (AOp.move rfl rfl (ltb rfl) rfl ?_)
    refine AO.nil ?_
    change AC _ _ _ _
    obtain ⟨o4, l5, h0⟩ := bind_elim h0
    refine AC.joinE (V := Unit) [] [] 1 (fun g6 => []) (fun g6 => [.fix 28 [.d (di .i64 a0.Kind), .d (di .i64 a0.Layout), .d (di .i64 a0.SRID), .d (eS0 a0.Flat), .d (eS1 a0.Ends), .d (eS3 a0.Endss), .d (eS2 a0.Kids)]]) (fun g6 => p_gEach_k2 g6 = some r0) rfl ?_ ?_
    · refine AC.block ?_
      refine AC.loopP (V := Int) (p_gEach_l3 a0 Rec_) o4 [1, 22, 23] [24] 1 (fun g7 => [(24, .d (di .i64 g7))]) (fun g7 => [.fix 28 [.d (di .i64 a0.Kind), .d (di .i64 a0.Layout), .d (di .i64 a0.SRID), .d (eS0 a0.Flat), .d (eS1 a0.Ends), .d (eS3 a0.Endss), .d (eS2 a0.Kids)]]) F (0 : Int) l5 rfl rfl (LeL.refl _) rfl rfl ?_
      intro n9 g7 h1
      unfold p_gEach_l3 at h1
      refine AC.seq ?_
      refine AC.region ?_
      refine AO.op rfl (AOp.ilss rfl rfl (ltb rfl) rfl rfl ?_)
      refine AO.nil ?_
      change AC _ _ _ _
      refine AC.seq ?_
      refine AC.cond rfl (fun q10 => ?_) (fun q10 => ?_)
      · replace h1 := cT h1 q10
        refine AC.skip ?_
        change AC _ _ _ _
        refine AC.seq ?_
        refine AC.block ?_
        refine AC.seq ?_
        refine AC.region ?_
        obtain ⟨x11, q12, h1⟩ := idx_elim h1
        refine AO.op rfl (AOp.indexDs (cells := (List.flatMap c0_TImpl_Geom a0.Kids)) rfl rfl (ltb rfl) rfl rfl el26 (by decide) q12.1 (ltN 7 c0_TImpl_Geom_len (by decide) q12.2) ?_)
        refine AO.op rfl (AOp.loadEpN rfl rfl (ltb rfl) rfl agg28 size28 (leN 7 c0_TImpl_Geom_len q12.2) ((atN 7 c0_TImpl_Geom_len q12.2).trans (c0_TImpl_Geom_eq x11)) ?_)
        refine AO.op rfl (AOp.alloc rfl rfl (ltb rfl) zero28 rfl ?_)
        refine AO.op rfl (AOp.store rfl rfl rfl rfl size28 rfl rfl rfl (leb rfl) ?_)
        refine AO.nil ?_
        change AC _ _ _ _
        refine AC.seq ?_
        refine AC.region ?_
        refine AO.op rfl (AOp.loadN rfl rfl (ltb rfl) rfl agg28 size28 rfl (leb rfl) rfl ?_)
        refine AO.op rfl (AOp.move rfl rfl (ltb rfl) rfl ?_)
        obtain ⟨y13, q14, h1⟩ := bind_elim h1
        refine AO.op rfl (AOp.callD rfl rfl (ltb rfl) rfl rfl (hR x11 y13 q14) ?_)
        rintro _ rfl
        refine AO.op rfl (AOp.bnot rfl rfl (ltb rfl) rfl ?_)
        refine AO.nil ?_
        change AC _ _ _ _
        refine AC.cond rfl (fun q15 => ?_) (fun q15 => ?_)
        · replace h1 := cT h1 q15
          refine AC.seq ?_
          refine AC.region ?_
          refine AO.op rfl (AOp.assign rfl rfl (ltb rfl) rfl ?_)
          refine AO.nil ?_
          change AC _ _ _ _
          refine AC.ret ?_
          change RetQ _ _ _ .ret _
          obtain rfl := Option.some.inj h1
          replace h0 := aftR h0
          obtain rfl := Option.some.inj h0
          refine retq rfl rfl
        · replace h1 := cF h1 q15
          refine AC.skip ?_
          change AC _ _ _ _
          refine AC.region ?_
          obtain ⟨q16, h1⟩ := need_elim h1
          refine AO.op rfl (AOp.iadd rfl rfl (ltb rfl) rfl rfl rfl q16.1 q16.2 ?_)
          refine AO.op rfl (AOp.move rfl rfl (ltb rfl) rfl ?_)
          refine AO.nil ?_
          exact ⟨(g7 + (1 : Int)), _, rfl, (LeL.refl _), rfl, rfl, h1⟩
      · replace h1 := cF h1 q10
        refine AC.exit ?_
        obtain rfl := Option.some.inj h1
        exact ⟨(), _, rfl, (LeL.refl _), rfl, rfl, aftL h0⟩
    · intro g6 h0
      unfold p_gEach_k2 at h0
      change AC _ _ _ _
      refine AC.seq ?_
      refine AC.region ?_
      refine AO.op rfl (AOp.assign rfl rfl (ltb rfl) rfl ?_)
      refine AO.nil ?_
      change AC _ _ _ _
      refine AC.ret ?_
      change RetQ _ _ _ .ret _
      obtain rfl := Option.some.inj h0
      refine retq rfl rfl
theorem w_gEach : ∀ (F : Nat) (a0 : TImpl_Geom) (r0 : Bool), p_gEach F a0 = some r0 → FnD Try.prog 16 [e_TImpl_Geom a0, .v (.func (.func 17) #[] #[])] (fun r => r = dbool r0)
  | 0, _, _, h => by cases h
  | F + 1, a0, r0, h => w_gEach_b _ (fun a0 r0 h => w_gEach F a0 r0 h) F a0 r0 h

set_option maxRecDepth 100000 in
set_option maxHeartbeats 1000000 in
/-- pub-orthodrome/spec.NumParts -/
theorem w_NumParts (a0 : TImpl_Geom) (r0 : Int) (h0 : p_NumParts a0 = some r0) : FnD Try.prog 45 [e_TImpl_Geom a0] (fun r => r = di .i64 r0) := by
  refine FnD.of (by kernel_rfl) Try.func45 rfl Try.ntmps45 rfl (leb rfl) fun W ok => ?_
  unfold p_NumParts at h0
  refine AC.seq ?_
  refine AC.region ?_
  refine AO.op rfl (AOp.box rfl rfl (ltb rfl) rfl rfl ?_)
  refine AO.op rfl (AOp.assign rfl rfl (ltb rfl) rfl ?_)
  refine AO.nil ?_
  change AC _ _ _ _
  refine AC.seq ?_
  refine AC.seq ?_
  refine AC.region ?_
  refine AO.op rfl (AOp.fieldAddr rfl rfl (ltb rfl) rfl fo28_0 ?_)
  refine AO.op rfl (AOp.load1 rfl rfl (ltb rfl) rfl agg3 rfl rfl ?_)
  refine AO.nil ?_
  change AC _ _ _ _
  refine AC.block ?_
  refine AC.joinP (V := Bool) [1, 4] [5] 1 (fun g1 => [(5, .d (dbool g1))]) (fun g1 => [.fix 28 [.d (di .i64 a0.Kind), .d (di .i64 a0.Layout), .d (di .i64 a0.SRID), .d (eS0 a0.Flat), .d (eS1 a0.Ends), .d (eS3 a0.Endss), .d (eS2 a0.Kids)]]) (fun g1 => (p_NumParts_k1 a0) g1 = some r0) rfl ?_ ?_
  · refine AC.seq ?_
    refine AC.region ?_
    refine AO.op rfl (AOp.ieql rfl rfl (ltb rfl) rfl rfl ?_)
    refine AO.op rfl (AOp.assign rfl rfl (ltb rfl) rfl ?_)
    refine AO.nil ?_
    change AC _ _ _ _
    refine AC.cond rfl (fun q4 => ?_) (fun q4 => ?_)
    · replace h0 := cT h0 q4
      refine AC.skip ?_
      exact ⟨(decide (a0.Kind = (3 : Int))), _, rfl, (LeL.refl _), rfl, rfl, h0⟩
    · replace h0 := cF h0 q4
      refine AC.seq ?_
      refine AC.region ?_
      refine AO.op rfl (AOp.ieql rfl rfl (ltb rfl) rfl rfl ?_)
      refine AO.op rfl (AOp.assign rfl rfl (ltb rfl) rfl ?_)
      refine AO.nil ?_
      change AC _ _ _ _
      refine AC.cond rfl (fun q5 => ?_) (fun q5 => ?_)
      · replace h0 := cT h0 q5
        refine AC.skip ?_
        exact ⟨(decide (a0.Kind = (4 : Int))), _, rfl, (LeL.refl _), rfl, rfl, h0⟩
      · replace h0 := cF h0 q5
        refine AC.region ?_
        refine AO.op rfl (AOp.ieql rfl rfl (ltb rfl) rfl rfl ?_)
        refine AO.op rfl (AOp.assign rfl rfl (ltb rfl) rfl ?_)
        refine AO.nil ?_
        exact ⟨(decide (a0.Kind = (5 : Int))), _, rfl, (LeL.refl _), rfl, rfl, h0⟩
  · intro g1 h0
    unfold p_NumParts_k1 at h0
    refine AC.cond rfl (fun q2 => ?_) (fun q2 => ?_)
    · replace h0 := cT h0 q2
      refine AC.seq ?_
      refine AC.region ?_
      refine AO.op rfl (AOp.fieldAddr rfl rfl (ltb rfl) rfl fo28_4 ?_)
      refine AO.op rfl (AOp.load1 rfl rfl (ltb rfl) rfl agg25 rfl rfl ?_)
      refine AO.op rfl (AOp.lenDs (n := a0.Ends.length) (cells := (List.map keS1 a0.Ends)) rfl rfl (ltb rfl) rfl el25 (by decide) (len1 _ _) ?_)
      refine AO.op rfl (AOp.assign rfl rfl (ltb rfl) rfl ?_)
      refine AO.nil ?_
      change AC _ _ _ _
      refine AC.ret ?_
      change RetQ _ _ _ .ret _
      obtain rfl := Option.some.inj h0
      refine retq rfl rfl
    · replace h0 := cF h0 q2
      refine AC.seq ?_
      refine AC.region ?_
      refine AO.op rfl (AOp.ieql rfl rfl (ltb rfl) rfl rfl ?_)
      refine AO.op rfl (AOp.assign rfl rfl (ltb rfl) rfl ?_)
      refine AO.nil ?_
      change AC _ _ _ _
      refine AC.cond rfl (fun q3 => ?_) (fun q3 => ?_)
      · replace h0 := cT h0 q3
        refine AC.seq ?_
        refine AC.region ?_
        refine AO.op rfl (AOp.fieldAddr rfl rfl (ltb rfl) rfl fo28_5 ?_)
        refine AO.op rfl (AOp.load1 rfl rfl (ltb rfl) rfl agg23 rfl rfl ?_)
        refine AO.op rfl (AOp.lenDs (n := a0.Endss.length) (cells := (List.map keS3 a0.Endss)) rfl rfl (ltb rfl) rfl el23 (by decide) (len1 _ _) ?_)
        refine AO.op rfl (AOp.assign rfl rfl (ltb rfl) rfl ?_)
        refine AO.nil ?_
        change AC _ _ _ _
        refine AC.ret ?_
        change RetQ _ _ _ .ret _
        obtain rfl := Option.some.inj h0
        refine retq rfl rfl
      · replace h0 := cF h0 q3
        refine AC.skip ?_
        change AC _ _ _ _
        refine AC.seq ?_
        refine AC.region ?_
        refine AO.op rfl (AOp.fieldAddr rfl rfl (ltb rfl) rfl fo28_6 ?_)
        refine AO.op rfl (AOp.load1 rfl rfl (ltb rfl) rfl agg26 rfl rfl ?_)
        refine AO.op rfl (AOp.lenDs (n := a0.Kids.length) (cells := (List.flatMap c0_TImpl_Geom a0.Kids)) rfl rfl (ltb rfl) rfl el26 (by decide) (lenN _ 7 c0_TImpl_Geom_len _) ?_)
        refine AO.op rfl (AOp.assign rfl rfl (ltb rfl) rfl ?_)
        refine AO.nil ?_
        change AC _ _ _ _
        refine AC.ret ?_
        change RetQ _ _ _ .ret _
        obtain rfl := Option.some.inj h0
        refine retq rfl rfl

set_option maxRecDepth 100000 in
set_option maxHeartbeats 1000000 in
/-- pub-orthodrome/spec.KidOf -/
theorem w_KidOf (a0 : Int) (r0 : Int) (h0 : p_KidOf a0 = some r0) : FnD Try.prog 56 [di .i64 a0] (fun r => r = di .i64 r0) := by
  refine FnD.of (by kernel_rfl) Try.func56 rfl Try.ntmps56 rfl (leb rfl) fun W ok => ?_
  unfold p_KidOf at h0
  refine AC.seq ?_
  refine AC.region ?_
  refine AO.op rfl (AOp.assign rfl rfl (ltb rfl) rfl ?_)
  refine AO.nil ?_
  change AC _ _ _ _
  refine AC.seq ?_
  refine AC.seq ?_
  refine AC.region ?_
  refine AO.op rfl (AOp.move rfl rfl (ltb rfl) rfl ?_)
  refine AO.op rfl (AOp.igeq rfl rfl (ltb rfl) rfl rfl ?_)
  refine AO.op rfl (AOp.move rfl rfl (ltb rfl) rfl ?_)
  refine AO.dec (decide ((4 : Int) ≤ a0)) (fun q1 => ?_) (fun q1 => ?_)
  · replace h0 := cT h0 q1
    refine AO.guardY rfl rfl rfl q1 (AOp.move rfl rfl (ltb rfl) rfl ?_)
    refine AO.guardY rfl rfl rfl q1 (AOp.ileq rfl rfl (ltb rfl) rfl rfl ?_)
    refine AO.op rfl (AOp.pick rfl rfl (ltb rfl) rfl q1 rfl ?_)
    refine AO.nil ?_
    change AC _ _ _ _
    refine AC.cond rfl (fun q2 => ?_) (fun q2 => ?_)
    · replace h0 := cT h0 q2
      refine AC.seq ?_
      refine AC.region ?_
      refine AO.op rfl (AOp.move rfl rfl (ltb rfl) rfl ?_)
      obtain ⟨q3, h0⟩ := need_elim h0
      refine AO.op rfl (AOp.isub rfl rfl (ltb rfl) rfl rfl rfl q3.1 q3.2 ?_)
      refine AO.op rfl (AOp.assign rfl rfl (ltb rfl) rfl ?_)
      refine AO.nil ?_
      change AC _ _ _ _
      refine AC.ret ?_
      change RetQ _ _ _ .ret _
      obtain rfl := Option.some.inj h0
      refine retq rfl rfl
    · replace h0 := cF h0 q2
      refine AC.skip ?_
      change AC _ _ _ _
      refine AC.seq ?_
      refine AC.region ?_
      refine AO.op rfl (AOp.assign rfl rfl (ltb rfl) rfl ?_)
      refine AO.nil ?_
      change AC _ _ _ _
      refine AC.ret ?_
      change RetQ _ _ _ .ret _
      obtain rfl := Option.some.inj h0
      refine retq rfl rfl
  · replace h0 := cF h0 q1
    refine AO.guardN rfl rfl rfl (ltb rfl) rfl q1 ?_
    refine AO.guardN rfl rfl rfl (ltb rfl) rfl q1 ?_
    refine AO.op rfl (AOp.pickN rfl rfl (ltb rfl) rfl q1 rfl ?_)
    refine AO.nil ?_
    change AC _ _ _ _
    refine AC.condF rfl rfl ?_
    refine AC.skip ?_
    change AC _ _ _ _
    refine AC.seq ?_
    refine AC.region ?_
    refine AO.op rfl (AOp.assign rfl rfl (ltb rfl) rfl ?_)
    refine AO.nil ?_
    change AC _ _ _ _
    refine AC.ret ?_
    change RetQ _ _ _ .ret _
    obtain rfl := Option.some.inj h0
    refine retq rfl rfl

set_option maxRecDepth 100000 in
set_option maxHeartbeats 1000000 in
/-- pub-orthodrome/spec.Part -/
theorem w_Part (F : Nat) (a0 : TImpl_Geom) (a1 : Int) (r0 : TImpl_Geom) (h0 : p_Part F a0 a1 = some r0) : FnD Try.prog 46 [e_TImpl_Geom a0, di .i64 a1] (fun r => r = e_TImpl_Geom r0) := by
  refine FnD.of (by kernel_rfl) Try.func46 rfl Try.ntmps46 rfl (leb rfl) fun W ok => ?_
  unfold p_Part at h0
  refine AC.seq ?_
  refine AC.region ?_
  refine AO.op rfl (AOp.box rfl rfl (ltb rfl) rfl rfl ?_)
  refine AO.op rfl (AOp.alloc rfl rfl (ltb rfl) zero28 rfl ?_)
  refine AO.nil ?_
  change AC _ _ _ _
  refine AC.seq ?_
  refine AC.seq ?_
  refine AC.region ?_
  refine AO.op rfl (AOp.fieldAddr rfl rfl (ltb rfl) rfl fo28_0 ?_)
  refine AO.op rfl (AOp.load1 rfl rfl (ltb rfl) rfl agg3 rfl rfl ?_)
  refine AO.op rfl (AOp.ieql rfl rfl (ltb rfl) rfl rfl ?_)
  refine AO.nil ?_
  change AC _ _ _ _
  refine AC.cond rfl (fun q1 => ?_) (fun q1 => ?_)
  · replace h0 := cT h0 q1
    refine AC.seq ?_
    refine AC.region ?_
    refine AO.op rfl (AOp.fieldAddr rfl rfl (ltb rfl) rfl fo28_6 ?_)
    refine AO.op rfl (AOp.load1 rfl rfl (ltb rfl) rfl agg26 rfl rfl ?_)
    refine AO.op rfl (AOp.move rfl rfl (ltb rfl) rfl ?_)
    obtain ⟨x2, q3, h0⟩ := idx_elim h0
    refine AO.op rfl (AOp.indexDs (cells := (List.flatMap c0_TImpl_Geom a0.Kids)) rfl rfl (ltb rfl) rfl rfl el26 (by decide) q3.1 (ltN 7 c0_TImpl_Geom_len (by decide) q3.2) ?_)
    refine AO.op rfl (AOp.loadEpN rfl rfl (ltb rfl) rfl agg28 size28 (leN 7 c0_TImpl_Geom_len q3.2) ((atN 7 c0_TImpl_Geom_len q3.2).trans (c0_TImpl_Geom_eq x2)) ?_)
    refine AO.op rfl (AOp.store rfl rfl rfl rfl size28 rfl rfl rfl (leb rfl) ?_)
    refine AO.nil ?_
    change AC _ _ _ _
    refine AC.ret ?_
    change RetQ _ _ _ .ret _
    obtain rfl := Option.some.inj h0
    refine retq rfl rfl
  · replace h0 := cF h0 q1
    refine AC.skip ?_
    change AC _ _ _ _
    refine AC.seq ?_
    refine AC.seq ?_
    refine AC.region ?_
    refine AO.op rfl (AOp.fieldAddr rfl rfl (ltb rfl) rfl fo28_0 ?_)
    refine AO.op rfl (AOp.load1 rfl rfl (ltb rfl) rfl agg3 rfl rfl ?_)
    refine AO.op rfl (AOp.ieql rfl rfl (ltb rfl) rfl rfl ?_)
    refine AO.nil ?_
    change AC _ _ _ _
    refine AC.cond rfl (fun q4 => ?_) (fun q4 => ?_)
    · replace h0 := cT h0 q4
      refine AC.seq ?_
      refine AC.region ?_
      refine AO.op rfl (AOp.assign rfl rfl (ltb rfl) rfl ?_)
      refine AO.nil ?_
      change AC _ _ _ _
      refine AC.seq ?_
      refine AC.seq ?_
      refine AC.region ?_
      refine AO.op rfl (AOp.fieldAddr rfl rfl (ltb rfl) rfl fo28_5 ?_)
      refine AO.op rfl (AOp.load1 rfl rfl (ltb rfl) rfl agg23 rfl rfl ?_)
      refine AO.op rfl (AOp.move rfl rfl (ltb rfl) rfl ?_)
      obtain ⟨q5, h0⟩ := need_elim h0
      refine AO.op rfl (AOp.sliceD (cells := (List.map keS3 a0.Endss)) (n := a0.Endss.length) (l := 0) (hh := (a1).toNat) rfl rfl (ltb rfl) rfl (.inl ⟨rfl, rfl⟩) (.inr ⟨_, _, _, rfl, rfl, q5.1.2, rfl⟩) el23 (by decide) (len1 _ _) q5.2.1 q5.2.2 (sub1 _ _ _ _) ?_)
      refine AO.op rfl (AOp.lenDs (n := ((a0.Endss.drop 0).take ((a1).toNat - 0)).length) (cells := (List.map keS3 ((a0.Endss.drop 0).take ((a1).toNat - 0)))) rfl rfl (ltb rfl) rfl el23 (by decide) (len1 _ _) ?_)
      refine AO.op rfl (AOp.move rfl rfl (ltb rfl) rfl ?_)
      refine AO.nil ?_
      change AC _ _ _ _
      obtain ⟨o6, l7, h0⟩ := bind_elim h0
      refine AC.joinE (V := Int) [1, 2, 4] [5] 2 (fun g8 => [(5, .d (di .i64 g8))]) (fun g8 => [.fix 28 [.d (di .i64 a0.Kind), .d (di .i64 a0.Layout), .d (di .i64 a0.SRID), .d (eS0 a0.Flat), .d (eS1 a0.Ends), .d (eS3 a0.Endss), .d (eS2 a0.Kids)], .fix 28 [.d (di .i64 (0 : Int)), .d (di .i64 (0 : Int)), .d (di .i64 (0 : Int)), .d (.v (.slice none 0 0)), .d (.v (.slice none 0 0)), .d (.v (.slice none 0 0)), .d (.v (.slice none 0 0))]]) (fun g8 => (p_Part_k1 a0 a1 F) g8 = some r0) rfl ?_ ?_
      · refine AC.block ?_
        refine AC.loopP (V := (Int × Int)) (p_Part_l4 a0 a1) o6 [1, 2, 4, 28, 29] [5, 30] 2 (fun g25 => [(5, .d (di .i64 g25.1)), (30, .d (di .i64 g25.2))]) (fun g25 => [.fix 28 [.d (di .i64 a0.Kind), .d (di .i64 a0.Layout), .d (di .i64 a0.SRID), .d (eS0 a0.Flat), .d (eS1 a0.Ends), .d (eS3 a0.Endss), .d (eS2 a0.Kids)], .fix 28 [.d (di .i64 (0 : Int)), .d (di .i64 (0 : Int)), .d (di .i64 (0 : Int)), .d (.v (.slice none 0 0)), .d (.v (.slice none 0 0)), .d (.v (.slice none 0 0)), .d (.v (.slice none 0 0))]]) F ((0 : Int), (0 : Int)) l7 rfl rfl (LeL.refl _) rfl rfl ?_
        intro n27 g25 h1
        unfold p_Part_l4 at h1
        refine AC.seq ?_
        refine AC.region ?_
        refine AO.op rfl (AOp.ilss rfl rfl (ltb rfl) rfl rfl ?_)
        refine AO.nil ?_
        change AC _ _ _ _
        refine AC.seq ?_
        refine AC.cond rfl (fun q28 => ?_) (fun q28 => ?_)
        · replace h1 := cT h1 q28
          refine AC.skip ?_
          change AC _ _ _ _
          refine AC.seq ?_
          refine AC.block ?_
          refine AC.seq ?_
          refine AC.region ?_
          obtain ⟨x29, q30, h1⟩ := idx_elim h1
          refine AO.op rfl (AOp.indexDs (cells := (List.map keS3 ((a0.Endss.drop 0).take ((a1).toNat - 0)))) rfl rfl (ltb rfl) rfl rfl el23 (by decide) q30.1 (lt1 q30.2) ?_)
          refine AO.op rfl (AOp.loadEp rfl rfl (ltb rfl) rfl agg25 (at1 q30.2) ?_)
          refine AO.op rfl (AOp.assign rfl rfl (ltb rfl) rfl ?_)
          refine AO.nil ?_
          change AC _ _ _ _
          refine AC.seq ?_
          refine AC.region ?_
          refine AO.op rfl (AOp.move rfl rfl (ltb rfl) rfl ?_)
          refine AO.op rfl (AOp.lenDs (n := x29.length) (cells := (List.map keS1 x29)) rfl rfl (ltb rfl) rfl el25 (by decide) (len1 _ _) ?_)
          refine AO.op rfl (AOp.igtr rfl rfl (ltb rfl) rfl rfl ?_)
          refine AO.nil ?_
          change AC _ _ _ _
          refine AC.cond rfl (fun q31 => ?_) (fun q31 => ?_)
          · replace h1 := cT h1 q31
            refine AC.region ?_
            refine AO.op rfl (AOp.move rfl rfl (ltb rfl) rfl ?_)
            refine AO.op rfl (AOp.move rfl rfl (ltb rfl) rfl ?_)
            refine AO.op rfl (AOp.lenDs (n := x29.length) (cells := (List.map keS1 x29)) rfl rfl (ltb rfl) rfl el25 (by decide) (len1 _ _) ?_)
            obtain ⟨q32, h1⟩ := need_elim h1
            refine AO.op rfl (AOp.isub rfl rfl (ltb rfl) rfl rfl rfl q32.1 q32.2 ?_)
            obtain ⟨x33, q34, h1⟩ := idx_elim h1
            refine AO.op rfl (AOp.indexDs (cells := (List.map keS1 x29)) rfl rfl (ltb rfl) rfl rfl el25 (by decide) q34.1 (lt1 q34.2) ?_)
            refine AO.op rfl (AOp.loadEp rfl rfl (ltb rfl) rfl agg3 (at1 q34.2) ?_)
            refine AO.op rfl (AOp.assign rfl rfl (ltb rfl) rfl ?_)
            refine AO.nil ?_
            change AC _ _ _ _
            refine AC.region ?_
            obtain ⟨q35, h1⟩ := need_elim h1
            refine AO.op rfl (AOp.iadd rfl rfl (ltb rfl) rfl rfl rfl q35.1 q35.2 ?_)
            refine AO.op rfl (AOp.move rfl rfl (ltb rfl) rfl ?_)
            refine AO.nil ?_
            exact ⟨(x33, (g25.2 + (1 : Int))), _, rfl, (LeL.refl _), rfl, rfl, h1⟩
          · replace h1 := cF h1 q31
            refine AC.skip ?_
            change AC _ _ _ _
            refine AC.region ?_
            obtain ⟨q36, h1⟩ := need_elim h1
            refine AO.op rfl (AOp.iadd rfl rfl (ltb rfl) rfl rfl rfl q36.1 q36.2 ?_)
            refine AO.op rfl (AOp.move rfl rfl (ltb rfl) rfl ?_)
            refine AO.nil ?_
            exact ⟨(g25.1, (g25.2 + (1 : Int))), _, rfl, (LeL.refl _), rfl, rfl, h1⟩
        · replace h1 := cF h1 q28
          refine AC.exit ?_
          obtain rfl := Option.some.inj h1
          exact ⟨g25.1, _, rfl, (LeL.refl _), rfl, rfl, aftL h0⟩
      · intro g8 h0
        unfold p_Part_k1 at h0
        change AC _ _ _ _
        refine AC.seq ?_
        refine AC.region ?_
        refine AO.op rfl (AOp.fieldAddr rfl rfl (ltb rfl) rfl fo28_1 ?_)
        refine AO.op rfl (AOp.load1 rfl rfl (ltb rfl) rfl agg3 rfl rfl ?_)
        refine AO.op rfl (AOp.build rfl rfl (ltb rfl) zero28 rfl places28 rfl rfl ?_)
        refine AO.op rfl (AOp.alloc rfl rfl (ltb rfl) zero28 rfl ?_)
        refine AO.op rfl (AOp.store rfl rfl rfl rfl size28 rfl rfl rfl (leb rfl) ?_)
        refine AO.nil ?_
        change AC _ _ _ _
        refine AC.seq ?_
        refine AC.region ?_
        refine AO.op rfl (AOp.move rfl rfl (ltb rfl) rfl ?_)
        refine AO.op rfl (AOp.assign rfl rfl (ltb rfl) rfl ?_)
        refine AO.nil ?_
        change AC _ _ _ _
        refine AC.seq ?_
        refine AC.seq ?_
        refine AC.region ?_
        refine AO.op rfl (AOp.fieldAddr rfl rfl (ltb rfl) rfl fo28_5 ?_)
        refine AO.op rfl (AOp.load1 rfl rfl (ltb rfl) rfl agg23 rfl rfl ?_)
        refine AO.op rfl (AOp.move rfl rfl (ltb rfl) rfl ?_)
        obtain ⟨x9, q10, h0⟩ := idx_elim h0
        refine AO.op rfl (AOp.indexDs (cells := (List.map keS3 a0.Endss)) rfl rfl (ltb rfl) rfl rfl el23 (by decide) q10.1 (lt1 q10.2) ?_)
        refine AO.op rfl (AOp.loadEp rfl rfl (ltb rfl) rfl agg25 (at1 q10.2) ?_)
        refine AO.op rfl (AOp.lenDs (n := x9.length) (cells := (List.map keS1 x9)) rfl rfl (ltb rfl) rfl el25 (by decide) (len1 _ _) ?_)
        refine AO.op rfl (AOp.move rfl rfl (ltb rfl) rfl ?_)
        refine AO.nil ?_
        change AC _ _ _ _
        refine AC.adoptO 2 4 3 1 rfl rfl ?_
        obtain ⟨o11, l12, h0⟩ := bind_elim h0
        refine AC.joinE (V := (Int × (List Int))) [2, 4, 5, 8] [9] 4 (fun g13 => [(9, .d (di .i64 g13.1))]) (fun g13 => [.fix 28 [.d (di .i64 a0.Kind), .d (di .i64 a0.Layout), .d (di .i64 a0.SRID), .d (eS0 a0.Flat), .d (eS1 a0.Ends), .d (eS3 a0.Endss), .d (eS2 a0.Kids)], .fix 28 [.d (di .i64 (0 : Int)), .d (di .i64 (0 : Int)), .d (di .i64 (0 : Int)), .d (.v (.slice none 0 0)), .d (.v (.slice none 0 0)), .d (.v (.slice none 0 0)), .d (.v (.slice none 0 0))], .fix 28 [.d (di .i64 (3 : Int)), .d (di .i64 a0.Layout), .d (di .i64 (0 : Int)), .d (.v (.slice none 0 0)), .own 3, .d (.v (.slice none 0 0)), .d (.v (.slice none 0 0))], .grow 3 1 (List.map keS1 g13.2)]) (fun g13 => (p_Part_k2 a0 g8) g13 = some r0) rfl ?_ ?_
        · refine AC.block ?_
          refine AC.loopP (V := (Int × Int × (List Int))) (p_Part_l3 g8 x9) o11 [2, 4, 5, 8, 52, 53] [9, 54] 4 (fun g16 => [(9, .d (di .i64 g16.1)), (54, .d (di .i64 g16.2.1))]) (fun g16 => [.fix 28 [.d (di .i64 a0.Kind), .d (di .i64 a0.Layout), .d (di .i64 a0.SRID), .d (eS0 a0.Flat), .d (eS1 a0.Ends), .d (eS3 a0.Endss), .d (eS2 a0.Kids)], .fix 28 [.d (di .i64 (0 : Int)), .d (di .i64 (0 : Int)), .d (di .i64 (0 : Int)), .d (.v (.slice none 0 0)), .d (.v (.slice none 0 0)), .d (.v (.slice none 0 0)), .d (.v (.slice none 0 0))], .fix 28 [.d (di .i64 (3 : Int)), .d (di .i64 a0.Layout), .d (di .i64 (0 : Int)), .d (.v (.slice none 0 0)), .own 3, .d (.v (.slice none 0 0)), .d (.v (.slice none 0 0))], .grow 3 1 (List.map keS1 g16.2.2)]) F (g8, (0 : Int), []) l12 rfl rfl (LeL.refl _) rfl rfl ?_
          intro n18 g16 h1
          unfold p_Part_l3 at h1
          refine AC.seq ?_
          refine AC.region ?_
          refine AO.op rfl (AOp.ilss rfl rfl (ltb rfl) rfl rfl ?_)
          refine AO.nil ?_
          change AC _ _ _ _
          refine AC.seq ?_
          refine AC.cond rfl (fun q19 => ?_) (fun q19 => ?_)
          · replace h1 := cT h1 q19
            refine AC.skip ?_
            change AC _ _ _ _
            refine AC.seq ?_
            refine AC.block ?_
            refine AC.seq ?_
            refine AC.region ?_
            obtain ⟨x20, q21, h1⟩ := idx_elim h1
            refine AO.op rfl (AOp.indexDs (cells := (List.map keS1 x9)) rfl rfl (ltb rfl) rfl rfl el25 (by decide) q21.1 (lt1 q21.2) ?_)
            refine AO.op rfl (AOp.loadEp rfl rfl (ltb rfl) rfl agg3 (at1 q21.2) ?_)
            refine AO.op rfl (AOp.assign rfl rfl (ltb rfl) rfl ?_)
            refine AO.nil ?_
            change AC _ _ _ _
            refine AC.seq ?_
            refine AC.region ?_
            refine AO.op rfl (AOp.fieldAddr rfl rfl (ltb rfl) rfl fo28_4 ?_)
            refine AO.op rfl (AOp.load1 rfl rfl (ltb rfl) rfl agg25 rfl rfl ?_)
            refine AO.op rfl (AOp.move rfl rfl (ltb rfl) rfl ?_)
            refine AO.op rfl (AOp.move rfl rfl (ltb rfl) rfl ?_)
            obtain ⟨q22, h1⟩ := need_elim h1
            refine AO.op rfl (AOp.isub rfl rfl (ltb rfl) rfl rfl rfl q22.1 q22.2 ?_)
            refine AO.op rfl (AOp.buildSliceD rfl rfl (ltb rfl) el25 zero3 rfl (leb rfl) rfl rfl rfl rfl ?_)
            refine AO.subO 2 rfl (.cons (SVLe.refl _) (.cons (SVLe.refl _) (.cons (SVLe.refl _) (.cons (SVLe.refl _) (.cons (SVLe.any _) (.cons (SVLe.refl _) (.cons (SVLe.refl _) .nil))))))) ?_
            obtain ⟨q23, h1⟩ := need_elim h1
            refine AO.op rfl (AOp.appendOwn' (n := g16.2.2.length) (m := [(x20 - g8)].length) (news := (List.map keS1 [(x20 - g8)])) rfl rfl (ltb rfl) rfl rfl el25 info3 rfl (by decide) rfl (len1 _ _) (len1 _ _) (one1 _ (fun _ => rfl) _) q23 (by decide) rfl rfl (cat1 _ _ _) ?_)
            refine AO.op rfl (AOp.fieldAddr rfl rfl (ltb rfl) rfl fo28_4 ?_)
            refine AO.op rfl (AOp.storeOwn rfl rfl rfl rfl rfl rfl size25 rfl rfl (leb rfl) ?_)
            refine AO.nil ?_
            change AC _ _ _ _
            refine AC.region ?_
            refine AO.op rfl (AOp.move rfl rfl (ltb rfl) rfl ?_)
            refine AO.op rfl (AOp.assign rfl rfl (ltb rfl) rfl ?_)
            refine AO.nil ?_
            change AC _ _ _ _
            refine AC.region ?_
            obtain ⟨q24, h1⟩ := need_elim h1
            refine AO.op rfl (AOp.iadd rfl rfl (ltb rfl) rfl rfl rfl q24.1 q24.2 ?_)
            refine AO.op rfl (AOp.move rfl rfl (ltb rfl) rfl ?_)
            refine AO.nil ?_
            exact ⟨(x20, (g16.2.1 + (1 : Int)), (g16.2.2 ++ [(x20 - g8)])), _, rfl, (LeL.refl _), rfl, rfl, h1⟩
          · replace h1 := cF h1 q19
            refine AC.exit ?_
            obtain rfl := Option.some.inj h1
            exact ⟨(g16.1, g16.2.2), _, rfl, (LeL.refl _), rfl, rfl, aftL h0⟩
        · intro g13 h0
          unfold p_Part_k2 at h0
          change AC _ _ _ _
          refine AC.seq ?_
          refine AC.region ?_
          refine AO.op rfl (AOp.buildOwn rfl rfl (ltb rfl) el22 zero48 rfl (leb rfl) rfl rfl rfl rfl ?_)
          refine AO.op rfl (AOp.fieldAddr rfl rfl (ltb rfl) rfl fo28_3 ?_)
          refine AO.op rfl (AOp.load1 rfl rfl (ltb rfl) rfl agg22 rfl rfl ?_)
          refine AO.op rfl (AOp.move rfl rfl (ltb rfl) rfl ?_)
          refine AO.op rfl (AOp.move rfl rfl (ltb rfl) rfl ?_)
          obtain ⟨q14, h0⟩ := need_elim h0
          refine AO.op rfl (AOp.sliceD (cells := (List.map keS0 a0.Flat)) (n := a0.Flat.length) (l := (g8).toNat) (hh := (g13.1).toNat) rfl rfl (ltb rfl) rfl (.inr ⟨_, _, _, rfl, rfl, q14.1.1, rfl⟩) (.inr ⟨_, _, _, rfl, rfl, q14.1.2, rfl⟩) el22 (by decide) (len1 _ _) q14.2.1 q14.2.2 (sub1 _ _ _ _) ?_)
          obtain ⟨q15, h0⟩ := need_elim h0
          refine AO.op rfl (AOp.appendOwn' (n := 0) (m := ((a0.Flat.drop (g8).toNat).take ((g13.1).toNat - (g8).toNat)).length) (news := (List.map keS0 ((a0.Flat.drop (g8).toNat).take ((g13.1).toNat - (g8).toNat)))) rfl rfl (ltb rfl) rfl rfl el22 info48 rfl (by decide) rfl rfl (len1 _ _) (one1 _ (fun _ => rfl) _) q15 (by decide) rfl rfl rfl ?_)
          refine AO.op rfl (AOp.fieldAddr rfl rfl (ltb rfl) rfl fo28_3 ?_)
          refine AO.op rfl (AOp.storeOwn rfl rfl rfl rfl rfl rfl size22 rfl rfl (leb rfl) ?_)
          refine AO.nil ?_
          change AC _ _ _ _
          refine AC.seq ?_
          refine AC.region ?_
          refine AO.op rfl (AOp.loadN rfl rfl (ltb rfl) rfl agg28 size28 rfl (leb rfl) rfl ?_)
          refine AO.subO 2 rfl (.cons (SVLe.refl _) (.cons (SVLe.refl _) (.cons (SVLe.refl _) (.cons (SVLe.any _) (.cons (SVLe.refl _) (.cons (SVLe.refl _) (.cons (SVLe.refl _) .nil))))))) ?_
          refine AO.freezeG 4 rfl rfl rfl ?_
          refine AO.subO 2 rfl (.cons (SVLe.refl _) (.cons (SVLe.refl _) (.cons (SVLe.refl _) (.cons (SVLe.refl _) (.cons (SVLe.any _) (.cons (SVLe.refl _) (.cons (SVLe.refl _) .nil))))))) ?_
          refine AO.freezeG 3 rfl rfl rfl ?_
          refine AO.op rfl (AOp.store rfl rfl rfl rfl size28 rfl rfl rfl (leb rfl) ?_)
          refine AO.nil ?_
          change AC _ _ _ _
          refine AC.subO 1 rfl (.cons (SVLe.refl _) (.cons (SVLe.refl _) (.cons (SVLe.refl _) (.cons (SVLe.refl _) (.cons (SVLe.refl _) (.cons (SVLe.nil 1) (.cons (SVLe.nil 7) .nil))))))) ?_
          refine AC.ret ?_
          change RetQ _ _ _ .ret _
          obtain rfl := Option.some.inj h0
          refine retq rfl rfl
    · replace h0 := cF h0 q4
      refine AC.skip ?_
      change AC _ _ _ _
      refine AC.seq ?_
      refine AC.region ?_
      refine AO.op rfl (AOp.assign rfl rfl (ltb rfl) rfl ?_)
      refine AO.nil ?_
      change AC _ _ _ _
      refine AC.joinP (V := Int) [1, 2, 4] [12] 2 (fun g37 => [(12, .d (di .i64 g37))]) (fun g37 => [.fix 28 [.d (di .i64 a0.Kind), .d (di .i64 a0.Layout), .d (di .i64 a0.SRID), .d (eS0 a0.Flat), .d (eS1 a0.Ends), .d (eS3 a0.Endss), .d (eS2 a0.Kids)], .fix 28 [.d (di .i64 (0 : Int)), .d (di .i64 (0 : Int)), .d (di .i64 (0 : Int)), .d (.v (.slice none 0 0)), .d (.v (.slice none 0 0)), .d (.v (.slice none 0 0)), .d (.v (.slice none 0 0))]]) (fun g37 => (p_Part_k5 a0 a1) g37 = some r0) rfl ?_ ?_
      · refine AC.seq ?_
        refine AC.region ?_
        refine AO.op rfl (AOp.move rfl rfl (ltb rfl) rfl ?_)
        refine AO.op rfl (AOp.igtr rfl rfl (ltb rfl) rfl rfl ?_)
        refine AO.nil ?_
        change AC _ _ _ _
        refine AC.cond rfl (fun q46 => ?_) (fun q46 => ?_)
        · replace h0 := cT h0 q46
          refine AC.region ?_
          refine AO.op rfl (AOp.fieldAddr rfl rfl (ltb rfl) rfl fo28_4 ?_)
          refine AO.op rfl (AOp.load1 rfl rfl (ltb rfl) rfl agg25 rfl rfl ?_)
          refine AO.op rfl (AOp.move rfl rfl (ltb rfl) rfl ?_)
          obtain ⟨q47, h0⟩ := need_elim h0
          refine AO.op rfl (AOp.isub rfl rfl (ltb rfl) rfl rfl rfl q47.1 q47.2 ?_)
          obtain ⟨x48, q49, h0⟩ := idx_elim h0
          refine AO.op rfl (AOp.indexDs (cells := (List.map keS1 a0.Ends)) rfl rfl (ltb rfl) rfl rfl el25 (by decide) q49.1 (lt1 q49.2) ?_)
          refine AO.op rfl (AOp.loadEp rfl rfl (ltb rfl) rfl agg3 (at1 q49.2) ?_)
          refine AO.op rfl (AOp.assign rfl rfl (ltb rfl) rfl ?_)
          refine AO.nil ?_
          exact ⟨x48, _, rfl, (LeL.refl _), rfl, rfl, h0⟩
        · replace h0 := cF h0 q46
          refine AC.skip ?_
          exact ⟨(0 : Int), _, rfl, (LeL.refl _), rfl, rfl, h0⟩
      · intro g37 h0
        unfold p_Part_k5 at h0
        refine AC.seq ?_
        refine AC.region ?_
        refine AO.op rfl (AOp.assign rfl rfl (ltb rfl) rfl ?_)
        refine AO.nil ?_
        change AC _ _ _ _
        refine AC.joinP (V := Int) [1, 2, 4, 12] [13] 2 (fun g38 => [(13, .d (di .i64 g38))]) (fun g38 => [.fix 28 [.d (di .i64 a0.Kind), .d (di .i64 a0.Layout), .d (di .i64 a0.SRID), .d (eS0 a0.Flat), .d (eS1 a0.Ends), .d (eS3 a0.Endss), .d (eS2 a0.Kids)], .fix 28 [.d (di .i64 (0 : Int)), .d (di .i64 (0 : Int)), .d (di .i64 (0 : Int)), .d (.v (.slice none 0 0)), .d (.v (.slice none 0 0)), .d (.v (.slice none 0 0)), .d (.v (.slice none 0 0))]]) (fun g38 => (p_Part_k6 a0 a1 g37) g38 = some r0) rfl ?_ ?_
        · refine AC.seq ?_
          refine AC.region ?_
          refine AO.op rfl (AOp.fieldAddr rfl rfl (ltb rfl) rfl fo28_0 ?_)
          refine AO.op rfl (AOp.load1 rfl rfl (ltb rfl) rfl agg3 rfl rfl ?_)
          refine AO.op rfl (AOp.ineq rfl rfl (ltb rfl) rfl rfl ?_)
          refine AO.nil ?_
          change AC _ _ _ _
          refine AC.cond rfl (fun q43 => ?_) (fun q43 => ?_)
          · replace h0 := cT h0 q43
            refine AC.region ?_
            refine AO.op rfl (AOp.fieldAddr rfl rfl (ltb rfl) rfl fo28_0 ?_)
            refine AO.op rfl (AOp.load1 rfl rfl (ltb rfl) rfl agg3 rfl rfl ?_)
            obtain ⟨y44, q45, h0⟩ := bind_elim h0
            refine AO.op rfl (AOp.callD rfl rfl (ltb rfl) rfl rfl (w_KidOf a0.Kind y44 q45) ?_)
            rintro _ rfl
            refine AO.op rfl (AOp.assign rfl rfl (ltb rfl) rfl ?_)
            refine AO.nil ?_
            exact ⟨y44, _, rfl, (LeL.refl _), rfl, rfl, h0⟩
          · replace h0 := cF h0 q43
            refine AC.skip ?_
            exact ⟨(8 : Int), _, rfl, (LeL.refl _), rfl, rfl, h0⟩
        · intro g38 h0
          unfold p_Part_k6 at h0
          refine AC.seq ?_
          refine AC.room ?_
          obtain ⟨x39, q40, h0⟩ := idx_elim h0
          obtain ⟨q41, h0⟩ := need_elim h0
          obtain ⟨q42, h0⟩ := need_elim h0
          refine AC.drawS [0, 1, 2, 3, 4, 5, 6, 7, 8, 9, 10, 11, 12, 13] [3, 13] [14, 15] (fun L => [.fix 28 [.d (di .i64 a0.Kind), .d (di .i64 a0.Layout), .d (di .i64 a0.SRID), .d (eS0 a0.Flat), .d (eS1 a0.Ends), .d (eS3 a0.Endss), .d (eS2 a0.Kids)], .fix 28 [.d (di .i64 (0 : Int)), .d (di .i64 (0 : Int)), .d (di .i64 (0 : Int)), .d (.v (.slice none 0 0)), .d (.v (.slice none 0 0)), .d (.v (.slice none 0 0)), .d (.v (.slice none 0 0))], bif L 13 then .grow 48 1 (List.map keS0 ((a0.Flat.drop (g37).toNat).take ((x39).toNat - (g37).toNat))) else bif L 3 then .grow 48 1 (List.map keS0 []) else .dead]) [(3, SV.noO2 2 3), (13, SV.noO 2)] mixed (by kernel_rfl) (fun L L' h => by simp only [h 3 (by decide), h 13 (by decide)]) rfl ?_
          refine AS.op [13] [] [] [3, 13] rfl rfl rfl (by kernel_rfl) (by kernel_rfl) rfl rfl (fun _ _ _ h => AOp.move rfl rfl (ltb rfl) rfl h) (by kernel_rfl) ?_
          refine AS.op [2] [] [] [3, 13] rfl rfl rfl (by kernel_rfl) (by kernel_rfl) rfl rfl (fun _ _ _ h => AOp.fieldAddr rfl rfl (ltb rfl) rfl fo28_1 h) (by kernel_rfl) ?_
          refine AS.op [92] [] [] [3, 13] rfl rfl rfl (by kernel_rfl) (by kernel_rfl) rfl rfl (fun _ _ _ h => AOp.load1 rfl rfl (ltb rfl) rfl agg3 rfl rfl h) (by kernel_rfl) ?_
          refine AS.mid [] [] [13, 3] [] rfl rfl rfl rfl (by kernel_rfl) (by kernel_rfl) rfl rfl (fun _ _ _ h => AOp.buildOwn rfl rfl (ltb rfl) el22 zero48 rfl (leb rfl) rfl rfl rfl rfl (AO.sink 2 3 rfl rfl rfl (.cons rfl (.cons rfl (.cons (noO2_cond rfl (noO2_cond rfl rfl)) .nil))) rfl h)) (by kernel_rfl) rfl ?_
          refine AS.op [2] [] [13] [3] rfl rfl rfl (by kernel_rfl) (by kernel_rfl) rfl rfl (fun _ _ _ h => AOp.fieldAddr rfl rfl (ltb rfl) rfl fo28_3 h) (by kernel_rfl) ?_
          refine AS.op [95] [] [13] [3] rfl rfl rfl (by kernel_rfl) (by kernel_rfl) rfl rfl (fun _ _ _ h => AOp.load1 rfl rfl (ltb rfl) rfl agg22 rfl rfl h) (by kernel_rfl) ?_
          refine AS.op [12] [] [13] [3] rfl rfl rfl (by kernel_rfl) (by kernel_rfl) rfl rfl (fun _ _ _ h => AOp.move rfl rfl (ltb rfl) rfl h) (by kernel_rfl) ?_
          refine AS.op [2] [] [13] [3] rfl rfl rfl (by kernel_rfl) (by kernel_rfl) rfl rfl (fun _ _ _ h => AOp.fieldAddr rfl rfl (ltb rfl) rfl fo28_4 h) (by kernel_rfl) ?_
          refine AS.op [98] [] [13] [3] rfl rfl rfl (by kernel_rfl) (by kernel_rfl) rfl rfl (fun _ _ _ h => AOp.load1 rfl rfl (ltb rfl) rfl agg25 rfl rfl h) (by kernel_rfl) ?_
          refine AS.op [1] [] [13] [3] rfl rfl rfl (by kernel_rfl) (by kernel_rfl) rfl rfl (fun _ _ _ h => AOp.move rfl rfl (ltb rfl) rfl h) (by kernel_rfl) ?_
          refine AS.op [99, 100] [] [13] [3] rfl rfl rfl (by kernel_rfl) (by kernel_rfl) rfl rfl (fun _ _ _ h => AOp.indexDs (cells := (List.map keS1 a0.Ends)) rfl rfl (ltb rfl) rfl rfl el25 (by decide) q40.1 (lt1 q40.2) h) (by kernel_rfl) ?_
          refine AS.op [101] [] [13] [3] rfl rfl rfl (by kernel_rfl) (by kernel_rfl) rfl rfl (fun _ _ _ h => AOp.loadEp rfl rfl (ltb rfl) rfl agg3 (at1 q40.2) h) (by kernel_rfl) ?_
          refine AS.op [96, 97, 102] [] [13] [3] rfl rfl rfl (by kernel_rfl) (by kernel_rfl) rfl rfl (fun _ _ _ h => AOp.sliceD (cells := (List.map keS0 a0.Flat)) (n := a0.Flat.length) (l := (g37).toNat) (hh := (x39).toNat) rfl rfl (ltb rfl) rfl (.inr ⟨_, _, _, rfl, rfl, q41.1.1, rfl⟩) (.inr ⟨_, _, _, rfl, rfl, q41.1.2, rfl⟩) el22 (by decide) (len1 _ _) q41.2.1 q41.2.2 (sub1 _ _ _ _) h) (by kernel_rfl) ?_
          refine AS.mid [94, 103] [3] [13] [] rfl rfl rfl rfl (by kernel_rfl) (by kernel_rfl) rfl rfl (fun _ _ _ h => AOp.appendOwn' (n := 0) (m := ((a0.Flat.drop (g37).toNat).take ((x39).toNat - (g37).toNat)).length) (news := (List.map keS0 ((a0.Flat.drop (g37).toNat).take ((x39).toNat - (g37).toNat)))) rfl rfl (ltb rfl) rfl rfl el22 info48 rfl (by decide) rfl rfl (len1 _ _) (one1 _ (fun _ => rfl) _) q42 (by decide) (allNo (.cons rfl (.cons rfl (.cons rfl .nil)))) rfl rfl (AO.dropped h)) (by kernel_rfl) rfl ?_
          refine AS.done ?_
          refine AO.objs (obs' := [.fix 28 [.d (di .i64 a0.Kind), .d (di .i64 a0.Layout), .d (di .i64 a0.SRID), .d (eS0 a0.Flat), .d (eS1 a0.Ends), .d (eS3 a0.Endss), .d (eS2 a0.Kids)], .fix 28 [.d (di .i64 (0 : Int)), .d (di .i64 (0 : Int)), .d (di .i64 (0 : Int)), .d (.v (.slice none 0 0)), .d (.v (.slice none 0 0)), .d (.v (.slice none 0 0)), .d (.v (.slice none 0 0))], .grow 48 1 (List.map keS0 ((a0.Flat.drop (g37).toNat).take ((x39).toNat - (g37).toNat)))]) rfl ?_
          refine AO.freezeG 2 rfl rfl rfl ?_
          refine AO.op rfl (AOp.build rfl rfl (ltb rfl) zero28 rfl places28 rfl rfl ?_)
          refine AO.op rfl (AOp.store rfl rfl rfl rfl size28 rfl rfl rfl (leb rfl) ?_)
          refine AO.nil ?_
          change AC _ _ _ _
          refine AC.subO 1 rfl (.cons (SVLe.refl _) (.cons (SVLe.refl _) (.cons (SVLe.refl _) (.cons (SVLe.refl _) (.cons (SVLe.nil 1) (.cons (SVLe.nil 1) (.cons (SVLe.nil 7) .nil))))))) ?_
          refine AC.ret ?_
          change RetQ _ _ _ .ret _
          obtain rfl := Option.some.inj h0
          refine retq rfl rfl

set_option maxRecDepth 100000 in
set_option maxHeartbeats 1000000 in
/-- pub-orthodrome/spec.Parts -/
theorem w_Parts (F : Nat) (a0 : TImpl_Geom) (r0 : (List TImpl_Geom)) (h0 : p_Parts F a0 = some r0) : FnD Try.prog 32 [e_TImpl_Geom a0] (fun r => r = eS2 r0) := by
  refine FnD.of (by kernel_rfl) Try.func32 rfl Try.ntmps32 rfl (leb rfl) fun W ok => ?_
  unfold p_Parts at h0
  refine AC.seq ?_
  refine AC.region ?_
  refine AO.op rfl (AOp.box rfl rfl (ltb rfl) rfl rfl ?_)
  refine AO.op rfl (AOp.assign rfl rfl (ltb rfl) rfl ?_)
  refine AO.nil ?_
  change AC _ _ _ _
  refine AC.seq ?_
  refine AC.region ?_
  refine AO.op rfl (AOp.assign rfl rfl (ltb rfl) rfl ?_)
  refine AO.nil ?_
  change AC _ _ _ _
  refine AC.seq ?_
  refine AC.seq ?_
  refine AC.region ?_
  refine AO.op rfl (AOp.loadN rfl rfl (ltb rfl) rfl agg28 size28 rfl (leb rfl) rfl ?_)
  obtain ⟨y1, q2, h0⟩ := bind_elim h0
  refine AO.op rfl (AOp.callD rfl rfl (ltb rfl) rfl rfl (w_NumParts a0 y1 q2) ?_)
  rintro _ rfl
  refine AO.op rfl (AOp.move rfl rfl (ltb rfl) rfl ?_)
  refine AO.nil ?_
  change AC _ _ _ _
  refine AC.adopt 3 28 7 rfl ?_
  obtain ⟨o3, l4, h0⟩ := bind_elim h0
  refine AC.joinE (V := (List TImpl_Geom)) [] [3] 2 (fun g5 => [(3, .own 1)]) (fun g5 => [.fix 28 [.d (di .i64 a0.Kind), .d (di .i64 a0.Layout), .d (di .i64 a0.SRID), .d (eS0 a0.Flat), .d (eS1 a0.Ends), .d (eS3 a0.Endss), .d (eS2 a0.Kids)], .grow 28 7 (List.flatMap c0_TImpl_Geom g5)]) (fun g5 => p_Parts_k1 g5 = some r0) rfl ?_ ?_
  · refine AC.block ?_
    refine AC.loopP (V := (Int × (List TImpl_Geom))) (p_Parts_l2 a0 F y1) o3 [1, 6] [3, 7] 2 (fun g6 => [(3, .own 1), (7, .d (di .i64 g6.1))]) (fun g6 => [.fix 28 [.d (di .i64 a0.Kind), .d (di .i64 a0.Layout), .d (di .i64 a0.SRID), .d (eS0 a0.Flat), .d (eS1 a0.Ends), .d (eS3 a0.Endss), .d (eS2 a0.Kids)], .grow 28 7 (List.flatMap c0_TImpl_Geom g6.2)]) F ((0 : Int), []) l4 rfl rfl (LeL.refl _) rfl rfl ?_
    intro n8 g6 h1
    unfold p_Parts_l2 at h1
    refine AC.seq ?_
    refine AC.region ?_
    refine AO.op rfl (AOp.ilss rfl rfl (ltb rfl) rfl rfl ?_)
    refine AO.nil ?_
    change AC _ _ _ _
    refine AC.seq ?_
    refine AC.cond rfl (fun q9 => ?_) (fun q9 => ?_)
    · replace h1 := cT h1 q9
      refine AC.skip ?_
      change AC _ _ _ _
      refine AC.seq ?_
      refine AC.block ?_
      refine AC.seq ?_
      refine AC.region ?_
      refine AO.op rfl (AOp.move rfl rfl (ltb rfl) rfl ?_)
      refine AO.op rfl (AOp.assign rfl rfl (ltb rfl) rfl ?_)
      refine AO.nil ?_
      change AC _ _ _ _
      refine AC.region ?_
      refine AO.op rfl (AOp.move rfl rfl (ltb rfl) rfl ?_)
      refine AO.op rfl (AOp.loadN rfl rfl (ltb rfl) rfl agg28 size28 rfl (leb rfl) rfl ?_)
      refine AO.op rfl (AOp.move rfl rfl (ltb rfl) rfl ?_)
      obtain ⟨y10, q11, h1⟩ := bind_elim h1
      refine AO.op rfl (AOp.callD rfl rfl (ltb rfl) rfl rfl (w_Part F a0 g6.1 y10 q11) ?_)
      rintro _ rfl
      refine AO.op rfl (AOp.buildSliceD rfl rfl (ltb rfl) el26 zero28 rfl (leb rfl) rfl rfl rfl rfl (AO.top (y := .d (eS2 [y10])) (SVLe.of_eq (by simp only [eS2, List.flatMap_cons, List.flatMap_nil, c0_TImpl_Geom_eq, List.append_nil] <;> rfl)) ?_))
      obtain ⟨q12, h1⟩ := need_elim h1
      refine AO.op rfl (AOp.appendOwn' (n := g6.2.length) (m := [y10].length) (news := (List.flatMap c0_TImpl_Geom [y10])) rfl rfl (ltb rfl) rfl rfl el26 info28 rfl (by decide) rfl (lenN _ 7 c0_TImpl_Geom_len _) (lenN _ 7 c0_TImpl_Geom_len _) (oneN _ c0_TImpl_Geom_one _) q12 (by decide) rfl rfl (catN _ _ _) ?_)
      refine AO.op rfl (AOp.assign rfl rfl (ltb rfl) rfl ?_)
      refine AO.nil ?_
      change AC _ _ _ _
      refine AC.region ?_
      obtain ⟨q13, h1⟩ := need_elim h1
      refine AO.op rfl (AOp.iadd rfl rfl (ltb rfl) rfl rfl rfl q13.1 q13.2 ?_)
      refine AO.op rfl (AOp.move rfl rfl (ltb rfl) rfl ?_)
      refine AO.nil ?_
      exact ⟨((g6.1 + (1 : Int)), (g6.2 ++ [y10])), _, rfl, (LeL.refl _), rfl, rfl, h1⟩
    · replace h1 := cF h1 q9
      refine AC.exit ?_
      obtain rfl := Option.some.inj h1
      exact ⟨g6.2, _, rfl, (LeL.refl _), rfl, rfl, aftL h0⟩
  · intro g5 h0
    unfold p_Parts_k1 at h0
    change AC _ _ _ _
    refine AC.seq ?_
    refine AC.region ?_
    refine AO.op rfl (AOp.move rfl rfl (ltb rfl) rfl ?_)
    refine AO.op rfl (AOp.assign rfl rfl (ltb rfl) rfl ?_)
    refine AO.nil ?_
    change AC _ _ _ _
    refine AC.ret ?_
    change RetQ _ _ _ .ret _
    obtain rfl := Option.some.inj h0
    refine retq rfl rfl

set_option maxRecDepth 100000 in
set_option maxHeartbeats 1000000 in
/-- pub-orthodrome/laws.gLines -/
theorem w_gLines_b (Rec_ : TImpl_Geom → Option (List TImpl_Geom)) (hR : ∀ (a0 : TImpl_Geom) (r0 : (List TImpl_Geom)), Rec_ a0 = some r0 → FnD Try.prog 35 [e_TImpl_Geom a0] (fun r => r = eS2 r0)) (F : Nat) (a0 : TImpl_Geom) (r0 : (List TImpl_Geom)) (h0 : p_gLines_b Rec_ F a0 = some r0) : FnD Try.prog 35 [e_TImpl_Geom a0] (fun r => r = eS2 r0) := by
  refine FnD.of (by kernel_rfl) Try.func35 rfl Try.ntmps35 rfl (leb rfl) fun W ok => ?_
  unfold p_gLines_b at h0
  refine AC.seq ?_
  refine AC.region ?_
  refine AO.op rfl (AOp.box rfl rfl (ltb rfl) rfl rfl ?_)
  refine AO.op rfl (AOp.assign rfl rfl (ltb rfl) rfl ?_)
  refine AO.nil ?_
  change AC _ _ _ _
  refine AC.seq ?_
  refine AC.seq ?_
  refine AC.region ?_
  refine AO.op rfl (AOp.fieldAddr rfl rfl (ltb rfl) rfl fo28_0 ?_)
  refine AO.op rfl (AOp.load1 rfl rfl (ltb rfl) rfl agg3 rfl rfl ?_)
  refine AO.nil ?_
  change AC _ _ _ _
  refine AC.block ?_
  refine AC.joinP (V := Bool) [1, 7] [8] 1 (fun g1 => [(8, .d (dbool g1))]) (fun g1 => [.fix 28 [.d (di .i64 a0.Kind), .d (di .i64 a0.Layout), .d (di .i64 a0.SRID), .d (eS0 a0.Flat), .d (eS1 a0.Ends), .d (eS3 a0.Endss), .d (eS2 a0.Kids)]]) (fun g1 => (p_gLines_k1 a0 F Rec_) g1 = some r0) rfl ?_ ?_
  · refine AC.seq ?_
    refine AC.region ?_
    refine AO.op rfl (AOp.ieql rfl rfl (ltb rfl) rfl rfl ?_)
    refine AO.op rfl (AOp.assign rfl rfl (ltb rfl) rfl ?_)
    refine AO.nil ?_
    change AC _ _ _ _
    refine AC.cond rfl (fun q21 => ?_) (fun q21 => ?_)
    · replace h0 := cT h0 q21
      refine AC.skip ?_
      exact ⟨(decide (a0.Kind = (2 : Int))), _, rfl, (LeL.refl _), rfl, rfl, h0⟩
    · replace h0 := cF h0 q21
      refine AC.region ?_
      refine AO.op rfl (AOp.ieql rfl rfl (ltb rfl) rfl rfl ?_)
      refine AO.op rfl (AOp.assign rfl rfl (ltb rfl) rfl ?_)
      refine AO.nil ?_
      exact ⟨(decide (a0.Kind = (8 : Int))), _, rfl, (LeL.refl _), rfl, rfl, h0⟩
  · intro g1 h0
    unfold p_gLines_k1 at h0
    refine AC.cond rfl (fun q2 => ?_) (fun q2 => ?_)
    · replace h0 := cT h0 q2
      refine AC.seq ?_
      refine AC.region ?_
      refine AO.op rfl (AOp.loadN rfl rfl (ltb rfl) rfl agg28 size28 rfl (leb rfl) rfl ?_)
      refine AO.op rfl (AOp.buildSliceD rfl rfl (ltb rfl) el26 zero28 rfl (leb rfl) rfl rfl rfl rfl (AO.top (y := .d (eS2 [a0])) (SVLe.of_eq (by simp only [eS2, List.flatMap_cons, List.flatMap_nil, c0_TImpl_Geom_eq, List.append_nil] <;> rfl)) ?_))
      refine AO.op rfl (AOp.assign rfl rfl (ltb rfl) rfl ?_)
      refine AO.nil ?_
      change AC _ _ _ _
      refine AC.ret ?_
      change RetQ _ _ _ .ret _
      obtain rfl := Option.some.inj h0
      refine retq rfl rfl
    · replace h0 := cF h0 q2
      refine AC.joinP (V := Bool) [1] [13] 1 (fun g3 => [(13, .d (dbool g3))]) (fun g3 => [.fix 28 [.d (di .i64 a0.Kind), .d (di .i64 a0.Layout), .d (di .i64 a0.SRID), .d (eS0 a0.Flat), .d (eS1 a0.Ends), .d (eS3 a0.Endss), .d (eS2 a0.Kids)]]) (fun g3 => (p_gLines_k2 a0 F Rec_) g3 = some r0) rfl ?_ ?_
      · refine AC.seq ?_
        refine AC.region ?_
        refine AO.op rfl (AOp.ieql rfl rfl (ltb rfl) rfl rfl ?_)
        refine AO.op rfl (AOp.assign rfl rfl (ltb rfl) rfl ?_)
        refine AO.nil ?_
        change AC _ _ _ _
        refine AC.cond rfl (fun q20 => ?_) (fun q20 => ?_)
        · replace h0 := cT h0 q20
          refine AC.skip ?_
          exact ⟨(decide (a0.Kind = (1 : Int))), _, rfl, (LeL.refl _), rfl, rfl, h0⟩
        · replace h0 := cF h0 q20
          refine AC.region ?_
          refine AO.op rfl (AOp.ieql rfl rfl (ltb rfl) rfl rfl ?_)
          refine AO.op rfl (AOp.assign rfl rfl (ltb rfl) rfl ?_)
          refine AO.nil ?_
          exact ⟨(decide (a0.Kind = (4 : Int))), _, rfl, (LeL.refl _), rfl, rfl, h0⟩
      · intro g3 h0
        unfold p_gLines_k2 at h0
        refine AC.cond rfl (fun q4 => ?_) (fun q4 => ?_)
        · replace h0 := cT h0 q4
          refine AC.seq ?_
          refine AC.region ?_
          refine AO.op rfl (AOp.assign rfl rfl (ltb rfl) rfl ?_)
          refine AO.nil ?_
          change AC _ _ _ _
          refine AC.sub 2 rfl (SVLe.nil 7) ?_
          refine AC.ret ?_
          change RetQ _ _ _ .ret _
          obtain rfl := Option.some.inj h0
          refine retq rfl rfl
        · replace h0 := cF h0 q4
          refine AC.skip ?_
          change AC _ _ _ _
          refine AC.seq ?_
          refine AC.region ?_
          refine AO.op rfl (AOp.assign rfl rfl (ltb rfl) rfl ?_)
          refine AO.nil ?_
          change AC _ _ _ _
          refine AC.seq ?_
          refine AC.seq ?_
          refine AC.region ?_
          refine AO.op rfl (AOp.loadN rfl rfl (ltb rfl) rfl agg28 size28 rfl (leb rfl) rfl ?_)
          obtain ⟨y5, q6, h0⟩ := bind_elim h0
          refine AO.op rfl (AOp.callD rfl rfl (ltb rfl) rfl rfl (w_Parts F a0 y5 q6) ?_)
          rintro _ rfl
          refine AO.op rfl (AOp.lenDs (n := y5.length) (cells := (List.flatMap c0_TImpl_Geom y5)) rfl rfl (ltb rfl) rfl el26 (by decide) (lenN _ 7 c0_TImpl_Geom_len _) ?_)
          refine AO.op rfl (AOp.move rfl rfl (ltb rfl) rfl ?_)
          refine AO.nil ?_
          change AC _ _ _ _
          refine AC.adopt 3 28 7 rfl ?_
          obtain ⟨o7, l8, h0⟩ := bind_elim h0
          refine AC.joinE (V := (List TImpl_Geom)) [] [3] 2 (fun g9 => [(3, .own 1)]) (fun g9 => [.fix 28 [.d (di .i64 a0.Kind), .d (di .i64 a0.Layout), .d (di .i64 a0.SRID), .d (eS0 a0.Flat), .d (eS1 a0.Ends), .d (eS3 a0.Endss), .d (eS2 a0.Kids)], .grow 28 7 (List.flatMap c0_TImpl_Geom g9)]) (fun g9 => p_gLines_k3 g9 = some r0) rfl ?_ ?_
          · refine AC.block ?_
            refine AC.loopP (V := (Int × (List TImpl_Geom))) (p_gLines_l4 Rec_ y5) o7 [17, 18] [3, 19] 2 (fun g10 => [(3, .own 1), (19, .d (di .i64 g10.1))]) (fun g10 => [.fix 28 [.d (di .i64 a0.Kind), .d (di .i64 a0.Layout), .d (di .i64 a0.SRID), .d (eS0 a0.Flat), .d (eS1 a0.Ends), .d (eS3 a0.Endss), .d (eS2 a0.Kids)], .grow 28 7 (List.flatMap c0_TImpl_Geom g10.2)]) F ((0 : Int), []) l8 rfl rfl (LeL.refl _) rfl rfl ?_
            intro n12 g10 h1
            unfold p_gLines_l4 at h1
            refine AC.seq ?_
            refine AC.region ?_
            refine AO.op rfl (AOp.ilss rfl rfl (ltb rfl) rfl rfl ?_)
            refine AO.nil ?_
            change AC _ _ _ _
            refine AC.seq ?_
            refine AC.cond rfl (fun q13 => ?_) (fun q13 => ?_)
            · replace h1 := cT h1 q13
              refine AC.skip ?_
              change AC _ _ _ _
              refine AC.seq ?_
              refine AC.block ?_
              refine AC.seq ?_
              refine AC.region ?_
              obtain ⟨x14, q15, h1⟩ := idx_elim h1
              refine AO.op rfl (AOp.indexDs (cells := (List.flatMap c0_TImpl_Geom y5)) rfl rfl (ltb rfl) rfl rfl el26 (by decide) q15.1 (ltN 7 c0_TImpl_Geom_len (by decide) q15.2) ?_)
              refine AO.op rfl (AOp.loadEpN rfl rfl (ltb rfl) rfl agg28 size28 (leN 7 c0_TImpl_Geom_len q15.2) ((atN 7 c0_TImpl_Geom_len q15.2).trans (c0_TImpl_Geom_eq x14)) ?_)
              refine AO.op rfl (AOp.alloc rfl rfl (ltb rfl) zero28 rfl ?_)
              refine AO.op rfl (AOp.store rfl rfl rfl rfl size28 rfl rfl rfl (leb rfl) ?_)
              refine AO.nil ?_
              change AC _ _ _ _
              refine AC.region ?_
              refine AO.op rfl (AOp.move rfl rfl (ltb rfl) rfl ?_)
              refine AO.op rfl (AOp.loadN rfl rfl (ltb rfl) rfl agg28 size28 rfl (leb rfl) rfl ?_)
              obtain ⟨y16, q17, h1⟩ := bind_elim h1
              refine AO.op rfl (AOp.callD rfl rfl (ltb rfl) rfl rfl (hR x14 y16 q17) ?_)
              rintro _ rfl
              obtain ⟨q18, h1⟩ := need_elim h1
              refine AO.op rfl (AOp.appendOwn' (n := g10.2.length) (m := y16.length) (news := (List.flatMap c0_TImpl_Geom y16)) rfl rfl (ltb rfl) rfl rfl el26 info28 rfl (by decide) rfl (lenN _ 7 c0_TImpl_Geom_len _) (lenN _ 7 c0_TImpl_Geom_len _) (oneN _ c0_TImpl_Geom_one _) q18 (by decide) rfl rfl (catN _ _ _) ?_)
              refine AO.op rfl (AOp.assign rfl rfl (ltb rfl) rfl ?_)
              refine AO.nil ?_
              change AC _ _ _ _
              refine AC.region ?_
              obtain ⟨q19, h1⟩ := need_elim h1
              refine AO.op rfl (AOp.iadd rfl rfl (ltb rfl) rfl rfl rfl q19.1 q19.2 ?_)
              refine AO.op rfl (AOp.move rfl rfl (ltb rfl) rfl ?_)
              refine AO.nil ?_
              exact ⟨((g10.1 + (1 : Int)), (g10.2 ++ y16)), _, rfl, (LeL.refl _), rfl, rfl, h1⟩
            · replace h1 := cF h1 q13
              refine AC.exit ?_
              obtain rfl := Option.some.inj h1
              exact ⟨g10.2, _, rfl, (LeL.refl _), rfl, rfl, aftL h0⟩
          · intro g9 h0
            unfold p_gLines_k3 at h0
            change AC _ _ _ _
            refine AC.seq ?_
            refine AC.region ?_
            refine AO.op rfl (AOp.move rfl rfl (ltb rfl) rfl ?_)
            refine AO.op rfl (AOp.assign rfl rfl (ltb rfl) rfl ?_)
            refine AO.nil ?_
            change AC _ _ _ _
            refine AC.ret ?_
            change RetQ _ _ _ .ret _
            obtain rfl := Option.some.inj h0
            refine retq rfl rfl
theorem w_gLines : ∀ (F : Nat) (a0 : TImpl_Geom) (r0 : (List TImpl_Geom)), p_gLines F a0 = some r0 → FnD Try.prog 35 [e_TImpl_Geom a0] (fun r => r = eS2 r0)
  | 0, _, _, h => by cases h
  | F + 1, a0, r0, h => w_gLines_b _ (fun a0 r0 h => w_gLines F a0 r0 h) F a0 r0 h

set_option maxRecDepth 100000 in
set_option maxHeartbeats 1000000 in
/-- pub-orthodrome/spec.Rows -/
theorem w_Rows (F : Nat) (a0 : (List Nat)) (a1 : Int) (r0 : (List (List Nat))) (h0 : p_Rows F a0 a1 = some r0) : FnD Try.prog 36 [eS0 a0, di .i64 a1] (fun r => r = eS4 r0) := by
  refine FnD.of (by kernel_rfl) Try.func36 rfl Try.ntmps36 rfl (leb rfl) fun W ok => ?_
  unfold p_Rows at h0
  refine AC.seq ?_
  refine AC.region ?_
  refine AO.op rfl (AOp.assign rfl rfl (ltb rfl) rfl ?_)
  refine AO.nil ?_
  change AC _ _ _ _
  refine AC.seq ?_
  refine AC.region ?_
  refine AO.op rfl (AOp.assign rfl rfl (ltb rfl) rfl ?_)
  refine AO.nil ?_
  change AC _ _ _ _
  refine AC.seq ?_
  refine AC.seq ?_
  refine AC.region ?_
  refine AO.op rfl (AOp.assign rfl rfl (ltb rfl) rfl ?_)
  refine AO.nil ?_
  change AC _ _ _ _
  refine AC.adopt 5 22 1 rfl ?_
  obtain ⟨o1, l2, h0⟩ := bind_elim h0
  refine AC.joinE (V := (List (List Nat))) [] [5] 1 (fun g3 => [(5, .own 0)]) (fun g3 => [.grow 22 1 (List.map keS4 g3)]) (fun g3 => p_Rows_k1 g3 = some r0) rfl ?_ ?_
  · refine AC.block ?_
    refine AC.loopP (V := (Int × (List (List Nat)))) (p_Rows_l2 a0 a1) o1 [0, 1] [5, 6] 1 (fun g4 => [(5, .own 0), (6, .d (di .i64 g4.1))]) (fun g4 => [.grow 22 1 (List.map keS4 g4.2)]) F ((0 : Int), []) l2 rfl rfl (LeL.refl _) rfl rfl ?_
    intro n6 g4 h1
    unfold p_Rows_l2 at h1
    refine AC.seq ?_
    refine AC.joinP (V := Bool) [0, 1, 5, 6] [16] 1 (fun g7 => [(16, .d (dbool g7))]) (fun g7 => [.grow 22 1 (List.map keS4 g4.2)]) (fun g7 => (p_Rows_k3 a0 a1 g4 (iter (p_Rows_l2 a0 a1) n6)) g7 = some o1) rfl ?_ ?_
    · refine AC.region ?_
      refine AO.op rfl (AOp.move rfl rfl (ltb rfl) rfl ?_)
      refine AO.op rfl (AOp.move rfl rfl (ltb rfl) rfl ?_)
      obtain ⟨q13, h1⟩ := need_elim h1
      refine AO.op rfl (AOp.iadd rfl rfl (ltb rfl) rfl rfl rfl q13.1 q13.2 ?_)
      refine AO.op rfl (AOp.move rfl rfl (ltb rfl) rfl ?_)
      refine AO.op rfl (AOp.lenDs (n := a0.length) (cells := (List.map keS0 a0)) rfl rfl (ltb rfl) rfl el22 (by decide) (len1 _ _) ?_)
      refine AO.op rfl (AOp.ileq rfl rfl (ltb rfl) rfl rfl ?_)
      refine AO.op rfl (AOp.move rfl rfl (ltb rfl) rfl ?_)
      refine AO.dec (decide ((g4.1 + a1) ≤ ((a0.length : Nat) : Int))) (fun q14 => ?_) (fun q14 => ?_)
      · replace h1 := cT h1 q14
        refine AO.guardY rfl rfl rfl q14 (AOp.move rfl rfl (ltb rfl) rfl ?_)
        refine AO.guardY rfl rfl rfl q14 (AOp.igtr rfl rfl (ltb rfl) rfl rfl ?_)
        refine AO.op rfl (AOp.pick rfl rfl (ltb rfl) rfl q14 rfl ?_)
        refine AO.nil ?_
        exact ⟨(decide ((0 : Int) < a1)), _, rfl, (LeL.refl _), rfl, rfl, h1⟩
      · replace h1 := cF h1 q14
        refine AO.guardN rfl rfl rfl (ltb rfl) rfl q14 ?_
        refine AO.guardN rfl rfl rfl (ltb rfl) rfl q14 ?_
        refine AO.op rfl (AOp.pickN rfl rfl (ltb rfl) rfl q14 rfl ?_)
        refine AO.nil ?_
        exact ⟨false, _, rfl, (LeL.refl _), rfl, rfl, h1⟩
    · intro g7 h1
      unfold p_Rows_k3 at h1
      refine AC.cond rfl (fun q8 => ?_) (fun q8 => ?_)
      · replace h1 := cT h1 q8
        refine AC.skip ?_
        change AC _ _ _ _
        refine AC.seq ?_
        refine AC.block ?_
        refine AC.region ?_
        refine AO.op rfl (AOp.move rfl rfl (ltb rfl) rfl ?_)
        refine AO.op rfl (AOp.move rfl rfl (ltb rfl) rfl ?_)
        refine AO.op rfl (AOp.move rfl rfl (ltb rfl) rfl ?_)
        refine AO.op rfl (AOp.move rfl rfl (ltb rfl) rfl ?_)
        refine AO.op rfl (AOp.move rfl rfl (ltb rfl) rfl ?_)
        obtain ⟨q9, h1⟩ := need_elim h1
        refine AO.op rfl (AOp.iadd rfl rfl (ltb rfl) rfl rfl rfl q9.1 q9.2 ?_)
        obtain ⟨q10, h1⟩ := need_elim h1
        refine AO.op rfl (AOp.sliceD (cells := (List.map keS0 a0)) (n := a0.length) (l := (g4.1).toNat) (hh := ((g4.1 + a1)).toNat) rfl rfl (ltb rfl) rfl (.inr ⟨_, _, _, rfl, rfl, q10.1.1, rfl⟩) (.inr ⟨_, _, _, rfl, rfl, q10.1.2, rfl⟩) el22 (by decide) (len1 _ _) q10.2.1 q10.2.2 (sub1 _ _ _ _) ?_)
        refine AO.op rfl (AOp.buildSliceD rfl rfl (ltb rfl) el61 zero22 rfl (leb rfl) rfl rfl rfl rfl ?_)
        obtain ⟨q11, h1⟩ := need_elim h1
        refine AO.op rfl (AOp.appendOwn' (n := g4.2.length) (m := [((a0.drop (g4.1).toNat).take (((g4.1 + a1)).toNat - (g4.1).toNat))].length) (news := (List.map keS4 [((a0.drop (g4.1).toNat).take (((g4.1 + a1)).toNat - (g4.1).toNat))])) rfl rfl (ltb rfl) rfl rfl el61 info22 rfl (by decide) rfl (len1 _ _) (len1 _ _) (one1 _ (fun _ => rfl) _) q11 (by decide) rfl rfl (cat1 _ _ _) ?_)
        refine AO.op rfl (AOp.assign rfl rfl (ltb rfl) rfl ?_)
        refine AO.nil ?_
        change AC _ _ _ _
        refine AC.region ?_
        refine AO.op rfl (AOp.move rfl rfl (ltb rfl) rfl ?_)
        refine AO.op rfl (AOp.move rfl rfl (ltb rfl) rfl ?_)
        obtain ⟨q12, h1⟩ := need_elim h1
        refine AO.op rfl (AOp.iadd rfl rfl (ltb rfl) rfl rfl rfl q12.1 q12.2 ?_)
        refine AO.op rfl (AOp.assign rfl rfl (ltb rfl) rfl ?_)
        refine AO.nil ?_
        exact ⟨((g4.1 + a1), (g4.2 ++ [((a0.drop (g4.1).toNat).take (((g4.1 + a1)).toNat - (g4.1).toNat))])), _, rfl, (LeL.refl _), rfl, rfl, h1⟩
      · replace h1 := cF h1 q8
        refine AC.exit ?_
        obtain rfl := Option.some.inj h1
        exact ⟨g4.2, _, rfl, (LeL.refl _), rfl, rfl, aftL h0⟩
  · intro g3 h0
    unfold p_Rows_k1 at h0
    change AC _ _ _ _
    refine AC.seq ?_
    refine AC.region ?_
    refine AO.op rfl (AOp.move rfl rfl (ltb rfl) rfl ?_)
    refine AO.op rfl (AOp.assign rfl rfl (ltb rfl) rfl ?_)
    refine AO.nil ?_
    change AC _ _ _ _
    refine AC.ret ?_
    change RetQ _ _ _ .ret _
    obtain rfl := Option.some.inj h0
    refine retq rfl rfl

set_option maxRecDepth 100000 in
set_option maxHeartbeats 1000000 in
/-- pub-orthodrome/laws.gAlong -/
theorem w_gAlong (F : Nat) (a0 : TImpl_Geom) (r0 : (Int × Bool)) (h0 : p_gAlong F a0 = some r0) : FnD Try.prog 18 [e_TImpl_Geom a0] (fun r => r = .tu [di .i64 r0.1, dbool r0.2]) := by
  refine FnD.of (by kernel_rfl) Try.func18 rfl Try.ntmps18 rfl (leb rfl) fun W ok => ?_
  unfold p_gAlong at h0
  refine AC.seq ?_
  refine AC.region ?_
  refine AO.op rfl (AOp.box rfl rfl (ltb rfl) rfl rfl ?_)
  refine AO.op rfl (AOp.assign rfl rfl (ltb rfl) rfl ?_)
  refine AO.op rfl (AOp.assign rfl rfl (ltb rfl) rfl ?_)
  refine AO.nil ?_
  change AC _ _ _ _
  refine AC.seq ?_
  refine AC.seq ?_
  refine AC.region ?_
  refine AO.op rfl (AOp.loadN rfl rfl (ltb rfl) rfl agg28 size28 rfl (leb rfl) rfl ?_)
  obtain ⟨y1, q2, h0⟩ := bind_elim h0
  refine AO.op rfl (AOp.callD rfl rfl (ltb rfl) rfl rfl (w_gLines F a0 y1 q2) ?_)
  rintro _ rfl
  refine AO.op rfl (AOp.lenDs (n := y1.length) (cells := (List.flatMap c0_TImpl_Geom y1)) rfl rfl (ltb rfl) rfl el26 (by decide) (lenN _ 7 c0_TImpl_Geom_len _) ?_)
  refine AO.op rfl (AOp.move rfl rfl (ltb rfl) rfl ?_)
  refine AO.nil ?_
  change AC _ _ _ _
  obtain ⟨o3, l4, h0⟩ := bind_elim h0
  refine AC.joinE (V := Int) [] [2] 1 (fun g5 => [(2, .d (di .i64 g5))]) (fun g5 => [.fix 28 [.d (di .i64 a0.Kind), .d (di .i64 a0.Layout), .d (di .i64 a0.SRID), .d (eS0 a0.Flat), .d (eS1 a0.Ends), .d (eS3 a0.Endss), .d (eS2 a0.Kids)]]) (fun g5 => p_gAlong_k1 g5 = some r0) rfl ?_ ?_
  · refine AC.block ?_
    refine AC.loopP (V := (Int × Int)) (p_gAlong_l2 F y1) o3 [11, 12] [2, 13] 1 (fun g6 => [(2, .d (di .i64 g6.1)), (13, .d (di .i64 g6.2))]) (fun g6 => [.fix 28 [.d (di .i64 a0.Kind), .d (di .i64 a0.Layout), .d (di .i64 a0.SRID), .d (eS0 a0.Flat), .d (eS1 a0.Ends), .d (eS3 a0.Endss), .d (eS2 a0.Kids)]]) F ((0 : Int), (0 : Int)) l4 rfl rfl (LeL.refl _) rfl rfl ?_
    intro n8 g6 h1
    unfold p_gAlong_l2 at h1
    refine AC.seq ?_
    refine AC.region ?_
    refine AO.op rfl (AOp.ilss rfl rfl (ltb rfl) rfl rfl ?_)
    refine AO.nil ?_
    change AC _ _ _ _
    refine AC.seq ?_
    refine AC.cond rfl (fun q9 => ?_) (fun q9 => ?_)
    · replace h1 := cT h1 q9
      refine AC.skip ?_
      change AC _ _ _ _
      refine AC.seq ?_
      refine AC.block ?_
      refine AC.seq ?_
      refine AC.region ?_
      obtain ⟨x10, q11, h1⟩ := idx_elim h1
      refine AO.op rfl (AOp.indexDs (cells := (List.flatMap c0_TImpl_Geom y1)) rfl rfl (ltb rfl) rfl rfl el26 (by decide) q11.1 (ltN 7 c0_TImpl_Geom_len (by decide) q11.2) ?_)
      refine AO.op rfl (AOp.loadEpN rfl rfl (ltb rfl) rfl agg28 size28 (leN 7 c0_TImpl_Geom_len q11.2) ((atN 7 c0_TImpl_Geom_len q11.2).trans (c0_TImpl_Geom_eq x10)) ?_)
      refine AO.op rfl (AOp.alloc rfl rfl (ltb rfl) zero28 rfl ?_)
      refine AO.op rfl (AOp.store rfl rfl rfl rfl size28 rfl rfl rfl (leb rfl) ?_)
      refine AO.nil ?_
      change AC _ _ _ _
      refine AC.seq ?_
      refine AC.draw 7 mixed (by kernel_rfl) ?_
      refine AD.op [5] rfl (by kernel_rfl) rfl rfl (fun _ _ h => AOp.fieldAddr rfl rfl (ltb rfl) rfl fo28_3 h) ?_
      refine AD.op [17] rfl (by kernel_rfl) rfl rfl (fun _ _ h => AOp.load1 rfl rfl (ltb rfl) rfl agg22 rfl rfl h) ?_
      refine AD.op [5] rfl (by kernel_rfl) rfl rfl (fun _ _ h => AOp.fieldAddr rfl rfl (ltb rfl) rfl fo28_1 h) ?_
      refine AD.op [19] rfl (by kernel_rfl) rfl rfl (fun _ _ h => AOp.load1 rfl rfl (ltb rfl) rfl agg3 rfl rfl h) ?_
      obtain ⟨y12, q13, h1⟩ := bind_elim h1
      refine AD.op [20] rfl (by kernel_rfl) rfl rfl (fun _ _ h => AOp.callD rfl rfl (ltb rfl) rfl rfl (w_Stride x10.Layout y12 q13) (by rintro _ rfl; exact h)) ?_
      obtain ⟨y14, q15, h1⟩ := bind_elim h1
      refine AD.op [18, 21] rfl (by kernel_rfl) rfl rfl (fun _ _ h => AOp.callD rfl rfl (ltb rfl) rfl rfl (w_Rows F x10.Flat y12 y14 q15) (by rintro _ rfl; exact h)) ?_
      refine AD.op [22] rfl (by kernel_rfl) rfl rfl (fun _ _ h => AOp.assign rfl rfl (ltb rfl) rfl h) ?_
      refine AD.done ?_
      refine AO.nil ?_
      change AC _ _ _ _
      refine AC.seq ?_
      refine AC.region ?_
      refine AO.op rfl (AOp.assign rfl rfl (ltb rfl) rfl ?_)
      refine AO.nil ?_
      change AC _ _ _ _
      obtain ⟨o16, l17, h1⟩ := bind_elim h1
      refine AC.joinE (V := Int) [11, 12, 13] [2] 2 (fun g18 => [(2, .d (di .i64 g18))]) (fun g18 => [.fix 28 [.d (di .i64 a0.Kind), .d (di .i64 a0.Layout), .d (di .i64 a0.SRID), .d (eS0 a0.Flat), .d (eS1 a0.Ends), .d (eS3 a0.Endss), .d (eS2 a0.Kids)], .fix 28 [.d (di .i64 x10.Kind), .d (di .i64 x10.Layout), .d (di .i64 x10.SRID), .d (eS0 x10.Flat), .d (eS1 x10.Ends), .d (eS3 x10.Endss), .d (eS2 x10.Kids)]]) (fun g18 => (p_gAlong_k3 g6 (iter (p_gAlong_l2 F y1) n8)) g18 = some o3) rfl ?_ ?_
      · refine AC.block ?_
        refine AC.loopP (V := (Int × Int)) (p_gAlong_l4 y14) o16 [6, 11, 12, 13] [2, 7] 2 (fun g20 => [(2, .d (di .i64 g20.1)), (7, .d (di .i64 g20.2))]) (fun g20 => [.fix 28 [.d (di .i64 a0.Kind), .d (di .i64 a0.Layout), .d (di .i64 a0.SRID), .d (eS0 a0.Flat), .d (eS1 a0.Ends), .d (eS3 a0.Endss), .d (eS2 a0.Kids)], .fix 28 [.d (di .i64 x10.Kind), .d (di .i64 x10.Layout), .d (di .i64 x10.SRID), .d (eS0 x10.Flat), .d (eS1 x10.Ends), .d (eS3 x10.Endss), .d (eS2 x10.Kids)]]) F (g6.1, (1 : Int)) l17 rfl rfl (LeL.refl _) rfl rfl ?_
        intro n22 g20 h2
        unfold p_gAlong_l4 at h2
        refine AC.seq ?_
        refine AC.seq ?_
        refine AC.region ?_
        refine AO.op rfl (AOp.move rfl rfl (ltb rfl) rfl ?_)
        refine AO.op rfl (AOp.move rfl rfl (ltb rfl) rfl ?_)
        refine AO.op rfl (AOp.lenDs (n := y14.length) (cells := (List.map keS4 y14)) rfl rfl (ltb rfl) rfl el61 (by decide) (len1 _ _) ?_)
        refine AO.op rfl (AOp.ilss rfl rfl (ltb rfl) rfl rfl ?_)
        refine AO.nil ?_
        change AC _ _ _ _
        refine AC.cond rfl (fun q23 => ?_) (fun q23 => ?_)
        · replace h2 := cT h2 q23
          refine AC.skip ?_
          change AC _ _ _ _
          refine AC.seq ?_
          refine AC.block ?_
          refine AC.seq ?_
          refine AC.draw 34 mixed (by kernel_rfl) ?_
          refine AD.op [6] rfl (by kernel_rfl) rfl rfl (fun _ _ h => AOp.move rfl rfl (ltb rfl) rfl h) ?_
          refine AD.op [7] rfl (by kernel_rfl) rfl rfl (fun _ _ h => AOp.move rfl rfl (ltb rfl) rfl h) ?_
          obtain ⟨x24, q25, h2⟩ := idx_elim h2
          refine AD.op [29, 30] rfl (by kernel_rfl) rfl rfl (fun _ _ h => AOp.indexDs (cells := (List.map keS4 y14)) rfl rfl (ltb rfl) rfl rfl el61 (by decide) q25.1 (lt1 q25.2) h) ?_
          refine AD.op [31] rfl (by kernel_rfl) rfl rfl (fun _ _ h => AOp.loadEp rfl rfl (ltb rfl) rfl agg22 (at1 q25.2) h) ?_
          obtain ⟨x26, q27, h2⟩ := idx_elim h2
          refine AD.op [32] rfl (by kernel_rfl) rfl rfl (fun _ _ h => AOp.indexDs (cells := (List.map keS0 x24)) rfl rfl (ltb rfl) rfl rfl el22 (by decide) q27.1 (lt1 q27.2) h) ?_
          refine AD.op [33] rfl (by kernel_rfl) rfl rfl (fun _ _ h => AOp.loadEp rfl rfl (ltb rfl) rfl agg48 (at1 q27.2) h) ?_
          obtain ⟨z28, q29, h2⟩ := bind_elim h2
          refine AD.op [34] rfl (by kernel_rfl) rfl rfl (fun _ _ h => AOp.f2i rfl rfl (ltb rfl) rfl Try.underlying48 Try.underlying3 q29 h) ?_
          refine AD.op [6] rfl (by kernel_rfl) rfl rfl (fun _ _ h => AOp.move rfl rfl (ltb rfl) rfl h) ?_
          refine AD.op [7] rfl (by kernel_rfl) rfl rfl (fun _ _ h => AOp.move rfl rfl (ltb rfl) rfl h) ?_
          obtain ⟨q30, h2⟩ := need_elim h2
          refine AD.op [37] rfl (by kernel_rfl) rfl rfl (fun _ _ h => AOp.isub rfl rfl (ltb rfl) rfl rfl rfl q30.1 q30.2 h) ?_
          obtain ⟨x31, q32, h2⟩ := idx_elim h2
          refine AD.op [36, 38] rfl (by kernel_rfl) rfl rfl (fun _ _ h => AOp.indexDs (cells := (List.map keS4 y14)) rfl rfl (ltb rfl) rfl rfl el61 (by decide) q32.1 (lt1 q32.2) h) ?_
          refine AD.op [39] rfl (by kernel_rfl) rfl rfl (fun _ _ h => AOp.loadEp rfl rfl (ltb rfl) rfl agg22 (at1 q32.2) h) ?_
          obtain ⟨x33, q34, h2⟩ := idx_elim h2
          refine AD.op [40] rfl (by kernel_rfl) rfl rfl (fun _ _ h => AOp.indexDs (cells := (List.map keS0 x31)) rfl rfl (ltb rfl) rfl rfl el22 (by decide) q34.1 (lt1 q34.2) h) ?_
          refine AD.op [41] rfl (by kernel_rfl) rfl rfl (fun _ _ h => AOp.loadEp rfl rfl (ltb rfl) rfl agg48 (at1 q34.2) h) ?_
          obtain ⟨z35, q36, h2⟩ := bind_elim h2
          refine AD.op [42] rfl (by kernel_rfl) rfl rfl (fun _ _ h => AOp.f2i rfl rfl (ltb rfl) rfl Try.underlying48 Try.underlying3 q36 h) ?_
          obtain ⟨q37, h2⟩ := need_elim h2
          refine AD.op [35, 43] rfl (by kernel_rfl) rfl rfl (fun _ _ h => AOp.isub rfl rfl (ltb rfl) rfl rfl rfl q37.1 q37.2 h) ?_
          refine AD.op [6] rfl (by kernel_rfl) rfl rfl (fun _ _ h => AOp.move rfl rfl (ltb rfl) rfl h) ?_
          refine AD.op [7] rfl (by kernel_rfl) rfl rfl (fun _ _ h => AOp.move rfl rfl (ltb rfl) rfl h) ?_
          obtain ⟨x38, q39, h2⟩ := idx_elim h2
          refine AD.op [45, 46] rfl (by kernel_rfl) rfl rfl (fun _ _ h => AOp.indexDs (cells := (List.map keS4 y14)) rfl rfl (ltb rfl) rfl rfl el61 (by decide) q39.1 (lt1 q39.2) h) ?_
          refine AD.op [47] rfl (by kernel_rfl) rfl rfl (fun _ _ h => AOp.loadEp rfl rfl (ltb rfl) rfl agg22 (at1 q39.2) h) ?_
          obtain ⟨x40, q41, h2⟩ := idx_elim h2
          refine AD.op [48] rfl (by kernel_rfl) rfl rfl (fun _ _ h => AOp.indexDs (cells := (List.map keS0 x38)) rfl rfl (ltb rfl) rfl rfl el22 (by decide) q41.1 (lt1 q41.2) h) ?_
          refine AD.op [49] rfl (by kernel_rfl) rfl rfl (fun _ _ h => AOp.loadEp rfl rfl (ltb rfl) rfl agg48 (at1 q41.2) h) ?_
          obtain ⟨z42, q43, h2⟩ := bind_elim h2
          refine AD.op [50] rfl (by kernel_rfl) rfl rfl (fun _ _ h => AOp.f2i rfl rfl (ltb rfl) rfl Try.underlying48 Try.underlying3 q43 h) ?_
          refine AD.op [6] rfl (by kernel_rfl) rfl rfl (fun _ _ h => AOp.move rfl rfl (ltb rfl) rfl h) ?_
          refine AD.op [7] rfl (by kernel_rfl) rfl rfl (fun _ _ h => AOp.move rfl rfl (ltb rfl) rfl h) ?_
          obtain ⟨q44, h2⟩ := need_elim h2
          refine AD.op [53] rfl (by kernel_rfl) rfl rfl (fun _ _ h => AOp.isub rfl rfl (ltb rfl) rfl rfl rfl q44.1 q44.2 h) ?_
          obtain ⟨x45, q46, h2⟩ := idx_elim h2
          refine AD.op [52, 54] rfl (by kernel_rfl) rfl rfl (fun _ _ h => AOp.indexDs (cells := (List.map keS4 y14)) rfl rfl (ltb rfl) rfl rfl el61 (by decide) q46.1 (lt1 q46.2) h) ?_
          refine AD.op [55] rfl (by kernel_rfl) rfl rfl (fun _ _ h => AOp.loadEp rfl rfl (ltb rfl) rfl agg22 (at1 q46.2) h) ?_
          obtain ⟨x47, q48, h2⟩ := idx_elim h2
          refine AD.op [56] rfl (by kernel_rfl) rfl rfl (fun _ _ h => AOp.indexDs (cells := (List.map keS0 x45)) rfl rfl (ltb rfl) rfl rfl el22 (by decide) q48.1 (lt1 q48.2) h) ?_
          refine AD.op [57] rfl (by kernel_rfl) rfl rfl (fun _ _ h => AOp.loadEp rfl rfl (ltb rfl) rfl agg48 (at1 q48.2) h) ?_
          obtain ⟨z49, q50, h2⟩ := bind_elim h2
          refine AD.op [58] rfl (by kernel_rfl) rfl rfl (fun _ _ h => AOp.f2i rfl rfl (ltb rfl) rfl Try.underlying48 Try.underlying3 q50 h) ?_
          obtain ⟨q51, h2⟩ := need_elim h2
          refine AD.op [51, 59] rfl (by kernel_rfl) rfl rfl (fun _ _ h => AOp.isub rfl rfl (ltb rfl) rfl rfl rfl q51.1 q51.2 h) ?_
          refine AD.op [44] rfl (by kernel_rfl) rfl rfl (fun _ _ h => AOp.assign rfl rfl (ltb rfl) rfl h) ?_
          refine AD.op [60] rfl (by kernel_rfl) rfl rfl (fun _ _ h => AOp.assign rfl rfl (ltb rfl) rfl h) ?_
          refine AD.done ?_
          refine AO.nil ?_
          change AC _ _ _ _
          refine AC.joinP (V := Int) [6, 7, 8, 9, 11, 12, 13] [2] 2 (fun g52 => [(2, .d (di .i64 g52))]) (fun g52 => [.fix 28 [.d (di .i64 a0.Kind), .d (di .i64 a0.Layout), .d (di .i64 a0.SRID), .d (eS0 a0.Flat), .d (eS1 a0.Ends), .d (eS3 a0.Endss), .d (eS2 a0.Kids)], .fix 28 [.d (di .i64 x10.Kind), .d (di .i64 x10.Layout), .d (di .i64 x10.SRID), .d (eS0 x10.Flat), .d (eS1 x10.Ends), .d (eS3 x10.Endss), .d (eS2 x10.Kids)]]) (fun g52 => (p_gAlong_k5 g20 (iter (p_gAlong_l4 y14) n22) z28 z35 z42 z49) g52 = some o16) rfl ?_ ?_
          · refine AC.seq ?_
            refine AC.region ?_
            refine AO.op rfl (AOp.move rfl rfl (ltb rfl) rfl ?_)
            refine AO.op rfl (AOp.ineq rfl rfl (ltb rfl) rfl rfl ?_)
            refine AO.op rfl (AOp.move rfl rfl (ltb rfl) rfl ?_)
            refine AO.dec (!decide ((z28 - z35) = (0 : Int))) (fun q58 => ?_) (fun q58 => ?_)
            · replace h2 := cT h2 q58
              refine AO.guardY rfl rfl rfl q58 (AOp.move rfl rfl (ltb rfl) rfl ?_)
              refine AO.guardY rfl rfl rfl q58 (AOp.ineq rfl rfl (ltb rfl) rfl rfl ?_)
              refine AO.op rfl (AOp.pick rfl rfl (ltb rfl) rfl q58 rfl ?_)
              refine AO.nil ?_
              change AC _ _ _ _
              refine AC.cond rfl (fun q59 => ?_) (fun q59 => ?_)
              · replace h2 := cT h2 q59
                refine AC.seq ?_
                refine AC.region ?_
                refine AO.op rfl (AOp.assign rfl rfl (ltb rfl) rfl ?_)
                refine AO.op rfl (AOp.assign rfl rfl (ltb rfl) rfl ?_)
                refine AO.nil ?_
                change AC _ _ _ _
                refine AC.ret ?_
                change RetQ _ _ _ .ret _
                obtain rfl := Option.some.inj h2
                replace h1 := aftR h1
                obtain rfl := Option.some.inj h1
                replace h0 := aftR h0
                obtain rfl := Option.some.inj h0
                refine retq rfl rfl
              · replace h2 := cF h2 q59
                refine AC.skip ?_
                exact ⟨g20.1, _, rfl, (LeL.refl _), rfl, rfl, h2⟩
            · replace h2 := cF h2 q58
              refine AO.guardN rfl rfl rfl (ltb rfl) rfl q58 ?_
              refine AO.guardN rfl rfl rfl (ltb rfl) rfl q58 ?_
              refine AO.op rfl (AOp.pickN rfl rfl (ltb rfl) rfl q58 rfl ?_)
              refine AO.nil ?_
              change AC _ _ _ _
              refine AC.condF rfl rfl ?_
              refine AC.skip ?_
              exact ⟨g20.1, _, rfl, (LeL.refl _), rfl, rfl, h2⟩
          · intro g52 h2
            unfold p_gAlong_k5 at h2
            refine AC.region ?_
            refine AO.op rfl (AOp.move rfl rfl (ltb rfl) rfl ?_)
            refine AO.op rfl (AOp.move rfl rfl (ltb rfl) rfl ?_)
            refine AO.op rfl (AOp.move rfl rfl (ltb rfl) rfl ?_)
            obtain ⟨q53, h2⟩ := need_elim h2
            refine AO.op rfl (AOp.ineg rfl rfl (ltb rfl) rfl rfl q53.1 q53.2 ?_)
            refine AO.op rfl (AOp.imax rfl rfl (ltb rfl) rfl rfl ?_)
            refine AO.op rfl (AOp.move rfl rfl (ltb rfl) rfl ?_)
            refine AO.op rfl (AOp.move rfl rfl (ltb rfl) rfl ?_)
            obtain ⟨q54, h2⟩ := need_elim h2
            refine AO.op rfl (AOp.ineg rfl rfl (ltb rfl) rfl rfl q54.1 q54.2 ?_)
            refine AO.op rfl (AOp.imax rfl rfl (ltb rfl) rfl rfl ?_)
            obtain ⟨q55, h2⟩ := need_elim h2
            refine AO.op rfl (AOp.iadd rfl rfl (ltb rfl) rfl rfl rfl q55.1 q55.2 ?_)
            obtain ⟨q56, h2⟩ := need_elim h2
            refine AO.op rfl (AOp.iadd rfl rfl (ltb rfl) rfl rfl rfl q56.1 q56.2 ?_)
            refine AO.op rfl (AOp.assign rfl rfl (ltb rfl) rfl ?_)
            refine AO.nil ?_
            change AC _ _ _ _
            refine AC.region ?_
            refine AO.op rfl (AOp.move rfl rfl (ltb rfl) rfl ?_)
            obtain ⟨q57, h2⟩ := need_elim h2
            refine AO.op rfl (AOp.iadd rfl rfl (ltb rfl) rfl rfl rfl q57.1 q57.2 ?_)
            refine AO.op rfl (AOp.assign rfl rfl (ltb rfl) rfl ?_)
            refine AO.nil ?_
            exact ⟨((g52 + ((if (z28 - z35) < (-(z28 - z35)) then (-(z28 - z35)) else (z28 - z35)) + (if (z42 - z49) < (-(z42 - z49)) then (-(z42 - z49)) else (z42 - z49)))), (g20.2 + (1 : Int))), _, rfl, (LeL.refl _), rfl, rfl, h2⟩
        · replace h2 := cF h2 q23
          refine AC.exit ?_
          obtain rfl := Option.some.inj h2
          exact ⟨g20.1, _, rfl, (LeL.refl _), rfl, rfl, aftL h1⟩
      · intro g18 h1
        unfold p_gAlong_k3 at h1
        change AC _ _ _ _
        refine AC.region ?_
        obtain ⟨q19, h1⟩ := need_elim h1
        refine AO.op rfl (AOp.iadd rfl rfl (ltb rfl) rfl rfl rfl q19.1 q19.2 ?_)
        refine AO.op rfl (AOp.move rfl rfl (ltb rfl) rfl ?_)
        refine AO.nil ?_
        exact ⟨(g18, (g6.2 + (1 : Int))), _, rfl, (LeL.refl _), rfl, rfl, h1⟩
    · replace h1 := cF h1 q9
      refine AC.exit ?_
      obtain rfl := Option.some.inj h1
      exact ⟨g6.1, _, rfl, (LeL.refl _), rfl, rfl, aftL h0⟩
  · intro g5 h0
    unfold p_gAlong_k1 at h0
    change AC _ _ _ _
    refine AC.seq ?_
    refine AC.region ?_
    refine AO.op rfl (AOp.move rfl rfl (ltb rfl) rfl ?_)
    refine AO.op rfl (AOp.assign rfl rfl (ltb rfl) rfl ?_)
    refine AO.op rfl (AOp.assign rfl rfl (ltb rfl) rfl ?_)
    refine AO.nil ?_
    change AC _ _ _ _
    refine AC.ret ?_
    change RetQ _ _ _ .ret _
    obtain rfl := Option.some.inj h0
    refine retq rfl rfl

theorem callSqrt (x z : Nat) (h : FloatKind.f64.format.sqrt x = some z) (w : World) : (callFunc 65 #[.float .f64 x]).run Try.prog w = .ok (.value (.float .f64 z)) w := by
  rw [run_callFunc_extern Try.func65 (by kernel_rfl) (by kernel_rfl) (by kernel_rfl) (e := Extern.MathSqrt.sqrt) (by kernel_rfl)]
  have e : Extern.MathSqrt.sqrt #[.float .f64 x] = (match FloatKind.f64.format.sqrt x with | some r => pure (.float .f64 r) | none => do pure (.float .f64 (← choose (.nanBits .f64 x x)))) := rfl
  rw [e, h]
  rfl

set_option maxRecDepth 100000 in
set_option maxHeartbeats 1000000 in
/-- math.Sqrt -/
theorem w_Sqrt (a0 : Nat) (r0 : Nat) (h0 : p_Sqrt a0 = some r0) : FnD Try.prog 64 [dfl a0] (fun r => r = dfl r0) := by
  refine FnD.of (by kernel_rfl) Try.func64 rfl Try.ntmps64 rfl (leb rfl) fun W ok => ?_
  unfold p_Sqrt at h0
  refine AC.seq ?_
  refine AC.region ?_
  refine AO.op rfl (AOp.assign rfl rfl (ltb rfl) rfl ?_)
  refine AO.nil ?_
  change AC _ _ _ _
  refine AC.seq ?_
  refine AC.region ?_
  refine AO.op rfl (AOp.move rfl rfl (ltb rfl) rfl ?_)
  obtain ⟨z1, q2, h0⟩ := bind_elim h0
  refine AO.op rfl (AOp.callX [.float .f64 a0] rfl rfl (ltb rfl) rfl (callSqrt _ _ q2) ?_)
  refine AO.op rfl (AOp.assign rfl rfl (ltb rfl) rfl ?_)
  refine AO.nil ?_
  change AC _ _ _ _
  refine AC.ret ?_
  change RetQ _ _ _ .ret _
  obtain rfl := Option.some.inj h0
  refine retq rfl rfl

set_option maxRecDepth 100000 in
set_option maxHeartbeats 1000000 in
/-- pub-orthodrome/pub/gogeom.length1 -/
theorem w_length1 (F : Nat) (a0 : (List Nat)) (a1 : Int) (a2 : Int) (a3 : Int) (r0 : Nat) (h0 : p_length1 F a0 a1 a2 a3 = some r0) : FnD Try.prog 60 [eS0 a0, di .i64 a1, di .i64 a2, di .i64 a3] (fun r => r = dfl r0) := by
  refine FnD.of (by kernel_rfl) Try.func60 rfl Try.ntmps60 rfl (leb rfl) fun W ok => ?_
  unfold p_length1 at h0
  refine AC.seq ?_
  refine AC.region ?_
  refine AO.op rfl (AOp.assign rfl rfl (ltb rfl) rfl ?_)
  refine AO.nil ?_
  change AC _ _ _ _
  refine AC.seq ?_
  refine AC.region ?_
  refine AO.op rfl (AOp.assign rfl rfl (ltb rfl) rfl ?_)
  refine AO.nil ?_
  change AC _ _ _ _
  refine AC.seq ?_
  refine AC.seq ?_
  refine AC.region ?_
  refine AO.op rfl (AOp.move rfl rfl (ltb rfl) rfl ?_)
  refine AO.op rfl (AOp.move rfl rfl (ltb rfl) rfl ?_)
  obtain ⟨q1, h0⟩ := need_elim h0
  refine AO.op rfl (AOp.iadd rfl rfl (ltb rfl) rfl rfl rfl q1.1 q1.2 ?_)
  refine AO.op rfl (AOp.assign rfl rfl (ltb rfl) rfl ?_)
  refine AO.nil ?_
  change AC _ _ _ _
  obtain ⟨o2, l3, h0⟩ := bind_elim h0
  refine AC.joinE (V := Nat) [] [9] 0 (fun g4 => [(9, .d (dfl g4))]) (fun g4 => []) (fun g4 => p_length1_k1 g4 = some r0) rfl ?_ ?_
  · refine AC.block ?_
    refine AC.loopP (V := (Nat × Int)) (p_length1_l2 a0 a2 a3) o2 [0, 2, 3] [9, 10] 0 (fun g5 => [(9, .d (dfl g5.1)), (10, .d (di .i64 g5.2))]) (fun g5 => []) F ((0 : Nat), (a1 + a3)) l3 rfl rfl (LeL.refl _) rfl rfl ?_
    intro n7 g5 h1
    unfold p_length1_l2 at h1
    refine AC.seq ?_
    refine AC.seq ?_
    refine AC.region ?_
    refine AO.op rfl (AOp.move rfl rfl (ltb rfl) rfl ?_)
    refine AO.op rfl (AOp.move rfl rfl (ltb rfl) rfl ?_)
    refine AO.op rfl (AOp.ilss rfl rfl (ltb rfl) rfl rfl ?_)
    refine AO.nil ?_
    change AC _ _ _ _
    refine AC.cond rfl (fun q8 => ?_) (fun q8 => ?_)
    · replace h1 := cT h1 q8
      refine AC.skip ?_
      change AC _ _ _ _
      refine AC.seq ?_
      refine AC.block ?_
      refine AC.seq ?_
      refine AC.draw 12 mixed (by kernel_rfl) ?_
      refine AD.op [0] rfl (by kernel_rfl) rfl rfl (fun _ _ h => AOp.move rfl rfl (ltb rfl) rfl h) ?_
      refine AD.op [10] rfl (by kernel_rfl) rfl rfl (fun _ _ h => AOp.move rfl rfl (ltb rfl) rfl h) ?_
      obtain ⟨x9, q10, h1⟩ := idx_elim h1
      refine AD.op [22, 23] rfl (by kernel_rfl) rfl rfl (fun _ _ h => AOp.indexDs (cells := (List.map keS0 a0)) rfl rfl (ltb rfl) rfl rfl el22 (by decide) q10.1 (lt1 q10.2) h) ?_
      refine AD.op [24] rfl (by kernel_rfl) rfl rfl (fun _ _ h => AOp.loadEp rfl rfl (ltb rfl) rfl agg48 (at1 q10.2) h) ?_
      refine AD.op [0] rfl (by kernel_rfl) rfl rfl (fun _ _ h => AOp.move rfl rfl (ltb rfl) rfl h) ?_
      refine AD.op [10] rfl (by kernel_rfl) rfl rfl (fun _ _ h => AOp.move rfl rfl (ltb rfl) rfl h) ?_
      refine AD.op [3] rfl (by kernel_rfl) rfl rfl (fun _ _ h => AOp.move rfl rfl (ltb rfl) rfl h) ?_
      obtain ⟨q11, h1⟩ := need_elim h1
      refine AD.op [27, 28] rfl (by kernel_rfl) rfl rfl (fun _ _ h => AOp.isub rfl rfl (ltb rfl) rfl rfl rfl q11.1 q11.2 h) ?_
      obtain ⟨x12, q13, h1⟩ := idx_elim h1
      refine AD.op [26, 29] rfl (by kernel_rfl) rfl rfl (fun _ _ h => AOp.indexDs (cells := (List.map keS0 a0)) rfl rfl (ltb rfl) rfl rfl el22 (by decide) q13.1 (lt1 q13.2) h) ?_
      refine AD.op [30] rfl (by kernel_rfl) rfl rfl (fun _ _ h => AOp.loadEp rfl rfl (ltb rfl) rfl agg48 (at1 q13.2) h) ?_
      obtain ⟨z14, q15, h1⟩ := bind_elim h1
      refine AD.op [25, 31] rfl (by kernel_rfl) rfl rfl (fun _ _ h => AOp.farith rfl rfl (ltb rfl) rfl rfl q15 h) ?_
      refine AD.op [32] rfl (by kernel_rfl) rfl rfl (fun _ _ h => AOp.assign rfl rfl (ltb rfl) rfl h) ?_
      refine AD.done ?_
      refine AO.nil ?_
      change AC _ _ _ _
      refine AC.seq ?_
      refine AC.draw 14 mixed (by kernel_rfl) ?_
      refine AD.op [0] rfl (by kernel_rfl) rfl rfl (fun _ _ h => AOp.move rfl rfl (ltb rfl) rfl h) ?_
      refine AD.op [10] rfl (by kernel_rfl) rfl rfl (fun _ _ h => AOp.move rfl rfl (ltb rfl) rfl h) ?_
      obtain ⟨q16, h1⟩ := need_elim h1
      refine AD.op [34] rfl (by kernel_rfl) rfl rfl (fun _ _ h => AOp.iadd rfl rfl (ltb rfl) rfl rfl rfl q16.1 q16.2 h) ?_
      obtain ⟨x17, q18, h1⟩ := idx_elim h1
      refine AD.op [33, 35] rfl (by kernel_rfl) rfl rfl (fun _ _ h => AOp.indexDs (cells := (List.map keS0 a0)) rfl rfl (ltb rfl) rfl rfl el22 (by decide) q18.1 (lt1 q18.2) h) ?_
      refine AD.op [36] rfl (by kernel_rfl) rfl rfl (fun _ _ h => AOp.loadEp rfl rfl (ltb rfl) rfl agg48 (at1 q18.2) h) ?_
      refine AD.op [0] rfl (by kernel_rfl) rfl rfl (fun _ _ h => AOp.move rfl rfl (ltb rfl) rfl h) ?_
      refine AD.op [10] rfl (by kernel_rfl) rfl rfl (fun _ _ h => AOp.move rfl rfl (ltb rfl) rfl h) ?_
      obtain ⟨q19, h1⟩ := need_elim h1
      refine AD.op [39] rfl (by kernel_rfl) rfl rfl (fun _ _ h => AOp.iadd rfl rfl (ltb rfl) rfl rfl rfl q19.1 q19.2 h) ?_
      refine AD.op [3] rfl (by kernel_rfl) rfl rfl (fun _ _ h => AOp.move rfl rfl (ltb rfl) rfl h) ?_
      obtain ⟨q20, h1⟩ := need_elim h1
      refine AD.op [40, 41] rfl (by kernel_rfl) rfl rfl (fun _ _ h => AOp.isub rfl rfl (ltb rfl) rfl rfl rfl q20.1 q20.2 h) ?_
      obtain ⟨x21, q22, h1⟩ := idx_elim h1
      refine AD.op [38, 42] rfl (by kernel_rfl) rfl rfl (fun _ _ h => AOp.indexDs (cells := (List.map keS0 a0)) rfl rfl (ltb rfl) rfl rfl el22 (by decide) q22.1 (lt1 q22.2) h) ?_
      refine AD.op [43] rfl (by kernel_rfl) rfl rfl (fun _ _ h => AOp.loadEp rfl rfl (ltb rfl) rfl agg48 (at1 q22.2) h) ?_
      obtain ⟨z23, q24, h1⟩ := bind_elim h1
      refine AD.op [37, 44] rfl (by kernel_rfl) rfl rfl (fun _ _ h => AOp.farith rfl rfl (ltb rfl) rfl rfl q24 h) ?_
      refine AD.op [45] rfl (by kernel_rfl) rfl rfl (fun _ _ h => AOp.assign rfl rfl (ltb rfl) rfl h) ?_
      refine AD.done ?_
      refine AO.nil ?_
      change AC _ _ _ _
      refine AC.region ?_
      refine AO.op rfl (AOp.move rfl rfl (ltb rfl) rfl ?_)
      refine AO.op rfl (AOp.move rfl rfl (ltb rfl) rfl ?_)
      refine AO.op rfl (AOp.move rfl rfl (ltb rfl) rfl ?_)
      obtain ⟨z25, q26, h1⟩ := bind_elim h1
      refine AO.op rfl (AOp.farith rfl rfl (ltb rfl) rfl rfl q26 ?_)
      refine AO.op rfl (AOp.move rfl rfl (ltb rfl) rfl ?_)
      refine AO.op rfl (AOp.move rfl rfl (ltb rfl) rfl ?_)
      obtain ⟨z27, q28, h1⟩ := bind_elim h1
      refine AO.op rfl (AOp.farith rfl rfl (ltb rfl) rfl rfl q28 ?_)
      obtain ⟨z29, q30, h1⟩ := bind_elim h1
      refine AO.op rfl (AOp.farith rfl rfl (ltb rfl) rfl rfl q30 ?_)
      obtain ⟨y31, q32, h1⟩ := bind_elim h1
      refine AO.op rfl (AOp.callD rfl rfl (ltb rfl) rfl rfl (w_Sqrt z29 y31 q32) ?_)
      rintro _ rfl
      obtain ⟨z33, q34, h1⟩ := bind_elim h1
      refine AO.op rfl (AOp.farith rfl rfl (ltb rfl) rfl rfl q34 ?_)
      refine AO.op rfl (AOp.assign rfl rfl (ltb rfl) rfl ?_)
      refine AO.nil ?_
      change AC _ _ _ _
      refine AC.region ?_
      refine AO.op rfl (AOp.move rfl rfl (ltb rfl) rfl ?_)
      refine AO.op rfl (AOp.move rfl rfl (ltb rfl) rfl ?_)
      obtain ⟨q35, h1⟩ := need_elim h1
      refine AO.op rfl (AOp.iadd rfl rfl (ltb rfl) rfl rfl rfl q35.1 q35.2 ?_)
      refine AO.op rfl (AOp.assign rfl rfl (ltb rfl) rfl ?_)
      refine AO.nil ?_
      exact ⟨(z33, (g5.2 + a3)), _, rfl, (LeL.refl _), rfl, rfl, h1⟩
    · replace h1 := cF h1 q8
      refine AC.exit ?_
      obtain rfl := Option.some.inj h1
      exact ⟨g5.1, _, rfl, (LeL.refl _), rfl, rfl, aftL h0⟩
  · intro g4 h0
    unfold p_length1_k1 at h0
    change AC _ _ _ _
    refine AC.seq ?_
    refine AC.region ?_
    refine AO.op rfl (AOp.move rfl rfl (ltb rfl) rfl ?_)
    refine AO.op rfl (AOp.assign rfl rfl (ltb rfl) rfl ?_)
    refine AO.nil ?_
    change AC _ _ _ _
    refine AC.ret ?_
    change RetQ _ _ _ .ret _
    obtain rfl := Option.some.inj h0
    refine retq rfl rfl

set_option maxRecDepth 100000 in
set_option maxHeartbeats 1000000 in
/-- pub-orthodrome/pub/gogeom.length2 -/
theorem w_length2 (F : Nat) (a0 : (List Nat)) (a1 : Int) (a2 : (List Int)) (a3 : Int) (r0 : Nat) (h0 : p_length2 F a0 a1 a2 a3 = some r0) : FnD Try.prog 49 [eS0 a0, di .i64 a1, eS1 a2, di .i64 a3] (fun r => r = dfl r0) := by
  refine FnD.of (by kernel_rfl) Try.func49 rfl Try.ntmps49 rfl (leb rfl) fun W ok => ?_
  unfold p_length2 at h0
  refine AC.seq ?_
  refine AC.region ?_
  refine AO.op rfl (AOp.assign rfl rfl (ltb rfl) rfl ?_)
  refine AO.nil ?_
  change AC _ _ _ _
  refine AC.seq ?_
  refine AC.region ?_
  refine AO.op rfl (AOp.assign rfl rfl (ltb rfl) rfl ?_)
  refine AO.nil ?_
  change AC _ _ _ _
  refine AC.seq ?_
  refine AC.seq ?_
  refine AC.region ?_
  refine AO.op rfl (AOp.move rfl rfl (ltb rfl) rfl ?_)
  refine AO.op rfl (AOp.lenDs (n := a2.length) (cells := (List.map keS1 a2)) rfl rfl (ltb rfl) rfl el25 (by decide) (len1 _ _) ?_)
  refine AO.op rfl (AOp.move rfl rfl (ltb rfl) rfl ?_)
  refine AO.nil ?_
  change AC _ _ _ _
  obtain ⟨o1, l2, h0⟩ := bind_elim h0
  refine AC.joinE (V := Nat) [] [9] 0 (fun g3 => [(9, .d (dfl g3))]) (fun g3 => []) (fun g3 => p_length2_k1 g3 = some r0) rfl ?_ ?_
  · refine AC.block ?_
    refine AC.loopP (V := (Int × Nat × Int)) (p_length2_l2 a0 a2 a3 F) o1 [0, 3, 12, 13] [1, 9, 14] 0 (fun g4 => [(1, .d (di .i64 g4.1)), (9, .d (dfl g4.2.1)), (14, .d (di .i64 g4.2.2))]) (fun g4 => []) F (a1, (0 : Nat), (0 : Int)) l2 rfl rfl (LeL.refl _) rfl rfl ?_
    intro n6 g4 h1
    unfold p_length2_l2 at h1
    refine AC.seq ?_
    refine AC.region ?_
    refine AO.op rfl (AOp.ilss rfl rfl (ltb rfl) rfl rfl ?_)
    refine AO.nil ?_
    change AC _ _ _ _
    refine AC.seq ?_
    refine AC.cond rfl (fun q7 => ?_) (fun q7 => ?_)
    · replace h1 := cT h1 q7
      refine AC.skip ?_
      change AC _ _ _ _
      refine AC.seq ?_
      refine AC.block ?_
      refine AC.seq ?_
      refine AC.region ?_
      obtain ⟨x8, q9, h1⟩ := idx_elim h1
      refine AO.op rfl (AOp.indexDs (cells := (List.map keS1 a2)) rfl rfl (ltb rfl) rfl rfl el25 (by decide) q9.1 (lt1 q9.2) ?_)
      refine AO.op rfl (AOp.loadEp rfl rfl (ltb rfl) rfl agg3 (at1 q9.2) ?_)
      refine AO.op rfl (AOp.assign rfl rfl (ltb rfl) rfl ?_)
      refine AO.nil ?_
      change AC _ _ _ _
      refine AC.seq ?_
      refine AC.region ?_
      refine AO.op rfl (AOp.move rfl rfl (ltb rfl) rfl ?_)
      refine AO.op rfl (AOp.move rfl rfl (ltb rfl) rfl ?_)
      refine AO.op rfl (AOp.move rfl rfl (ltb rfl) rfl ?_)
      refine AO.op rfl (AOp.move rfl rfl (ltb rfl) rfl ?_)
      refine AO.op rfl (AOp.move rfl rfl (ltb rfl) rfl ?_)
      obtain ⟨y10, q11, h1⟩ := bind_elim h1
      refine AO.op rfl (AOp.callD rfl rfl (ltb rfl) rfl rfl (w_length1 F a0 g4.1 x8 a3 y10 q11) ?_)
      rintro _ rfl
      obtain ⟨z12, q13, h1⟩ := bind_elim h1
      refine AO.op rfl (AOp.farith rfl rfl (ltb rfl) rfl rfl q13 ?_)
      refine AO.op rfl (AOp.assign rfl rfl (ltb rfl) rfl ?_)
      refine AO.nil ?_
      change AC _ _ _ _
      refine AC.region ?_
      refine AO.op rfl (AOp.move rfl rfl (ltb rfl) rfl ?_)
      refine AO.op rfl (AOp.assign rfl rfl (ltb rfl) rfl ?_)
      refine AO.nil ?_
      change AC _ _ _ _
      refine AC.region ?_
      obtain ⟨q14, h1⟩ := need_elim h1
      refine AO.op rfl (AOp.iadd rfl rfl (ltb rfl) rfl rfl rfl q14.1 q14.2 ?_)
      refine AO.op rfl (AOp.move rfl rfl (ltb rfl) rfl ?_)
      refine AO.nil ?_
      exact ⟨(x8, z12, (g4.2.2 + (1 : Int))), _, rfl, (LeL.refl _), rfl, rfl, h1⟩
    · replace h1 := cF h1 q7
      refine AC.exit ?_
      obtain rfl := Option.some.inj h1
      exact ⟨g4.2.1, _, rfl, (LeL.refl _), rfl, rfl, aftL h0⟩
  · intro g3 h0
    unfold p_length2_k1 at h0
    change AC _ _ _ _
    refine AC.seq ?_
    refine AC.region ?_
    refine AO.op rfl (AOp.move rfl rfl (ltb rfl) rfl ?_)
    refine AO.op rfl (AOp.assign rfl rfl (ltb rfl) rfl ?_)
    refine AO.nil ?_
    change AC _ _ _ _
    refine AC.ret ?_
    change RetQ _ _ _ .ret _
    obtain rfl := Option.some.inj h0
    refine retq rfl rfl

set_option maxRecDepth 100000 in
set_option maxHeartbeats 1000000 in
/-- pub-orthodrome/pub/gogeom.DoorLength2 -/
theorem w_DoorLength2 (F : Nat) (a0 : (List Nat)) (a1 : (List Int)) (a2 : Int) (r0 : Nat) (h0 : p_DoorLength2 F a0 a1 a2 = some r0) : FnD Try.prog 38 [eS0 a0, eS1 a1, di .i64 a2] (fun r => r = dfl r0) := by
  refine FnD.of (by kernel_rfl) Try.func38 rfl Try.ntmps38 rfl (leb rfl) fun W ok => ?_
  unfold p_DoorLength2 at h0
  refine AC.seq ?_
  refine AC.region ?_
  refine AO.op rfl (AOp.assign rfl rfl (ltb rfl) rfl ?_)
  refine AO.nil ?_
  change AC _ _ _ _
  refine AC.seq ?_
  refine AC.region ?_
  refine AO.op rfl (AOp.move rfl rfl (ltb rfl) rfl ?_)
  refine AO.op rfl (AOp.move rfl rfl (ltb rfl) rfl ?_)
  refine AO.op rfl (AOp.move rfl rfl (ltb rfl) rfl ?_)
  obtain ⟨y1, q2, h0⟩ := bind_elim h0
  refine AO.op rfl (AOp.callD rfl rfl (ltb rfl) rfl rfl (w_length2 F a0 (0 : Int) a1 a2 y1 q2) ?_)
  rintro _ rfl
  refine AO.op rfl (AOp.assign rfl rfl (ltb rfl) rfl ?_)
  refine AO.nil ?_
  change AC _ _ _ _
  refine AC.ret ?_
  change RetQ _ _ _ .ret _
  obtain rfl := Option.some.inj h0
  refine retq rfl rfl

set_option maxRecDepth 100000 in
set_option maxHeartbeats 1000000 in
/-- pub-orthodrome/impl.FlatLength2 -/
theorem w_FlatLength2 (F : Nat) (a0 : (List Nat)) (a1 : (List Int)) (a2 : Int) (r0 : (Nat × Bool)) (h0 : p_FlatLength2 F a0 a1 a2 = some r0) : FnD Try.prog 19 [eS0 a0, eS1 a1, di .i64 a2] (fun r => r = .tu [dfl r0.1, dbool r0.2]) := by
  refine FnD.wrap (g := 37) (m := 2) (fun vs w h => idle37 vs w h) (by kernel_rfl) Try.func19 rfl Try.ntmps19 rfl (leb rfl) fun W ok => ?_
  unfold p_FlatLength2 at h0
  refine AW.seq ?_
  refine AC.region ?_
  refine AO.op rfl (AOp.alloc rfl rfl (ltb rfl) zero48 rfl ?_)
  refine AO.op rfl (AOp.alloc rfl rfl (ltb rfl) zero4 rfl ?_)
  refine AO.nil ?_
  refine ⟨rfl, ?_⟩
  refine AW.defer (caps := [.tmp 6, .tmp 7]) rfl rfl rfl (ltb rfl) rfl rfl rfl rfl (by kernel_rfl) rfl fun df => ?_
  refine AC.seq ?_
  refine AC.region ?_
  refine AO.op rfl (AOp.move rfl rfl (ltb rfl) rfl ?_)
  refine AO.op rfl (AOp.move rfl rfl (ltb rfl) rfl ?_)
  refine AO.op rfl (AOp.move rfl rfl (ltb rfl) rfl ?_)
  obtain ⟨y1, q2, h0⟩ := bind_elim h0
  refine AO.op rfl (AOp.callD rfl rfl (ltb rfl) rfl rfl (w_DoorLength2 F a0 a1 a2 y1 q2) ?_)
  rintro _ rfl
  refine AO.op rfl (AOp.store rfl rfl rfl rfl size48 rfl rfl rfl (leb rfl) ?_)
  refine AO.op rfl (AOp.store rfl rfl rfl rfl size4 rfl rfl rfl (leb rfl) ?_)
  refine AO.nil ?_
  change AC _ _ _ _
  refine AC.ret ?_
  change RetQ _ _ _ .ret _
  obtain rfl := Option.some.inj h0
  refine retq rfl rfl

set_option maxRecDepth 100000 in
set_option maxHeartbeats 1000000 in
/-- pub-orthodrome/laws.FnFlatLength2 -/
theorem w_FnFlatLength2 (F : Nat) (a0 : (List Nat)) (a1 : (List Int)) (a2 : Int) (r0 : Bool) (h0 : p_FnFlatLength2 F a0 a1 a2 = some r0) : FnD Try.prog 5 [eS0 a0, eS1 a1, di .i64 a2] (fun r => r = dbool r0) := by
  refine FnD.of (by kernel_rfl) Try.func5 rfl Try.ntmps5 rfl (leb rfl) fun W ok => ?_
  unfold p_FnFlatLength2 at h0
  refine AC.seq ?_
  refine AC.region ?_
  refine AO.op rfl (AOp.assign rfl rfl (ltb rfl) rfl ?_)
  refine AO.nil ?_
  change AC _ _ _ _
  refine AC.seq ?_
  refine AC.joinP (V := Bool) [0, 1, 2] [20] 0 (fun g1 => [(20, .d (dbool g1))]) (fun g1 => []) (fun g1 => (p_FnFlatLength2_k1 a0 a1 a2 F) g1 = some r0) rfl ?_ ?_
  · refine AC.region ?_
    refine AO.op rfl (AOp.move rfl rfl (ltb rfl) rfl ?_)
    refine AO.op rfl (AOp.lenDs (n := a0.length) (cells := (List.map keS0 a0)) rfl rfl (ltb rfl) rfl el22 (by decide) (len1 _ _) ?_)
    refine AO.op rfl (AOp.igtr rfl rfl (ltb rfl) rfl rfl ?_)
    refine AO.op rfl (AOp.move rfl rfl (ltb rfl) rfl ?_)
    refine AO.dec (decide ((2147483647 : Int) < ((a0.length : Nat) : Int))) (fun q16 => ?_) (fun q16 => ?_)
    · replace h0 := cT h0 q16
      refine AO.guardN rfl rfl rfl (ltb rfl) rfl q16 ?_
      refine AO.guardN rfl rfl rfl (ltb rfl) rfl q16 ?_
      refine AO.guardN rfl rfl rfl (ltb rfl) rfl q16 ?_
      refine AO.op rfl (AOp.pick rfl rfl (ltb rfl) rfl q16 rfl ?_)
      refine AO.nil ?_
      exact ⟨true, _, rfl, (LeL.refl _), rfl, rfl, h0⟩
    · replace h0 := cF h0 q16
      refine AO.guardY rfl rfl rfl q16 (AOp.move rfl rfl (ltb rfl) rfl ?_)
      refine AO.guardY rfl rfl rfl q16 (AOp.lenDs (n := a1.length) (cells := (List.map keS1 a1)) rfl rfl (ltb rfl) rfl el25 (by decide) (len1 _ _) ?_)
      refine AO.guardY rfl rfl rfl q16 (AOp.igtr rfl rfl (ltb rfl) rfl rfl ?_)
      refine AO.op rfl (AOp.pickN rfl rfl (ltb rfl) rfl q16 rfl ?_)
      refine AO.nil ?_
      exact ⟨(decide ((2147483647 : Int) < ((a1.length : Nat) : Int))), _, rfl, (LeL.refl _), rfl, rfl, h0⟩
  · intro g1 h0
    unfold p_FnFlatLength2_k1 at h0
    refine AC.cond rfl (fun q2 => ?_) (fun q2 => ?_)
    · replace h0 := cT h0 q2
      refine AC.seq ?_
      refine AC.region ?_
      refine AO.op rfl (AOp.assign rfl rfl (ltb rfl) rfl ?_)
      refine AO.nil ?_
      change AC _ _ _ _
      refine AC.ret ?_
      change RetQ _ _ _ .ret _
      obtain rfl := Option.some.inj h0
      refine retq rfl rfl
    · replace h0 := cF h0 q2
      refine AC.skip ?_
      change AC _ _ _ _
      refine AC.seq ?_
      refine AC.region ?_
      refine AO.op rfl (AOp.move rfl rfl (ltb rfl) rfl ?_)
      refine AO.op rfl (AOp.move rfl rfl (ltb rfl) rfl ?_)
      refine AO.op rfl (AOp.move rfl rfl (ltb rfl) rfl ?_)
      obtain ⟨y3, q4, h0⟩ := bind_elim h0
      refine AO.op rfl (AOp.callD rfl rfl (ltb rfl) rfl rfl (w_fRows F a0 a1 a2 y3 q4) ?_)
      rintro _ rfl
      refine AO.op rfl (AOp.move rfl rfl (ltb rfl) rfl ?_)
      first | refine AO.op rfl (AOp.extractD rfl rfl (ltb rfl) rfl rfl ?_) | refine AO.op rfl (AOp.extract rfl rfl (ltb rfl) rfl rfl ?_)
      first | refine AO.op rfl (AOp.extractD rfl rfl (ltb rfl) rfl rfl ?_) | refine AO.op rfl (AOp.extract rfl rfl (ltb rfl) rfl rfl ?_)
      refine AO.op rfl (AOp.alloc rfl rfl (ltb rfl) zero28 rfl ?_)
      refine AO.op rfl (AOp.store rfl rfl rfl rfl size28 rfl rfl rfl (leb rfl) ?_)
      refine AO.op rfl (AOp.assign rfl rfl (ltb rfl) rfl ?_)
      refine AO.nil ?_
      change AC _ _ _ _
      refine AC.seq ?_
      refine AC.joinP (V := Bool) [0, 1, 2, 7] [34] 1 (fun g5 => [(34, .d (dbool g5))]) (fun g5 => [.fix 28 [.d (di .i64 y3.1.Kind), .d (di .i64 y3.1.Layout), .d (di .i64 y3.1.SRID), .d (eS0 y3.1.Flat), .d (eS1 y3.1.Ends), .d (eS3 y3.1.Endss), .d (eS2 y3.1.Kids)]]) (fun g5 => (p_FnFlatLength2_k2 a0 a1 a2 F y3) g5 = some r0) rfl ?_ ?_
      · refine AC.region ?_
        refine AO.op rfl (AOp.move rfl rfl (ltb rfl) rfl ?_)
        refine AO.op rfl (AOp.bnot rfl rfl (ltb rfl) rfl ?_)
        refine AO.op rfl (AOp.move rfl rfl (ltb rfl) rfl ?_)
        refine AO.dec (!y3.2) (fun q13 => ?_) (fun q13 => ?_)
        · replace h0 := cT h0 q13
          refine AO.guardN rfl rfl rfl (ltb rfl) rfl q13 ?_
          refine AO.guardN rfl rfl rfl (ltb rfl) rfl q13 ?_
          refine AO.guardN rfl rfl rfl (ltb rfl) rfl q13 ?_
          refine AO.op rfl (AOp.pick rfl rfl (ltb rfl) rfl q13 rfl ?_)
          refine AO.nil ?_
          exact ⟨true, _, rfl, (LeL.refl _), rfl, rfl, h0⟩
        · replace h0 := cF h0 q13
          refine AO.guardY rfl rfl rfl q13 (AOp.loadN rfl rfl (ltb rfl) rfl agg28 size28 rfl (leb rfl) rfl ?_)
          obtain ⟨y14, q15, h0⟩ := bind_elim h0
          refine AO.guardY rfl rfl rfl q13 (AOp.callD rfl rfl (ltb rfl) rfl rfl (w_gEach F y3.1 y14 q15) ?_)
          rintro _ rfl
          refine AO.guardY rfl rfl rfl q13 (AOp.bnot rfl rfl (ltb rfl) rfl ?_)
          refine AO.op rfl (AOp.pickN rfl rfl (ltb rfl) rfl q13 rfl ?_)
          refine AO.nil ?_
          exact ⟨(!y14), _, rfl, (LeL.refl _), rfl, rfl, h0⟩
      · intro g5 h0
        unfold p_FnFlatLength2_k2 at h0
        refine AC.cond rfl (fun q6 => ?_) (fun q6 => ?_)
        · replace h0 := cT h0 q6
          refine AC.seq ?_
          refine AC.region ?_
          refine AO.op rfl (AOp.assign rfl rfl (ltb rfl) rfl ?_)
          refine AO.nil ?_
          change AC _ _ _ _
          refine AC.ret ?_
          change RetQ _ _ _ .ret _
          obtain rfl := Option.some.inj h0
          refine retq rfl rfl
        · replace h0 := cF h0 q6
          refine AC.skip ?_
          change AC _ _ _ _
          refine AC.seq ?_
          refine AC.region ?_
          refine AO.op rfl (AOp.loadN rfl rfl (ltb rfl) rfl agg28 size28 rfl (leb rfl) rfl ?_)
          obtain ⟨y7, q8, h0⟩ := bind_elim h0
          refine AO.op rfl (AOp.callD rfl rfl (ltb rfl) rfl rfl (w_gAlong F y3.1 y7 q8) ?_)
          rintro _ rfl
          refine AO.op rfl (AOp.move rfl rfl (ltb rfl) rfl ?_)
          first | refine AO.op rfl (AOp.extractD rfl rfl (ltb rfl) rfl rfl ?_) | refine AO.op rfl (AOp.extract rfl rfl (ltb rfl) rfl rfl ?_)
          first | refine AO.op rfl (AOp.extractD rfl rfl (ltb rfl) rfl rfl ?_) | refine AO.op rfl (AOp.extract rfl rfl (ltb rfl) rfl rfl ?_)
          refine AO.op rfl (AOp.assign rfl rfl (ltb rfl) rfl ?_)
          refine AO.op rfl (AOp.assign rfl rfl (ltb rfl) rfl ?_)
          refine AO.nil ?_
          change AC _ _ _ _
          refine AC.seq ?_
          refine AC.region ?_
          refine AO.op rfl (AOp.move rfl rfl (ltb rfl) rfl ?_)
          refine AO.op rfl (AOp.move rfl rfl (ltb rfl) rfl ?_)
          refine AO.op rfl (AOp.move rfl rfl (ltb rfl) rfl ?_)
          obtain ⟨y9, q10, h0⟩ := bind_elim h0
          refine AO.op rfl (AOp.callD rfl rfl (ltb rfl) rfl rfl (w_FlatLength2 F a0 a1 a2 y9 q10) ?_)
          rintro _ rfl
          refine AO.op rfl (AOp.move rfl rfl (ltb rfl) rfl ?_)
          first | refine AO.op rfl (AOp.extractD rfl rfl (ltb rfl) rfl rfl ?_) | refine AO.op rfl (AOp.extract rfl rfl (ltb rfl) rfl rfl ?_)
          first | refine AO.op rfl (AOp.extractD rfl rfl (ltb rfl) rfl rfl ?_) | refine AO.op rfl (AOp.extract rfl rfl (ltb rfl) rfl rfl ?_)
          refine AO.op rfl (AOp.assign rfl rfl (ltb rfl) rfl ?_)
          refine AO.op rfl (AOp.assign rfl rfl (ltb rfl) rfl ?_)
          refine AO.nil ?_
          change AC _ _ _ _
          refine AC.seq ?_
          refine AC.region ?_
          refine AO.op rfl (AOp.move rfl rfl (ltb rfl) rfl ?_)
          refine AO.op rfl (AOp.bnot rfl rfl (ltb rfl) rfl ?_)
          refine AO.op rfl (AOp.move rfl rfl (ltb rfl) rfl ?_)
          refine AO.dec (!y7.2) (fun q11 => ?_) (fun q11 => ?_)
          · replace h0 := cT h0 q11
            refine AO.guardN rfl rfl rfl (ltb rfl) rfl q11 ?_
            refine AO.guardN rfl rfl rfl (ltb rfl) rfl q11 ?_
            refine AO.guardU rfl rfl rfl (ltb rfl) rfl ?_
            refine AO.guardU rfl rfl rfl (ltb rfl) rfl ?_
            refine AO.guardU rfl rfl rfl (ltb rfl) rfl ?_
            refine AO.guardU rfl rfl rfl (ltb rfl) rfl ?_
            refine AO.guardN rfl rfl rfl (ltb rfl) rfl q11 ?_
            refine AO.op rfl (AOp.pick rfl rfl (ltb rfl) rfl q11 rfl ?_)
            refine AO.op rfl (AOp.assign rfl rfl (ltb rfl) rfl ?_)
            refine AO.nil ?_
            change AC _ _ _ _
            refine AC.ret ?_
            change RetQ _ _ _ .ret _
            obtain rfl := Option.some.inj h0
            refine retq rfl rfl
          · replace h0 := cF h0 q11
            refine AO.guardY rfl rfl rfl q11 (AOp.move rfl rfl (ltb rfl) rfl ?_)
            refine AO.guardY rfl rfl rfl q11 (AOp.move rfl rfl (ltb rfl) rfl ?_)
            refine AO.dec y9.2 (fun q12 => ?_) (fun q12 => ?_)
            · replace h0 := cT h0 q12
              refine AO.guardY rfl rfl rfl q12 (AOp.move rfl rfl (ltb rfl) rfl ?_)
              refine AO.guardY rfl rfl rfl q12 (AOp.move rfl rfl (ltb rfl) rfl ?_)
              refine AO.guardY rfl rfl rfl q12 (AOp.i2f rfl rfl (ltb rfl) rfl Try.underlying3 Try.underlying48 ?_)
              refine AO.guardY rfl rfl rfl q12 (AOp.feql rfl rfl (ltb rfl) rfl rfl ?_)
              refine AO.guardY rfl rfl rfl q11 (AOp.pick rfl rfl (ltb rfl) rfl q12 rfl ?_)
              refine AO.op rfl (AOp.pickN rfl rfl (ltb rfl) rfl q11 rfl ?_)
              refine AO.op rfl (AOp.assign rfl rfl (ltb rfl) rfl ?_)
              refine AO.nil ?_
              change AC _ _ _ _
              refine AC.ret ?_
              change RetQ _ _ _ .ret _
              obtain rfl := Option.some.inj h0
              refine retq rfl rfl
            · replace h0 := cF h0 q12
              refine AO.guardN rfl rfl rfl (ltb rfl) rfl q12 ?_
              refine AO.guardN rfl rfl rfl (ltb rfl) rfl q12 ?_
              refine AO.guardN rfl rfl rfl (ltb rfl) rfl q12 ?_
              refine AO.guardN rfl rfl rfl (ltb rfl) rfl q12 ?_
              refine AO.guardY rfl rfl rfl q11 (AOp.pickN rfl rfl (ltb rfl) rfl q12 rfl ?_)
              refine AO.op rfl (AOp.pickN rfl rfl (ltb rfl) rfl q11 rfl ?_)
              refine AO.op rfl (AOp.assign rfl rfl (ltb rfl) rfl ?_)
              refine AO.nil ?_
              change AC _ _ _ _
              refine AC.ret ?_
              change RetQ _ _ _ .ret _
              obtain rfl := Option.some.inj h0
              refine retq rfl rfl

end Go.Proofs.Ytdpkjmoeapibnaa.Wk
