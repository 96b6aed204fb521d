/- Proved: functions of the program compute what the printed functions say, wherever these say something. -/
import Derived.Test.YtlafodjpnolmhaaPSa
import Derived.Test.YtlafodjpnolmhaaVmDraw4
import Derived.Test.YtlafodjpnolmhaaVmIfc
import Derived.Test.YtlafodjpnolmhaaVmNew
import Derived.Test.YtlafodjpnolmhaaVmNaN
import Derived.Test.YtlafodjpnolmhaaFltDy
import Derived.Test.YtlafodjpnolmhaaFltMin
import Derived.Test.YtlafodjpnolmhaaVmFin
import Derived.Test.YtlafodjpnolmhaaProg
namespace Go.Proofs.Ytlafodjpnolmhaa.Wk
open Go.Vm
set_option linter.unusedVariables false
set_option linter.unusedSimpArgs false
theorem agg158 : aggT Try.prog 158 = some false := by kernel_rfl
theorem agg172 : aggT Try.prog 172 = some false := by kernel_rfl
theorem agg25 : aggT Try.prog 25 = some false := by kernel_rfl
theorem agg26 : aggT Try.prog 26 = some false := by kernel_rfl
theorem agg27 : aggT Try.prog 27 = some false := by kernel_rfl
theorem agg28 : aggT Try.prog 28 = some false := by kernel_rfl
theorem agg3 : aggT Try.prog 3 = some false := by kernel_rfl
theorem agg30 : aggT Try.prog 30 = some true := by kernel_rfl
theorem agg31 : aggT Try.prog 31 = some false := by kernel_rfl
theorem agg32 : aggT Try.prog 32 = some false := by kernel_rfl
theorem agg37 : aggT Try.prog 37 = some false := by kernel_rfl
theorem agg69 : aggT Try.prog 69 = some false := by kernel_rfl
theorem agg93 : aggT Try.prog 93 = some false := by kernel_rfl
theorem conc184 : concT Try.prog 184 = true := by kernel_rfl
theorem conc64 : concT Try.prog 64 = true := by kernel_rfl
theorem el158 : elemT Try.prog 158 = some (172, 1) := by kernel_rfl
theorem el172 : elemT Try.prog 172 = some (37, 1) := by kernel_rfl
theorem el22 : elemT Try.prog 22 = some (31, 1) := by kernel_rfl
theorem el25 : elemT Try.prog 25 = some (37, 1) := by kernel_rfl
theorem el26 : elemT Try.prog 26 = some (3, 1) := by kernel_rfl
theorem el27 : elemT Try.prog 27 = some (26, 1) := by kernel_rfl
theorem el28 : elemT Try.prog 28 = some (30, 7) := by kernel_rfl
theorem el31 : elemT Try.prog 31 = some (32, 1) := by kernel_rfl
theorem el32 : elemT Try.prog 32 = some (25, 1) := by kernel_rfl
theorem el71 : elemT Try.prog 71 = some (93, 1) := by kernel_rfl
theorem el93 : elemT Try.prog 93 = some (158, 1) := by kernel_rfl
theorem fo108_0 : fieldOff Try.prog 108 0 = some 0 := by kernel_rfl
theorem fo108_1 : fieldOff Try.prog 108 1 = some 1 := by kernel_rfl
theorem fo108_2 : fieldOff Try.prog 108 2 = some 2 := by kernel_rfl
theorem fo108_3 : fieldOff Try.prog 108 3 = some 3 := by kernel_rfl
theorem fo110_0 : fieldOff Try.prog 110 0 = some 0 := by kernel_rfl
theorem fo112_0 : fieldOff Try.prog 112 0 = some 0 := by kernel_rfl
theorem fo112_1 : fieldOff Try.prog 112 1 = some 4 := by kernel_rfl
theorem fo114_0 : fieldOff Try.prog 114 0 = some 0 := by kernel_rfl
theorem fo30_0 : fieldOff Try.prog 30 0 = some 0 := by kernel_rfl
theorem fo30_1 : fieldOff Try.prog 30 1 = some 1 := by kernel_rfl
theorem fo30_2 : fieldOff Try.prog 30 2 = some 2 := by kernel_rfl
theorem fo30_3 : fieldOff Try.prog 30 3 = some 3 := by kernel_rfl
theorem fo30_4 : fieldOff Try.prog 30 4 = some 4 := by kernel_rfl
theorem fo30_5 : fieldOff Try.prog 30 5 = some 5 := by kernel_rfl
theorem fo30_6 : fieldOff Try.prog 30 6 = some 6 := by kernel_rfl
theorem idle36 (vs : Array Value) (w : World) (h : vs.size = 2) : CallsD Try.prog 36 vs .returning w fun e u' w' => e = .returned (.tuple #[]) ∧ u' = .returning ∧ w' = w := by
  obtain ⟨x0, x1, rfl⟩ : ∃ x0 x1, vs = #[x0, x1] := by
    obtain ⟨l⟩ := vs
    match l, h with
    | [x0, x1], _ => exact ⟨x0, x1, rfl⟩
  refine callsD_of_wpS Try.func36 rfl fun c₀ cs hu => ?_
  apply wpS_seq
  apply wpS_region
  simp [wpOpsS, go_sem, recoverD, hu, Try.ntmps36, Exit.thenS]
  refine wpS_cond (t := false) (by simp [Act.eval, Array.replicate]) ?_
  simp only [Bool.false_eq_true, if_false]
  refine wpS_of_wp (wp_skip ?_)
  cases c₀
  simp_all [bodyPostS, results, Try.results36]
theorem imeth66 : Try.prog.underlying 66 = some (.interface (Try.prog.methodsAt 66)) := by kernel_rfl
theorem info158 : (Try.prog.info? 158).map (fun i => (i.zero, i.size, i.bytes)) = some (some (.slice none 0 0), 1, 24) := by kernel_rfl
theorem info172 : (Try.prog.info? 172).map (fun i => (i.zero, i.size, i.bytes)) = some (some (.slice none 0 0), 1, 24) := by kernel_rfl
theorem info26 : (Try.prog.info? 26).map (fun i => (i.zero, i.size, i.bytes)) = some (some (.slice none 0 0), 1, 24) := by kernel_rfl
theorem info3 : (Try.prog.info? 3).map (fun i => (i.zero, i.size, i.bytes)) = some (some (.int .i64 0), 1, 8) := by kernel_rfl
theorem info37 : (Try.prog.info? 37).map (fun i => (i.zero, i.size, i.bytes)) = some (some (.float .f64 0), 1, 8) := by kernel_rfl
theorem info93 : (Try.prog.info? 93).map (fun i => (i.zero, i.size, i.bytes)) = some (some (.slice none 0 0), 1, 24) := by kernel_rfl
theorem meth64_Ends : methT Try.prog 64 "Ends" = some (133, some 0) := by kernel_rfl
theorem meth64_Endss : methT Try.prog 64 "Endss" = some (134, some 0) := by kernel_rfl
theorem meth64_FlatCoords : methT Try.prog 64 "FlatCoords" = some (135, some 0) := by kernel_rfl
theorem meth64_Layout : methT Try.prog 64 "Layout" = some (136, some 0) := by kernel_rfl
theorem meth64_SRID : methT Try.prog 64 "SRID" = some (138, some 0) := by kernel_rfl
theorem mixed : Try.prog.follows .mixedOrders = true := by kernel_rfl
theorem pass64_116 : passT Try.prog 64 116 = some false := by kernel_rfl
theorem pass64_117 : passT Try.prog 64 117 = some false := by kernel_rfl
theorem pass64_64 : passT Try.prog 64 64 = some true := by kernel_rfl
theorem pass64_83 : passT Try.prog 64 83 = some false := by kernel_rfl
theorem pass64_85 : passT Try.prog 64 85 = some false := by kernel_rfl
theorem pass64_86 : passT Try.prog 64 86 = some false := by kernel_rfl
theorem pass64_88 : passT Try.prog 64 88 = some false := by kernel_rfl
def pl184 : Nat → Option (Nat × Nat) := fun i => ([(0, 1), (1, 1)] : List (Nat × Nat))[i]?
theorem places184 : placesT Try.prog 184 = some pl184 := by kernel_rfl
def pl30 : Nat → Option (Nat × Nat) := fun i => ([(0, 1), (1, 1), (2, 1), (3, 1), (4, 1), (5, 1), (6, 1)] : List (Nat × Nat))[i]?
theorem places30 : placesT Try.prog 30 = some pl30 := by kernel_rfl
theorem size25 : sizeT Try.prog 25 = some 1 := by kernel_rfl
theorem size26 : sizeT Try.prog 26 = some 1 := by kernel_rfl
theorem size27 : sizeT Try.prog 27 = some 1 := by kernel_rfl
theorem size3 : sizeT Try.prog 3 = some 1 := by kernel_rfl
theorem size30 : sizeT Try.prog 30 = some 7 := by kernel_rfl
theorem size4 : sizeT Try.prog 4 = some 1 := by kernel_rfl
theorem size69 : sizeT Try.prog 69 = some 1 := by kernel_rfl
theorem zero114 : (Try.prog.info? 114).map (·.zero) = some (some (.agg #[.int .i64 0, .int .i64 0, .slice none 0 0, .int .i64 0, .slice none 0 0])) := by kernel_rfl
theorem zero116 : (Try.prog.info? 116).map (·.zero) = some (some (.pointer none)) := by kernel_rfl
theorem zero117 : (Try.prog.info? 117).map (·.zero) = some (some (.pointer none)) := by kernel_rfl
theorem zero158 : (Try.prog.info? 158).map (·.zero) = some (some (.slice none 0 0)) := by kernel_rfl
theorem zero172 : (Try.prog.info? 172).map (·.zero) = some (some (.slice none 0 0)) := by kernel_rfl
theorem zero184 : (Try.prog.info? 184).map (·.zero) = some (some (.agg #[.int .i64 0, .int .i64 0])) := by kernel_rfl
theorem zero25 : (Try.prog.info? 25).map (·.zero) = some (some (.slice none 0 0)) := by kernel_rfl
theorem zero26 : (Try.prog.info? 26).map (·.zero) = some (some (.slice none 0 0)) := by kernel_rfl
theorem zero3 : (Try.prog.info? 3).map (·.zero) = some (some (.int .i64 0)) := by kernel_rfl
theorem zero30 : (Try.prog.info? 30).map (·.zero) = some (some (.agg #[.int .i64 0, .int .i64 0, .int .i64 0, .slice none 0 0, .slice none 0 0, .slice none 0 0, .slice none 0 0])) := by kernel_rfl
theorem zero31 : (Try.prog.info? 31).map (·.zero) = some (some (.slice none 0 0)) := by kernel_rfl
theorem zero32 : (Try.prog.info? 32).map (·.zero) = some (some (.slice none 0 0)) := by kernel_rfl
theorem zero37 : (Try.prog.info? 37).map (·.zero) = some (some (.float .f64 0)) := by kernel_rfl
theorem zero4 : (Try.prog.info? 4).map (·.zero) = some (some (.bool false)) := by kernel_rfl
theorem zero83 : (Try.prog.info? 83).map (·.zero) = some (some (.pointer none)) := by kernel_rfl
theorem zero85 : (Try.prog.info? 85).map (·.zero) = some (some (.pointer none)) := by kernel_rfl
theorem zero86 : (Try.prog.info? 86).map (·.zero) = some (some (.pointer none)) := by kernel_rfl
theorem zero88 : (Try.prog.info? 88).map (·.zero) = some (some (.pointer none)) := by kernel_rfl
theorem zero93 : (Try.prog.info? 93).map (·.zero) = some (some (.slice none 0 0)) := by kernel_rfl
set_option maxRecDepth 100000 in
set_option maxHeartbeats 1000000 in
/-- pub-orthodrome/laws.zzFits4 -/
theorem w_zzFits4 (F : Nat) (a0 : (List (List Nat))) (r0 : Bool) (h0 : p_zzFits4 F a0 = some r0) : FnD Try.prog 65 [eS2 a0] (fun r => r = dbool r0) := by
  refine FnD.of (by kernel_rfl) Try.func65 rfl Try.ntmps65 rfl (leb rfl) fun W ok => ?_
  unfold p_zzFits4 at h0
  refine AC.seq ?_
  refine AC.region ?_
  refine AO.op rfl (AOp.assign rfl rfl (ltb rfl) rfl ?_)
  refine AO.nil ?_
  change AC _ _ _ _
  refine AC.seq ?_
  refine AC.seq ?_
  refine AC.region ?_
  refine AO.op rfl (AOp.move rfl rfl (ltb rfl) rfl ?_)
  refine AO.op rfl (AOp.lenDs (n := a0.length) (cells := (List.map keS2 a0)) rfl rfl (ltb rfl) rfl el32 (by decide) (len1 _ _) ?_)
  refine AO.op rfl (AOp.igtr rfl rfl (ltb rfl) rfl rfl ?_)
  refine AO.nil ?_
  change AC _ _ _ _
  refine AC.cond rfl (fun q1 => ?_) (fun q1 => ?_)
  · replace h0 := cT h0 q1
    refine AC.seq ?_
    refine AC.region ?_
    refine AO.op rfl (AOp.assign rfl rfl (ltb rfl) rfl ?_)
    refine AO.nil ?_
    change AC _ _ _ _
    refine AC.ret ?_
    change RetQ _ _ _ .ret _
    obtain rfl := Option.some.inj h0
    refine retq rfl rfl
  replace h0 := cF h0 q1
  refine AC.skip ?_
  change AC _ _ _ _
  refine AC.seq ?_
  refine AC.seq ?_
  refine AC.region ?_
  refine AO.op rfl (AOp.move rfl rfl (ltb rfl) rfl ?_)
  refine AO.op rfl (AOp.lenDs (n := a0.length) (cells := (List.map keS2 a0)) rfl rfl (ltb rfl) rfl el32 (by decide) (len1 _ _) ?_)
  refine AO.op rfl (AOp.move rfl rfl (ltb rfl) rfl ?_)
  refine AO.nil ?_
  change AC _ _ _ _
  obtain ⟨o2, l3, h0⟩ := bind_elim h0
  refine AC.joinE (V := Unit) [] [] 0 (fun g4 => []) (fun g4 => []) (fun g4 => p_zzFits4_k1 g4 = some r0) rfl ?_ ?_
  · refine AC.block ?_
    refine AC.loopP (V := Int) (p_zzFits4_l2 a0) o2 [8, 9] [10] 0 (fun g5 => [(10, .d (di .i64 g5))]) (fun g5 => []) F (0 : Int) l3 rfl rfl (LeL.refl _) rfl rfl ?_
    intro n7 g5 h1
    unfold p_zzFits4_l2 at h1
    refine AC.seq ?_
    refine AC.region ?_
    refine AO.op rfl (AOp.ilss rfl rfl (ltb rfl) rfl rfl ?_)
    refine AO.nil ?_
    change AC _ _ _ _
    refine AC.seq ?_
    refine AC.cond rfl (fun q8 => ?_) (fun q8 => ?_)
    · replace h1 := cT h1 q8
      refine AC.skip ?_
      change AC _ _ _ _
      refine AC.seq ?_
      refine AC.block ?_
      refine AC.seq ?_
      refine AC.region ?_
      obtain ⟨x9, q10, h1⟩ := idx_elim h1
      refine AO.op rfl (AOp.indexDs (cells := (List.map keS2 a0)) rfl rfl (ltb rfl) rfl rfl el32 (by decide) q10.1 (lt1 q10.2) ?_)
      refine AO.op rfl (AOp.loadEp rfl rfl (ltb rfl) rfl agg25 (at1 q10.2) ?_)
      refine AO.op rfl (AOp.assign rfl rfl (ltb rfl) rfl ?_)
      refine AO.nil ?_
      change AC _ _ _ _
      refine AC.seq ?_
      refine AC.region ?_
      refine AO.op rfl (AOp.move rfl rfl (ltb rfl) rfl ?_)
      refine AO.op rfl (AOp.lenDs (n := x9.length) (cells := (List.map keS3 x9)) rfl rfl (ltb rfl) rfl el25 (by decide) (len1 _ _) ?_)
      refine AO.op rfl (AOp.igtr rfl rfl (ltb rfl) rfl rfl ?_)
      refine AO.nil ?_
      change AC _ _ _ _
      refine AC.cond rfl (fun q11 => ?_) (fun q11 => ?_)
      · replace h1 := cT h1 q11
        refine AC.seq ?_
        refine AC.region ?_
        refine AO.op rfl (AOp.assign rfl rfl (ltb rfl) rfl ?_)
        refine AO.nil ?_
        change AC _ _ _ _
        refine AC.ret ?_
        change RetQ _ _ _ .ret _
        obtain rfl := Option.some.inj h1
        replace h0 := aftR h0
        obtain rfl := Option.some.inj h0
        refine retq rfl rfl
      replace h1 := cF h1 q11
      refine AC.skip ?_
      change AC _ _ _ _
      refine AC.region ?_
      obtain ⟨q12, h1⟩ := need_elim h1
      refine AO.op rfl (AOp.iadd rfl rfl (ltb rfl) rfl rfl rfl q12.1 q12.2 ?_)
      refine AO.op rfl (AOp.move rfl rfl (ltb rfl) rfl ?_)
      refine AO.nil ?_
      exact ⟨(g5 + (1 : Int)), _, rfl, (LeL.refl _), rfl, rfl, h1⟩
    replace h1 := cF h1 q8
    refine AC.exit ?_
    obtain rfl := Option.some.inj h1
    exact ⟨(), _, rfl, (LeL.refl _), rfl, rfl, aftL h0⟩
  intro g4 h0
  unfold p_zzFits4_k1 at h0
  change AC _ _ _ _
  refine AC.seq ?_
  refine AC.region ?_
  refine AO.op rfl (AOp.assign rfl rfl (ltb rfl) rfl ?_)
  refine AO.nil ?_
  change AC _ _ _ _
  refine AC.ret ?_
  change RetQ _ _ _ .ret _
  obtain rfl := Option.some.inj h0
  refine retq rfl rfl

set_option maxRecDepth 100000 in
set_option maxHeartbeats 1000000 in
/-- pub-orthodrome/laws.zzFits5 -/
theorem w_zzFits5 (F : Nat) (a0 : (List (List (List Nat)))) (r0 : Bool) (h0 : p_zzFits5 F a0 = some r0) : FnD Try.prog 34 [eS1 a0] (fun r => r = dbool r0) := by
  refine FnD.of (by kernel_rfl) Try.func34 rfl Try.ntmps34 rfl (leb rfl) fun W ok => ?_
  unfold p_zzFits5 at h0
  refine AC.seq ?_
  refine AC.region ?_
  refine AO.op rfl (AOp.assign rfl rfl (ltb rfl) rfl ?_)
  refine AO.nil ?_
  change AC _ _ _ _
  refine AC.seq ?_
  refine AC.seq ?_
  refine AC.region ?_
  refine AO.op rfl (AOp.move rfl rfl (ltb rfl) rfl ?_)
  refine AO.op rfl (AOp.lenDs (n := a0.length) (cells := (List.map keS1 a0)) rfl rfl (ltb rfl) rfl el31 (by decide) (len1 _ _) ?_)
  refine AO.op rfl (AOp.igtr rfl rfl (ltb rfl) rfl rfl ?_)
  refine AO.nil ?_
  change AC _ _ _ _
  refine AC.cond rfl (fun q1 => ?_) (fun q1 => ?_)
  · replace h0 := cT h0 q1
    refine AC.seq ?_
    refine AC.region ?_
    refine AO.op rfl (AOp.assign rfl rfl (ltb rfl) rfl ?_)
    refine AO.nil ?_
    change AC _ _ _ _
    refine AC.ret ?_
    change RetQ _ _ _ .ret _
    obtain rfl := Option.some.inj h0
    refine retq rfl rfl
  replace h0 := cF h0 q1
  refine AC.skip ?_
  change AC _ _ _ _
  refine AC.seq ?_
  refine AC.seq ?_
  refine AC.region ?_
  refine AO.op rfl (AOp.move rfl rfl (ltb rfl) rfl ?_)
  refine AO.op rfl (AOp.lenDs (n := a0.length) (cells := (List.map keS1 a0)) rfl rfl (ltb rfl) rfl el31 (by decide) (len1 _ _) ?_)
  refine AO.op rfl (AOp.move rfl rfl (ltb rfl) rfl ?_)
  refine AO.nil ?_
  change AC _ _ _ _
  obtain ⟨o2, l3, h0⟩ := bind_elim h0
  refine AC.joinE (V := Unit) [] [] 0 (fun g4 => []) (fun g4 => []) (fun g4 => p_zzFits5_k1 g4 = some r0) rfl ?_ ?_
  · refine AC.block ?_
    refine AC.loopP (V := Int) (p_zzFits5_l2 a0 F) o2 [8, 9] [10] 0 (fun g5 => [(10, .d (di .i64 g5))]) (fun g5 => []) F (0 : Int) l3 rfl rfl (LeL.refl _) rfl rfl ?_
    intro n7 g5 h1
    unfold p_zzFits5_l2 at h1
    refine AC.seq ?_
    refine AC.region ?_
    refine AO.op rfl (AOp.ilss rfl rfl (ltb rfl) rfl rfl ?_)
    refine AO.nil ?_
    change AC _ _ _ _
    refine AC.seq ?_
    refine AC.cond rfl (fun q8 => ?_) (fun q8 => ?_)
    · replace h1 := cT h1 q8
      refine AC.skip ?_
      change AC _ _ _ _
      refine AC.seq ?_
      refine AC.block ?_
      refine AC.seq ?_
      refine AC.region ?_
      obtain ⟨x9, q10, h1⟩ := idx_elim h1
      refine AO.op rfl (AOp.indexDs (cells := (List.map keS1 a0)) rfl rfl (ltb rfl) rfl rfl el31 (by decide) q10.1 (lt1 q10.2) ?_)
      refine AO.op rfl (AOp.loadEp rfl rfl (ltb rfl) rfl agg32 (at1 q10.2) ?_)
      refine AO.op rfl (AOp.assign rfl rfl (ltb rfl) rfl ?_)
      refine AO.nil ?_
      change AC _ _ _ _
      refine AC.seq ?_
      refine AC.region ?_
      refine AO.op rfl (AOp.move rfl rfl (ltb rfl) rfl ?_)
      obtain ⟨y11, q12, h1⟩ := bind_elim h1
      refine AO.op rfl (AOp.callD rfl rfl (ltb rfl) rfl rfl (w_zzFits4 F x9 y11 q12) ?_)
      rintro _ rfl
      refine AO.op rfl (AOp.bnot rfl rfl (ltb rfl) rfl ?_)
      refine AO.nil ?_
      change AC _ _ _ _
      refine AC.cond rfl (fun q13 => ?_) (fun q13 => ?_)
      · replace h1 := cT h1 q13
        refine AC.seq ?_
        refine AC.region ?_
        refine AO.op rfl (AOp.assign rfl rfl (ltb rfl) rfl ?_)
        refine AO.nil ?_
        change AC _ _ _ _
        refine AC.ret ?_
        change RetQ _ _ _ .ret _
        obtain rfl := Option.some.inj h1
        replace h0 := aftR h0
        obtain rfl := Option.some.inj h0
        refine retq rfl rfl
      replace h1 := cF h1 q13
      refine AC.skip ?_
      change AC _ _ _ _
      refine AC.region ?_
      obtain ⟨q14, h1⟩ := need_elim h1
      refine AO.op rfl (AOp.iadd rfl rfl (ltb rfl) rfl rfl rfl q14.1 q14.2 ?_)
      refine AO.op rfl (AOp.move rfl rfl (ltb rfl) rfl ?_)
      refine AO.nil ?_
      exact ⟨(g5 + (1 : Int)), _, rfl, (LeL.refl _), rfl, rfl, h1⟩
    replace h1 := cF h1 q8
    refine AC.exit ?_
    obtain rfl := Option.some.inj h1
    exact ⟨(), _, rfl, (LeL.refl _), rfl, rfl, aftL h0⟩
  intro g4 h0
  unfold p_zzFits5_k1 at h0
  change AC _ _ _ _
  refine AC.seq ?_
  refine AC.region ?_
  refine AO.op rfl (AOp.assign rfl rfl (ltb rfl) rfl ?_)
  refine AO.nil ?_
  change AC _ _ _ _
  refine AC.ret ?_
  change RetQ _ _ _ .ret _
  obtain rfl := Option.some.inj h0
  refine retq rfl rfl

set_option maxRecDepth 100000 in
set_option maxHeartbeats 1000000 in
/-- pub-orthodrome/laws.zzFits6 -/
theorem w_zzFits6 (F : Nat) (a0 : (List (List (List (List Nat))))) (r0 : Bool) (h0 : p_zzFits6 F a0 = some r0) : FnD Try.prog 10 [eS0 a0] (fun r => r = dbool r0) := by
  refine FnD.of (by kernel_rfl) Try.func10 rfl Try.ntmps10 rfl (leb rfl) fun W ok => ?_
  unfold p_zzFits6 at h0
  refine AC.seq ?_
  refine AC.region ?_
  refine AO.op rfl (AOp.assign rfl rfl (ltb rfl) rfl ?_)
  refine AO.nil ?_
  change AC _ _ _ _
  refine AC.seq ?_
  refine AC.seq ?_
  refine AC.region ?_
  refine AO.op rfl (AOp.move rfl rfl (ltb rfl) rfl ?_)
  refine AO.op rfl (AOp.lenDs (n := a0.length) (cells := (List.map keS0 a0)) rfl rfl (ltb rfl) rfl el22 (by decide) (len1 _ _) ?_)
  refine AO.op rfl (AOp.igtr rfl rfl (ltb rfl) rfl rfl ?_)
  refine AO.nil ?_
  change AC _ _ _ _
  refine AC.cond rfl (fun q1 => ?_) (fun q1 => ?_)
  · replace h0 := cT h0 q1
    refine AC.seq ?_
    refine AC.region ?_
    refine AO.op rfl (AOp.assign rfl rfl (ltb rfl) rfl ?_)
    refine AO.nil ?_
    change AC _ _ _ _
    refine AC.ret ?_
    change RetQ _ _ _ .ret _
    obtain rfl := Option.some.inj h0
    refine retq rfl rfl
  replace h0 := cF h0 q1
  refine AC.skip ?_
  change AC _ _ _ _
  refine AC.seq ?_
  refine AC.seq ?_
  refine AC.region ?_
  refine AO.op rfl (AOp.move rfl rfl (ltb rfl) rfl ?_)
  refine AO.op rfl (AOp.lenDs (n := a0.length) (cells := (List.map keS0 a0)) rfl rfl (ltb rfl) rfl el22 (by decide) (len1 _ _) ?_)
  refine AO.op rfl (AOp.move rfl rfl (ltb rfl) rfl ?_)
  refine AO.nil ?_
  change AC _ _ _ _
  obtain ⟨o2, l3, h0⟩ := bind_elim h0
  refine AC.joinE (V := Unit) [] [] 0 (fun g4 => []) (fun g4 => []) (fun g4 => p_zzFits6_k1 g4 = some r0) rfl ?_ ?_
  · refine AC.block ?_
    refine AC.loopP (V := Int) (p_zzFits6_l2 a0 F) o2 [8, 9] [10] 0 (fun g5 => [(10, .d (di .i64 g5))]) (fun g5 => []) F (0 : Int) l3 rfl rfl (LeL.refl _) rfl rfl ?_
    intro n7 g5 h1
    unfold p_zzFits6_l2 at h1
    refine AC.seq ?_
    refine AC.region ?_
    refine AO.op rfl (AOp.ilss rfl rfl (ltb rfl) rfl rfl ?_)
    refine AO.nil ?_
    change AC _ _ _ _
    refine AC.seq ?_
    refine AC.cond rfl (fun q8 => ?_) (fun q8 => ?_)
    · replace h1 := cT h1 q8
      refine AC.skip ?_
      change AC _ _ _ _
      refine AC.seq ?_
      refine AC.block ?_
      refine AC.seq ?_
      refine AC.region ?_
      obtain ⟨x9, q10, h1⟩ := idx_elim h1
      refine AO.op rfl (AOp.indexDs (cells := (List.map keS0 a0)) rfl rfl (ltb rfl) rfl rfl el22 (by decide) q10.1 (lt1 q10.2) ?_)
      refine AO.op rfl (AOp.loadEp rfl rfl (ltb rfl) rfl agg31 (at1 q10.2) ?_)
      refine AO.op rfl (AOp.assign rfl rfl (ltb rfl) rfl ?_)
      refine AO.nil ?_
      change AC _ _ _ _
      refine AC.seq ?_
      refine AC.region ?_
      refine AO.op rfl (AOp.move rfl rfl (ltb rfl) rfl ?_)
      obtain ⟨y11, q12, h1⟩ := bind_elim h1
      refine AO.op rfl (AOp.callD rfl rfl (ltb rfl) rfl rfl (w_zzFits5 F x9 y11 q12) ?_)
      rintro _ rfl
      refine AO.op rfl (AOp.bnot rfl rfl (ltb rfl) rfl ?_)
      refine AO.nil ?_
      change AC _ _ _ _
      refine AC.cond rfl (fun q13 => ?_) (fun q13 => ?_)
      · replace h1 := cT h1 q13
        refine AC.seq ?_
        refine AC.region ?_
        refine AO.op rfl (AOp.assign rfl rfl (ltb rfl) rfl ?_)
        refine AO.nil ?_
        change AC _ _ _ _
        refine AC.ret ?_
        change RetQ _ _ _ .ret _
        obtain rfl := Option.some.inj h1
        replace h0 := aftR h0
        obtain rfl := Option.some.inj h0
        refine retq rfl rfl
      replace h1 := cF h1 q13
      refine AC.skip ?_
      change AC _ _ _ _
      refine AC.region ?_
      obtain ⟨q14, h1⟩ := need_elim h1
      refine AO.op rfl (AOp.iadd rfl rfl (ltb rfl) rfl rfl rfl q14.1 q14.2 ?_)
      refine AO.op rfl (AOp.move rfl rfl (ltb rfl) rfl ?_)
      refine AO.nil ?_
      exact ⟨(g5 + (1 : Int)), _, rfl, (LeL.refl _), rfl, rfl, h1⟩
    replace h1 := cF h1 q8
    refine AC.exit ?_
    obtain rfl := Option.some.inj h1
    exact ⟨(), _, rfl, (LeL.refl _), rfl, rfl, aftL h0⟩
  intro g4 h0
  unfold p_zzFits6_k1 at h0
  change AC _ _ _ _
  refine AC.seq ?_
  refine AC.region ?_
  refine AO.op rfl (AOp.assign rfl rfl (ltb rfl) rfl ?_)
  refine AO.nil ?_
  change AC _ _ _ _
  refine AC.ret ?_
  change RetQ _ _ _ .ret _
  obtain rfl := Option.some.inj h0
  refine retq rfl rfl

set_option maxRecDepth 100000 in
set_option maxHeartbeats 1000000 in
/-- pub-orthodrome/laws.gCount -/
theorem w_gCount (F : Nat) (a0 : (List (List (List (List Nat))))) (r0 : Int) (h0 : p_gCount F a0 = some r0) : FnD Try.prog 11 [eS0 a0] (fun r => r = di .i64 r0) := by
  refine FnD.of (by kernel_rfl) Try.func11 rfl Try.ntmps11 rfl (leb rfl) fun W ok => ?_
  unfold p_gCount at h0
  refine AC.seq ?_
  refine AC.region ?_
  refine AO.op rfl (AOp.assign rfl rfl (ltb rfl) rfl ?_)
  refine AO.nil ?_
  change AC _ _ _ _
  refine AC.seq ?_
  refine AC.region ?_
  refine AO.op rfl (AOp.move rfl rfl (ltb rfl) rfl ?_)
  refine AO.op rfl (AOp.lenDs (n := a0.length) (cells := (List.map keS0 a0)) rfl rfl (ltb rfl) rfl el22 (by decide) (len1 _ _) ?_)
  refine AO.op rfl (AOp.assign rfl rfl (ltb rfl) rfl ?_)
  refine AO.nil ?_
  change AC _ _ _ _
  refine AC.seq ?_
  refine AC.seq ?_
  refine AC.region ?_
  refine AO.op rfl (AOp.move rfl rfl (ltb rfl) rfl ?_)
  refine AO.op rfl (AOp.lenDs (n := a0.length) (cells := (List.map keS0 a0)) rfl rfl (ltb rfl) rfl el22 (by decide) (len1 _ _) ?_)
  refine AO.op rfl (AOp.move rfl rfl (ltb rfl) rfl ?_)
  refine AO.nil ?_
  change AC _ _ _ _
  obtain ⟨o1, l2, h0⟩ := bind_elim h0
  refine AC.joinE (V := Int) [] [3] 0 (fun g3 => [(3, .d (di .i64 g3))]) (fun g3 => []) (fun g3 => p_gCount_k1 g3 = some r0) rfl ?_ ?_
  · refine AC.block ?_
    refine AC.loopP (V := (Int × Int)) (p_gCount_l2 a0 F) o1 [12, 13] [3, 14] 0 (fun g4 => [(3, .d (di .i64 g4.1)), (14, .d (di .i64 g4.2))]) (fun g4 => []) F (((a0.length : Nat) : Int), (0 : Int)) l2 rfl rfl (LeL.refl _) rfl rfl ?_
    intro n6 g4 h1
    unfold p_gCount_l2 at h1
    refine AC.seq ?_
    refine AC.region ?_
    refine AO.op rfl (AOp.ilss rfl rfl (ltb rfl) rfl rfl ?_)
    refine AO.nil ?_
    change AC _ _ _ _
    refine AC.seq ?_
    refine AC.cond rfl (fun q7 => ?_) (fun q7 => ?_)
    · replace h1 := cT h1 q7
      refine AC.skip ?_
      change AC _ _ _ _
      refine AC.seq ?_
      refine AC.block ?_
      refine AC.seq ?_
      refine AC.region ?_
      obtain ⟨x8, q9, h1⟩ := idx_elim h1
      refine AO.op rfl (AOp.indexDs (cells := (List.map keS0 a0)) rfl rfl (ltb rfl) rfl rfl el22 (by decide) q9.1 (lt1 q9.2) ?_)
      refine AO.op rfl (AOp.loadEp rfl rfl (ltb rfl) rfl agg31 (at1 q9.2) ?_)
      refine AO.op rfl (AOp.assign rfl rfl (ltb rfl) rfl ?_)
      refine AO.nil ?_
      change AC _ _ _ _
      refine AC.seq ?_
      refine AC.region ?_
      refine AO.op rfl (AOp.move rfl rfl (ltb rfl) rfl ?_)
      refine AO.op rfl (AOp.move rfl rfl (ltb rfl) rfl ?_)
      refine AO.op rfl (AOp.lenDs (n := x8.length) (cells := (List.map keS1 x8)) rfl rfl (ltb rfl) rfl el31 (by decide) (len1 _ _) ?_)
      obtain ⟨q10, h1⟩ := need_elim h1
      refine AO.op rfl (AOp.iadd rfl rfl (ltb rfl) rfl rfl rfl q10.1 q10.2 ?_)
      refine AO.op rfl (AOp.assign rfl rfl (ltb rfl) rfl ?_)
      refine AO.nil ?_
      change AC _ _ _ _
      refine AC.seq ?_
      refine AC.region ?_
      refine AO.op rfl (AOp.move rfl rfl (ltb rfl) rfl ?_)
      refine AO.op rfl (AOp.lenDs (n := x8.length) (cells := (List.map keS1 x8)) rfl rfl (ltb rfl) rfl el31 (by decide) (len1 _ _) ?_)
      refine AO.op rfl (AOp.move rfl rfl (ltb rfl) rfl ?_)
      refine AO.nil ?_
      change AC _ _ _ _
      obtain ⟨o11, l12, h1⟩ := bind_elim h1
      refine AC.joinE (V := Int) [12, 13, 14] [3] 0 (fun g13 => [(3, .d (di .i64 g13))]) (fun g13 => []) (fun g13 => (p_gCount_k3 g4 (iter (p_gCount_l2 a0 F) n6)) g13 = some o1) rfl ?_ ?_
      · refine AC.block ?_
        refine AC.loopP (V := (Int × Int)) (p_gCount_l4 F x8) o11 [12, 13, 14, 22, 23] [3, 24] 0 (fun g15 => [(3, .d (di .i64 g15.1)), (24, .d (di .i64 g15.2))]) (fun g15 => []) F ((g4.1 + ((x8.length : Nat) : Int)), (0 : Int)) l12 rfl rfl (LeL.refl _) rfl rfl ?_
        intro n17 g15 h2
        unfold p_gCount_l4 at h2
        refine AC.seq ?_
        refine AC.region ?_
        refine AO.op rfl (AOp.ilss rfl rfl (ltb rfl) rfl rfl ?_)
        refine AO.nil ?_
        change AC _ _ _ _
        refine AC.seq ?_
        refine AC.cond rfl (fun q18 => ?_) (fun q18 => ?_)
        · replace h2 := cT h2 q18
          refine AC.skip ?_
          change AC _ _ _ _
          refine AC.seq ?_
          refine AC.block ?_
          refine AC.seq ?_
          refine AC.region ?_
          obtain ⟨x19, q20, h2⟩ := idx_elim h2
          refine AO.op rfl (AOp.indexDs (cells := (List.map keS1 x8)) rfl rfl (ltb rfl) rfl rfl el31 (by decide) q20.1 (lt1 q20.2) ?_)
          refine AO.op rfl (AOp.loadEp rfl rfl (ltb rfl) rfl agg32 (at1 q20.2) ?_)
          refine AO.op rfl (AOp.assign rfl rfl (ltb rfl) rfl ?_)
          refine AO.nil ?_
          change AC _ _ _ _
          refine AC.seq ?_
          refine AC.region ?_
          refine AO.op rfl (AOp.move rfl rfl (ltb rfl) rfl ?_)
          refine AO.op rfl (AOp.move rfl rfl (ltb rfl) rfl ?_)
          refine AO.op rfl (AOp.lenDs (n := x19.length) (cells := (List.map keS2 x19)) rfl rfl (ltb rfl) rfl el32 (by decide) (len1 _ _) ?_)
          obtain ⟨q21, h2⟩ := need_elim h2
          refine AO.op rfl (AOp.iadd rfl rfl (ltb rfl) rfl rfl rfl q21.1 q21.2 ?_)
          refine AO.op rfl (AOp.assign rfl rfl (ltb rfl) rfl ?_)
          refine AO.nil ?_
          change AC _ _ _ _
          refine AC.seq ?_
          refine AC.region ?_
          refine AO.op rfl (AOp.move rfl rfl (ltb rfl) rfl ?_)
          refine AO.op rfl (AOp.lenDs (n := x19.length) (cells := (List.map keS2 x19)) rfl rfl (ltb rfl) rfl el32 (by decide) (len1 _ _) ?_)
          refine AO.op rfl (AOp.move rfl rfl (ltb rfl) rfl ?_)
          refine AO.nil ?_
          change AC _ _ _ _
          obtain ⟨o22, l23, h2⟩ := bind_elim h2
          refine AC.joinE (V := Int) [12, 13, 14, 22, 23, 24] [3] 0 (fun g24 => [(3, .d (di .i64 g24))]) (fun g24 => []) (fun g24 => (p_gCount_k5 g15 (iter (p_gCount_l4 F x8) n17)) g24 = some o11) rfl ?_ ?_
          · refine AC.block ?_
            refine AC.loopP (V := (Int × Int)) (p_gCount_l6 x19) o22 [12, 13, 14, 22, 23, 24, 32, 33] [3, 34] 0 (fun g26 => [(3, .d (di .i64 g26.1)), (34, .d (di .i64 g26.2))]) (fun g26 => []) F ((g15.1 + ((x19.length : Nat) : Int)), (0 : Int)) l23 rfl rfl (LeL.refl _) rfl rfl ?_
            intro n28 g26 h3
            unfold p_gCount_l6 at h3
            refine AC.seq ?_
            refine AC.region ?_
            refine AO.op rfl (AOp.ilss rfl rfl (ltb rfl) rfl rfl ?_)
            refine AO.nil ?_
            change AC _ _ _ _
            refine AC.seq ?_
            refine AC.cond rfl (fun q29 => ?_) (fun q29 => ?_)
            · replace h3 := cT h3 q29
              refine AC.skip ?_
              change AC _ _ _ _
              refine AC.seq ?_
              refine AC.block ?_
              refine AC.seq ?_
              refine AC.region ?_
              obtain ⟨x30, q31, h3⟩ := idx_elim h3
              refine AO.op rfl (AOp.indexDs (cells := (List.map keS2 x19)) rfl rfl (ltb rfl) rfl rfl el32 (by decide) q31.1 (lt1 q31.2) ?_)
              refine AO.op rfl (AOp.loadEp rfl rfl (ltb rfl) rfl agg25 (at1 q31.2) ?_)
              refine AO.op rfl (AOp.assign rfl rfl (ltb rfl) rfl ?_)
              refine AO.nil ?_
              change AC _ _ _ _
              refine AC.region ?_
              refine AO.op rfl (AOp.move rfl rfl (ltb rfl) rfl ?_)
              refine AO.op rfl (AOp.move rfl rfl (ltb rfl) rfl ?_)
              refine AO.op rfl (AOp.lenDs (n := x30.length) (cells := (List.map keS3 x30)) rfl rfl (ltb rfl) rfl el25 (by decide) (len1 _ _) ?_)
              obtain ⟨q32, h3⟩ := need_elim h3
              refine AO.op rfl (AOp.iadd rfl rfl (ltb rfl) rfl rfl rfl q32.1 q32.2 ?_)
              refine AO.op rfl (AOp.assign rfl rfl (ltb rfl) rfl ?_)
              refine AO.nil ?_
              change AC _ _ _ _
              refine AC.region ?_
              obtain ⟨q33, h3⟩ := need_elim h3
              refine AO.op rfl (AOp.iadd rfl rfl (ltb rfl) rfl rfl rfl q33.1 q33.2 ?_)
              refine AO.op rfl (AOp.move rfl rfl (ltb rfl) rfl ?_)
              refine AO.nil ?_
              exact ⟨((g26.1 + ((x30.length : Nat) : Int)), (g26.2 + (1 : Int))), _, rfl, (LeL.refl _), rfl, rfl, h3⟩
            replace h3 := cF h3 q29
            refine AC.exit ?_
            obtain rfl := Option.some.inj h3
            exact ⟨g26.1, _, rfl, (LeL.refl _), rfl, rfl, aftL h2⟩
          intro g24 h2
          unfold p_gCount_k5 at h2
          change AC _ _ _ _
          refine AC.region ?_
          obtain ⟨q25, h2⟩ := need_elim h2
          refine AO.op rfl (AOp.iadd rfl rfl (ltb rfl) rfl rfl rfl q25.1 q25.2 ?_)
          refine AO.op rfl (AOp.move rfl rfl (ltb rfl) rfl ?_)
          refine AO.nil ?_
          exact ⟨(g24, (g15.2 + (1 : Int))), _, rfl, (LeL.refl _), rfl, rfl, h2⟩
        replace h2 := cF h2 q18
        refine AC.exit ?_
        obtain rfl := Option.some.inj h2
        exact ⟨g15.1, _, rfl, (LeL.refl _), rfl, rfl, aftL h1⟩
      intro g13 h1
      unfold p_gCount_k3 at h1
      change AC _ _ _ _
      refine AC.region ?_
      obtain ⟨q14, h1⟩ := need_elim h1
      refine AO.op rfl (AOp.iadd rfl rfl (ltb rfl) rfl rfl rfl q14.1 q14.2 ?_)
      refine AO.op rfl (AOp.move rfl rfl (ltb rfl) rfl ?_)
      refine AO.nil ?_
      exact ⟨(g13, (g4.2 + (1 : Int))), _, rfl, (LeL.refl _), rfl, rfl, h1⟩
    replace h1 := cF h1 q7
    refine AC.exit ?_
    obtain rfl := Option.some.inj h1
    exact ⟨g4.1, _, rfl, (LeL.refl _), rfl, rfl, aftL h0⟩
  intro g3 h0
  unfold p_gCount_k1 at h0
  change AC _ _ _ _
  refine AC.seq ?_
  refine AC.region ?_
  refine AO.op rfl (AOp.move rfl rfl (ltb rfl) rfl ?_)
  refine AO.op rfl (AOp.assign rfl rfl (ltb rfl) rfl ?_)
  refine AO.nil ?_
  change AC _ _ _ _
  refine AC.ret ?_
  change RetQ _ _ _ .ret _
  obtain rfl := Option.some.inj h0
  refine retq rfl rfl

set_option maxRecDepth 100000 in
set_option maxHeartbeats 1000000 in
/-- pub-orthodrome/spec.Stride -/
theorem w_Stride (a0 : Int) (r0 : Int) (h0 : p_Stride a0 = some r0) : FnD Try.prog 22 [di .i64 a0] (fun r => r = di .i64 r0) := by
  refine FnD.of (by kernel_rfl) Try.func22 rfl Try.ntmps22 rfl (leb rfl) fun W ok => ?_
  unfold p_Stride at h0
  refine AC.seq ?_
  refine AC.region ?_
  refine AO.op rfl (AOp.assign rfl rfl (ltb rfl) rfl ?_)
  refine AO.nil ?_
  change AC _ _ _ _
  refine AC.seq ?_
  refine AC.block ?_
  refine AC.seq ?_
  refine AC.region ?_
  refine AO.op rfl (AOp.move rfl rfl (ltb rfl) rfl ?_)
  refine AO.op rfl (AOp.ilss rfl rfl (ltb rfl) rfl rfl ?_)
  refine AO.op rfl (AOp.assign rfl rfl (ltb rfl) rfl ?_)
  refine AO.nil ?_
  change AC _ _ _ _
  refine AC.cond rfl (fun q1 => ?_) (fun q1 => ?_)
  · replace h0 := cT h0 q1
    refine AC.seq ?_
    refine AC.region ?_
    refine AO.op rfl (AOp.assign rfl rfl (ltb rfl) rfl ?_)
    refine AO.nil ?_
    change AC _ _ _ _
    refine AC.ret ?_
    change RetQ _ _ _ .ret _
    obtain rfl := Option.some.inj h0
    refine retq rfl rfl
  replace h0 := cF h0 q1
  refine AC.seq ?_
  refine AC.region ?_
  refine AO.op rfl (AOp.move rfl rfl (ltb rfl) rfl ?_)
  refine AO.op rfl (AOp.ieql rfl rfl (ltb rfl) rfl rfl ?_)
  refine AO.op rfl (AOp.assign rfl rfl (ltb rfl) rfl ?_)
  refine AO.nil ?_
  change AC _ _ _ _
  refine AC.cond rfl (fun q2 => ?_) (fun q2 => ?_)
  · replace h0 := cT h0 q2
    refine AC.seq ?_
    refine AC.region ?_
    refine AO.op rfl (AOp.assign rfl rfl (ltb rfl) rfl ?_)
    refine AO.nil ?_
    change AC _ _ _ _
    refine AC.ret ?_
    change RetQ _ _ _ .ret _
    obtain rfl := Option.some.inj h0
    refine retq rfl rfl
  replace h0 := cF h0 q2
  refine AC.seq ?_
  refine AC.region ?_
  refine AO.op rfl (AOp.move rfl rfl (ltb rfl) rfl ?_)
  refine AO.op rfl (AOp.ieql rfl rfl (ltb rfl) rfl rfl ?_)
  refine AO.op rfl (AOp.move rfl rfl (ltb rfl) rfl ?_)
  refine AO.dec (decide (a0 = (2 : Int))) (fun q3 => ?_) (fun q3 => ?_)
  · replace h0 := cT h0 q3
    refine AO.guardN rfl rfl rfl (ltb rfl) rfl q3 ?_
    refine AO.guardN rfl rfl rfl (ltb rfl) rfl q3 ?_
    refine AO.op rfl (AOp.pick rfl rfl (ltb rfl) rfl q3 rfl ?_)
    refine AO.op rfl (AOp.assign rfl rfl (ltb rfl) rfl ?_)
    refine AO.nil ?_
    change AC _ _ _ _
    refine AC.condT rfl rfl ?_
    refine AC.seq ?_
    refine AC.region ?_
    refine AO.op rfl (AOp.assign rfl rfl (ltb rfl) rfl ?_)
    refine AO.nil ?_
    change AC _ _ _ _
    refine AC.ret ?_
    change RetQ _ _ _ .ret _
    obtain rfl := Option.some.inj h0
    refine retq rfl rfl
  replace h0 := cF h0 q3
  refine AO.guardY rfl rfl rfl q3 (AOp.move rfl rfl (ltb rfl) rfl ?_)
  refine AO.guardY rfl rfl rfl q3 (AOp.ieql rfl rfl (ltb rfl) rfl rfl ?_)
  refine AO.op rfl (AOp.pickN rfl rfl (ltb rfl) rfl q3 rfl ?_)
  refine AO.op rfl (AOp.assign rfl rfl (ltb rfl) rfl ?_)
  refine AO.nil ?_
  change AC _ _ _ _
  refine AC.cond rfl (fun q4 => ?_) (fun q4 => ?_)
  · replace h0 := cT h0 q4
    refine AC.seq ?_
    refine AC.region ?_
    refine AO.op rfl (AOp.assign rfl rfl (ltb rfl) rfl ?_)
    refine AO.nil ?_
    change AC _ _ _ _
    refine AC.ret ?_
    change RetQ _ _ _ .ret _
    obtain rfl := Option.some.inj h0
    refine retq rfl rfl
  replace h0 := cF h0 q4
  refine AC.skip ?_
  change AC _ _ _ _
  refine AC.seq ?_
  refine AC.region ?_
  refine AO.op rfl (AOp.move rfl rfl (ltb rfl) rfl ?_)
  refine AO.op rfl (AOp.assign rfl rfl (ltb rfl) rfl ?_)
  refine AO.nil ?_
  change AC _ _ _ _
  refine AC.ret ?_
  change RetQ _ _ _ .ret _
  obtain rfl := Option.some.inj h0
  refine retq rfl rfl

set_option maxRecDepth 100000 in
set_option maxHeartbeats 1000000 in
/-- pub-orthodrome/laws.gFlat -/
theorem w_gFlat (F : Nat) (a0 : Int) (a1 : Bool) (a2 : (List (List Nat))) (r0 : ((List Nat) × (List Int) × Bool)) (h0 : p_gFlat F a0 a1 a2 = some r0) : FnD Try.prog 35 [di .i64 a0, dbool a1, eS2 a2] (fun r => r = .tu [eS3 r0.1, eS4 r0.2.1, dbool r0.2.2]) := by
  refine FnD.of (by kernel_rfl) Try.func35 rfl Try.ntmps35 rfl (leb rfl) fun W ok => ?_
  unfold p_gFlat at h0
  refine AC.seq ?_
  refine AC.region ?_
  refine AO.op rfl (AOp.assign rfl rfl (ltb rfl) rfl ?_)
  refine AO.op rfl (AOp.assign rfl rfl (ltb rfl) rfl ?_)
  refine AO.op rfl (AOp.assign rfl rfl (ltb rfl) rfl ?_)
  refine AO.nil ?_
  change AC _ _ _ _
  refine AC.seq ?_
  refine AC.region ?_
  refine AO.op rfl (AOp.assign rfl rfl (ltb rfl) rfl ?_)
  refine AO.nil ?_
  change AC _ _ _ _
  refine AC.seq ?_
  refine AC.seq ?_
  refine AC.region ?_
  refine AO.op rfl (AOp.move rfl rfl (ltb rfl) rfl ?_)
  refine AO.op rfl (AOp.lenDs (n := a2.length) (cells := (List.map keS2 a2)) rfl rfl (ltb rfl) rfl el32 (by decide) (len1 _ _) ?_)
  refine AO.op rfl (AOp.move rfl rfl (ltb rfl) rfl ?_)
  refine AO.nil ?_
  change AC _ _ _ _
  refine AC.adopt 6 37 1 rfl ?_
  refine AC.adopt 7 3 1 rfl ?_
  obtain ⟨o1, l2, h0⟩ := bind_elim h0
  refine AC.joinE (V := (Bool × (List Nat) × (List Int))) [] [6, 7, 8] 2 (fun g3 => [(6, .own 0), (7, .own 1), (8, .d (dbool g3.1))]) (fun g3 => [.grow 37 1 (List.map keS3 g3.2.1), .grow 3 1 (List.map keS4 g3.2.2)]) (fun g3 => p_gFlat_k1 g3 = some r0) rfl ?_ ?_
  · refine AC.block ?_
    refine AC.loopP (V := (Bool × Int × (List Nat) × (List Int))) (p_gFlat_l2 a0 a1 a2) o1 [0, 1, 11, 12] [6, 7, 8, 13] 2 (fun g4 => [(6, .own 0), (7, .own 1), (8, .d (dbool g4.1)), (13, .d (di .i64 g4.2.1))]) (fun g4 => [.grow 37 1 (List.map keS3 g4.2.2.1), .grow 3 1 (List.map keS4 g4.2.2.2)]) F (true, (0 : Int), [], []) l2 rfl rfl (LeL.refl _) rfl rfl ?_
    intro n6 g4 h1
    unfold p_gFlat_l2 at h1
    refine AC.seq ?_
    refine AC.region ?_
    refine AO.op rfl (AOp.ilss rfl rfl (ltb rfl) rfl rfl ?_)
    refine AO.nil ?_
    change AC _ _ _ _
    refine AC.seq ?_
    refine AC.cond rfl (fun q7 => ?_) (fun q7 => ?_)
    · replace h1 := cT h1 q7
      refine AC.skip ?_
      change AC _ _ _ _
      refine AC.seq ?_
      refine AC.block ?_
      refine AC.seq ?_
      refine AC.region ?_
      obtain ⟨x8, q9, h1⟩ := idx_elim h1
      refine AO.op rfl (AOp.indexDs (cells := (List.map keS2 a2)) rfl rfl (ltb rfl) rfl rfl el32 (by decide) q9.1 (lt1 q9.2) ?_)
      refine AO.op rfl (AOp.loadEp rfl rfl (ltb rfl) rfl agg25 (at1 q9.2) ?_)
      refine AO.op rfl (AOp.assign rfl rfl (ltb rfl) rfl ?_)
      refine AO.nil ?_
      change AC _ _ _ _
      refine AC.joinP (V := Bool) [0, 1, 6, 7, 10, 11, 12, 13] [8] 2 (fun g10 => [(8, .d (dbool g10))]) (fun g10 => [.grow 37 1 (List.map keS3 g4.2.2.1), .grow 3 1 (List.map keS4 g4.2.2.2)]) (fun g10 => (p_gFlat_k3 a1 g4 (iter (p_gFlat_l2 a0 a1 a2) n6) x8) g10 = some o1) rfl ?_ ?_
      · refine AC.region ?_
        refine AO.op rfl (AOp.move rfl rfl (ltb rfl) rfl ?_)
        refine AO.op rfl (AOp.move rfl rfl (ltb rfl) rfl ?_)
        refine AO.dec g4.1 (fun q16 => ?_) (fun q16 => ?_)
        · replace h1 := cT h1 q16
          refine AO.guardY rfl rfl rfl q16 (AOp.move rfl rfl (ltb rfl) rfl ?_)
          refine AO.guardY rfl rfl rfl q16 (AOp.lenDs (n := x8.length) (cells := (List.map keS3 x8)) rfl rfl (ltb rfl) rfl el25 (by decide) (len1 _ _) ?_)
          refine AO.guardY rfl rfl rfl q16 (AOp.move rfl rfl (ltb rfl) rfl ?_)
          obtain ⟨y17, q18, h1⟩ := bind_elim h1
          refine AO.guardY rfl rfl rfl q16 (AOp.callD rfl rfl (ltb rfl) rfl rfl (w_Stride a0 y17 q18) ?_)
          rintro _ rfl
          refine AO.guardY rfl rfl rfl q16 (AOp.ieql rfl rfl (ltb rfl) rfl rfl ?_)
          refine AO.guardY rfl rfl rfl q16 (AOp.move rfl rfl (ltb rfl) rfl ?_)
          refine AO.dec (decide (((x8.length : Nat) : Int) = y17)) (fun q19 => ?_) (fun q19 => ?_)
          · replace h1 := cT h1 q19
            refine AO.guardN rfl rfl rfl (ltb rfl) rfl q19 ?_
            refine AO.guardN rfl rfl rfl (ltb rfl) rfl q19 ?_
            refine AO.guardU rfl rfl rfl (ltb rfl) rfl ?_
            refine AO.guardU rfl rfl rfl (ltb rfl) rfl ?_
            refine AO.guardN rfl rfl rfl (ltb rfl) rfl q19 ?_
            refine AO.guardY rfl rfl rfl q16 (AOp.pick rfl rfl (ltb rfl) rfl q19 rfl ?_)
            refine AO.op rfl (AOp.pick rfl rfl (ltb rfl) rfl q16 rfl ?_)
            refine AO.op rfl (AOp.assign rfl rfl (ltb rfl) rfl ?_)
            refine AO.nil ?_
            exact ⟨true, _, rfl, (LeL.refl _), rfl, rfl, h1⟩
          replace h1 := cF h1 q19
          refine AO.guardY rfl rfl rfl q19 (AOp.move rfl rfl (ltb rfl) rfl ?_)
          refine AO.guardY rfl rfl rfl q19 (AOp.move rfl rfl (ltb rfl) rfl ?_)
          refine AO.dec a1 (fun q20 => ?_) (fun q20 => ?_)
          · replace h1 := cT h1 q20
            refine AO.guardY rfl rfl rfl q20 (AOp.move rfl rfl (ltb rfl) rfl ?_)
            obtain ⟨q21, h1⟩ := need_elim h1
            refine AO.guardY rfl rfl rfl q20 (AOp.nilEql (f := eS3) (x0 := (some x8)) Try.underlying25 rfl rfl (ltb rfl) rfl (neO_cons (fun _ _ => ⟨_, _, _, rfl⟩) q21) ?_)
            refine AO.guardY rfl rfl rfl q19 (AOp.pick rfl rfl (ltb rfl) rfl q20 rfl ?_)
            refine AO.guardY rfl rfl rfl q16 (AOp.pickN rfl rfl (ltb rfl) rfl q19 rfl ?_)
            refine AO.op rfl (AOp.pick rfl rfl (ltb rfl) rfl q16 rfl ?_)
            refine AO.op rfl (AOp.assign rfl rfl (ltb rfl) rfl ?_)
            refine AO.nil ?_
            exact ⟨((some x8)).isNone, _, rfl, (LeL.refl _), rfl, rfl, h1⟩
          replace h1 := cF h1 q20
          refine AO.guardN rfl rfl rfl (ltb rfl) rfl q20 ?_
          refine AO.guardN rfl rfl rfl (ltb rfl) rfl q20 ?_
          refine AO.guardY rfl rfl rfl q19 (AOp.pickN rfl rfl (ltb rfl) rfl q20 rfl ?_)
          refine AO.guardY rfl rfl rfl q16 (AOp.pickN rfl rfl (ltb rfl) rfl q19 rfl ?_)
          refine AO.op rfl (AOp.pick rfl rfl (ltb rfl) rfl q16 rfl ?_)
          refine AO.op rfl (AOp.assign rfl rfl (ltb rfl) rfl ?_)
          refine AO.nil ?_
          exact ⟨false, _, rfl, (LeL.refl _), rfl, rfl, h1⟩
        replace h1 := cF h1 q16
        refine AO.guardN rfl rfl rfl (ltb rfl) rfl q16 ?_
        refine AO.guardN rfl rfl rfl (ltb rfl) rfl q16 ?_
        refine AO.guardN rfl rfl rfl (ltb rfl) rfl q16 ?_
        refine AO.guardN rfl rfl rfl (ltb rfl) rfl q16 ?_
        refine AO.guardN rfl rfl rfl (ltb rfl) rfl q16 ?_
        refine AO.guardN rfl rfl rfl (ltb rfl) rfl q16 ?_
        refine AO.guardU rfl rfl rfl (ltb rfl) rfl ?_
        refine AO.guardU rfl rfl rfl (ltb rfl) rfl ?_
        refine AO.guardU rfl rfl rfl (ltb rfl) rfl ?_
        refine AO.guardU rfl rfl rfl (ltb rfl) rfl ?_
        refine AO.guardU rfl rfl rfl (ltb rfl) rfl ?_
        refine AO.guardN rfl rfl rfl (ltb rfl) rfl q16 ?_
        refine AO.op rfl (AOp.pickN rfl rfl (ltb rfl) rfl q16 rfl ?_)
        refine AO.op rfl (AOp.assign rfl rfl (ltb rfl) rfl ?_)
        refine AO.nil ?_
        exact ⟨false, _, rfl, (LeL.refl _), rfl, rfl, h1⟩
      intro g10 h1
      unfold p_gFlat_k3 at h1
      refine AC.seq ?_
      refine AC.region ?_
      refine AO.op rfl (AOp.move rfl rfl (ltb rfl) rfl ?_)
      refine AO.op rfl (AOp.move rfl rfl (ltb rfl) rfl ?_)
      obtain ⟨q11, h1⟩ := need_elim h1
      refine AO.op rfl (AOp.appendOwn' (p := 0) (n := g4.2.2.1.length) (m := x8.length) (news := (List.map keS3 x8)) rfl rfl (ltb rfl) rfl rfl el25 info37 rfl (by decide) rfl (len1 _ _) (len1 _ _) (one1 _ (fun _ => rfl) _) q11 (by decide) rfl rfl (cat1 _ _ _) ?_)
      refine AO.op rfl (AOp.assign rfl rfl (ltb rfl) rfl ?_)
      refine AO.nil ?_
      change AC _ _ _ _
      refine AC.seq ?_
      refine AC.region ?_
      refine AO.op rfl (AOp.move rfl rfl (ltb rfl) rfl ?_)
      refine AO.nil ?_
      change AC _ _ _ _
      refine AC.cond rfl (fun q12 => ?_) (fun q12 => ?_)
      · replace h1 := cT h1 q12
        refine AC.region ?_
        refine AO.op rfl (AOp.move rfl rfl (ltb rfl) rfl ?_)
        refine AO.op rfl (AOp.move rfl rfl (ltb rfl) rfl ?_)
        refine AO.op rfl (AOp.lenOwn (cells := (List.map keS3 (g4.2.2.1 ++ x8))) (n := (g4.2.2.1 ++ x8).length) rfl rfl (ltb rfl) rfl el25 rfl (by decide) (len1 _ _) ?_)
        refine AO.op rfl (AOp.buildSliceD rfl rfl (ltb rfl) el26 zero3 rfl (leb rfl) rfl rfl rfl rfl ?_)
        obtain ⟨q13, h1⟩ := need_elim h1
        refine AO.op rfl (AOp.appendOwn' (p := 1) (n := g4.2.2.2.length) (m := [(((g4.2.2.1 ++ x8).length : Nat) : Int)].length) (news := (List.map keS4 [(((g4.2.2.1 ++ x8).length : Nat) : Int)])) rfl rfl (ltb rfl) rfl rfl el26 info3 rfl (by decide) rfl (len1 _ _) (len1 _ _) (one1 _ (fun _ => rfl) _) q13 (by decide) rfl rfl (cat1 _ _ _) ?_)
        refine AO.op rfl (AOp.assign rfl rfl (ltb rfl) rfl ?_)
        refine AO.nil ?_
        change AC _ _ _ _
        refine AC.region ?_
        obtain ⟨q14, h1⟩ := need_elim h1
        refine AO.op rfl (AOp.iadd rfl rfl (ltb rfl) rfl rfl rfl q14.1 q14.2 ?_)
        refine AO.op rfl (AOp.move rfl rfl (ltb rfl) rfl ?_)
        refine AO.nil ?_
        exact ⟨(g10, (g4.2.1 + (1 : Int)), (g4.2.2.1 ++ x8), (g4.2.2.2 ++ [(((g4.2.2.1 ++ x8).length : Nat) : Int)])), _, rfl, (LeL.refl _), rfl, rfl, h1⟩
      replace h1 := cF h1 q12
      refine AC.skip ?_
      change AC _ _ _ _
      refine AC.region ?_
      obtain ⟨q15, h1⟩ := need_elim h1
      refine AO.op rfl (AOp.iadd rfl rfl (ltb rfl) rfl rfl rfl q15.1 q15.2 ?_)
      refine AO.op rfl (AOp.move rfl rfl (ltb rfl) rfl ?_)
      refine AO.nil ?_
      exact ⟨(g10, (g4.2.1 + (1 : Int)), (g4.2.2.1 ++ x8), g4.2.2.2), _, rfl, (LeL.refl _), rfl, rfl, h1⟩
    replace h1 := cF h1 q7
    refine AC.exit ?_
    obtain rfl := Option.some.inj h1
    exact ⟨(g4.1, g4.2.2.1, g4.2.2.2), _, rfl, (LeL.refl _), rfl, rfl, aftL h0⟩
  intro g3 h0
  unfold p_gFlat_k1 at h0
  change AC _ _ _ _
  refine AC.seq ?_
  refine AC.region ?_
  refine AO.op rfl (AOp.move rfl rfl (ltb rfl) rfl ?_)
  refine AO.op rfl (AOp.move rfl rfl (ltb rfl) rfl ?_)
  refine AO.op rfl (AOp.move rfl rfl (ltb rfl) rfl ?_)
  refine AO.op rfl (AOp.assign rfl rfl (ltb rfl) rfl ?_)
  refine AO.op rfl (AOp.assign rfl rfl (ltb rfl) rfl ?_)
  refine AO.op rfl (AOp.assign rfl rfl (ltb rfl) rfl ?_)
  refine AO.nil ?_
  change AC _ _ _ _
  refine AC.ret ?_
  change RetQ _ _ _ .ret _
  obtain rfl := Option.some.inj h0
  refine retq rfl rfl

set_option maxRecDepth 100000 in
set_option maxHeartbeats 1000000 in
/-- pub-orthodrome/laws.gFlats -/
theorem w_gFlats (F : Nat) (a0 : Int) (a1 : Int) (a2 : (List (List (List Nat)))) (r0 : ((List Nat) × (List Int) × Bool)) (h0 : p_gFlats F a0 a1 a2 = some r0) : FnD Try.prog 12 [di .i64 a0, di .i64 a1, eS1 a2] (fun r => r = .tu [eS3 r0.1, eS4 r0.2.1, dbool r0.2.2]) := by
  refine FnD.of (by kernel_rfl) Try.func12 rfl Try.ntmps12 rfl (leb rfl) fun W ok => ?_
  unfold p_gFlats at h0
  refine AC.seq ?_
  refine AC.region ?_
  refine AO.op rfl (AOp.assign rfl rfl (ltb rfl) rfl ?_)
  refine AO.op rfl (AOp.assign rfl rfl (ltb rfl) rfl ?_)
  refine AO.op rfl (AOp.assign rfl rfl (ltb rfl) rfl ?_)
  refine AO.nil ?_
  change AC _ _ _ _
  refine AC.seq ?_
  refine AC.region ?_
  refine AO.op rfl (AOp.assign rfl rfl (ltb rfl) rfl ?_)
  refine AO.nil ?_
  change AC _ _ _ _
  refine AC.seq ?_
  refine AC.seq ?_
  refine AC.region ?_
  refine AO.op rfl (AOp.move rfl rfl (ltb rfl) rfl ?_)
  refine AO.op rfl (AOp.lenDs (n := a2.length) (cells := (List.map keS1 a2)) rfl rfl (ltb rfl) rfl el31 (by decide) (len1 _ _) ?_)
  refine AO.op rfl (AOp.move rfl rfl (ltb rfl) rfl ?_)
  refine AO.nil ?_
  change AC _ _ _ _
  refine AC.adopt 6 37 1 rfl ?_
  refine AC.adopt 7 3 1 rfl ?_
  obtain ⟨o1, l2, h0⟩ := bind_elim h0
  refine AC.joinE (V := (Bool × (List Nat) × (List Int))) [] [6, 7, 8] 2 (fun g3 => [(6, .own 0), (7, .own 1), (8, .d (dbool g3.1))]) (fun g3 => [.grow 37 1 (List.map keS3 g3.2.1), .grow 3 1 (List.map keS4 g3.2.2)]) (fun g3 => p_gFlats_k1 g3 = some r0) rfl ?_ ?_
  · refine AC.block ?_
    refine AC.loopP (V := (Bool × Int × (List Nat) × (List Int))) (p_gFlats_l2 a0 a1 a2 F) o1 [0, 1, 14, 15] [6, 7, 8, 16] 2 (fun g4 => [(6, .own 0), (7, .own 1), (8, .d (dbool g4.1)), (16, .d (di .i64 g4.2.1))]) (fun g4 => [.grow 37 1 (List.map keS3 g4.2.2.1), .grow 3 1 (List.map keS4 g4.2.2.2)]) F (true, (0 : Int), [], []) l2 rfl rfl (LeL.refl _) rfl rfl ?_
    intro n6 g4 h1
    unfold p_gFlats_l2 at h1
    refine AC.seq ?_
    refine AC.region ?_
    refine AO.op rfl (AOp.ilss rfl rfl (ltb rfl) rfl rfl ?_)
    refine AO.nil ?_
    change AC _ _ _ _
    refine AC.seq ?_
    refine AC.cond rfl (fun q7 => ?_) (fun q7 => ?_)
    · replace h1 := cT h1 q7
      refine AC.skip ?_
      change AC _ _ _ _
      refine AC.seq ?_
      refine AC.block ?_
      refine AC.seq ?_
      refine AC.region ?_
      obtain ⟨x8, q9, h1⟩ := idx_elim h1
      refine AO.op rfl (AOp.indexDs (cells := (List.map keS1 a2)) rfl rfl (ltb rfl) rfl rfl el31 (by decide) q9.1 (lt1 q9.2) ?_)
      refine AO.op rfl (AOp.loadEp rfl rfl (ltb rfl) rfl agg32 (at1 q9.2) ?_)
      refine AO.op rfl (AOp.assign rfl rfl (ltb rfl) rfl ?_)
      refine AO.nil ?_
      change AC _ _ _ _
      refine AC.seq ?_
      refine AC.region ?_
      refine AO.op rfl (AOp.move rfl rfl (ltb rfl) rfl ?_)
      refine AO.op rfl (AOp.move rfl rfl (ltb rfl) rfl ?_)
      obtain ⟨y10, q11, h1⟩ := bind_elim h1
      refine AO.op rfl (AOp.callD rfl rfl (ltb rfl) rfl rfl (w_gFlat F a0 false x8 y10 q11) ?_)
      rintro _ rfl
      refine AO.op rfl (AOp.move rfl rfl (ltb rfl) rfl ?_)
      first | refine AO.op rfl (AOp.extractD rfl rfl (ltb rfl) rfl rfl ?_) | refine AO.op rfl (AOp.extract rfl rfl (ltb rfl) rfl rfl ?_)
      first | refine AO.op rfl (AOp.extractD rfl rfl (ltb rfl) rfl rfl ?_) | refine AO.op rfl (AOp.extract rfl rfl (ltb rfl) rfl rfl ?_)
      first | refine AO.op rfl (AOp.extractD rfl rfl (ltb rfl) rfl rfl ?_) | refine AO.op rfl (AOp.extract rfl rfl (ltb rfl) rfl rfl ?_)
      refine AO.op rfl (AOp.assign rfl rfl (ltb rfl) rfl ?_)
      refine AO.op rfl (AOp.assign rfl rfl (ltb rfl) rfl ?_)
      refine AO.op rfl (AOp.assign rfl rfl (ltb rfl) rfl ?_)
      refine AO.nil ?_
      change AC _ _ _ _
      refine AC.joinP (V := (Bool × (List Nat))) [0, 1, 7, 14, 15, 16] [6, 8] 2 (fun g12 => [(6, .own 0), (8, .d (dbool g12.1))]) (fun g12 => [.grow 37 1 (List.map keS3 g12.2), .grow 3 1 (List.map keS4 g4.2.2.2)]) (fun g12 => (p_gFlats_k3 a1 g4 (iter (p_gFlats_l2 a0 a1 a2 F) n6)) g12 = some o1) rfl ?_ ?_
      · refine AC.region ?_
        refine AO.op rfl (AOp.move rfl rfl (ltb rfl) rfl ?_)
        refine AO.op rfl (AOp.move rfl rfl (ltb rfl) rfl ?_)
        obtain ⟨q16, h1⟩ := need_elim h1
        refine AO.op rfl (AOp.appendOwn' (p := 0) (n := g4.2.2.1.length) (m := y10.1.length) (news := (List.map keS3 y10.1)) rfl rfl (ltb rfl) rfl rfl el25 info37 rfl (by decide) rfl (len1 _ _) (len1 _ _) (one1 _ (fun _ => rfl) _) q16 (by decide) rfl rfl (cat1 _ _ _) ?_)
        refine AO.op rfl (AOp.move rfl rfl (ltb rfl) rfl ?_)
        refine AO.op rfl (AOp.move rfl rfl (ltb rfl) rfl ?_)
        refine AO.dec g4.1 (fun q17 => ?_) (fun q17 => ?_)
        · replace h1 := cT h1 q17
          refine AO.guardY rfl rfl rfl q17 (AOp.move rfl rfl (ltb rfl) rfl ?_)
          refine AO.op rfl (AOp.pick rfl rfl (ltb rfl) rfl q17 rfl ?_)
          refine AO.op rfl (AOp.assign rfl rfl (ltb rfl) rfl ?_)
          refine AO.op rfl (AOp.assign rfl rfl (ltb rfl) rfl ?_)
          refine AO.nil ?_
          exact ⟨(y10.2.2, (g4.2.2.1 ++ y10.1)), _, rfl, (LeL.refl _), rfl, rfl, h1⟩
        replace h1 := cF h1 q17
        refine AO.guardN rfl rfl rfl (ltb rfl) rfl q17 ?_
        refine AO.op rfl (AOp.pickN rfl rfl (ltb rfl) rfl q17 rfl ?_)
        refine AO.op rfl (AOp.assign rfl rfl (ltb rfl) rfl ?_)
        refine AO.op rfl (AOp.assign rfl rfl (ltb rfl) rfl ?_)
        refine AO.nil ?_
        exact ⟨(false, (g4.2.2.1 ++ y10.1)), _, rfl, (LeL.refl _), rfl, rfl, h1⟩
      intro g12 h1
      unfold p_gFlats_k3 at h1
      refine AC.region ?_
      refine AO.op rfl (AOp.move rfl rfl (ltb rfl) rfl ?_)
      refine AO.op rfl (AOp.move rfl rfl (ltb rfl) rfl ?_)
      refine AO.op rfl (AOp.move rfl rfl (ltb rfl) rfl ?_)
      refine AO.op rfl (AOp.lenOwn (cells := (List.map keS3 g12.2)) (n := g12.2.length) rfl rfl (ltb rfl) rfl el25 rfl (by decide) (len1 _ _) ?_)
      obtain ⟨q13, h1⟩ := need_elim h1
      refine AO.op rfl (AOp.iadd rfl rfl (ltb rfl) rfl rfl rfl q13.1 q13.2 ?_)
      refine AO.op rfl (AOp.buildSliceD rfl rfl (ltb rfl) el26 zero3 rfl (leb rfl) rfl rfl rfl rfl ?_)
      obtain ⟨q14, h1⟩ := need_elim h1
      refine AO.op rfl (AOp.appendOwn' (p := 1) (n := g4.2.2.2.length) (m := [(a1 + ((g12.2.length : Nat) : Int))].length) (news := (List.map keS4 [(a1 + ((g12.2.length : Nat) : Int))])) rfl rfl (ltb rfl) rfl rfl el26 info3 rfl (by decide) rfl (len1 _ _) (len1 _ _) (one1 _ (fun _ => rfl) _) q14 (by decide) rfl rfl (cat1 _ _ _) ?_)
      refine AO.op rfl (AOp.assign rfl rfl (ltb rfl) rfl ?_)
      refine AO.nil ?_
      change AC _ _ _ _
      refine AC.region ?_
      obtain ⟨q15, h1⟩ := need_elim h1
      refine AO.op rfl (AOp.iadd rfl rfl (ltb rfl) rfl rfl rfl q15.1 q15.2 ?_)
      refine AO.op rfl (AOp.move rfl rfl (ltb rfl) rfl ?_)
      refine AO.nil ?_
      exact ⟨(g12.1, (g4.2.1 + (1 : Int)), g12.2, (g4.2.2.2 ++ [(a1 + ((g12.2.length : Nat) : Int))])), _, rfl, (LeL.refl _), rfl, rfl, h1⟩
    replace h1 := cF h1 q7
    refine AC.exit ?_
    obtain rfl := Option.some.inj h1
    exact ⟨(g4.1, g4.2.2.1, g4.2.2.2), _, rfl, (LeL.refl _), rfl, rfl, aftL h0⟩
  intro g3 h0
  unfold p_gFlats_k1 at h0
  change AC _ _ _ _
  refine AC.seq ?_
  refine AC.region ?_
  refine AO.op rfl (AOp.move rfl rfl (ltb rfl) rfl ?_)
  refine AO.op rfl (AOp.move rfl rfl (ltb rfl) rfl ?_)
  refine AO.op rfl (AOp.move rfl rfl (ltb rfl) rfl ?_)
  refine AO.op rfl (AOp.assign rfl rfl (ltb rfl) rfl ?_)
  refine AO.op rfl (AOp.assign rfl rfl (ltb rfl) rfl ?_)
  refine AO.op rfl (AOp.assign rfl rfl (ltb rfl) rfl ?_)
  refine AO.nil ?_
  change AC _ _ _ _
  refine AC.ret ?_
  change RetQ _ _ _ .ret _
  obtain rfl := Option.some.inj h0
  refine retq rfl rfl

set_option maxRecDepth 100000 in
set_option maxHeartbeats 1000000 in
/-- (pub-orthodrome/pub/gogeom.Layout).Stride -/
theorem w_Layout_Stride (a0 : Int) (r0 : Int) (h0 : p_Layout_Stride a0 = some r0) : FnD Try.prog 101 [di .i64 a0] (fun r => r = di .i64 r0) := by
  refine FnD.of (by kernel_rfl) Try.func101 rfl Try.ntmps101 rfl (leb rfl) fun W ok => ?_
  unfold p_Layout_Stride at h0
  refine AC.seq ?_
  refine AC.region ?_
  refine AO.op rfl (AOp.assign rfl rfl (ltb rfl) rfl ?_)
  refine AO.nil ?_
  change AC _ _ _ _
  refine AC.seq ?_
  refine AC.region ?_
  refine AO.op rfl (AOp.move rfl rfl (ltb rfl) rfl ?_)
  refine AO.nil ?_
  change AC _ _ _ _
  refine AC.block ?_
  refine AC.seq ?_
  refine AC.region ?_
  refine AO.op rfl (AOp.ieql rfl rfl (ltb rfl) rfl rfl ?_)
  refine AO.op rfl (AOp.assign rfl rfl (ltb rfl) rfl ?_)
  refine AO.nil ?_
  change AC _ _ _ _
  refine AC.cond rfl (fun q1 => ?_) (fun q1 => ?_)
  · replace h0 := cT h0 q1
    refine AC.seq ?_
    refine AC.region ?_
    refine AO.op rfl (AOp.assign rfl rfl (ltb rfl) rfl ?_)
    refine AO.nil ?_
    change AC _ _ _ _
    refine AC.ret ?_
    change RetQ _ _ _ .ret _
    obtain rfl := Option.some.inj h0
    refine retq rfl rfl
  replace h0 := cF h0 q1
  refine AC.seq ?_
  refine AC.region ?_
  refine AO.op rfl (AOp.ieql rfl rfl (ltb rfl) rfl rfl ?_)
  refine AO.op rfl (AOp.assign rfl rfl (ltb rfl) rfl ?_)
  refine AO.nil ?_
  change AC _ _ _ _
  refine AC.cond rfl (fun q2 => ?_) (fun q2 => ?_)
  · replace h0 := cT h0 q2
    refine AC.seq ?_
    refine AC.region ?_
    refine AO.op rfl (AOp.assign rfl rfl (ltb rfl) rfl ?_)
    refine AO.nil ?_
    change AC _ _ _ _
    refine AC.ret ?_
    change RetQ _ _ _ .ret _
    obtain rfl := Option.some.inj h0
    refine retq rfl rfl
  replace h0 := cF h0 q2
  refine AC.seq ?_
  refine AC.region ?_
  refine AO.op rfl (AOp.ieql rfl rfl (ltb rfl) rfl rfl ?_)
  refine AO.op rfl (AOp.assign rfl rfl (ltb rfl) rfl ?_)
  refine AO.nil ?_
  change AC _ _ _ _
  refine AC.cond rfl (fun q3 => ?_) (fun q3 => ?_)
  · replace h0 := cT h0 q3
    refine AC.seq ?_
    refine AC.region ?_
    refine AO.op rfl (AOp.assign rfl rfl (ltb rfl) rfl ?_)
    refine AO.nil ?_
    change AC _ _ _ _
    refine AC.ret ?_
    change RetQ _ _ _ .ret _
    obtain rfl := Option.some.inj h0
    refine retq rfl rfl
  replace h0 := cF h0 q3
  refine AC.seq ?_
  refine AC.region ?_
  refine AO.op rfl (AOp.ieql rfl rfl (ltb rfl) rfl rfl ?_)
  refine AO.op rfl (AOp.assign rfl rfl (ltb rfl) rfl ?_)
  refine AO.nil ?_
  change AC _ _ _ _
  refine AC.cond rfl (fun q4 => ?_) (fun q4 => ?_)
  · replace h0 := cT h0 q4
    refine AC.seq ?_
    refine AC.region ?_
    refine AO.op rfl (AOp.assign rfl rfl (ltb rfl) rfl ?_)
    refine AO.nil ?_
    change AC _ _ _ _
    refine AC.ret ?_
    change RetQ _ _ _ .ret _
    obtain rfl := Option.some.inj h0
    refine retq rfl rfl
  replace h0 := cF h0 q4
  refine AC.seq ?_
  refine AC.region ?_
  refine AO.op rfl (AOp.ieql rfl rfl (ltb rfl) rfl rfl ?_)
  refine AO.op rfl (AOp.assign rfl rfl (ltb rfl) rfl ?_)
  refine AO.nil ?_
  change AC _ _ _ _
  refine AC.cond rfl (fun q5 => ?_) (fun q5 => ?_)
  · replace h0 := cT h0 q5
    refine AC.seq ?_
    refine AC.region ?_
    refine AO.op rfl (AOp.assign rfl rfl (ltb rfl) rfl ?_)
    refine AO.nil ?_
    change AC _ _ _ _
    refine AC.ret ?_
    change RetQ _ _ _ .ret _
    obtain rfl := Option.some.inj h0
    refine retq rfl rfl
  replace h0 := cF h0 q5
  refine AC.seq ?_
  refine AC.region ?_
  refine AO.op rfl (AOp.move rfl rfl (ltb rfl) rfl ?_)
  refine AO.op rfl (AOp.assign rfl rfl (ltb rfl) rfl ?_)
  refine AO.nil ?_
  change AC _ _ _ _
  refine AC.ret ?_
  change RetQ _ _ _ .ret _
  obtain rfl := Option.some.inj h0
  refine retq rfl rfl

set_option maxRecDepth 100000 in
set_option maxHeartbeats 1000000 in
/-- pub-orthodrome/impl.floats -/
theorem w_floats (a0 : (List Nat)) (r0 : (List Nat)) (h0 : p_floats a0 = some r0) : FnD Try.prog 46 [eS3 a0] (fun r => r = eS3 r0) := by
  refine FnD.of (by kernel_rfl) Try.func46 rfl Try.ntmps46 rfl (leb rfl) fun W ok => ?_
  unfold p_floats at h0
  refine AC.seq ?_
  refine AC.region ?_
  refine AO.op rfl (AOp.assign rfl rfl (ltb rfl) rfl ?_)
  refine AO.nil ?_
  change AC _ _ _ _
  refine AC.seq ?_
  refine AC.region ?_
  refine AO.op rfl (AOp.move rfl rfl (ltb rfl) rfl ?_)
  obtain ⟨q1, h0⟩ := need_elim h0
  refine AO.op rfl (AOp.appendNil (m := a0.length) (news := (List.map keS3 a0)) rfl rfl (ltb rfl) rfl rfl el25 info37 rfl (by decide) (len1 _ _) (one1 _ (fun _ => rfl) _) (small63 q1) (small q1 (by decide)) ?_)
  refine AO.op rfl (AOp.assign rfl rfl (ltb rfl) rfl ?_)
  refine AO.nil ?_
  change AC _ _ _ _
  refine AC.ret ?_
  change RetQ _ _ _ .ret _
  obtain rfl := Option.some.inj h0
  refine retq rfl rfl

set_option maxRecDepth 100000 in
set_option maxHeartbeats 1000000 in
/-- pub-orthodrome/impl.coords1 -/
theorem w_coords1 (F : Nat) (a0 : (List (List Nat))) (r0 : (List (List Nat))) (h0 : p_coords1 F a0 = some r0) : FnD Try.prog 103 [eS2 a0] (fun r => r = eS2 r0) := by
  refine FnD.of (by kernel_rfl) Try.func103 rfl Try.ntmps103 rfl (leb rfl) fun W ok => ?_
  unfold p_coords1 at h0
  refine AC.seq ?_
  refine AC.region ?_
  refine AO.op rfl (AOp.assign rfl rfl (ltb rfl) rfl ?_)
  refine AO.nil ?_
  change AC _ _ _ _
  refine AC.seq ?_
  refine AC.region ?_
  refine AO.op rfl (AOp.assign rfl rfl (ltb rfl) rfl ?_)
  refine AO.nil ?_
  change AC _ _ _ _
  refine AC.seq ?_
  refine AC.seq ?_
  refine AC.region ?_
  refine AO.op rfl (AOp.move rfl rfl (ltb rfl) rfl ?_)
  refine AO.op rfl (AOp.lenDs (n := a0.length) (cells := (List.map keS2 a0)) rfl rfl (ltb rfl) rfl el32 (by decide) (len1 _ _) ?_)
  refine AO.op rfl (AOp.move rfl rfl (ltb rfl) rfl ?_)
  refine AO.nil ?_
  change AC _ _ _ _
  refine AC.adopt 3 172 1 rfl ?_
  obtain ⟨o1, l2, h0⟩ := bind_elim h0
  refine AC.joinE (V := (List (List Nat))) [] [3] 1 (fun g3 => [(3, .own 0)]) (fun g3 => [.grow 172 1 (List.map keS2 g3)]) (fun g3 => p_coords1_k1 g3 = some r0) rfl ?_ ?_
  · refine AC.block ?_
    refine AC.loopP (V := (Int × (List (List Nat)))) (p_coords1_l2 a0) o1 [6, 7] [3, 8] 1 (fun g4 => [(3, .own 0), (8, .d (di .i64 g4.1))]) (fun g4 => [.grow 172 1 (List.map keS2 g4.2)]) F ((0 : Int), []) l2 rfl rfl (LeL.refl _) rfl rfl ?_
    intro n6 g4 h1
    unfold p_coords1_l2 at h1
    refine AC.seq ?_
    refine AC.region ?_
    refine AO.op rfl (AOp.ilss rfl rfl (ltb rfl) rfl rfl ?_)
    refine AO.nil ?_
    change AC _ _ _ _
    refine AC.seq ?_
    refine AC.cond rfl (fun q7 => ?_) (fun q7 => ?_)
    · replace h1 := cT h1 q7
      refine AC.skip ?_
      change AC _ _ _ _
      refine AC.seq ?_
      refine AC.block ?_
      refine AC.seq ?_
      refine AC.region ?_
      obtain ⟨x8, q9, h1⟩ := idx_elim h1
      refine AO.op rfl (AOp.indexDs (cells := (List.map keS2 a0)) rfl rfl (ltb rfl) rfl rfl el32 (by decide) q9.1 (lt1 q9.2) ?_)
      refine AO.op rfl (AOp.loadEp rfl rfl (ltb rfl) rfl agg25 (at1 q9.2) ?_)
      refine AO.op rfl (AOp.assign rfl rfl (ltb rfl) rfl ?_)
      refine AO.nil ?_
      change AC _ _ _ _
      refine AC.region ?_
      refine AO.op rfl (AOp.move rfl rfl (ltb rfl) rfl ?_)
      refine AO.op rfl (AOp.move rfl rfl (ltb rfl) rfl ?_)
      obtain ⟨y10, q11, h1⟩ := bind_elim h1
      refine AO.op rfl (AOp.callD rfl rfl (ltb rfl) rfl rfl (w_floats x8 y10 q11) ?_)
      rintro _ rfl
      refine AO.op rfl (AOp.buildSliceD rfl rfl (ltb rfl) el158 zero172 rfl (leb rfl) rfl rfl rfl rfl ?_)
      obtain ⟨q12, h1⟩ := need_elim h1
      refine AO.op rfl (AOp.appendOwn' (p := 0) (n := g4.2.length) (m := [y10].length) (news := (List.map keS2 [y10])) rfl rfl (ltb rfl) rfl rfl el158 info172 rfl (by decide) rfl (len1 _ _) (len1 _ _) (one1 _ (fun _ => rfl) _) q12 (by decide) rfl rfl (cat1 _ _ _) ?_)
      refine AO.op rfl (AOp.assign rfl rfl (ltb rfl) rfl ?_)
      refine AO.nil ?_
      change AC _ _ _ _
      refine AC.region ?_
      obtain ⟨q13, h1⟩ := need_elim h1
      refine AO.op rfl (AOp.iadd rfl rfl (ltb rfl) rfl rfl rfl q13.1 q13.2 ?_)
      refine AO.op rfl (AOp.move rfl rfl (ltb rfl) rfl ?_)
      refine AO.nil ?_
      exact ⟨((g4.1 + (1 : Int)), (g4.2 ++ [y10])), _, rfl, (LeL.refl _), rfl, rfl, h1⟩
    replace h1 := cF h1 q7
    refine AC.exit ?_
    obtain rfl := Option.some.inj h1
    exact ⟨g4.2, _, rfl, (LeL.refl _), rfl, rfl, aftL h0⟩
  intro g3 h0
  unfold p_coords1_k1 at h0
  change AC _ _ _ _
  refine AC.seq ?_
  refine AC.region ?_
  refine AO.op rfl (AOp.move rfl rfl (ltb rfl) rfl ?_)
  refine AO.op rfl (AOp.assign rfl rfl (ltb rfl) rfl ?_)
  refine AO.nil ?_
  change AC _ _ _ _
  refine AC.ret ?_
  change RetQ _ _ _ .ret _
  obtain rfl := Option.some.inj h0
  refine retq rfl rfl

set_option maxRecDepth 100000 in
set_option maxHeartbeats 1000000 in
/-- pub-orthodrome/impl.coords2 -/
theorem w_coords2 (F : Nat) (a0 : (List (List (List Nat)))) (r0 : (List (List (List Nat)))) (h0 : p_coords2 F a0 = some r0) : FnD Try.prog 68 [eS1 a0] (fun r => r = eS1 r0) := by
  refine FnD.of (by kernel_rfl) Try.func68 rfl Try.ntmps68 rfl (leb rfl) fun W ok => ?_
  unfold p_coords2 at h0
  refine AC.seq ?_
  refine AC.region ?_
  refine AO.op rfl (AOp.assign rfl rfl (ltb rfl) rfl ?_)
  refine AO.nil ?_
  change AC _ _ _ _
  refine AC.seq ?_
  refine AC.region ?_
  refine AO.op rfl (AOp.assign rfl rfl (ltb rfl) rfl ?_)
  refine AO.nil ?_
  change AC _ _ _ _
  refine AC.seq ?_
  refine AC.seq ?_
  refine AC.region ?_
  refine AO.op rfl (AOp.move rfl rfl (ltb rfl) rfl ?_)
  refine AO.op rfl (AOp.lenDs (n := a0.length) (cells := (List.map keS1 a0)) rfl rfl (ltb rfl) rfl el31 (by decide) (len1 _ _) ?_)
  refine AO.op rfl (AOp.move rfl rfl (ltb rfl) rfl ?_)
  refine AO.nil ?_
  change AC _ _ _ _
  refine AC.adopt 3 158 1 rfl ?_
  obtain ⟨o1, l2, h0⟩ := bind_elim h0
  refine AC.joinE (V := (List (List (List Nat)))) [] [3] 1 (fun g3 => [(3, .own 0)]) (fun g3 => [.grow 158 1 (List.map keS1 g3)]) (fun g3 => p_coords2_k1 g3 = some r0) rfl ?_ ?_
  · refine AC.block ?_
    refine AC.loopP (V := (Int × (List (List (List Nat))))) (p_coords2_l2 a0 F) o1 [6, 7] [3, 8] 1 (fun g4 => [(3, .own 0), (8, .d (di .i64 g4.1))]) (fun g4 => [.grow 158 1 (List.map keS1 g4.2)]) F ((0 : Int), []) l2 rfl rfl (LeL.refl _) rfl rfl ?_
    intro n6 g4 h1
    unfold p_coords2_l2 at h1
    refine AC.seq ?_
    refine AC.region ?_
    refine AO.op rfl (AOp.ilss rfl rfl (ltb rfl) rfl rfl ?_)
    refine AO.nil ?_
    change AC _ _ _ _
    refine AC.seq ?_
    refine AC.cond rfl (fun q7 => ?_) (fun q7 => ?_)
    · replace h1 := cT h1 q7
      refine AC.skip ?_
      change AC _ _ _ _
      refine AC.seq ?_
      refine AC.block ?_
      refine AC.seq ?_
      refine AC.region ?_
      obtain ⟨x8, q9, h1⟩ := idx_elim h1
      refine AO.op rfl (AOp.indexDs (cells := (List.map keS1 a0)) rfl rfl (ltb rfl) rfl rfl el31 (by decide) q9.1 (lt1 q9.2) ?_)
      refine AO.op rfl (AOp.loadEp rfl rfl (ltb rfl) rfl agg32 (at1 q9.2) ?_)
      refine AO.op rfl (AOp.assign rfl rfl (ltb rfl) rfl ?_)
      refine AO.nil ?_
      change AC _ _ _ _
      refine AC.region ?_
      refine AO.op rfl (AOp.move rfl rfl (ltb rfl) rfl ?_)
      refine AO.op rfl (AOp.move rfl rfl (ltb rfl) rfl ?_)
      obtain ⟨y10, q11, h1⟩ := bind_elim h1
      refine AO.op rfl (AOp.callD rfl rfl (ltb rfl) rfl rfl (w_coords1 F x8 y10 q11) ?_)
      rintro _ rfl
      refine AO.op rfl (AOp.buildSliceD rfl rfl (ltb rfl) el93 zero158 rfl (leb rfl) rfl rfl rfl rfl ?_)
      obtain ⟨q12, h1⟩ := need_elim h1
      refine AO.op rfl (AOp.appendOwn' (p := 0) (n := g4.2.length) (m := [y10].length) (news := (List.map keS1 [y10])) rfl rfl (ltb rfl) rfl rfl el93 info158 rfl (by decide) rfl (len1 _ _) (len1 _ _) (one1 _ (fun _ => rfl) _) q12 (by decide) rfl rfl (cat1 _ _ _) ?_)
      refine AO.op rfl (AOp.assign rfl rfl (ltb rfl) rfl ?_)
      refine AO.nil ?_
      change AC _ _ _ _
      refine AC.region ?_
      obtain ⟨q13, h1⟩ := need_elim h1
      refine AO.op rfl (AOp.iadd rfl rfl (ltb rfl) rfl rfl rfl q13.1 q13.2 ?_)
      refine AO.op rfl (AOp.move rfl rfl (ltb rfl) rfl ?_)
      refine AO.nil ?_
      exact ⟨((g4.1 + (1 : Int)), (g4.2 ++ [y10])), _, rfl, (LeL.refl _), rfl, rfl, h1⟩
    replace h1 := cF h1 q7
    refine AC.exit ?_
    obtain rfl := Option.some.inj h1
    exact ⟨g4.2, _, rfl, (LeL.refl _), rfl, rfl, aftL h0⟩
  intro g3 h0
  unfold p_coords2_k1 at h0
  change AC _ _ _ _
  refine AC.seq ?_
  refine AC.region ?_
  refine AO.op rfl (AOp.move rfl rfl (ltb rfl) rfl ?_)
  refine AO.op rfl (AOp.assign rfl rfl (ltb rfl) rfl ?_)
  refine AO.nil ?_
  change AC _ _ _ _
  refine AC.ret ?_
  change RetQ _ _ _ .ret _
  obtain rfl := Option.some.inj h0
  refine retq rfl rfl

set_option maxRecDepth 100000 in
set_option maxHeartbeats 1000000 in
/-- pub-orthodrome/impl.coords3 -/
theorem w_coords3 (F : Nat) (a0 : (List (List (List (List Nat))))) (r0 : (List (List (List (List Nat))))) (h0 : p_coords3 F a0 = some r0) : FnD Try.prog 39 [eS0 a0] (fun r => r = eS0 r0) := by
  refine FnD.of (by kernel_rfl) Try.func39 rfl Try.ntmps39 rfl (leb rfl) fun W ok => ?_
  unfold p_coords3 at h0
  refine AC.seq ?_
  refine AC.region ?_
  refine AO.op rfl (AOp.assign rfl rfl (ltb rfl) rfl ?_)
  refine AO.nil ?_
  change AC _ _ _ _
  refine AC.seq ?_
  refine AC.region ?_
  refine AO.op rfl (AOp.assign rfl rfl (ltb rfl) rfl ?_)
  refine AO.nil ?_
  change AC _ _ _ _
  refine AC.seq ?_
  refine AC.seq ?_
  refine AC.region ?_
  refine AO.op rfl (AOp.move rfl rfl (ltb rfl) rfl ?_)
  refine AO.op rfl (AOp.lenDs (n := a0.length) (cells := (List.map keS0 a0)) rfl rfl (ltb rfl) rfl el22 (by decide) (len1 _ _) ?_)
  refine AO.op rfl (AOp.move rfl rfl (ltb rfl) rfl ?_)
  refine AO.nil ?_
  change AC _ _ _ _
  refine AC.adopt 3 93 1 rfl ?_
  obtain ⟨o1, l2, h0⟩ := bind_elim h0
  refine AC.joinE (V := (List (List (List (List Nat))))) [] [3] 1 (fun g3 => [(3, .own 0)]) (fun g3 => [.grow 93 1 (List.map keS0 g3)]) (fun g3 => p_coords3_k1 g3 = some r0) rfl ?_ ?_
  · refine AC.block ?_
    refine AC.loopP (V := (Int × (List (List (List (List Nat)))))) (p_coords3_l2 a0 F) o1 [6, 7] [3, 8] 1 (fun g4 => [(3, .own 0), (8, .d (di .i64 g4.1))]) (fun g4 => [.grow 93 1 (List.map keS0 g4.2)]) F ((0 : Int), []) l2 rfl rfl (LeL.refl _) rfl rfl ?_
    intro n6 g4 h1
    unfold p_coords3_l2 at h1
    refine AC.seq ?_
    refine AC.region ?_
    refine AO.op rfl (AOp.ilss rfl rfl (ltb rfl) rfl rfl ?_)
    refine AO.nil ?_
    change AC _ _ _ _
    refine AC.seq ?_
    refine AC.cond rfl (fun q7 => ?_) (fun q7 => ?_)
    · replace h1 := cT h1 q7
      refine AC.skip ?_
      change AC _ _ _ _
      refine AC.seq ?_
      refine AC.block ?_
      refine AC.seq ?_
      refine AC.region ?_
      obtain ⟨x8, q9, h1⟩ := idx_elim h1
      refine AO.op rfl (AOp.indexDs (cells := (List.map keS0 a0)) rfl rfl (ltb rfl) rfl rfl el22 (by decide) q9.1 (lt1 q9.2) ?_)
      refine AO.op rfl (AOp.loadEp rfl rfl (ltb rfl) rfl agg31 (at1 q9.2) ?_)
      refine AO.op rfl (AOp.assign rfl rfl (ltb rfl) rfl ?_)
      refine AO.nil ?_
      change AC _ _ _ _
      refine AC.region ?_
      refine AO.op rfl (AOp.move rfl rfl (ltb rfl) rfl ?_)
      refine AO.op rfl (AOp.move rfl rfl (ltb rfl) rfl ?_)
      obtain ⟨y10, q11, h1⟩ := bind_elim h1
      refine AO.op rfl (AOp.callD rfl rfl (ltb rfl) rfl rfl (w_coords2 F x8 y10 q11) ?_)
      rintro _ rfl
      refine AO.op rfl (AOp.buildSliceD rfl rfl (ltb rfl) el71 zero93 rfl (leb rfl) rfl rfl rfl rfl ?_)
      obtain ⟨q12, h1⟩ := need_elim h1
      refine AO.op rfl (AOp.appendOwn' (p := 0) (n := g4.2.length) (m := [y10].length) (news := (List.map keS0 [y10])) rfl rfl (ltb rfl) rfl rfl el71 info93 rfl (by decide) rfl (len1 _ _) (len1 _ _) (one1 _ (fun _ => rfl) _) q12 (by decide) rfl rfl (cat1 _ _ _) ?_)
      refine AO.op rfl (AOp.assign rfl rfl (ltb rfl) rfl ?_)
      refine AO.nil ?_
      change AC _ _ _ _
      refine AC.region ?_
      obtain ⟨q13, h1⟩ := need_elim h1
      refine AO.op rfl (AOp.iadd rfl rfl (ltb rfl) rfl rfl rfl q13.1 q13.2 ?_)
      refine AO.op rfl (AOp.move rfl rfl (ltb rfl) rfl ?_)
      refine AO.nil ?_
      exact ⟨((g4.1 + (1 : Int)), (g4.2 ++ [y10])), _, rfl, (LeL.refl _), rfl, rfl, h1⟩
    replace h1 := cF h1 q7
    refine AC.exit ?_
    obtain rfl := Option.some.inj h1
    exact ⟨g4.2, _, rfl, (LeL.refl _), rfl, rfl, aftL h0⟩
  intro g3 h0
  unfold p_coords3_k1 at h0
  change AC _ _ _ _
  refine AC.seq ?_
  refine AC.region ?_
  refine AO.op rfl (AOp.move rfl rfl (ltb rfl) rfl ?_)
  refine AO.op rfl (AOp.assign rfl rfl (ltb rfl) rfl ?_)
  refine AO.nil ?_
  change AC _ _ _ _
  refine AC.ret ?_
  change RetQ _ _ _ .ret _
  obtain rfl := Option.some.inj h0
  refine retq rfl rfl

set_option maxRecDepth 100000 in
set_option maxHeartbeats 1000000 in
/-- pub-orthodrome/impl.ints -/
theorem w_ints (a0 : (List Int)) (r0 : (List Int)) (h0 : p_ints a0 = some r0) : FnD Try.prog 71 [eS4 a0] (fun r => r = eS4 r0) := by
  refine FnD.of (by kernel_rfl) Try.func71 rfl Try.ntmps71 rfl (leb rfl) fun W ok => ?_
  unfold p_ints at h0
  refine AC.seq ?_
  refine AC.region ?_
  refine AO.op rfl (AOp.assign rfl rfl (ltb rfl) rfl ?_)
  refine AO.nil ?_
  change AC _ _ _ _
  refine AC.seq ?_
  refine AC.region ?_
  refine AO.op rfl (AOp.move rfl rfl (ltb rfl) rfl ?_)
  obtain ⟨q1, h0⟩ := need_elim h0
  refine AO.op rfl (AOp.appendNil (m := a0.length) (news := (List.map keS4 a0)) rfl rfl (ltb rfl) rfl rfl el26 info3 rfl (by decide) (len1 _ _) (one1 _ (fun _ => rfl) _) (small63 q1) (small q1 (by decide)) ?_)
  refine AO.op rfl (AOp.assign rfl rfl (ltb rfl) rfl ?_)
  refine AO.nil ?_
  change AC _ _ _ _
  refine AC.ret ?_
  change RetQ _ _ _ .ret _
  obtain rfl := Option.some.inj h0
  refine retq rfl rfl

set_option maxRecDepth 100000 in
set_option maxHeartbeats 1000000 in
/-- pub-orthodrome/impl.intss -/
theorem w_intss (F : Nat) (a0 : (List (List Int))) (r0 : (List (List Int))) (h0 : p_intss F a0 = some r0) : FnD Try.prog 72 [eS5 a0] (fun r => r = eS5 r0) := by
  refine FnD.of (by kernel_rfl) Try.func72 rfl Try.ntmps72 rfl (leb rfl) fun W ok => ?_
  unfold p_intss at h0
  refine AC.seq ?_
  refine AC.region ?_
  refine AO.op rfl (AOp.assign rfl rfl (ltb rfl) rfl ?_)
  refine AO.nil ?_
  change AC _ _ _ _
  refine AC.seq ?_
  refine AC.region ?_
  refine AO.op rfl (AOp.assign rfl rfl (ltb rfl) rfl ?_)
  refine AO.nil ?_
  change AC _ _ _ _
  refine AC.seq ?_
  refine AC.seq ?_
  refine AC.region ?_
  refine AO.op rfl (AOp.move rfl rfl (ltb rfl) rfl ?_)
  refine AO.op rfl (AOp.lenDs (n := a0.length) (cells := (List.map keS5 a0)) rfl rfl (ltb rfl) rfl el27 (by decide) (len1 _ _) ?_)
  refine AO.op rfl (AOp.move rfl rfl (ltb rfl) rfl ?_)
  refine AO.nil ?_
  change AC _ _ _ _
  refine AC.adopt 3 26 1 rfl ?_
  obtain ⟨o1, l2, h0⟩ := bind_elim h0
  refine AC.joinE (V := (List (List Int))) [] [3] 1 (fun g3 => [(3, .own 0)]) (fun g3 => [.grow 26 1 (List.map keS5 g3)]) (fun g3 => p_intss_k1 g3 = some r0) rfl ?_ ?_
  · refine AC.block ?_
    refine AC.loopP (V := (Int × (List (List Int)))) (p_intss_l2 a0) o1 [6, 7] [3, 8] 1 (fun g4 => [(3, .own 0), (8, .d (di .i64 g4.1))]) (fun g4 => [.grow 26 1 (List.map keS5 g4.2)]) F ((0 : Int), []) l2 rfl rfl (LeL.refl _) rfl rfl ?_
    intro n6 g4 h1
    unfold p_intss_l2 at h1
    refine AC.seq ?_
    refine AC.region ?_
    refine AO.op rfl (AOp.ilss rfl rfl (ltb rfl) rfl rfl ?_)
    refine AO.nil ?_
    change AC _ _ _ _
    refine AC.seq ?_
    refine AC.cond rfl (fun q7 => ?_) (fun q7 => ?_)
    · replace h1 := cT h1 q7
      refine AC.skip ?_
      change AC _ _ _ _
      refine AC.seq ?_
      refine AC.block ?_
      refine AC.seq ?_
      refine AC.region ?_
      obtain ⟨x8, q9, h1⟩ := idx_elim h1
      refine AO.op rfl (AOp.indexDs (cells := (List.map keS5 a0)) rfl rfl (ltb rfl) rfl rfl el27 (by decide) q9.1 (lt1 q9.2) ?_)
      refine AO.op rfl (AOp.loadEp rfl rfl (ltb rfl) rfl agg26 (at1 q9.2) ?_)
      refine AO.op rfl (AOp.assign rfl rfl (ltb rfl) rfl ?_)
      refine AO.nil ?_
      change AC _ _ _ _
      refine AC.region ?_
      refine AO.op rfl (AOp.move rfl rfl (ltb rfl) rfl ?_)
      refine AO.op rfl (AOp.move rfl rfl (ltb rfl) rfl ?_)
      obtain ⟨y10, q11, h1⟩ := bind_elim h1
      refine AO.op rfl (AOp.callD rfl rfl (ltb rfl) rfl rfl (w_ints x8 y10 q11) ?_)
      rintro _ rfl
      refine AO.op rfl (AOp.buildSliceD rfl rfl (ltb rfl) el27 zero26 rfl (leb rfl) rfl rfl rfl rfl ?_)
      obtain ⟨q12, h1⟩ := need_elim h1
      refine AO.op rfl (AOp.appendOwn' (p := 0) (n := g4.2.length) (m := [y10].length) (news := (List.map keS5 [y10])) rfl rfl (ltb rfl) rfl rfl el27 info26 rfl (by decide) rfl (len1 _ _) (len1 _ _) (one1 _ (fun _ => rfl) _) q12 (by decide) rfl rfl (cat1 _ _ _) ?_)
      refine AO.op rfl (AOp.assign rfl rfl (ltb rfl) rfl ?_)
      refine AO.nil ?_
      change AC _ _ _ _
      refine AC.region ?_
      obtain ⟨q13, h1⟩ := need_elim h1
      refine AO.op rfl (AOp.iadd rfl rfl (ltb rfl) rfl rfl rfl q13.1 q13.2 ?_)
      refine AO.op rfl (AOp.move rfl rfl (ltb rfl) rfl ?_)
      refine AO.nil ?_
      exact ⟨((g4.1 + (1 : Int)), (g4.2 ++ [y10])), _, rfl, (LeL.refl _), rfl, rfl, h1⟩
    replace h1 := cF h1 q7
    refine AC.exit ?_
    obtain rfl := Option.some.inj h1
    exact ⟨g4.2, _, rfl, (LeL.refl _), rfl, rfl, aftL h0⟩
  intro g3 h0
  unfold p_intss_k1 at h0
  change AC _ _ _ _
  refine AC.seq ?_
  refine AC.region ?_
  refine AO.op rfl (AOp.move rfl rfl (ltb rfl) rfl ?_)
  refine AO.op rfl (AOp.assign rfl rfl (ltb rfl) rfl ?_)
  refine AO.nil ?_
  change AC _ _ _ _
  refine AC.ret ?_
  change RetQ _ _ _ .ret _
  obtain rfl := Option.some.inj h0
  refine retq rfl rfl

set_option maxRecDepth 100000 in
set_option maxHeartbeats 1000000 in
/-- pub-orthodrome/impl.SetAreas -/
theorem w_SetAreas (F : Nat) (a0 : Int) (a1 : (List (List (List (List Nat))))) (r0 : (TImpl_Geom × Bool)) (h0 : p_SetAreas F a0 a1 = some r0) : FnD Try.prog 13 [di .i64 a0, eS0 a1] (fun r => r = .tu [e_TImpl_Geom r0.1, dbool r0.2]) := by
  refine FnD.wrap (g := 36) (m := 2) (fun vs w h => idle36 vs w h) (by kernel_rfl) Try.func13 rfl Try.ntmps13 rfl (leb rfl) fun W ok => ?_
  unfold p_SetAreas at h0
  refine AW.seq ?_
  refine AC.region ?_
  refine AO.op rfl (AOp.alloc rfl rfl (ltb rfl) zero30 rfl ?_)
  refine AO.op rfl (AOp.alloc rfl rfl (ltb rfl) zero4 rfl ?_)
  refine AO.nil ?_
  refine ⟨rfl, ?_⟩
  refine AW.defer (caps := [.tmp 4, .tmp 5]) rfl rfl rfl (ltb rfl) rfl rfl rfl rfl (by kernel_rfl) rfl fun df => ?_
  refine AC.seq ?_
  refine AC.region ?_
  refine AO.op rfl (AOp.move rfl rfl (ltb rfl) rfl ?_)
  refine AO.op rfl (AOp.inl [1, 4, 5] (by kernel_rfl) Try.func37 rfl Try.ntmps37 rfl rfl (ltb rfl) rfl (leb rfl) rfl ?_)
  intro fr1
  refine AC.seq ?_
  refine AC.region ?_
  refine AO.op rfl (AOp.assign rfl rfl (ltb rfl) rfl ?_)
  refine AO.nil ?_
  change AC _ _ _ _
  refine AC.seq ?_
  refine AC.region ?_
  refine AO.op rfl (AOp.move rfl rfl (ltb rfl) rfl ?_)
  refine AO.op rfl (AOp.inl [2] (by kernel_rfl) Try.func66 rfl Try.ntmps66 rfl rfl (ltb rfl) rfl (leb rfl) rfl ?_)
  intro fr2
  refine AC.seq ?_
  refine AC.region ?_
  refine AO.op rfl (AOp.assign rfl rfl (ltb rfl) rfl ?_)
  refine AO.nil ?_
  change AC _ _ _ _
  refine AC.seq ?_
  refine AC.region ?_
  refine AO.op rfl (AOp.alloc rfl rfl (ltb rfl) zero114 rfl ?_)
  refine AO.op rfl (AOp.assign rfl rfl (ltb rfl) rfl ?_)
  refine AO.nil ?_
  change AC _ _ _ _
  refine AC.seq ?_
  refine AC.region ?_
  refine AO.op rfl (AOp.move rfl rfl (ltb rfl) rfl ?_)
  refine AO.op rfl (AOp.move rfl rfl (ltb rfl) rfl ?_)
  refine AO.op rfl (AOp.nilCheck rfl rfl (ltb rfl) rfl rfl ?_)
  refine AO.op rfl (AOp.fieldAddr rfl rfl (ltb rfl) rfl fo114_0 ?_)
  refine AO.op rfl (AOp.fieldAddr rfl rfl (ltb rfl) rfl fo112_0 ?_)
  refine AO.op rfl (AOp.fieldAddr rfl rfl (ltb rfl) rfl fo110_0 ?_)
  refine AO.op rfl (AOp.fieldAddr rfl rfl (ltb rfl) rfl fo108_0 ?_)
  refine AO.op rfl (AOp.store rfl rfl rfl rfl size69 rfl rfl rfl (leb rfl) ?_)
  refine AO.nil ?_
  change AC _ _ _ _
  refine AC.seq ?_
  refine AC.region ?_
  refine AO.op rfl (AOp.move rfl rfl (ltb rfl) rfl ?_)
  refine AO.op rfl (AOp.move rfl rfl (ltb rfl) rfl ?_)
  obtain ⟨y3, q4, h0⟩ := bind_elim h0
  refine AO.op rfl (AOp.callD rfl rfl (ltb rfl) rfl rfl (w_Layout_Stride a0 y3 q4) ?_)
  rintro _ rfl
  refine AO.op rfl (AOp.nilCheck rfl rfl (ltb rfl) rfl rfl ?_)
  refine AO.op rfl (AOp.fieldAddr rfl rfl (ltb rfl) rfl fo114_0 ?_)
  refine AO.op rfl (AOp.fieldAddr rfl rfl (ltb rfl) rfl fo112_0 ?_)
  refine AO.op rfl (AOp.fieldAddr rfl rfl (ltb rfl) rfl fo110_0 ?_)
  refine AO.op rfl (AOp.fieldAddr rfl rfl (ltb rfl) rfl fo108_1 ?_)
  refine AO.op rfl (AOp.store rfl rfl rfl rfl size3 rfl rfl rfl (leb rfl) ?_)
  refine AO.nil ?_
  change AC _ _ _ _
  refine AC.seq ?_
  refine AC.region ?_
  refine AO.op rfl (AOp.move rfl rfl (ltb rfl) rfl ?_)
  refine AO.op rfl (AOp.move rfl rfl (ltb rfl) rfl ?_)
  refine AO.op rfl (AOp.nilCheck rfl rfl (ltb rfl) rfl rfl ?_)
  refine AO.op rfl (AOp.fieldAddr rfl rfl (ltb rfl) rfl fo114_0 ?_)
  refine AO.op rfl (AOp.fieldAddr rfl rfl (ltb rfl) rfl fo112_0 ?_)
  refine AO.op rfl (AOp.fieldAddr rfl rfl (ltb rfl) rfl fo110_0 ?_)
  refine AO.op rfl (AOp.fieldAddr rfl rfl (ltb rfl) rfl fo108_2 ?_)
  refine AO.op rfl (AOp.store rfl rfl rfl rfl size25 rfl rfl rfl (leb rfl) ?_)
  refine AO.nil ?_
  change AC _ _ _ _
  refine AC.seq ?_
  refine AC.region ?_
  refine AO.op rfl (AOp.move rfl rfl (ltb rfl) rfl ?_)
  refine AO.op rfl (AOp.move rfl rfl (ltb rfl) rfl ?_)
  refine AO.op rfl (AOp.nilCheck rfl rfl (ltb rfl) rfl rfl ?_)
  refine AO.op rfl (AOp.fieldAddr rfl rfl (ltb rfl) rfl fo114_0 ?_)
  refine AO.op rfl (AOp.fieldAddr rfl rfl (ltb rfl) rfl fo112_1 ?_)
  refine AO.op rfl (AOp.store rfl rfl rfl rfl size27 rfl rfl rfl (leb rfl) ?_)
  refine AO.nil ?_
  change AC _ _ _ _
  refine AC.seq ?_
  refine AC.region ?_
  refine AO.op rfl (AOp.move rfl rfl (ltb rfl) rfl ?_)
  refine AO.op rfl (AOp.assign rfl rfl (ltb rfl) rfl ?_)
  refine AO.nil ?_
  change AC _ _ _ _
  refine AC.ret ?_
  refine inlret (ob' := [.fix 30 [.d (di .i64 (0 : Int)), .d (di .i64 (0 : Int)), .d (di .i64 (0 : Int)), .d (.v (.slice none 0 0)), .d (.v (.slice none 0 0)), .d (.v (.slice none 0 0)), .d (.v (.slice none 0 0))], .fix 4 [.d (dbool false)], .frame fr1 [(1, .d (eS0 a1)), (4, .ptr 0 0), (5, .ptr 1 0)], .dead, .fix 114 [.d (di .i64 a0), .d (di .i64 y3), .d (.v (.slice none 0 0)), .d (di .i64 (0 : Int)), .d (.v (.slice none 0 0))]]) (e' := [(2, .d (.v (.pointer none)))]) (r := .ptr 4 0) rfl rfl rfl ?_
  change AO _ _ _ _ _
  refine AO.op rfl (AOp.assign rfl rfl (ltb rfl) rfl ?_)
  refine AO.nil ?_
  change AC _ _ _ _
  refine AC.ret ?_
  refine inlret (ob' := [.fix 30 [.d (di .i64 (0 : Int)), .d (di .i64 (0 : Int)), .d (di .i64 (0 : Int)), .d (.v (.slice none 0 0)), .d (.v (.slice none 0 0)), .d (.v (.slice none 0 0)), .d (.v (.slice none 0 0))], .fix 4 [.d (dbool false)], .dead, .dead, .fix 114 [.d (di .i64 a0), .d (di .i64 y3), .d (.v (.slice none 0 0)), .d (di .i64 (0 : Int)), .d (.v (.slice none 0 0))]]) (e' := [(1, .d (eS0 a1)), (4, .ptr 0 0), (5, .ptr 1 0)]) (r := .ptr 4 0) rfl rfl rfl ?_
  change AO _ _ _ _ _
  refine AO.op rfl (AOp.move rfl rfl (ltb rfl) rfl ?_)
  obtain ⟨y5, q6, h0⟩ := bind_elim h0
  refine AO.op rfl (AOp.callD rfl rfl (ltb rfl) rfl rfl (w_coords3 F a1 y5 q6) ?_)
  rintro _ rfl
  refine AO.op rfl (AOp.inl [4, 5] (by kernel_rfl) Try.func38 rfl Try.ntmps38 rfl rfl (ltb rfl) rfl (leb rfl) rfl ?_)
  intro fr7
  refine AC.seq ?_
  refine AC.region ?_
  refine AO.op rfl (AOp.assign rfl rfl (ltb rfl) rfl ?_)
  refine AO.op rfl (AOp.assign rfl rfl (ltb rfl) rfl ?_)
  refine AO.nil ?_
  change AC _ _ _ _
  refine AC.seq ?_
  refine AC.seq ?_
  refine AC.region ?_
  refine AO.op rfl (AOp.move rfl rfl (ltb rfl) rfl ?_)
  refine AO.op rfl (AOp.nilCheck rfl rfl (ltb rfl) rfl rfl ?_)
  refine AO.op rfl (AOp.fieldAddr rfl rfl (ltb rfl) rfl fo114_0 ?_)
  refine AO.op rfl (AOp.move rfl rfl (ltb rfl) rfl ?_)
  refine AO.op rfl (AOp.inl [0] (by kernel_rfl) Try.func67 rfl Try.ntmps67 rfl rfl (ltb rfl) rfl (leb rfl) rfl ?_)
  intro fr8
  refine AC.seq ?_
  refine AC.region ?_
  refine AO.op rfl (AOp.assign rfl rfl (ltb rfl) rfl ?_)
  refine AO.nil ?_
  change AC _ _ _ _
  refine AC.seq ?_
  refine AC.region ?_
  refine AO.op rfl (AOp.assign rfl rfl (ltb rfl) rfl ?_)
  refine AO.nil ?_
  change AC _ _ _ _
  refine AC.seq ?_
  refine AC.region ?_
  refine AO.op rfl (AOp.move rfl rfl (ltb rfl) rfl ?_)
  refine AO.op rfl (AOp.move rfl rfl (ltb rfl) rfl ?_)
  refine AO.op rfl (AOp.move rfl rfl (ltb rfl) rfl ?_)
  refine AO.op rfl (AOp.move rfl rfl (ltb rfl) rfl ?_)
  refine AO.op rfl (AOp.nilCheck rfl rfl (ltb rfl) rfl rfl ?_)
  refine AO.op rfl (AOp.fieldAddr rfl rfl (ltb rfl) rfl fo112_0 ?_)
  refine AO.op rfl (AOp.fieldAddr rfl rfl (ltb rfl) rfl fo110_0 ?_)
  refine AO.op rfl (AOp.fieldAddr rfl rfl (ltb rfl) rfl fo108_1 ?_)
  refine AO.op rfl (AOp.load1 rfl rfl (ltb rfl) rfl agg3 rfl rfl ?_)
  refine AO.op rfl (AOp.inl [5, 7, 8] (by kernel_rfl) Try.func102 rfl Try.ntmps102 rfl rfl (ltb rfl) rfl (leb rfl) rfl ?_)
  intro fr9
  refine AC.seq ?_
  refine AC.region ?_
  refine AO.op rfl (AOp.assign rfl rfl (ltb rfl) rfl ?_)
  refine AO.op rfl (AOp.assign rfl rfl (ltb rfl) rfl ?_)
  refine AO.op rfl (AOp.assign rfl rfl (ltb rfl) rfl ?_)
  refine AO.nil ?_
  change AC _ _ _ _
  refine AC.seq ?_
  refine AC.seq ?_
  refine AC.region ?_
  refine AO.op rfl (AOp.move rfl rfl (ltb rfl) rfl ?_)
  refine AO.op rfl (AOp.lenDs (n := y5.length) (cells := (List.map keS0 y5)) rfl rfl (ltb rfl) rfl el71 (by decide) (len1 _ _) ?_)
  refine AO.op rfl (AOp.move rfl rfl (ltb rfl) rfl ?_)
  refine AO.nil ?_
  change AC _ _ _ _
  refine AC.adopt 0 37 1 rfl ?_
  refine AC.adopt 1 26 1 rfl ?_
  obtain ⟨o10, l11, h0⟩ := bind_elim h0
  refine AC.joinE (V := ((List Nat) × (List (List Int)))) [] [0, 1] 10 (fun g12 => [(0, .own 8), (1, .own 9)]) (fun g12 => [.fix 30 [.d (di .i64 (0 : Int)), .d (di .i64 (0 : Int)), .d (di .i64 (0 : Int)), .d (.v (.slice none 0 0)), .d (.v (.slice none 0 0)), .d (.v (.slice none 0 0)), .d (.v (.slice none 0 0))], .fix 4 [.d (dbool false)], .dead, .dead, .fix 114 [.d (di .i64 a0), .d (di .i64 y3), .d (.v (.slice none 0 0)), .d (di .i64 (0 : Int)), .d (.v (.slice none 0 0))], .frame fr7 [(4, .ptr 0 0), (5, .ptr 1 0)], .frame fr8 [(0, .ptr 4 0)], .frame fr9 [(5, .d (.v (.nilIface))), (7, .ptr 4 0), (8, .ptr 4 0)], .grow 37 1 (List.map keS3 g12.1), .grow 26 1 (List.map keS5 g12.2)]) (fun g12 => (p_SetAreas_k1 a0 F) g12 = some r0) rfl ?_ ?_
  · refine AC.block ?_
    refine AC.loopP (V := (Int × (List Nat) × (List (List Int)))) (p_SetAreas_l2 F y3 y5) o10 [3, 15, 16] [0, 1, 17] 10 (fun g25 => [(0, .own 8), (1, .own 9), (17, .d (di .i64 g25.1))]) (fun g25 => [.fix 30 [.d (di .i64 (0 : Int)), .d (di .i64 (0 : Int)), .d (di .i64 (0 : Int)), .d (.v (.slice none 0 0)), .d (.v (.slice none 0 0)), .d (.v (.slice none 0 0)), .d (.v (.slice none 0 0))], .fix 4 [.d (dbool false)], .dead, .dead, .fix 114 [.d (di .i64 a0), .d (di .i64 y3), .d (.v (.slice none 0 0)), .d (di .i64 (0 : Int)), .d (.v (.slice none 0 0))], .frame fr7 [(4, .ptr 0 0), (5, .ptr 1 0)], .frame fr8 [(0, .ptr 4 0)], .frame fr9 [(5, .d (.v (.nilIface))), (7, .ptr 4 0), (8, .ptr 4 0)], .grow 37 1 (List.map keS3 g25.2.1), .grow 26 1 (List.map keS5 g25.2.2)]) F ((0 : Int), [], []) l11 rfl rfl (LeL.refl _) rfl rfl ?_
    intro n27 g25 h1
    unfold p_SetAreas_l2 at h1
    refine AC.seq ?_
    refine AC.region ?_
    refine AO.op rfl (AOp.ilss rfl rfl (ltb rfl) rfl rfl ?_)
    refine AO.nil ?_
    change AC _ _ _ _
    refine AC.seq ?_
    refine AC.cond rfl (fun q28 => ?_) (fun q28 => ?_)
    · replace h1 := cT h1 q28
      refine AC.skip ?_
      change AC _ _ _ _
      refine AC.seq ?_
      refine AC.block ?_
      refine AC.seq ?_
      refine AC.region ?_
      obtain ⟨x29, q30, h1⟩ := idx_elim h1
      refine AO.op rfl (AOp.indexDs (cells := (List.map keS0 y5)) rfl rfl (ltb rfl) rfl rfl el71 (by decide) q30.1 (lt1 q30.2) ?_)
      refine AO.op rfl (AOp.loadEp rfl rfl (ltb rfl) rfl agg93 (at1 q30.2) ?_)
      refine AO.op rfl (AOp.assign rfl rfl (ltb rfl) rfl ?_)
      refine AO.nil ?_
      change AC _ _ _ _
      refine AC.seq ?_
      refine AC.region ?_
      refine AO.op rfl (AOp.assign rfl rfl (ltb rfl) rfl ?_)
      refine AO.nil ?_
      change AC _ _ _ _
      refine AC.seq ?_
      refine AC.region ?_
      refine AO.op rfl (AOp.assign rfl rfl (ltb rfl) rfl ?_)
      refine AO.nil ?_
      change AC _ _ _ _
      refine AC.seq ?_
      refine AC.region ?_
      refine AO.op rfl (AOp.move rfl rfl (ltb rfl) rfl ?_)
      refine AO.op rfl (AOp.move rfl rfl (ltb rfl) rfl ?_)
      refine AO.op rfl (AOp.move rfl rfl (ltb rfl) rfl ?_)
      refine AO.op rfl (AOp.move rfl rfl (ltb rfl) rfl ?_)
      refine AO.op rfl (AOp.inl [0, 1, 3, 13, 14, 15, 16, 17] (by kernel_rfl) Try.func112 rfl Try.ntmps112 rfl rfl (ltb rfl) rfl (leb rfl) rfl ?_)
      intro fr31
      refine AC.seq ?_
      refine AC.region ?_
      refine AO.op rfl (AOp.assign rfl rfl (ltb rfl) rfl ?_)
      refine AO.op rfl (AOp.assign rfl rfl (ltb rfl) rfl ?_)
      refine AO.op rfl (AOp.assign rfl rfl (ltb rfl) rfl ?_)
      refine AO.nil ?_
      change AC _ _ _ _
      refine AC.seq ?_
      refine AC.seq ?_
      refine AC.region ?_
      refine AO.op rfl (AOp.move rfl rfl (ltb rfl) rfl ?_)
      refine AO.op rfl (AOp.lenDs (n := x29.length) (cells := (List.map keS1 x29)) rfl rfl (ltb rfl) rfl el93 (by decide) (len1 _ _) ?_)
      refine AO.op rfl (AOp.move rfl rfl (ltb rfl) rfl ?_)
      refine AO.nil ?_
      change AC _ _ _ _
      refine AC.adopt 1 3 1 rfl ?_
      refine AC.subF 10 [1, 3, 13, 14, 15, 16, 17] rfl rfl ?_
      obtain ⟨o32, l33, h1⟩ := bind_elim h1
      refine AC.joinE (V := ((List Nat) × (List Int))) [] [0, 1] 12 (fun g34 => [(0, .own 8), (1, .own 11)]) (fun g34 => [.fix 30 [.d (di .i64 (0 : Int)), .d (di .i64 (0 : Int)), .d (di .i64 (0 : Int)), .d (.v (.slice none 0 0)), .d (.v (.slice none 0 0)), .d (.v (.slice none 0 0)), .d (.v (.slice none 0 0))], .fix 4 [.d (dbool false)], .dead, .dead, .fix 114 [.d (di .i64 a0), .d (di .i64 y3), .d (.v (.slice none 0 0)), .d (di .i64 (0 : Int)), .d (.v (.slice none 0 0))], .frame fr7 [(4, .ptr 0 0), (5, .ptr 1 0)], .frame fr8 [(0, .ptr 4 0)], .frame fr9 [(5, .d (.v (.nilIface))), (7, .ptr 4 0), (8, .ptr 4 0)], .grow 37 1 (List.map keS3 g34.1), .grow 26 1 (List.map keS5 g25.2.2), .frame fr31 [(1, .own 9), (3, .d (di .i64 y3)), (13, .d (.v (.nilIface))), (14, .d (.v (.slice none 0 0))), (15, .d (eS0 y5)), (16, .d (di .i64 ((y5.length : Nat) : Int))), (17, .d (di .i64 g25.1))], .grow 3 1 (List.map keS4 g34.2)]) (fun g34 => (p_SetAreas_k3 g25 (iter (p_SetAreas_l2 F y3 y5) n27)) g34 = some o10) rfl ?_ ?_
      · refine AC.block ?_
        refine AC.loopP (V := (Int × (List Nat) × (List Int))) (p_SetAreas_l4 F y3 x29) o32 [3, 14, 15] [0, 1, 16] 12 (fun g37 => [(0, .own 8), (1, .own 11), (16, .d (di .i64 g37.1))]) (fun g37 => [.fix 30 [.d (di .i64 (0 : Int)), .d (di .i64 (0 : Int)), .d (di .i64 (0 : Int)), .d (.v (.slice none 0 0)), .d (.v (.slice none 0 0)), .d (.v (.slice none 0 0)), .d (.v (.slice none 0 0))], .fix 4 [.d (dbool false)], .dead, .dead, .fix 114 [.d (di .i64 a0), .d (di .i64 y3), .d (.v (.slice none 0 0)), .d (di .i64 (0 : Int)), .d (.v (.slice none 0 0))], .frame fr7 [(4, .ptr 0 0), (5, .ptr 1 0)], .frame fr8 [(0, .ptr 4 0)], .frame fr9 [(5, .d (.v (.nilIface))), (7, .ptr 4 0), (8, .ptr 4 0)], .grow 37 1 (List.map keS3 g37.2.1), .grow 26 1 (List.map keS5 g25.2.2), .frame fr31 [(1, .own 9), (3, .d (di .i64 y3)), (13, .d (.v (.nilIface))), (14, .d (.v (.slice none 0 0))), (15, .d (eS0 y5)), (16, .d (di .i64 ((y5.length : Nat) : Int))), (17, .d (di .i64 g25.1))], .grow 3 1 (List.map keS4 g37.2.2)]) F ((0 : Int), g25.2.1, []) l33 rfl rfl (LeL.refl _) rfl rfl ?_
        intro n39 g37 h2
        unfold p_SetAreas_l4 at h2
        refine AC.seq ?_
        refine AC.region ?_
        refine AO.op rfl (AOp.ilss rfl rfl (ltb rfl) rfl rfl ?_)
        refine AO.nil ?_
        change AC _ _ _ _
        refine AC.seq ?_
        refine AC.cond rfl (fun q40 => ?_) (fun q40 => ?_)
        · replace h2 := cT h2 q40
          refine AC.skip ?_
          change AC _ _ _ _
          refine AC.seq ?_
          refine AC.block ?_
          refine AC.seq ?_
          refine AC.region ?_
          obtain ⟨x41, q42, h2⟩ := idx_elim h2
          refine AO.op rfl (AOp.indexDs (cells := (List.map keS1 x29)) rfl rfl (ltb rfl) rfl rfl el93 (by decide) q42.1 (lt1 q42.2) ?_)
          refine AO.op rfl (AOp.loadEp rfl rfl (ltb rfl) rfl agg158 (at1 q42.2) ?_)
          refine AO.op rfl (AOp.assign rfl rfl (ltb rfl) rfl ?_)
          refine AO.nil ?_
          change AC _ _ _ _
          refine AC.seq ?_
          refine AC.region ?_
          refine AO.op rfl (AOp.assign rfl rfl (ltb rfl) rfl ?_)
          refine AO.nil ?_
          change AC _ _ _ _
          refine AC.seq ?_
          refine AC.region ?_
          refine AO.op rfl (AOp.move rfl rfl (ltb rfl) rfl ?_)
          refine AO.op rfl (AOp.move rfl rfl (ltb rfl) rfl ?_)
          refine AO.op rfl (AOp.move rfl rfl (ltb rfl) rfl ?_)
          refine AO.op rfl (AOp.inl [0, 1, 3, 13, 14, 15, 16] (by kernel_rfl) Try.func114 rfl Try.ntmps114 rfl rfl (ltb rfl) rfl (leb rfl) rfl ?_)
          intro fr43
          refine AC.seq ?_
          refine AC.region ?_
          refine AO.op rfl (AOp.assign rfl rfl (ltb rfl) rfl ?_)
          refine AO.op rfl (AOp.assign rfl rfl (ltb rfl) rfl ?_)
          refine AO.nil ?_
          change AC _ _ _ _
          refine AC.seq ?_
          refine AC.seq ?_
          refine AC.region ?_
          refine AO.op rfl (AOp.move rfl rfl (ltb rfl) rfl ?_)
          refine AO.op rfl (AOp.lenDs (n := x41.length) (cells := (List.map keS2 x41)) rfl rfl (ltb rfl) rfl el158 (by decide) (len1 _ _) ?_)
          refine AO.op rfl (AOp.move rfl rfl (ltb rfl) rfl ?_)
          refine AO.nil ?_
          change AC _ _ _ _
          refine AC.subF 12 [1, 3, 13, 14, 15, 16] rfl rfl ?_
          obtain ⟨o44, l45, h2⟩ := bind_elim h2
          refine AC.joinE (V := (List Nat)) [] [0] 13 (fun g46 => [(0, .own 8)]) (fun g46 => [.fix 30 [.d (di .i64 (0 : Int)), .d (di .i64 (0 : Int)), .d (di .i64 (0 : Int)), .d (.v (.slice none 0 0)), .d (.v (.slice none 0 0)), .d (.v (.slice none 0 0)), .d (.v (.slice none 0 0))], .fix 4 [.d (dbool false)], .dead, .dead, .fix 114 [.d (di .i64 a0), .d (di .i64 y3), .d (.v (.slice none 0 0)), .d (di .i64 (0 : Int)), .d (.v (.slice none 0 0))], .frame fr7 [(4, .ptr 0 0), (5, .ptr 1 0)], .frame fr8 [(0, .ptr 4 0)], .frame fr9 [(5, .d (.v (.nilIface))), (7, .ptr 4 0), (8, .ptr 4 0)], .grow 37 1 (List.map keS3 g46), .grow 26 1 (List.map keS5 g25.2.2), .frame fr31 [(1, .own 9), (3, .d (di .i64 y3)), (13, .d (.v (.nilIface))), (14, .d (.v (.slice none 0 0))), (15, .d (eS0 y5)), (16, .d (di .i64 ((y5.length : Nat) : Int))), (17, .d (di .i64 g25.1))], .grow 3 1 (List.map keS4 g37.2.2), .frame fr43 [(1, .own 11), (3, .d (di .i64 y3)), (13, .d (.v (.nilIface))), (14, .d (eS1 x29)), (15, .d (di .i64 ((x29.length : Nat) : Int))), (16, .d (di .i64 g37.1))]]) (fun g46 => (p_SetAreas_k5 g37 (iter (p_SetAreas_l4 F y3 x29) n39)) g46 = some o32) rfl ?_ ?_
          · refine AC.block ?_
            refine AC.loopP (V := (Int × (List Nat))) (p_SetAreas_l6 y3 x41) o44 [2, 11, 12] [0, 13] 13 (fun g49 => [(0, .own 8), (13, .d (di .i64 g49.1))]) (fun g49 => [.fix 30 [.d (di .i64 (0 : Int)), .d (di .i64 (0 : Int)), .d (di .i64 (0 : Int)), .d (.v (.slice none 0 0)), .d (.v (.slice none 0 0)), .d (.v (.slice none 0 0)), .d (.v (.slice none 0 0))], .fix 4 [.d (dbool false)], .dead, .dead, .fix 114 [.d (di .i64 a0), .d (di .i64 y3), .d (.v (.slice none 0 0)), .d (di .i64 (0 : Int)), .d (.v (.slice none 0 0))], .frame fr7 [(4, .ptr 0 0), (5, .ptr 1 0)], .frame fr8 [(0, .ptr 4 0)], .frame fr9 [(5, .d (.v (.nilIface))), (7, .ptr 4 0), (8, .ptr 4 0)], .grow 37 1 (List.map keS3 g49.2), .grow 26 1 (List.map keS5 g25.2.2), .frame fr31 [(1, .own 9), (3, .d (di .i64 y3)), (13, .d (.v (.nilIface))), (14, .d (.v (.slice none 0 0))), (15, .d (eS0 y5)), (16, .d (di .i64 ((y5.length : Nat) : Int))), (17, .d (di .i64 g25.1))], .grow 3 1 (List.map keS4 g37.2.2), .frame fr43 [(1, .own 11), (3, .d (di .i64 y3)), (13, .d (.v (.nilIface))), (14, .d (eS1 x29)), (15, .d (di .i64 ((x29.length : Nat) : Int))), (16, .d (di .i64 g37.1))]]) F ((0 : Int), g37.2.1) l45 rfl rfl (LeL.refl _) rfl rfl ?_
            intro n51 g49 h3
            unfold p_SetAreas_l6 at h3
            refine AC.seq ?_
            refine AC.region ?_
            refine AO.op rfl (AOp.ilss rfl rfl (ltb rfl) rfl rfl ?_)
            refine AO.nil ?_
            change AC _ _ _ _
            refine AC.seq ?_
            refine AC.cond rfl (fun q52 => ?_) (fun q52 => ?_)
            · replace h3 := cT h3 q52
              refine AC.skip ?_
              change AC _ _ _ _
              refine AC.seq ?_
              refine AC.block ?_
              refine AC.seq ?_
              refine AC.region ?_
              obtain ⟨x53, q54, h3⟩ := idx_elim h3
              refine AO.op rfl (AOp.indexDs (cells := (List.map keS2 x41)) rfl rfl (ltb rfl) rfl rfl el158 (by decide) q54.1 (lt1 q54.2) ?_)
              refine AO.op rfl (AOp.loadEp rfl rfl (ltb rfl) rfl agg172 (at1 q54.2) ?_)
              refine AO.op rfl (AOp.assign rfl rfl (ltb rfl) rfl ?_)
              refine AO.nil ?_
              change AC _ _ _ _
              refine AC.seq ?_
              refine AC.region ?_
              refine AO.op rfl (AOp.assign rfl rfl (ltb rfl) rfl ?_)
              refine AO.nil ?_
              change AC _ _ _ _
              refine AC.seq ?_
              refine AC.region ?_
              refine AO.op rfl (AOp.move rfl rfl (ltb rfl) rfl ?_)
              refine AO.op rfl (AOp.move rfl rfl (ltb rfl) rfl ?_)
              refine AO.op rfl (AOp.move rfl rfl (ltb rfl) rfl ?_)
              refine AO.op rfl (AOp.inl [0, 2, 10, 11, 12, 13] (by kernel_rfl) Try.func115 rfl Try.ntmps115 rfl rfl (ltb rfl) rfl (leb rfl) rfl ?_)
              intro fr55
              refine AC.seq ?_
              refine AC.region ?_
              refine AO.op rfl (AOp.assign rfl rfl (ltb rfl) rfl ?_)
              refine AO.op rfl (AOp.assign rfl rfl (ltb rfl) rfl ?_)
              refine AO.nil ?_
              change AC _ _ _ _
              refine AC.seq ?_
              refine AC.seq ?_
              refine AC.region ?_
              refine AO.op rfl (AOp.move rfl rfl (ltb rfl) rfl ?_)
              refine AO.op rfl (AOp.lenDs (n := x53.length) (cells := (List.map keS3 x53)) rfl rfl (ltb rfl) rfl el172 (by decide) (len1 _ _) ?_)
              refine AO.op rfl (AOp.move rfl rfl (ltb rfl) rfl ?_)
              refine AO.op rfl (AOp.ineq rfl rfl (ltb rfl) rfl rfl ?_)
              refine AO.nil ?_
              change AC _ _ _ _
              refine AC.cond rfl (fun q56 => ?_) (fun q56 => ?_)
              · replace h3 := cT h3 q56
                refine AC.seq ?_
                refine AC.region ?_
                refine AO.op rfl (AOp.move rfl rfl (ltb rfl) rfl ?_)
                refine AO.op rfl (AOp.lenDs (n := x53.length) (cells := (List.map keS3 x53)) rfl rfl (ltb rfl) rfl el172 (by decide) (len1 _ _) ?_)
                refine AO.op rfl (AOp.move rfl rfl (ltb rfl) rfl ?_)
                refine AO.op rfl (AOp.build rfl rfl (ltb rfl) zero184 rfl places184 rfl rfl ?_)
                refine AO.op rfl (AOp.makeIfc rfl rfl (ltb rfl) rfl conc184 ?_)
                refine AO.op rfl (AOp.assign rfl rfl (ltb rfl) rfl ?_)
                refine AO.op rfl (AOp.assign rfl rfl (ltb rfl) rfl ?_)
                refine AO.nil ?_
                change AC _ _ _ _
                refine AC.ret ?_
                refine inlret (ob' := [.fix 30 [.d (di .i64 (0 : Int)), .d (di .i64 (0 : Int)), .d (di .i64 (0 : Int)), .d (.v (.slice none 0 0)), .d (.v (.slice none 0 0)), .d (.v (.slice none 0 0)), .d (.v (.slice none 0 0))], .fix 4 [.d (dbool false)], .dead, .dead, .fix 114 [.d (di .i64 a0), .d (di .i64 y3), .d (.v (.slice none 0 0)), .d (di .i64 (0 : Int)), .d (.v (.slice none 0 0))], .frame fr7 [(4, .ptr 0 0), (5, .ptr 1 0)], .frame fr8 [(0, .ptr 4 0)], .frame fr9 [(5, .d (.v (.nilIface))), (7, .ptr 4 0), (8, .ptr 4 0)], .grow 37 1 (List.map keS3 g49.2), .grow 26 1 (List.map keS5 g25.2.2), .frame fr31 [(1, .own 9), (3, .d (di .i64 y3)), (13, .d (.v (.nilIface))), (14, .d (.v (.slice none 0 0))), (15, .d (eS0 y5)), (16, .d (di .i64 ((y5.length : Nat) : Int))), (17, .d (di .i64 g25.1))], .grow 3 1 (List.map keS4 g37.2.2), .frame fr43 [(1, .own 11), (3, .d (di .i64 y3)), (13, .d (.v (.nilIface))), (14, .d (eS1 x29)), (15, .d (di .i64 ((x29.length : Nat) : Int))), (16, .d (di .i64 g37.1))], .dead]) (e' := [(0, .own 8), (2, .d (di .i64 y3)), (10, .d (.v (.nilIface))), (11, .d (eS2 x41)), (12, .d (di .i64 ((x41.length : Nat) : Int))), (13, .d (di .i64 g49.1))]) (r := .tu [.d (.v (.slice none 0 0)), .ifc 184 (.ag [.d (di .i64 ((x53.length : Nat) : Int)), .d (di .i64 y3)])]) rfl rfl rfl ?_
                change AO _ _ _ _ _
                refine AO.op rfl (AOp.move rfl rfl (ltb rfl) rfl ?_)
                first | refine AO.op rfl (AOp.extractD rfl rfl (ltb rfl) rfl rfl ?_) | refine AO.op rfl (AOp.extract rfl rfl (ltb rfl) rfl rfl ?_)
                first | refine AO.op rfl (AOp.extractD rfl rfl (ltb rfl) rfl rfl ?_) | refine AO.op rfl (AOp.extract rfl rfl (ltb rfl) rfl rfl ?_)
                refine AO.op rfl (AOp.assign rfl rfl (ltb rfl) rfl ?_)
                refine AO.op rfl (AOp.assign rfl rfl (ltb rfl) rfl ?_)
                refine AO.nil ?_
                change AC _ _ _ _
                refine AC.seq ?_
                refine AC.region ?_
                refine AO.op rfl (AOp.move rfl rfl (ltb rfl) rfl ?_)
                refine AO.op rfl (AOp.ifcNeq rfl rfl (ltb rfl) rfl rfl imeth66 ?_)
                refine AO.nil ?_
                change AC _ _ _ _
                refine AC.condT rfl rfl ?_
                refine AC.seq ?_
                refine AC.region ?_
                refine AO.op rfl (AOp.move rfl rfl (ltb rfl) rfl ?_)
                refine AO.op rfl (AOp.assign rfl rfl (ltb rfl) rfl ?_)
                refine AO.op rfl (AOp.assign rfl rfl (ltb rfl) rfl ?_)
                refine AO.nil ?_
                change AC _ _ _ _
                refine AC.ret ?_
                change InlQ _ _ _ _ _ _ _ _ .ret _
                obtain ⟨rr57, hr58, ho59⟩ := bind_elim h3
                obtain rfl := Option.some.inj ho59
                replace h2 := aftR h2
                obtain rfl := Option.some.inj h2
                replace h2 := hr58
                refine inlret (ob' := [.fix 30 [.d (di .i64 (0 : Int)), .d (di .i64 (0 : Int)), .d (di .i64 (0 : Int)), .d (.v (.slice none 0 0)), .d (.v (.slice none 0 0)), .d (.v (.slice none 0 0)), .d (.v (.slice none 0 0))], .fix 4 [.d (dbool false)], .dead, .dead, .fix 114 [.d (di .i64 a0), .d (di .i64 y3), .d (.v (.slice none 0 0)), .d (di .i64 (0 : Int)), .d (.v (.slice none 0 0))], .frame fr7 [(4, .ptr 0 0), (5, .ptr 1 0)], .frame fr8 [(0, .ptr 4 0)], .frame fr9 [(5, .d (.v (.nilIface))), (7, .ptr 4 0), (8, .ptr 4 0)], .grow 37 1 (List.map keS3 g49.2), .grow 26 1 (List.map keS5 g25.2.2), .frame fr31 [(1, .own 9), (3, .d (di .i64 y3)), (13, .d (.v (.nilIface))), (14, .d (.v (.slice none 0 0))), (15, .d (eS0 y5)), (16, .d (di .i64 ((y5.length : Nat) : Int))), (17, .d (di .i64 g25.1))], .grow 3 1 (List.map keS4 g37.2.2), .dead, .dead]) (e' := [(1, .own 11), (3, .d (di .i64 y3)), (13, .d (.v (.nilIface))), (14, .d (eS1 x29)), (15, .d (di .i64 ((x29.length : Nat) : Int))), (16, .d (di .i64 g37.1))]) (r := .tu [.d (.v (.slice none 0 0)), .ifc 184 (.ag [.d (di .i64 ((x53.length : Nat) : Int)), .d (di .i64 y3)])]) rfl rfl rfl ?_
                change AO _ _ _ _ _
                refine AO.op rfl (AOp.move rfl rfl (ltb rfl) rfl ?_)
                first | refine AO.op rfl (AOp.extractD rfl rfl (ltb rfl) rfl rfl ?_) | refine AO.op rfl (AOp.extract rfl rfl (ltb rfl) rfl rfl ?_)
                first | refine AO.op rfl (AOp.extractD rfl rfl (ltb rfl) rfl rfl ?_) | refine AO.op rfl (AOp.extract rfl rfl (ltb rfl) rfl rfl ?_)
                refine AO.op rfl (AOp.assign rfl rfl (ltb rfl) rfl ?_)
                refine AO.op rfl (AOp.assign rfl rfl (ltb rfl) rfl ?_)
                refine AO.nil ?_
                change AC _ _ _ _
                refine AC.seq ?_
                refine AC.seq ?_
                refine AC.region ?_
                refine AO.op rfl (AOp.move rfl rfl (ltb rfl) rfl ?_)
                refine AO.op rfl (AOp.ifcNeq rfl rfl (ltb rfl) rfl rfl imeth66 ?_)
                refine AO.nil ?_
                change AC _ _ _ _
                refine AC.condT rfl rfl ?_
                refine AC.seq ?_
                refine AC.region ?_
                refine AO.op rfl (AOp.move rfl rfl (ltb rfl) rfl ?_)
                refine AO.op rfl (AOp.assign rfl rfl (ltb rfl) rfl ?_)
                refine AO.op rfl (AOp.assign rfl rfl (ltb rfl) rfl ?_)
                refine AO.op rfl (AOp.assign rfl rfl (ltb rfl) rfl ?_)
                refine AO.nil ?_
                change AC _ _ _ _
                refine AC.ret ?_
                change InlQ _ _ _ _ _ _ _ _ .ret _
                obtain ⟨rr60, hr61, ho62⟩ := bind_elim h2
                obtain rfl := Option.some.inj ho62
                replace h1 := aftR h1
                obtain rfl := Option.some.inj h1
                replace h1 := hr61
                refine inlret (ob' := [.fix 30 [.d (di .i64 (0 : Int)), .d (di .i64 (0 : Int)), .d (di .i64 (0 : Int)), .d (.v (.slice none 0 0)), .d (.v (.slice none 0 0)), .d (.v (.slice none 0 0)), .d (.v (.slice none 0 0))], .fix 4 [.d (dbool false)], .dead, .dead, .fix 114 [.d (di .i64 a0), .d (di .i64 y3), .d (.v (.slice none 0 0)), .d (di .i64 (0 : Int)), .d (.v (.slice none 0 0))], .frame fr7 [(4, .ptr 0 0), (5, .ptr 1 0)], .frame fr8 [(0, .ptr 4 0)], .frame fr9 [(5, .d (.v (.nilIface))), (7, .ptr 4 0), (8, .ptr 4 0)], .grow 37 1 (List.map keS3 g49.2), .grow 26 1 (List.map keS5 g25.2.2), .dead, .grow 3 1 (List.map keS4 g37.2.2), .dead, .dead]) (e' := [(1, .own 9), (3, .d (di .i64 y3)), (13, .d (.v (.nilIface))), (14, .d (.v (.slice none 0 0))), (15, .d (eS0 y5)), (16, .d (di .i64 ((y5.length : Nat) : Int))), (17, .d (di .i64 g25.1))]) (r := .tu [.d (.v (.slice none 0 0)), .d (.v (.slice none 0 0)), .ifc 184 (.ag [.d (di .i64 ((x53.length : Nat) : Int)), .d (di .i64 y3)])]) rfl rfl rfl ?_
                change AO _ _ _ _ _
                refine AO.op rfl (AOp.move rfl rfl (ltb rfl) rfl ?_)
                first | refine AO.op rfl (AOp.extractD rfl rfl (ltb rfl) rfl rfl ?_) | refine AO.op rfl (AOp.extract rfl rfl (ltb rfl) rfl rfl ?_)
                first | refine AO.op rfl (AOp.extractD rfl rfl (ltb rfl) rfl rfl ?_) | refine AO.op rfl (AOp.extract rfl rfl (ltb rfl) rfl rfl ?_)
                first | refine AO.op rfl (AOp.extractD rfl rfl (ltb rfl) rfl rfl ?_) | refine AO.op rfl (AOp.extract rfl rfl (ltb rfl) rfl rfl ?_)
                refine AO.op rfl (AOp.assign rfl rfl (ltb rfl) rfl ?_)
                refine AO.op rfl (AOp.assign rfl rfl (ltb rfl) rfl ?_)
                refine AO.op rfl (AOp.assign rfl rfl (ltb rfl) rfl ?_)
                refine AO.nil ?_
                change AC _ _ _ _
                refine AC.seq ?_
                refine AC.seq ?_
                refine AC.region ?_
                refine AO.op rfl (AOp.move rfl rfl (ltb rfl) rfl ?_)
                refine AO.op rfl (AOp.ifcNeq rfl rfl (ltb rfl) rfl rfl imeth66 ?_)
                refine AO.nil ?_
                change AC _ _ _ _
                refine AC.condT rfl rfl ?_
                refine AC.seq ?_
                refine AC.region ?_
                refine AO.op rfl (AOp.move rfl rfl (ltb rfl) rfl ?_)
                refine AO.op rfl (AOp.assign rfl rfl (ltb rfl) rfl ?_)
                refine AO.op rfl (AOp.assign rfl rfl (ltb rfl) rfl ?_)
                refine AO.op rfl (AOp.assign rfl rfl (ltb rfl) rfl ?_)
                refine AO.nil ?_
                change AC _ _ _ _
                refine AC.ret ?_
                change InlQ _ _ _ _ _ _ _ _ .ret _
                obtain ⟨rr63, hr64, ho65⟩ := bind_elim h1
                obtain rfl := Option.some.inj ho65
                replace h0 := aftR h0
                obtain rfl := Option.some.inj h0
                replace h0 := hr64
                refine inlret (ob' := [.fix 30 [.d (di .i64 (0 : Int)), .d (di .i64 (0 : Int)), .d (di .i64 (0 : Int)), .d (.v (.slice none 0 0)), .d (.v (.slice none 0 0)), .d (.v (.slice none 0 0)), .d (.v (.slice none 0 0))], .fix 4 [.d (dbool false)], .dead, .dead, .fix 114 [.d (di .i64 a0), .d (di .i64 y3), .d (.v (.slice none 0 0)), .d (di .i64 (0 : Int)), .d (.v (.slice none 0 0))], .frame fr7 [(4, .ptr 0 0), (5, .ptr 1 0)], .frame fr8 [(0, .ptr 4 0)], .dead, .grow 37 1 (List.map keS3 g49.2), .grow 26 1 (List.map keS5 g25.2.2), .dead, .grow 3 1 (List.map keS4 g37.2.2), .dead, .dead]) (e' := [(5, .d (.v (.nilIface))), (7, .ptr 4 0), (8, .ptr 4 0)]) (r := .tu [.d (.v (.slice none 0 0)), .d (.v (.slice none 0 0)), .ifc 184 (.ag [.d (di .i64 ((x53.length : Nat) : Int)), .d (di .i64 y3)])]) rfl rfl rfl ?_
                change AO _ _ _ _ _
                refine AO.op rfl (AOp.move rfl rfl (ltb rfl) rfl ?_)
                first | refine AO.op rfl (AOp.extractD rfl rfl (ltb rfl) rfl rfl ?_) | refine AO.op rfl (AOp.extract rfl rfl (ltb rfl) rfl rfl ?_)
                first | refine AO.op rfl (AOp.extractD rfl rfl (ltb rfl) rfl rfl ?_) | refine AO.op rfl (AOp.extract rfl rfl (ltb rfl) rfl rfl ?_)
                first | refine AO.op rfl (AOp.extractD rfl rfl (ltb rfl) rfl rfl ?_) | refine AO.op rfl (AOp.extract rfl rfl (ltb rfl) rfl rfl ?_)
                refine AO.op rfl (AOp.nilCheck rfl rfl (ltb rfl) rfl rfl ?_)
                refine AO.op rfl (AOp.fieldAddr rfl rfl (ltb rfl) rfl fo112_0 ?_)
                refine AO.op rfl (AOp.fieldAddr rfl rfl (ltb rfl) rfl fo110_0 ?_)
                refine AO.op rfl (AOp.fieldAddr rfl rfl (ltb rfl) rfl fo108_2 ?_)
                refine AO.op rfl (AOp.store rfl rfl rfl rfl size25 rfl rfl rfl (leb rfl) ?_)
                refine AO.op rfl (AOp.nilCheck rfl rfl (ltb rfl) rfl rfl ?_)
                refine AO.op rfl (AOp.fieldAddr rfl rfl (ltb rfl) rfl fo112_1 ?_)
                refine AO.op rfl (AOp.store rfl rfl rfl rfl size27 rfl rfl rfl (leb rfl) ?_)
                refine AO.op rfl (AOp.assign rfl rfl (ltb rfl) rfl ?_)
                refine AO.nil ?_
                change AC _ _ _ _
                refine AC.seq ?_
                refine AC.region ?_
                refine AO.op rfl (AOp.move rfl rfl (ltb rfl) rfl ?_)
                refine AO.op rfl (AOp.assign rfl rfl (ltb rfl) rfl ?_)
                refine AO.nil ?_
                change AC _ _ _ _
                refine AC.ret ?_
                refine inlret (ob' := [.fix 30 [.d (di .i64 (0 : Int)), .d (di .i64 (0 : Int)), .d (di .i64 (0 : Int)), .d (.v (.slice none 0 0)), .d (.v (.slice none 0 0)), .d (.v (.slice none 0 0)), .d (.v (.slice none 0 0))], .fix 4 [.d (dbool false)], .dead, .dead, .fix 114 [.d (di .i64 a0), .d (di .i64 y3), .d (.v (.slice none 0 0)), .d (di .i64 (0 : Int)), .d (.v (.slice none 0 0))], .frame fr7 [(4, .ptr 0 0), (5, .ptr 1 0)], .dead, .dead, .grow 37 1 (List.map keS3 g49.2), .grow 26 1 (List.map keS5 g25.2.2), .dead, .grow 3 1 (List.map keS4 g37.2.2), .dead, .dead]) (e' := [(0, .ptr 4 0)]) (r := .ifc 184 (.ag [.d (di .i64 ((x53.length : Nat) : Int)), .d (di .i64 y3)])) rfl rfl rfl ?_
                change AO _ _ _ _ _
                refine AO.op rfl (AOp.assign rfl rfl (ltb rfl) rfl ?_)
                refine AO.nil ?_
                change AC _ _ _ _
                refine AC.seq ?_
                refine AC.region ?_
                refine AO.op rfl (AOp.move rfl rfl (ltb rfl) rfl ?_)
                refine AO.op rfl (AOp.ifcNeq rfl rfl (ltb rfl) rfl rfl imeth66 ?_)
                refine AO.nil ?_
                change AC _ _ _ _
                refine AC.condT rfl rfl ?_
                refine AC.seq ?_
                refine AC.region ?_
                refine AO.op rfl (AOp.move rfl rfl (ltb rfl) rfl ?_)
                refine AO.op rfl (AOp.assign rfl rfl (ltb rfl) rfl ?_)
                refine AO.op rfl (AOp.assign rfl rfl (ltb rfl) rfl ?_)
                refine AO.nil ?_
                change AC _ _ _ _
                refine AC.ret ?_
                refine inlret (ob' := [.fix 30 [.d (di .i64 (0 : Int)), .d (di .i64 (0 : Int)), .d (di .i64 (0 : Int)), .d (.v (.slice none 0 0)), .d (.v (.slice none 0 0)), .d (.v (.slice none 0 0)), .d (.v (.slice none 0 0))], .fix 4 [.d (dbool false)], .dead, .dead, .fix 114 [.d (di .i64 a0), .d (di .i64 y3), .d (.v (.slice none 0 0)), .d (di .i64 (0 : Int)), .d (.v (.slice none 0 0))], .dead, .dead, .dead, .grow 37 1 (List.map keS3 g49.2), .grow 26 1 (List.map keS5 g25.2.2), .dead, .grow 3 1 (List.map keS4 g37.2.2), .dead, .dead]) (e' := [(4, .ptr 0 0), (5, .ptr 1 0)]) (r := .tu [.d (.v (.pointer none)), .ifc 184 (.ag [.d (di .i64 ((x53.length : Nat) : Int)), .d (di .i64 y3)])]) rfl rfl rfl ?_
                change AO _ _ _ _ _
                refine AO.op rfl (AOp.move rfl rfl (ltb rfl) rfl ?_)
                first | refine AO.op rfl (AOp.extractD rfl rfl (ltb rfl) rfl rfl ?_) | refine AO.op rfl (AOp.extract rfl rfl (ltb rfl) rfl rfl ?_)
                first | refine AO.op rfl (AOp.extractD rfl rfl (ltb rfl) rfl rfl ?_) | refine AO.op rfl (AOp.extract rfl rfl (ltb rfl) rfl rfl ?_)
                refine AO.op rfl (AOp.assign rfl rfl (ltb rfl) rfl ?_)
                refine AO.op rfl (AOp.assign rfl rfl (ltb rfl) rfl ?_)
                refine AO.nil ?_
                change AC _ _ _ _
                refine AC.seq ?_
                refine AC.seq ?_
                refine AC.region ?_
                refine AO.op rfl (AOp.move rfl rfl (ltb rfl) rfl ?_)
                refine AO.op rfl (AOp.ifcNeq rfl rfl (ltb rfl) rfl rfl imeth66 ?_)
                refine AO.nil ?_
                change AC _ _ _ _
                refine AC.condT rfl rfl ?_
                refine AC.seq ?_
                refine AC.region ?_
                refine AO.op rfl (AOp.build rfl rfl (ltb rfl) zero30 rfl places30 rfl rfl ?_)
                refine AO.op rfl (AOp.store rfl rfl rfl rfl size30 rfl rfl rfl (leb rfl) ?_)
                refine AO.op rfl (AOp.store rfl rfl rfl rfl size4 rfl rfl rfl (leb rfl) ?_)
                refine AO.nil ?_
                change AC _ _ _ _
                refine AC.subO 0 rfl (.cons (SVLe.refl _) (.cons (SVLe.refl _) (.cons (SVLe.refl _) (.cons (SVLe.nil 1) (.cons (SVLe.nil 1) (.cons (SVLe.nil 1) (.cons (SVLe.nil 7) .nil))))))) ?_
                refine AC.ret ?_
                change RetQ _ _ _ .ret _
                obtain rfl := Option.some.inj h0
                refine retq rfl rfl
              replace h3 := cF h3 q56
              refine AC.skip ?_
              change AC _ _ _ _
              refine AC.seq ?_
              refine AC.region ?_
              refine AO.op rfl (AOp.move rfl rfl (ltb rfl) rfl ?_)
              refine AO.op rfl (AOp.move rfl rfl (ltb rfl) rfl ?_)
              refine AO.subF 13 [2, 10, 11, 12, 13] rfl rfl ?_
              obtain ⟨q66, h3⟩ := need_elim h3
              refine AO.op rfl (AOp.appendOwnT' (p := 8) (n := g49.2.length) (m := x53.length) (news := (List.map keS3 x53)) rfl Try.underlying172 rfl (ltb rfl) rfl rfl el25 info37 rfl (by decide) rfl (len1 _ _) (len1 _ _) (one1 _ (fun _ => rfl) _) q66 (by decide) rfl rfl (cat1 _ _ _) ?_)
              refine AO.op rfl (AOp.assign rfl rfl (ltb rfl) rfl ?_)
              refine AO.nil ?_
              change AC _ _ _ _
              refine AC.seq ?_
              refine AC.region ?_
              refine AO.op rfl (AOp.move rfl rfl (ltb rfl) rfl ?_)
              refine AO.op rfl (AOp.assign rfl rfl (ltb rfl) rfl ?_)
              refine AO.op rfl (AOp.assign rfl rfl (ltb rfl) rfl ?_)
              refine AO.nil ?_
              change AC _ _ _ _
              refine AC.ret ?_
              refine inlret (ob' := [.fix 30 [.d (di .i64 (0 : Int)), .d (di .i64 (0 : Int)), .d (di .i64 (0 : Int)), .d (.v (.slice none 0 0)), .d (.v (.slice none 0 0)), .d (.v (.slice none 0 0)), .d (.v (.slice none 0 0))], .fix 4 [.d (dbool false)], .dead, .dead, .fix 114 [.d (di .i64 a0), .d (di .i64 y3), .d (.v (.slice none 0 0)), .d (di .i64 (0 : Int)), .d (.v (.slice none 0 0))], .frame fr7 [(4, .ptr 0 0), (5, .ptr 1 0)], .frame fr8 [(0, .ptr 4 0)], .frame fr9 [(5, .d (.v (.nilIface))), (7, .ptr 4 0), (8, .ptr 4 0)], .grow 37 1 (List.map keS3 (g49.2 ++ x53)), .grow 26 1 (List.map keS5 g25.2.2), .frame fr31 [(1, .own 9), (3, .d (di .i64 y3)), (13, .d (.v (.nilIface))), (14, .d (.v (.slice none 0 0))), (15, .d (eS0 y5)), (16, .d (di .i64 ((y5.length : Nat) : Int))), (17, .d (di .i64 g25.1))], .grow 3 1 (List.map keS4 g37.2.2), .frame fr43 [(1, .own 11), (3, .d (di .i64 y3)), (13, .d (.v (.nilIface))), (14, .d (eS1 x29)), (15, .d (di .i64 ((x29.length : Nat) : Int))), (16, .d (di .i64 g37.1))], .dead]) (e' := [(2, .d (di .i64 y3)), (10, .d (.v (.nilIface))), (11, .d (eS2 x41)), (12, .d (di .i64 ((x41.length : Nat) : Int))), (13, .d (di .i64 g49.1))]) (r := .tu [.own 8, .d (.v (.nilIface))]) rfl rfl rfl ?_
              change AO _ _ _ _ _
              refine AO.op rfl (AOp.move rfl rfl (ltb rfl) rfl ?_)
              first | refine AO.op rfl (AOp.extractD rfl rfl (ltb rfl) rfl rfl ?_) | refine AO.op rfl (AOp.extract rfl rfl (ltb rfl) rfl rfl ?_)
              first | refine AO.op rfl (AOp.extractD rfl rfl (ltb rfl) rfl rfl ?_) | refine AO.op rfl (AOp.extract rfl rfl (ltb rfl) rfl rfl ?_)
              refine AO.op rfl (AOp.assign rfl rfl (ltb rfl) rfl ?_)
              refine AO.op rfl (AOp.assign rfl rfl (ltb rfl) rfl ?_)
              refine AO.nil ?_
              change AC _ _ _ _
              refine AC.seq ?_
              refine AC.region ?_
              refine AO.op rfl (AOp.move rfl rfl (ltb rfl) rfl ?_)
              refine AO.op rfl (AOp.nilNeq rfl rfl (ltb rfl) rfl imeth66 ?_)
              refine AO.nil ?_
              change AC _ _ _ _
              refine AC.condF rfl rfl ?_
              refine AC.skip ?_
              change AC _ _ _ _
              refine AC.region ?_
              obtain ⟨q67, h3⟩ := need_elim h3
              refine AO.op rfl (AOp.iadd rfl rfl (ltb rfl) rfl rfl rfl q67.1 q67.2 ?_)
              refine AO.op rfl (AOp.move rfl rfl (ltb rfl) rfl ?_)
              refine AO.nil ?_
              exact ⟨((g49.1 + (1 : Int)), (g49.2 ++ x53)), _, rfl, (LeL.refl _), rfl, rfl, h3⟩
            replace h3 := cF h3 q52
            refine AC.exit ?_
            obtain rfl := Option.some.inj h3
            exact ⟨g49.2, _, rfl, (LeL.refl _), rfl, rfl, aftL h2⟩
          intro g46 h2
          unfold p_SetAreas_k5 at h2
          change AC _ _ _ _
          refine AC.seq ?_
          refine AC.region ?_
          refine AO.op rfl (AOp.move rfl rfl (ltb rfl) rfl ?_)
          refine AO.op rfl (AOp.assign rfl rfl (ltb rfl) rfl ?_)
          refine AO.op rfl (AOp.assign rfl rfl (ltb rfl) rfl ?_)
          refine AO.nil ?_
          change AC _ _ _ _
          refine AC.ret ?_
          refine inlret (ob' := [.fix 30 [.d (di .i64 (0 : Int)), .d (di .i64 (0 : Int)), .d (di .i64 (0 : Int)), .d (.v (.slice none 0 0)), .d (.v (.slice none 0 0)), .d (.v (.slice none 0 0)), .d (.v (.slice none 0 0))], .fix 4 [.d (dbool false)], .dead, .dead, .fix 114 [.d (di .i64 a0), .d (di .i64 y3), .d (.v (.slice none 0 0)), .d (di .i64 (0 : Int)), .d (.v (.slice none 0 0))], .frame fr7 [(4, .ptr 0 0), (5, .ptr 1 0)], .frame fr8 [(0, .ptr 4 0)], .frame fr9 [(5, .d (.v (.nilIface))), (7, .ptr 4 0), (8, .ptr 4 0)], .grow 37 1 (List.map keS3 g46), .grow 26 1 (List.map keS5 g25.2.2), .frame fr31 [(1, .own 9), (3, .d (di .i64 y3)), (13, .d (.v (.nilIface))), (14, .d (.v (.slice none 0 0))), (15, .d (eS0 y5)), (16, .d (di .i64 ((y5.length : Nat) : Int))), (17, .d (di .i64 g25.1))], .grow 3 1 (List.map keS4 g37.2.2), .dead]) (e' := [(1, .own 11), (3, .d (di .i64 y3)), (13, .d (.v (.nilIface))), (14, .d (eS1 x29)), (15, .d (di .i64 ((x29.length : Nat) : Int))), (16, .d (di .i64 g37.1))]) (r := .tu [.own 8, .d (.v (.nilIface))]) rfl rfl rfl ?_
          change AO _ _ _ _ _
          refine AO.op rfl (AOp.move rfl rfl (ltb rfl) rfl ?_)
          first | refine AO.op rfl (AOp.extractD rfl rfl (ltb rfl) rfl rfl ?_) | refine AO.op rfl (AOp.extract rfl rfl (ltb rfl) rfl rfl ?_)
          first | refine AO.op rfl (AOp.extractD rfl rfl (ltb rfl) rfl rfl ?_) | refine AO.op rfl (AOp.extract rfl rfl (ltb rfl) rfl rfl ?_)
          refine AO.op rfl (AOp.assign rfl rfl (ltb rfl) rfl ?_)
          refine AO.op rfl (AOp.assign rfl rfl (ltb rfl) rfl ?_)
          refine AO.nil ?_
          change AC _ _ _ _
          refine AC.seq ?_
          refine AC.seq ?_
          refine AC.region ?_
          refine AO.op rfl (AOp.move rfl rfl (ltb rfl) rfl ?_)
          refine AO.op rfl (AOp.nilNeq rfl rfl (ltb rfl) rfl imeth66 ?_)
          refine AO.nil ?_
          change AC _ _ _ _
          refine AC.condF rfl rfl ?_
          refine AC.skip ?_
          change AC _ _ _ _
          refine AC.region ?_
          refine AO.op rfl (AOp.move rfl rfl (ltb rfl) rfl ?_)
          refine AO.op rfl (AOp.move rfl rfl (ltb rfl) rfl ?_)
          refine AO.op rfl (AOp.lenOwn (cells := (List.map keS3 g46)) (n := g46.length) rfl rfl (ltb rfl) rfl el25 rfl (by decide) (len1 _ _) ?_)
          refine AO.op rfl (AOp.buildSliceD rfl rfl (ltb rfl) el26 zero3 rfl (leb rfl) rfl rfl rfl rfl ?_)
          obtain ⟨q47, h2⟩ := need_elim h2
          refine AO.op rfl (AOp.appendOwn' (p := 11) (n := g37.2.2.length) (m := [((g46.length : Nat) : Int)].length) (news := (List.map keS4 [((g46.length : Nat) : Int)])) rfl rfl (ltb rfl) rfl rfl el26 info3 rfl (by decide) rfl (len1 _ _) (len1 _ _) (one1 _ (fun _ => rfl) _) q47 (by decide) rfl rfl (cat1 _ _ _) ?_)
          refine AO.op rfl (AOp.assign rfl rfl (ltb rfl) rfl ?_)
          refine AO.nil ?_
          change AC _ _ _ _
          refine AC.region ?_
          obtain ⟨q48, h2⟩ := need_elim h2
          refine AO.op rfl (AOp.iadd rfl rfl (ltb rfl) rfl rfl rfl q48.1 q48.2 ?_)
          refine AO.op rfl (AOp.move rfl rfl (ltb rfl) rfl ?_)
          refine AO.nil ?_
          exact ⟨((g37.1 + (1 : Int)), g46, (g37.2.2 ++ [((g46.length : Nat) : Int)])), _, rfl, (LeL.refl _), rfl, rfl, h2⟩
        replace h2 := cF h2 q40
        refine AC.exit ?_
        obtain rfl := Option.some.inj h2
        exact ⟨(g37.2.1, g37.2.2), _, rfl, (LeL.refl _), rfl, rfl, aftL h1⟩
      intro g34 h1
      unfold p_SetAreas_k3 at h1
      change AC _ _ _ _
      refine AC.seq ?_
      refine AC.region ?_
      refine AO.op rfl (AOp.move rfl rfl (ltb rfl) rfl ?_)
      refine AO.op rfl (AOp.move rfl rfl (ltb rfl) rfl ?_)
      refine AO.op rfl (AOp.assign rfl rfl (ltb rfl) rfl ?_)
      refine AO.op rfl (AOp.assign rfl rfl (ltb rfl) rfl ?_)
      refine AO.op rfl (AOp.assign rfl rfl (ltb rfl) rfl ?_)
      refine AO.nil ?_
      change AC _ _ _ _
      refine AC.ret ?_
      refine inlret (ob' := [.fix 30 [.d (di .i64 (0 : Int)), .d (di .i64 (0 : Int)), .d (di .i64 (0 : Int)), .d (.v (.slice none 0 0)), .d (.v (.slice none 0 0)), .d (.v (.slice none 0 0)), .d (.v (.slice none 0 0))], .fix 4 [.d (dbool false)], .dead, .dead, .fix 114 [.d (di .i64 a0), .d (di .i64 y3), .d (.v (.slice none 0 0)), .d (di .i64 (0 : Int)), .d (.v (.slice none 0 0))], .frame fr7 [(4, .ptr 0 0), (5, .ptr 1 0)], .frame fr8 [(0, .ptr 4 0)], .frame fr9 [(5, .d (.v (.nilIface))), (7, .ptr 4 0), (8, .ptr 4 0)], .grow 37 1 (List.map keS3 g34.1), .grow 26 1 (List.map keS5 g25.2.2), .dead, .grow 3 1 (List.map keS4 g34.2)]) (e' := [(1, .own 9), (3, .d (di .i64 y3)), (13, .d (.v (.nilIface))), (14, .d (.v (.slice none 0 0))), (15, .d (eS0 y5)), (16, .d (di .i64 ((y5.length : Nat) : Int))), (17, .d (di .i64 g25.1))]) (r := .tu [.own 8, .own 11, .d (.v (.nilIface))]) rfl rfl rfl ?_
      change AO _ _ _ _ _
      refine AO.op rfl (AOp.move rfl rfl (ltb rfl) rfl ?_)
      first | refine AO.op rfl (AOp.extractD rfl rfl (ltb rfl) rfl rfl ?_) | refine AO.op rfl (AOp.extract rfl rfl (ltb rfl) rfl rfl ?_)
      first | refine AO.op rfl (AOp.extractD rfl rfl (ltb rfl) rfl rfl ?_) | refine AO.op rfl (AOp.extract rfl rfl (ltb rfl) rfl rfl ?_)
      first | refine AO.op rfl (AOp.extractD rfl rfl (ltb rfl) rfl rfl ?_) | refine AO.op rfl (AOp.extract rfl rfl (ltb rfl) rfl rfl ?_)
      refine AO.op rfl (AOp.assign rfl rfl (ltb rfl) rfl ?_)
      refine AO.op rfl (AOp.assign rfl rfl (ltb rfl) rfl ?_)
      refine AO.op rfl (AOp.assign rfl rfl (ltb rfl) rfl ?_)
      refine AO.nil ?_
      change AC _ _ _ _
      refine AC.seq ?_
      refine AC.seq ?_
      refine AC.region ?_
      refine AO.op rfl (AOp.move rfl rfl (ltb rfl) rfl ?_)
      refine AO.op rfl (AOp.nilNeq rfl rfl (ltb rfl) rfl imeth66 ?_)
      refine AO.nil ?_
      change AC _ _ _ _
      refine AC.condF rfl rfl ?_
      refine AC.skip ?_
      change AC _ _ _ _
      refine AC.region ?_
      refine AO.op rfl (AOp.move rfl rfl (ltb rfl) rfl ?_)
      refine AO.op rfl (AOp.move rfl rfl (ltb rfl) rfl ?_)
      refine AO.freezeG 11 rfl rfl rfl ?_
      refine AO.op rfl (AOp.buildSliceD rfl rfl (ltb rfl) el27 zero26 rfl (leb rfl) rfl rfl rfl rfl ?_)
      obtain ⟨q35, h1⟩ := need_elim h1
      refine AO.op rfl (AOp.appendOwn' (p := 9) (n := g25.2.2.length) (m := [g34.2].length) (news := (List.map keS5 [g34.2])) rfl rfl (ltb rfl) rfl rfl el27 info26 rfl (by decide) rfl (len1 _ _) (len1 _ _) (one1 _ (fun _ => rfl) _) q35 (by decide) rfl rfl (cat1 _ _ _) ?_)
      refine AO.op rfl (AOp.assign rfl rfl (ltb rfl) rfl ?_)
      refine AO.nil ?_
      change AC _ _ _ _
      refine AC.region ?_
      obtain ⟨q36, h1⟩ := need_elim h1
      refine AO.op rfl (AOp.iadd rfl rfl (ltb rfl) rfl rfl rfl q36.1 q36.2 ?_)
      refine AO.op rfl (AOp.move rfl rfl (ltb rfl) rfl ?_)
      refine AO.nil ?_
      exact ⟨((g25.1 + (1 : Int)), g34.1, (g25.2.2 ++ [g34.2])), _, rfl, (LeL.refl _), rfl, rfl, h1⟩
    replace h1 := cF h1 q28
    refine AC.exit ?_
    obtain rfl := Option.some.inj h1
    exact ⟨(g25.2.1, g25.2.2), _, rfl, (LeL.refl _), rfl, rfl, aftL h0⟩
  intro g12 h0
  unfold p_SetAreas_k1 at h0
  change AC _ _ _ _
  refine AC.seq ?_
  refine AC.region ?_
  refine AO.op rfl (AOp.move rfl rfl (ltb rfl) rfl ?_)
  refine AO.op rfl (AOp.move rfl rfl (ltb rfl) rfl ?_)
  refine AO.op rfl (AOp.assign rfl rfl (ltb rfl) rfl ?_)
  refine AO.op rfl (AOp.assign rfl rfl (ltb rfl) rfl ?_)
  refine AO.op rfl (AOp.assign rfl rfl (ltb rfl) rfl ?_)
  refine AO.nil ?_
  change AC _ _ _ _
  refine AC.ret ?_
  refine inlret (ob' := [.fix 30 [.d (di .i64 (0 : Int)), .d (di .i64 (0 : Int)), .d (di .i64 (0 : Int)), .d (.v (.slice none 0 0)), .d (.v (.slice none 0 0)), .d (.v (.slice none 0 0)), .d (.v (.slice none 0 0))], .fix 4 [.d (dbool false)], .dead, .dead, .fix 114 [.d (di .i64 a0), .d (di .i64 y3), .d (.v (.slice none 0 0)), .d (di .i64 (0 : Int)), .d (.v (.slice none 0 0))], .frame fr7 [(4, .ptr 0 0), (5, .ptr 1 0)], .frame fr8 [(0, .ptr 4 0)], .dead, .grow 37 1 (List.map keS3 g12.1), .grow 26 1 (List.map keS5 g12.2)]) (e' := [(5, .d (.v (.nilIface))), (7, .ptr 4 0), (8, .ptr 4 0)]) (r := .tu [.own 8, .own 9, .d (.v (.nilIface))]) rfl rfl rfl ?_
  change AO _ _ _ _ _
  refine AO.op rfl (AOp.move rfl rfl (ltb rfl) rfl ?_)
  first | refine AO.op rfl (AOp.extractD rfl rfl (ltb rfl) rfl rfl ?_) | refine AO.op rfl (AOp.extract rfl rfl (ltb rfl) rfl rfl ?_)
  first | refine AO.op rfl (AOp.extractD rfl rfl (ltb rfl) rfl rfl ?_) | refine AO.op rfl (AOp.extract rfl rfl (ltb rfl) rfl rfl ?_)
  first | refine AO.op rfl (AOp.extractD rfl rfl (ltb rfl) rfl rfl ?_) | refine AO.op rfl (AOp.extract rfl rfl (ltb rfl) rfl rfl ?_)
  refine AO.op rfl (AOp.nilCheck rfl rfl (ltb rfl) rfl rfl ?_)
  refine AO.op rfl (AOp.fieldAddr rfl rfl (ltb rfl) rfl fo112_0 ?_)
  refine AO.op rfl (AOp.fieldAddr rfl rfl (ltb rfl) rfl fo110_0 ?_)
  refine AO.op rfl (AOp.fieldAddr rfl rfl (ltb rfl) rfl fo108_2 ?_)
  refine AO.op rfl (AOp.storeOwn rfl rfl rfl rfl rfl rfl size25 rfl rfl (leb rfl) ?_)
  refine AO.op rfl (AOp.nilCheck rfl rfl (ltb rfl) rfl rfl ?_)
  refine AO.op rfl (AOp.fieldAddr rfl rfl (ltb rfl) rfl fo112_1 ?_)
  refine AO.op rfl (AOp.storeOwn rfl rfl rfl rfl rfl rfl size27 rfl rfl (leb rfl) ?_)
  refine AO.op rfl (AOp.assign rfl rfl (ltb rfl) rfl ?_)
  refine AO.nil ?_
  change AC _ _ _ _
  refine AC.seq ?_
  refine AC.region ?_
  refine AO.op rfl (AOp.move rfl rfl (ltb rfl) rfl ?_)
  refine AO.op rfl (AOp.assign rfl rfl (ltb rfl) rfl ?_)
  refine AO.nil ?_
  change AC _ _ _ _
  refine AC.ret ?_
  refine inlret (ob' := [.fix 30 [.d (di .i64 (0 : Int)), .d (di .i64 (0 : Int)), .d (di .i64 (0 : Int)), .d (.v (.slice none 0 0)), .d (.v (.slice none 0 0)), .d (.v (.slice none 0 0)), .d (.v (.slice none 0 0))], .fix 4 [.d (dbool false)], .dead, .dead, .fix 114 [.d (di .i64 a0), .d (di .i64 y3), .own 8, .d (di .i64 (0 : Int)), .own 9], .frame fr7 [(4, .ptr 0 0), (5, .ptr 1 0)], .dead, .dead, .grow 37 1 (List.map keS3 g12.1), .grow 26 1 (List.map keS5 g12.2)]) (e' := [(0, .ptr 4 0)]) (r := .d (.v (.nilIface))) rfl rfl rfl ?_
  change AO _ _ _ _ _
  refine AO.op rfl (AOp.assign rfl rfl (ltb rfl) rfl ?_)
  refine AO.nil ?_
  change AC _ _ _ _
  refine AC.seq ?_
  refine AC.region ?_
  refine AO.op rfl (AOp.move rfl rfl (ltb rfl) rfl ?_)
  refine AO.op rfl (AOp.nilNeq rfl rfl (ltb rfl) rfl imeth66 ?_)
  refine AO.nil ?_
  change AC _ _ _ _
  refine AC.condF rfl rfl ?_
  refine AC.skip ?_
  change AC _ _ _ _
  refine AC.seq ?_
  refine AC.region ?_
  refine AO.op rfl (AOp.move rfl rfl (ltb rfl) rfl ?_)
  refine AO.op rfl (AOp.assign rfl rfl (ltb rfl) rfl ?_)
  refine AO.op rfl (AOp.assign rfl rfl (ltb rfl) rfl ?_)
  refine AO.nil ?_
  change AC _ _ _ _
  refine AC.ret ?_
  refine inlret (ob' := [.fix 30 [.d (di .i64 (0 : Int)), .d (di .i64 (0 : Int)), .d (di .i64 (0 : Int)), .d (.v (.slice none 0 0)), .d (.v (.slice none 0 0)), .d (.v (.slice none 0 0)), .d (.v (.slice none 0 0))], .fix 4 [.d (dbool false)], .dead, .dead, .fix 114 [.d (di .i64 a0), .d (di .i64 y3), .own 8, .d (di .i64 (0 : Int)), .own 9], .dead, .dead, .dead, .grow 37 1 (List.map keS3 g12.1), .grow 26 1 (List.map keS5 g12.2)]) (e' := [(4, .ptr 0 0), (5, .ptr 1 0)]) (r := .tu [.ptr 4 0, .d (.v (.nilIface))]) rfl rfl rfl ?_
  change AO _ _ _ _ _
  refine AO.op rfl (AOp.move rfl rfl (ltb rfl) rfl ?_)
  first | refine AO.op rfl (AOp.extractD rfl rfl (ltb rfl) rfl rfl ?_) | refine AO.op rfl (AOp.extract rfl rfl (ltb rfl) rfl rfl ?_)
  first | refine AO.op rfl (AOp.extractD rfl rfl (ltb rfl) rfl rfl ?_) | refine AO.op rfl (AOp.extract rfl rfl (ltb rfl) rfl rfl ?_)
  refine AO.op rfl (AOp.assign rfl rfl (ltb rfl) rfl ?_)
  refine AO.op rfl (AOp.assign rfl rfl (ltb rfl) rfl ?_)
  refine AO.nil ?_
  change AC _ _ _ _
  refine AC.seq ?_
  refine AC.seq ?_
  refine AC.region ?_
  refine AO.op rfl (AOp.move rfl rfl (ltb rfl) rfl ?_)
  refine AO.op rfl (AOp.nilNeq rfl rfl (ltb rfl) rfl imeth66 ?_)
  refine AO.nil ?_
  change AC _ _ _ _
  refine AC.condF rfl rfl ?_
  refine AC.skip ?_
  change AC _ _ _ _
  refine AC.seq ?_
  refine AC.region ?_
  refine AO.op rfl (AOp.move rfl rfl (ltb rfl) rfl ?_)
  refine AO.op rfl (AOp.makeIfc rfl rfl (ltb rfl) rfl conc64 ?_)
  refine AO.op rfl (AOp.inl [4, 5] (by kernel_rfl) Try.func40 rfl Try.ntmps40 rfl rfl (ltb rfl) rfl (leb rfl) rfl ?_)
  intro fr13
  refine AC.seq ?_
  refine AC.region ?_
  refine AO.op rfl (AOp.alloc rfl rfl (ltb rfl) zero30 rfl ?_)
  refine AO.nil ?_
  change AC _ _ _ _
  refine AC.seq ?_
  refine AC.region ?_
  refine AO.op rfl (AOp.move rfl rfl (ltb rfl) rfl ?_)
  refine AO.op rfl (AOp.inlE [0, 2] (EntersS.meth (by kernel_rfl) rfl rfl rfl meth64_SRID rfl rfl) Try.func138 rfl Try.ntmps138 rfl (ltb rfl) (leb rfl) rfl ?_)
  intro fr14
  refine AC.seq ?_
  refine AC.region ?_
  refine AO.op rfl (AOp.assign rfl rfl (ltb rfl) rfl ?_)
  refine AO.nil ?_
  change AC _ _ _ _
  refine AC.seq ?_
  refine AC.region ?_
  refine AO.op rfl (AOp.move rfl rfl (ltb rfl) rfl ?_)
  refine AO.op rfl (AOp.nilCheck rfl rfl (ltb rfl) rfl rfl ?_)
  refine AO.op rfl (AOp.fieldAddr rfl rfl (ltb rfl) rfl fo108_3 ?_)
  refine AO.op rfl (AOp.load1 rfl rfl (ltb rfl) rfl agg3 rfl rfl ?_)
  refine AO.op rfl (AOp.assign rfl rfl (ltb rfl) rfl ?_)
  refine AO.nil ?_
  change AC _ _ _ _
  refine AC.ret ?_
  refine inlret (ob' := [.fix 30 [.d (di .i64 (0 : Int)), .d (di .i64 (0 : Int)), .d (di .i64 (0 : Int)), .d (.v (.slice none 0 0)), .d (.v (.slice none 0 0)), .d (.v (.slice none 0 0)), .d (.v (.slice none 0 0))], .fix 4 [.d (dbool false)], .dead, .dead, .fix 114 [.d (di .i64 a0), .d (di .i64 y3), .own 8, .d (di .i64 (0 : Int)), .own 9], .dead, .dead, .dead, .grow 37 1 (List.map keS3 g12.1), .grow 26 1 (List.map keS5 g12.2), .frame fr13 [(4, .ptr 0 0), (5, .ptr 1 0)], .fix 30 [.d (di .i64 (0 : Int)), .d (di .i64 (0 : Int)), .d (di .i64 (0 : Int)), .d (.v (.slice none 0 0)), .d (.v (.slice none 0 0)), .d (.v (.slice none 0 0)), .d (.v (.slice none 0 0))], .dead]) (e' := [(0, .ifc 64 (.ptr 4 0)), (2, .ptr 11 0)]) (r := .d (di .i64 (0 : Int))) rfl rfl rfl ?_
  change AO _ _ _ _ _
  refine AO.op rfl (AOp.build rfl rfl (ltb rfl) zero30 rfl places30 rfl rfl ?_)
  refine AO.op rfl (AOp.alloc rfl rfl (ltb rfl) zero30 rfl ?_)
  refine AO.op rfl (AOp.store rfl rfl rfl rfl size30 rfl rfl rfl (leb rfl) ?_)
  refine AO.nil ?_
  change AC _ _ _ _
  refine AC.seq ?_
  refine AC.seq ?_
  refine AC.region ?_
  refine AO.op rfl (AOp.move rfl rfl (ltb rfl) rfl ?_)
  refine AO.nil ?_
  change AC _ _ _ _
  refine AC.block ?_
  refine AC.seq ?_
  refine AC.region ?_
  refine AO.op rfl (AOp.assertNo rfl rfl (ltb rfl) rfl rfl pass64_116 zero116 ?_)
  first | refine AO.op rfl (AOp.extractD rfl rfl (ltb rfl) rfl rfl ?_) | refine AO.op rfl (AOp.extract rfl rfl (ltb rfl) rfl rfl ?_)
  first | refine AO.op rfl (AOp.extractD rfl rfl (ltb rfl) rfl rfl ?_) | refine AO.op rfl (AOp.extract rfl rfl (ltb rfl) rfl rfl ?_)
  refine AO.nil ?_
  change AC _ _ _ _
  refine AC.condF rfl rfl ?_
  refine AC.seq ?_
  refine AC.region ?_
  refine AO.op rfl (AOp.assertNo rfl rfl (ltb rfl) rfl rfl pass64_88 zero88 ?_)
  first | refine AO.op rfl (AOp.extractD rfl rfl (ltb rfl) rfl rfl ?_) | refine AO.op rfl (AOp.extract rfl rfl (ltb rfl) rfl rfl ?_)
  first | refine AO.op rfl (AOp.extractD rfl rfl (ltb rfl) rfl rfl ?_) | refine AO.op rfl (AOp.extract rfl rfl (ltb rfl) rfl rfl ?_)
  refine AO.nil ?_
  change AC _ _ _ _
  refine AC.condF rfl rfl ?_
  refine AC.seq ?_
  refine AC.region ?_
  refine AO.op rfl (AOp.assertNo rfl rfl (ltb rfl) rfl rfl pass64_117 zero117 ?_)
  first | refine AO.op rfl (AOp.extractD rfl rfl (ltb rfl) rfl rfl ?_) | refine AO.op rfl (AOp.extract rfl rfl (ltb rfl) rfl rfl ?_)
  first | refine AO.op rfl (AOp.extractD rfl rfl (ltb rfl) rfl rfl ?_) | refine AO.op rfl (AOp.extract rfl rfl (ltb rfl) rfl rfl ?_)
  refine AO.nil ?_
  change AC _ _ _ _
  refine AC.condF rfl rfl ?_
  refine AC.seq ?_
  refine AC.region ?_
  refine AO.op rfl (AOp.assertNo rfl rfl (ltb rfl) rfl rfl pass64_83 zero83 ?_)
  first | refine AO.op rfl (AOp.extractD rfl rfl (ltb rfl) rfl rfl ?_) | refine AO.op rfl (AOp.extract rfl rfl (ltb rfl) rfl rfl ?_)
  first | refine AO.op rfl (AOp.extractD rfl rfl (ltb rfl) rfl rfl ?_) | refine AO.op rfl (AOp.extract rfl rfl (ltb rfl) rfl rfl ?_)
  refine AO.nil ?_
  change AC _ _ _ _
  refine AC.condF rfl rfl ?_
  refine AC.seq ?_
  refine AC.region ?_
  refine AO.op rfl (AOp.assertNo rfl rfl (ltb rfl) rfl rfl pass64_85 zero85 ?_)
  first | refine AO.op rfl (AOp.extractD rfl rfl (ltb rfl) rfl rfl ?_) | refine AO.op rfl (AOp.extract rfl rfl (ltb rfl) rfl rfl ?_)
  first | refine AO.op rfl (AOp.extractD rfl rfl (ltb rfl) rfl rfl ?_) | refine AO.op rfl (AOp.extract rfl rfl (ltb rfl) rfl rfl ?_)
  refine AO.nil ?_
  change AC _ _ _ _
  refine AC.condF rfl rfl ?_
  refine AC.seq ?_
  refine AC.region ?_
  refine AO.op rfl (AOp.assertNo rfl rfl (ltb rfl) rfl rfl pass64_86 zero86 ?_)
  first | refine AO.op rfl (AOp.extractD rfl rfl (ltb rfl) rfl rfl ?_) | refine AO.op rfl (AOp.extract rfl rfl (ltb rfl) rfl rfl ?_)
  first | refine AO.op rfl (AOp.extractD rfl rfl (ltb rfl) rfl rfl ?_) | refine AO.op rfl (AOp.extract rfl rfl (ltb rfl) rfl rfl ?_)
  refine AO.nil ?_
  change AC _ _ _ _
  refine AC.condF rfl rfl ?_
  refine AC.seq ?_
  refine AC.region ?_
  refine AO.op rfl (AOp.assertYes rfl rfl (ltb rfl) rfl rfl pass64_64 rfl ?_)
  first | refine AO.op rfl (AOp.extractD rfl rfl (ltb rfl) rfl rfl ?_) | refine AO.op rfl (AOp.extract rfl rfl (ltb rfl) rfl rfl ?_)
  first | refine AO.op rfl (AOp.extractD rfl rfl (ltb rfl) rfl rfl ?_) | refine AO.op rfl (AOp.extract rfl rfl (ltb rfl) rfl rfl ?_)
  refine AO.nil ?_
  change AC _ _ _ _
  refine AC.condT rfl rfl ?_
  refine AC.seq ?_
  refine AC.region ?_
  refine AO.op rfl (AOp.assign rfl rfl (ltb rfl) rfl ?_)
  refine AO.nil ?_
  change AC _ _ _ _
  refine AC.region ?_
  refine AO.op rfl (AOp.fieldAddr rfl rfl (ltb rfl) rfl fo30_0 ?_)
  refine AO.op rfl (AOp.store rfl rfl rfl rfl size3 rfl rfl rfl (leb rfl) ?_)
  refine AO.nil ?_
  change AC _ _ _ _
  refine AC.seq ?_
  refine AC.region ?_
  refine AO.op rfl (AOp.move rfl rfl (ltb rfl) rfl ?_)
  refine AO.op rfl (AOp.inlE [0, 2, 3] (EntersS.meth (by kernel_rfl) rfl rfl rfl meth64_Layout rfl rfl) Try.func136 rfl Try.ntmps136 rfl (ltb rfl) (leb rfl) rfl ?_)
  intro fr15
  refine AC.seq ?_
  refine AC.region ?_
  refine AO.op rfl (AOp.assign rfl rfl (ltb rfl) rfl ?_)
  refine AO.nil ?_
  change AC _ _ _ _
  refine AC.seq ?_
  refine AC.region ?_
  refine AO.op rfl (AOp.move rfl rfl (ltb rfl) rfl ?_)
  refine AO.op rfl (AOp.nilCheck rfl rfl (ltb rfl) rfl rfl ?_)
  refine AO.op rfl (AOp.fieldAddr rfl rfl (ltb rfl) rfl fo108_0 ?_)
  refine AO.op rfl (AOp.load1 rfl rfl (ltb rfl) rfl agg69 rfl rfl ?_)
  refine AO.op rfl (AOp.assign rfl rfl (ltb rfl) rfl ?_)
  refine AO.nil ?_
  change AC _ _ _ _
  refine AC.ret ?_
  refine inlret (ob' := [.fix 30 [.d (di .i64 (0 : Int)), .d (di .i64 (0 : Int)), .d (di .i64 (0 : Int)), .d (.v (.slice none 0 0)), .d (.v (.slice none 0 0)), .d (.v (.slice none 0 0)), .d (.v (.slice none 0 0))], .fix 4 [.d (dbool false)], .dead, .dead, .fix 114 [.d (di .i64 a0), .d (di .i64 y3), .own 8, .d (di .i64 (0 : Int)), .own 9], .dead, .dead, .dead, .grow 37 1 (List.map keS3 g12.1), .grow 26 1 (List.map keS5 g12.2), .frame fr13 [(4, .ptr 0 0), (5, .ptr 1 0)], .fix 30 [.d (di .i64 (0 : Int)), .d (di .i64 (0 : Int)), .d (di .i64 (0 : Int)), .d (.v (.slice none 0 0)), .d (.v (.slice none 0 0)), .d (.v (.slice none 0 0)), .d (.v (.slice none 0 0))], .dead, .fix 30 [.d (di .i64 (6 : Int)), .d (di .i64 (0 : Int)), .d (di .i64 (0 : Int)), .d (.v (.slice none 0 0)), .d (.v (.slice none 0 0)), .d (.v (.slice none 0 0)), .d (.v (.slice none 0 0))], .dead]) (e' := [(0, .ifc 64 (.ptr 4 0)), (2, .ptr 11 0), (3, .ptr 13 0)]) (r := .d (di .i64 a0)) rfl rfl rfl ?_
  change AO _ _ _ _ _
  refine AO.op rfl (AOp.move rfl rfl (ltb rfl) rfl ?_)
  refine AO.op rfl (AOp.inlE [0, 2, 3, 70] (EntersS.meth (by kernel_rfl) rfl rfl rfl meth64_FlatCoords rfl rfl) Try.func135 rfl Try.ntmps135 rfl (ltb rfl) (leb rfl) rfl ?_)
  intro fr16
  refine AC.seq ?_
  refine AC.region ?_
  refine AO.op rfl (AOp.assign rfl rfl (ltb rfl) rfl ?_)
  refine AO.nil ?_
  change AC _ _ _ _
  refine AC.seq ?_
  refine AC.region ?_
  refine AO.op rfl (AOp.move rfl rfl (ltb rfl) rfl ?_)
  refine AO.op rfl (AOp.nilCheck rfl rfl (ltb rfl) rfl rfl ?_)
  refine AO.op rfl (AOp.fieldAddr rfl rfl (ltb rfl) rfl fo108_2 ?_)
  refine AO.op rfl (AOp.load1 rfl rfl (ltb rfl) rfl agg25 rfl rfl ?_)
  refine AO.op rfl (AOp.assign rfl rfl (ltb rfl) rfl ?_)
  refine AO.nil ?_
  change AC _ _ _ _
  refine AC.ret ?_
  refine inlret (ob' := [.fix 30 [.d (di .i64 (0 : Int)), .d (di .i64 (0 : Int)), .d (di .i64 (0 : Int)), .d (.v (.slice none 0 0)), .d (.v (.slice none 0 0)), .d (.v (.slice none 0 0)), .d (.v (.slice none 0 0))], .fix 4 [.d (dbool false)], .dead, .dead, .fix 114 [.d (di .i64 a0), .d (di .i64 y3), .own 8, .d (di .i64 (0 : Int)), .own 9], .dead, .dead, .dead, .grow 37 1 (List.map keS3 g12.1), .grow 26 1 (List.map keS5 g12.2), .frame fr13 [(4, .ptr 0 0), (5, .ptr 1 0)], .fix 30 [.d (di .i64 (0 : Int)), .d (di .i64 (0 : Int)), .d (di .i64 (0 : Int)), .d (.v (.slice none 0 0)), .d (.v (.slice none 0 0)), .d (.v (.slice none 0 0)), .d (.v (.slice none 0 0))], .dead, .fix 30 [.d (di .i64 (6 : Int)), .d (di .i64 (0 : Int)), .d (di .i64 (0 : Int)), .d (.v (.slice none 0 0)), .d (.v (.slice none 0 0)), .d (.v (.slice none 0 0)), .d (.v (.slice none 0 0))], .dead, .dead]) (e' := [(0, .ifc 64 (.ptr 4 0)), (2, .ptr 11 0), (3, .ptr 13 0), (70, .d (di .i64 a0))]) (r := .own 8) rfl rfl rfl ?_
  change AO _ _ _ _ _
  refine AO.subO 4 rfl (.cons (SVLe.refl _) (.cons (SVLe.refl _) (.cons (SVLe.any _) (.cons (SVLe.refl _) (.cons (SVLe.refl _) .nil))))) ?_
  refine AO.freezeG 8 rfl rfl rfl ?_
  obtain ⟨y17, q18, h0⟩ := bind_elim h0
  refine AO.op rfl (AOp.callD rfl rfl (ltb rfl) rfl rfl (w_floats g12.1 y17 q18) ?_)
  rintro _ rfl
  refine AO.op rfl (AOp.move rfl rfl (ltb rfl) rfl ?_)
  refine AO.op rfl (AOp.inlE [0, 2, 3, 70, 73] (EntersS.meth (by kernel_rfl) rfl rfl rfl meth64_Ends rfl rfl) Try.func133 rfl Try.ntmps133 rfl (ltb rfl) (leb rfl) rfl ?_)
  intro fr19
  refine AC.seq ?_
  refine AC.region ?_
  refine AO.op rfl (AOp.assign rfl rfl (ltb rfl) rfl ?_)
  refine AO.nil ?_
  change AC _ _ _ _
  refine AC.seq ?_
  refine AC.region ?_
  refine AO.op rfl (AOp.assign rfl rfl (ltb rfl) rfl ?_)
  refine AO.nil ?_
  change AC _ _ _ _
  refine AC.ret ?_
  refine inlret (ob' := [.fix 30 [.d (di .i64 (0 : Int)), .d (di .i64 (0 : Int)), .d (di .i64 (0 : Int)), .d (.v (.slice none 0 0)), .d (.v (.slice none 0 0)), .d (.v (.slice none 0 0)), .d (.v (.slice none 0 0))], .fix 4 [.d (dbool false)], .dead, .dead, .fix 114 [.d (di .i64 a0), .d (di .i64 y3), .any, .d (di .i64 (0 : Int)), .own 9], .dead, .dead, .dead, .dead, .grow 26 1 (List.map keS5 g12.2), .frame fr13 [(4, .ptr 0 0), (5, .ptr 1 0)], .fix 30 [.d (di .i64 (0 : Int)), .d (di .i64 (0 : Int)), .d (di .i64 (0 : Int)), .d (.v (.slice none 0 0)), .d (.v (.slice none 0 0)), .d (.v (.slice none 0 0)), .d (.v (.slice none 0 0))], .dead, .fix 30 [.d (di .i64 (6 : Int)), .d (di .i64 (0 : Int)), .d (di .i64 (0 : Int)), .d (.v (.slice none 0 0)), .d (.v (.slice none 0 0)), .d (.v (.slice none 0 0)), .d (.v (.slice none 0 0))], .dead, .dead, .dead]) (e' := [(0, .ifc 64 (.ptr 4 0)), (2, .ptr 11 0), (3, .ptr 13 0), (70, .d (di .i64 a0)), (73, .d (eS3 y17))]) (r := .d (.v (.slice none 0 0))) rfl rfl rfl ?_
  change AO _ _ _ _ _
  refine AO.sub 75 rfl (SVLe.nil 1) ?_
  obtain ⟨y20, q21, h0⟩ := bind_elim h0
  refine AO.op rfl (AOp.callD rfl rfl (ltb rfl) rfl rfl (w_ints [] y20 q21) ?_)
  rintro _ rfl
  refine AO.op rfl (AOp.move rfl rfl (ltb rfl) rfl ?_)
  refine AO.op rfl (AOp.inlE [2, 3, 70, 73, 76] (EntersS.meth (by kernel_rfl) rfl rfl rfl meth64_Endss rfl rfl) Try.func134 rfl Try.ntmps134 rfl (ltb rfl) (leb rfl) rfl ?_)
  intro fr22
  refine AC.seq ?_
  refine AC.region ?_
  refine AO.op rfl (AOp.assign rfl rfl (ltb rfl) rfl ?_)
  refine AO.nil ?_
  change AC _ _ _ _
  refine AC.seq ?_
  refine AC.region ?_
  refine AO.op rfl (AOp.move rfl rfl (ltb rfl) rfl ?_)
  refine AO.op rfl (AOp.nilCheck rfl rfl (ltb rfl) rfl rfl ?_)
  refine AO.op rfl (AOp.fieldAddr rfl rfl (ltb rfl) rfl fo112_1 ?_)
  refine AO.op rfl (AOp.load1 rfl rfl (ltb rfl) rfl agg27 rfl rfl ?_)
  refine AO.op rfl (AOp.assign rfl rfl (ltb rfl) rfl ?_)
  refine AO.nil ?_
  change AC _ _ _ _
  refine AC.ret ?_
  refine inlret (ob' := [.fix 30 [.d (di .i64 (0 : Int)), .d (di .i64 (0 : Int)), .d (di .i64 (0 : Int)), .d (.v (.slice none 0 0)), .d (.v (.slice none 0 0)), .d (.v (.slice none 0 0)), .d (.v (.slice none 0 0))], .fix 4 [.d (dbool false)], .dead, .dead, .fix 114 [.d (di .i64 a0), .d (di .i64 y3), .any, .d (di .i64 (0 : Int)), .own 9], .dead, .dead, .dead, .dead, .grow 26 1 (List.map keS5 g12.2), .frame fr13 [(4, .ptr 0 0), (5, .ptr 1 0)], .fix 30 [.d (di .i64 (0 : Int)), .d (di .i64 (0 : Int)), .d (di .i64 (0 : Int)), .d (.v (.slice none 0 0)), .d (.v (.slice none 0 0)), .d (.v (.slice none 0 0)), .d (.v (.slice none 0 0))], .dead, .fix 30 [.d (di .i64 (6 : Int)), .d (di .i64 (0 : Int)), .d (di .i64 (0 : Int)), .d (.v (.slice none 0 0)), .d (.v (.slice none 0 0)), .d (.v (.slice none 0 0)), .d (.v (.slice none 0 0))], .dead, .dead, .dead, .dead]) (e' := [(2, .ptr 11 0), (3, .ptr 13 0), (70, .d (di .i64 a0)), (73, .d (eS3 y17)), (76, .d (eS4 y20))]) (r := .own 9) rfl rfl rfl ?_
  change AO _ _ _ _ _
  refine AO.subO 4 rfl (.cons (SVLe.refl _) (.cons (SVLe.refl _) (.cons (SVLe.refl _) (.cons (SVLe.refl _) (.cons (SVLe.any _) .nil))))) ?_
  refine AO.freezeG 9 rfl rfl rfl ?_
  obtain ⟨y23, q24, h0⟩ := bind_elim h0
  refine AO.op rfl (AOp.callD rfl rfl (ltb rfl) rfl rfl (w_intss F g12.2 y23 q24) ?_)
  rintro _ rfl
  refine AO.op rfl (AOp.fieldAddr rfl rfl (ltb rfl) rfl fo30_1 ?_)
  refine AO.op rfl (AOp.store rfl rfl rfl rfl size3 rfl rfl rfl (leb rfl) ?_)
  refine AO.op rfl (AOp.fieldAddr rfl rfl (ltb rfl) rfl fo30_3 ?_)
  refine AO.op rfl (AOp.store rfl rfl rfl rfl size25 rfl rfl rfl (leb rfl) ?_)
  refine AO.op rfl (AOp.fieldAddr rfl rfl (ltb rfl) rfl fo30_4 ?_)
  refine AO.op rfl (AOp.store rfl rfl rfl rfl size26 rfl rfl rfl (leb rfl) ?_)
  refine AO.op rfl (AOp.fieldAddr rfl rfl (ltb rfl) rfl fo30_5 ?_)
  refine AO.op rfl (AOp.store rfl rfl rfl rfl size27 rfl rfl rfl (leb rfl) ?_)
  refine AO.nil ?_
  change AC _ _ _ _
  refine AC.seq ?_
  refine AC.region ?_
  refine AO.op rfl (AOp.loadN rfl rfl (ltb rfl) rfl agg30 size30 rfl (leb rfl) rfl ?_)
  refine AO.op rfl (AOp.store rfl rfl rfl rfl size30 rfl rfl rfl (leb rfl) ?_)
  refine AO.nil ?_
  change AC _ _ _ _
  refine AC.ret ?_
  refine inlret (ob' := [.fix 30 [.d (di .i64 (0 : Int)), .d (di .i64 (0 : Int)), .d (di .i64 (0 : Int)), .d (.v (.slice none 0 0)), .d (.v (.slice none 0 0)), .d (.v (.slice none 0 0)), .d (.v (.slice none 0 0))], .fix 4 [.d (dbool false)], .dead, .dead, .fix 114 [.d (di .i64 a0), .d (di .i64 y3), .any, .d (di .i64 (0 : Int)), .any], .dead, .dead, .dead, .dead, .dead, .dead, .fix 30 [.d (di .i64 (6 : Int)), .d (di .i64 a0), .d (di .i64 (0 : Int)), .d (eS3 y17), .d (eS4 y20), .d (eS5 y23), .d (.v (.slice none 0 0))], .dead, .fix 30 [.d (di .i64 (6 : Int)), .d (di .i64 a0), .d (di .i64 (0 : Int)), .d (eS3 y17), .d (eS4 y20), .d (eS5 y23), .d (.v (.slice none 0 0))], .dead, .dead, .dead, .dead]) (e' := [(4, .ptr 0 0), (5, .ptr 1 0)]) (r := .ag [.d (di .i64 (6 : Int)), .d (di .i64 a0), .d (di .i64 (0 : Int)), .d (eS3 y17), .d (eS4 y20), .d (eS5 y23), .d (.v (.slice none 0 0))]) rfl rfl rfl ?_
  change AO _ _ _ _ _
  refine AO.op rfl (AOp.store rfl rfl rfl rfl size30 rfl rfl rfl (leb rfl) ?_)
  refine AO.op rfl (AOp.store rfl rfl rfl rfl size4 rfl rfl rfl (leb rfl) ?_)
  refine AO.nil ?_
  change AC _ _ _ _
  refine AC.subO 0 rfl (.cons (SVLe.refl _) (.cons (SVLe.refl _) (.cons (SVLe.refl _) (.cons (SVLe.refl _) (.cons (SVLe.refl _) (.cons (SVLe.refl _) (.cons (SVLe.nil 7) .nil))))))) ?_
  refine AC.ret ?_
  change RetQ _ _ _ .ret _
  obtain rfl := Option.some.inj h0
  refine retq rfl rfl

theorem callBits (x : Nat) (w : World) : (callFunc 48 #[.float .f64 x]).run Try.prog w = .ok (.value (.int .u64 x)) w := by
  rw [run_callFunc_extern Try.func48 (by kernel_rfl) (by kernel_rfl) (by kernel_rfl) (e := Extern.MathFloatBits.float64bits) (by kernel_rfl), run_f64bits Try.prog x]
  rfl

set_option maxRecDepth 100000 in
set_option maxHeartbeats 1000000 in
/-- pub-orthodrome/spec.SameFloats -/
theorem w_SameFloats (F : Nat) (a0 : (List Nat)) (a1 : (List Nat)) (r0 : Bool) (h0 : p_SameFloats F a0 a1 = some r0) : FnD Try.prog 18 [eS3 a0, eS3 a1] (fun r => r = dbool r0) := by
  refine FnD.of (by kernel_rfl) Try.func18 rfl Try.ntmps18 rfl (leb rfl) fun W ok => ?_
  unfold p_SameFloats at h0
  refine AC.seq ?_
  refine AC.region ?_
  refine AO.op rfl (AOp.assign rfl rfl (ltb rfl) rfl ?_)
  refine AO.nil ?_
  change AC _ _ _ _
  refine AC.seq ?_
  refine AC.seq ?_
  refine AC.region ?_
  refine AO.op rfl (AOp.move rfl rfl (ltb rfl) rfl ?_)
  refine AO.op rfl (AOp.lenDs (n := a0.length) (cells := (List.map keS3 a0)) rfl rfl (ltb rfl) rfl el25 (by decide) (len1 _ _) ?_)
  refine AO.op rfl (AOp.move rfl rfl (ltb rfl) rfl ?_)
  refine AO.op rfl (AOp.lenDs (n := a1.length) (cells := (List.map keS3 a1)) rfl rfl (ltb rfl) rfl el25 (by decide) (len1 _ _) ?_)
  refine AO.op rfl (AOp.ineq rfl rfl (ltb rfl) rfl rfl ?_)
  refine AO.nil ?_
  change AC _ _ _ _
  refine AC.cond rfl (fun q1 => ?_) (fun q1 => ?_)
  · replace h0 := cT h0 q1
    refine AC.seq ?_
    refine AC.region ?_
    refine AO.op rfl (AOp.assign rfl rfl (ltb rfl) rfl ?_)
    refine AO.nil ?_
    change AC _ _ _ _
    refine AC.ret ?_
    change RetQ _ _ _ .ret _
    obtain rfl := Option.some.inj h0
    refine retq rfl rfl
  replace h0 := cF h0 q1
  refine AC.skip ?_
  change AC _ _ _ _
  refine AC.seq ?_
  refine AC.seq ?_
  refine AC.region ?_
  refine AO.op rfl (AOp.move rfl rfl (ltb rfl) rfl ?_)
  refine AO.op rfl (AOp.lenDs (n := a0.length) (cells := (List.map keS3 a0)) rfl rfl (ltb rfl) rfl el25 (by decide) (len1 _ _) ?_)
  refine AO.op rfl (AOp.move rfl rfl (ltb rfl) rfl ?_)
  refine AO.nil ?_
  change AC _ _ _ _
  obtain ⟨o2, l3, h0⟩ := bind_elim h0
  refine AC.joinE (V := Unit) [] [] 0 (fun g4 => []) (fun g4 => []) (fun g4 => p_SameFloats_k1 g4 = some r0) rfl ?_ ?_
  · refine AC.block ?_
    refine AC.loopP (V := Int) (p_SameFloats_l2 a0 a1) o2 [1, 12, 13] [14] 0 (fun g5 => [(14, .d (di .i64 g5))]) (fun g5 => []) F (0 : Int) l3 rfl rfl (LeL.refl _) rfl rfl ?_
    intro n7 g5 h1
    unfold p_SameFloats_l2 at h1
    refine AC.seq ?_
    refine AC.region ?_
    refine AO.op rfl (AOp.ilss rfl rfl (ltb rfl) rfl rfl ?_)
    refine AO.nil ?_
    change AC _ _ _ _
    refine AC.seq ?_
    refine AC.cond rfl (fun q8 => ?_) (fun q8 => ?_)
    · replace h1 := cT h1 q8
      refine AC.skip ?_
      change AC _ _ _ _
      refine AC.seq ?_
      refine AC.block ?_
      refine AC.seq ?_
      refine AC.region ?_
      refine AO.op rfl (AOp.move rfl rfl (ltb rfl) rfl ?_)
      obtain ⟨x9, q10, h1⟩ := idx_elim h1
      refine AO.op rfl (AOp.indexDs (cells := (List.map keS3 a0)) rfl rfl (ltb rfl) rfl rfl el25 (by decide) q10.1 (lt1 q10.2) ?_)
      refine AO.op rfl (AOp.loadEp rfl rfl (ltb rfl) rfl agg37 (at1 q10.2) ?_)
      refine AO.op rfl (AOp.assign rfl rfl (ltb rfl) rfl ?_)
      refine AO.op rfl (AOp.assign rfl rfl (ltb rfl) rfl ?_)
      refine AO.nil ?_
      change AC _ _ _ _
      refine AC.seq ?_
      refine AC.draw 8 mixed (by kernel_rfl) ?_
      refine AD.op [6] rfl (by kernel_rfl) rfl rfl (fun _ _ h => AOp.move rfl rfl (ltb rfl) rfl h) ?_
      refine AD.op [19] rfl (by kernel_rfl) rfl rfl (fun _ _ h => AOp.callX [.float .f64 x9] rfl rfl (ltb rfl) rfl (callBits x9) h) ?_
      refine AD.op [1] rfl (by kernel_rfl) rfl rfl (fun _ _ h => AOp.move rfl rfl (ltb rfl) rfl h) ?_
      refine AD.op [5] rfl (by kernel_rfl) rfl rfl (fun _ _ h => AOp.move rfl rfl (ltb rfl) rfl h) ?_
      obtain ⟨x11, q12, h1⟩ := idx_elim h1
      refine AD.op [21, 22] rfl (by kernel_rfl) rfl rfl (fun _ _ h => AOp.indexDs (cells := (List.map keS3 a1)) rfl rfl (ltb rfl) rfl rfl el25 (by decide) q12.1 (lt1 q12.2) h) ?_
      refine AD.op [23] rfl (by kernel_rfl) rfl rfl (fun _ _ h => AOp.loadEp rfl rfl (ltb rfl) rfl agg37 (at1 q12.2) h) ?_
      refine AD.op [24] rfl (by kernel_rfl) rfl rfl (fun _ _ h => AOp.callX [.float .f64 x11] rfl rfl (ltb rfl) rfl (callBits x11) h) ?_
      refine AD.op [20, 25] rfl (by kernel_rfl) rfl rfl (fun _ _ h => AOp.ineq rfl rfl (ltb rfl) rfl rfl h) ?_
      refine AD.done ?_
      refine AO.nil ?_
      change AC _ _ _ _
      refine AC.cond rfl (fun q13 => ?_) (fun q13 => ?_)
      · replace h1 := cT h1 q13
        refine AC.seq ?_
        refine AC.region ?_
        refine AO.op rfl (AOp.assign rfl rfl (ltb rfl) rfl ?_)
        refine AO.nil ?_
        change AC _ _ _ _
        refine AC.ret ?_
        change RetQ _ _ _ .ret _
        obtain rfl := Option.some.inj h1
        replace h0 := aftR h0
        obtain rfl := Option.some.inj h0
        refine retq rfl rfl
      replace h1 := cF h1 q13
      refine AC.skip ?_
      change AC _ _ _ _
      refine AC.region ?_
      obtain ⟨q14, h1⟩ := need_elim h1
      refine AO.op rfl (AOp.iadd rfl rfl (ltb rfl) rfl rfl rfl q14.1 q14.2 ?_)
      refine AO.op rfl (AOp.move rfl rfl (ltb rfl) rfl ?_)
      refine AO.nil ?_
      exact ⟨(g5 + (1 : Int)), _, rfl, (LeL.refl _), rfl, rfl, h1⟩
    replace h1 := cF h1 q8
    refine AC.exit ?_
    obtain rfl := Option.some.inj h1
    exact ⟨(), _, rfl, (LeL.refl _), rfl, rfl, aftL h0⟩
  intro g4 h0
  unfold p_SameFloats_k1 at h0
  change AC _ _ _ _
  refine AC.seq ?_
  refine AC.region ?_
  refine AO.op rfl (AOp.assign rfl rfl (ltb rfl) rfl ?_)
  refine AO.nil ?_
  change AC _ _ _ _
  refine AC.ret ?_
  change RetQ _ _ _ .ret _
  obtain rfl := Option.some.inj h0
  refine retq rfl rfl

set_option maxRecDepth 100000 in
set_option maxHeartbeats 1000000 in
/-- pub-orthodrome/spec.sameInts -/
theorem w_sameInts (F : Nat) (a0 : (List Int)) (a1 : (List Int)) (r0 : Bool) (h0 : p_sameInts F a0 a1 = some r0) : FnD Try.prog 41 [eS4 a0, eS4 a1] (fun r => r = dbool r0) := by
  refine FnD.of (by kernel_rfl) Try.func41 rfl Try.ntmps41 rfl (leb rfl) fun W ok => ?_
  unfold p_sameInts at h0
  refine AC.seq ?_
  refine AC.region ?_
  refine AO.op rfl (AOp.assign rfl rfl (ltb rfl) rfl ?_)
  refine AO.nil ?_
  change AC _ _ _ _
  refine AC.seq ?_
  refine AC.seq ?_
  refine AC.region ?_
  refine AO.op rfl (AOp.move rfl rfl (ltb rfl) rfl ?_)
  refine AO.op rfl (AOp.lenDs (n := a0.length) (cells := (List.map keS4 a0)) rfl rfl (ltb rfl) rfl el26 (by decide) (len1 _ _) ?_)
  refine AO.op rfl (AOp.move rfl rfl (ltb rfl) rfl ?_)
  refine AO.op rfl (AOp.lenDs (n := a1.length) (cells := (List.map keS4 a1)) rfl rfl (ltb rfl) rfl el26 (by decide) (len1 _ _) ?_)
  refine AO.op rfl (AOp.ineq rfl rfl (ltb rfl) rfl rfl ?_)
  refine AO.nil ?_
  change AC _ _ _ _
  refine AC.cond rfl (fun q1 => ?_) (fun q1 => ?_)
  · replace h0 := cT h0 q1
    refine AC.seq ?_
    refine AC.region ?_
    refine AO.op rfl (AOp.assign rfl rfl (ltb rfl) rfl ?_)
    refine AO.nil ?_
    change AC _ _ _ _
    refine AC.ret ?_
    change RetQ _ _ _ .ret _
    obtain rfl := Option.some.inj h0
    refine retq rfl rfl
  replace h0 := cF h0 q1
  refine AC.skip ?_
  change AC _ _ _ _
  refine AC.seq ?_
  refine AC.seq ?_
  refine AC.region ?_
  refine AO.op rfl (AOp.move rfl rfl (ltb rfl) rfl ?_)
  refine AO.op rfl (AOp.lenDs (n := a0.length) (cells := (List.map keS4 a0)) rfl rfl (ltb rfl) rfl el26 (by decide) (len1 _ _) ?_)
  refine AO.op rfl (AOp.move rfl rfl (ltb rfl) rfl ?_)
  refine AO.nil ?_
  change AC _ _ _ _
  obtain ⟨o2, l3, h0⟩ := bind_elim h0
  refine AC.joinE (V := Unit) [] [] 0 (fun g4 => []) (fun g4 => []) (fun g4 => p_sameInts_k1 g4 = some r0) rfl ?_ ?_
  · refine AC.block ?_
    refine AC.loopP (V := Int) (p_sameInts_l2 a0 a1) o2 [1, 12, 13] [14] 0 (fun g5 => [(14, .d (di .i64 g5))]) (fun g5 => []) F (0 : Int) l3 rfl rfl (LeL.refl _) rfl rfl ?_
    intro n7 g5 h1
    unfold p_sameInts_l2 at h1
    refine AC.seq ?_
    refine AC.region ?_
    refine AO.op rfl (AOp.ilss rfl rfl (ltb rfl) rfl rfl ?_)
    refine AO.nil ?_
    change AC _ _ _ _
    refine AC.seq ?_
    refine AC.cond rfl (fun q8 => ?_) (fun q8 => ?_)
    · replace h1 := cT h1 q8
      refine AC.skip ?_
      change AC _ _ _ _
      refine AC.seq ?_
      refine AC.block ?_
      refine AC.seq ?_
      refine AC.region ?_
      refine AO.op rfl (AOp.move rfl rfl (ltb rfl) rfl ?_)
      obtain ⟨x9, q10, h1⟩ := idx_elim h1
      refine AO.op rfl (AOp.indexDs (cells := (List.map keS4 a0)) rfl rfl (ltb rfl) rfl rfl el26 (by decide) q10.1 (lt1 q10.2) ?_)
      refine AO.op rfl (AOp.loadEp rfl rfl (ltb rfl) rfl agg3 (at1 q10.2) ?_)
      refine AO.op rfl (AOp.assign rfl rfl (ltb rfl) rfl ?_)
      refine AO.op rfl (AOp.assign rfl rfl (ltb rfl) rfl ?_)
      refine AO.nil ?_
      change AC _ _ _ _
      refine AC.seq ?_
      refine AC.region ?_
      refine AO.op rfl (AOp.move rfl rfl (ltb rfl) rfl ?_)
      refine AO.op rfl (AOp.move rfl rfl (ltb rfl) rfl ?_)
      refine AO.op rfl (AOp.move rfl rfl (ltb rfl) rfl ?_)
      obtain ⟨x11, q12, h1⟩ := idx_elim h1
      refine AO.op rfl (AOp.indexDs (cells := (List.map keS4 a1)) rfl rfl (ltb rfl) rfl rfl el26 (by decide) q12.1 (lt1 q12.2) ?_)
      refine AO.op rfl (AOp.loadEp rfl rfl (ltb rfl) rfl agg3 (at1 q12.2) ?_)
      refine AO.op rfl (AOp.ineq rfl rfl (ltb rfl) rfl rfl ?_)
      refine AO.nil ?_
      change AC _ _ _ _
      refine AC.cond rfl (fun q13 => ?_) (fun q13 => ?_)
      · replace h1 := cT h1 q13
        refine AC.seq ?_
        refine AC.region ?_
        refine AO.op rfl (AOp.assign rfl rfl (ltb rfl) rfl ?_)
        refine AO.nil ?_
        change AC _ _ _ _
        refine AC.ret ?_
        change RetQ _ _ _ .ret _
        obtain rfl := Option.some.inj h1
        replace h0 := aftR h0
        obtain rfl := Option.some.inj h0
        refine retq rfl rfl
      replace h1 := cF h1 q13
      refine AC.skip ?_
      change AC _ _ _ _
      refine AC.region ?_
      obtain ⟨q14, h1⟩ := need_elim h1
      refine AO.op rfl (AOp.iadd rfl rfl (ltb rfl) rfl rfl rfl q14.1 q14.2 ?_)
      refine AO.op rfl (AOp.move rfl rfl (ltb rfl) rfl ?_)
      refine AO.nil ?_
      exact ⟨(g5 + (1 : Int)), _, rfl, (LeL.refl _), rfl, rfl, h1⟩
    replace h1 := cF h1 q8
    refine AC.exit ?_
    obtain rfl := Option.some.inj h1
    exact ⟨(), _, rfl, (LeL.refl _), rfl, rfl, aftL h0⟩
  intro g4 h0
  unfold p_sameInts_k1 at h0
  change AC _ _ _ _
  refine AC.seq ?_
  refine AC.region ?_
  refine AO.op rfl (AOp.assign rfl rfl (ltb rfl) rfl ?_)
  refine AO.nil ?_
  change AC _ _ _ _
  refine AC.ret ?_
  change RetQ _ _ _ .ret _
  obtain rfl := Option.some.inj h0
  refine retq rfl rfl

set_option maxRecDepth 100000 in
set_option maxHeartbeats 1000000 in
/-- pub-orthodrome/spec.SameGeom -/
theorem w_SameGeom_b (Rec_ : TImpl_Geom → TImpl_Geom → Option Bool) (hR : ∀ (a0 : TImpl_Geom) (a1 : TImpl_Geom) (r0 : Bool), Rec_ a0 a1 = some r0 → FnD Try.prog 14 [e_TImpl_Geom a0, e_TImpl_Geom a1] (fun r => r = dbool r0)) (F : Nat) (a0 : TImpl_Geom) (a1 : TImpl_Geom) (r0 : Bool) (h0 : p_SameGeom_b Rec_ F a0 a1 = some r0) : FnD Try.prog 14 [e_TImpl_Geom a0, e_TImpl_Geom a1] (fun r => r = dbool r0) := by
  refine FnD.of (by kernel_rfl) Try.func14 rfl Try.ntmps14 rfl (leb rfl) fun W ok => ?_
  unfold p_SameGeom_b at h0
  refine AC.seq ?_
  refine AC.region ?_
  refine AO.op rfl (AOp.box rfl rfl (ltb rfl) rfl rfl ?_)
  refine AO.op rfl (AOp.box rfl rfl (ltb rfl) rfl rfl ?_)
  refine AO.op rfl (AOp.assign rfl rfl (ltb rfl) rfl ?_)
  refine AO.nil ?_
  change AC _ _ _ _
  refine AC.seq ?_
  refine AC.joinP (V := Bool) [2, 3] [61] 2 (fun g1 => [(61, .d (dbool g1))]) (fun g1 => [.fix 30 [.d (di .i64 a0.Kind), .d (di .i64 a0.Layout), .d (di .i64 a0.SRID), .d (eS3 a0.Flat), .d (eS4 a0.Ends), .d (eS5 a0.Endss), .d (eS6 a0.Kids)], .fix 30 [.d (di .i64 a1.Kind), .d (di .i64 a1.Layout), .d (di .i64 a1.SRID), .d (eS3 a1.Flat), .d (eS4 a1.Ends), .d (eS5 a1.Endss), .d (eS6 a1.Kids)]]) (fun g1 => (p_SameGeom_k1 a0 a1 F Rec_) g1 = some r0) rfl ?_ ?_
  · refine AC.region ?_
    refine AO.op rfl (AOp.fieldAddr rfl rfl (ltb rfl) rfl fo30_0 ?_)
    refine AO.op rfl (AOp.load1 rfl rfl (ltb rfl) rfl agg3 rfl rfl ?_)
    refine AO.op rfl (AOp.fieldAddr rfl rfl (ltb rfl) rfl fo30_0 ?_)
    refine AO.op rfl (AOp.load1 rfl rfl (ltb rfl) rfl agg3 rfl rfl ?_)
    refine AO.op rfl (AOp.ineq rfl rfl (ltb rfl) rfl rfl ?_)
    refine AO.op rfl (AOp.move rfl rfl (ltb rfl) rfl ?_)
    refine AO.dec (!decide (a0.Kind = a1.Kind)) (fun q33 => ?_) (fun q33 => ?_)
    · replace h0 := cT h0 q33
      refine AO.guardN rfl rfl rfl (ltb rfl) rfl q33 ?_
      refine AO.guardN rfl rfl rfl (ltb rfl) rfl q33 ?_
      refine AO.guardN rfl rfl rfl (ltb rfl) rfl q33 ?_
      refine AO.guardN rfl rfl rfl (ltb rfl) rfl q33 ?_
      refine AO.guardN rfl rfl rfl (ltb rfl) rfl q33 ?_
      refine AO.op rfl (AOp.pick rfl rfl (ltb rfl) rfl q33 rfl ?_)
      refine AO.op rfl (AOp.move rfl rfl (ltb rfl) rfl ?_)
      refine AO.guardN rfl rfl rfl (ltb rfl) rfl rfl ?_
      refine AO.guardN rfl rfl rfl (ltb rfl) rfl rfl ?_
      refine AO.guardN rfl rfl rfl (ltb rfl) rfl rfl ?_
      refine AO.guardN rfl rfl rfl (ltb rfl) rfl rfl ?_
      refine AO.guardN rfl rfl rfl (ltb rfl) rfl rfl ?_
      refine AO.op rfl (AOp.pick rfl rfl (ltb rfl) rfl rfl rfl ?_)
      refine AO.op rfl (AOp.move rfl rfl (ltb rfl) rfl ?_)
      refine AO.guardN rfl rfl rfl (ltb rfl) rfl rfl ?_
      refine AO.guardN rfl rfl rfl (ltb rfl) rfl rfl ?_
      refine AO.guardN rfl rfl rfl (ltb rfl) rfl rfl ?_
      refine AO.guardN rfl rfl rfl (ltb rfl) rfl rfl ?_
      refine AO.guardN rfl rfl rfl (ltb rfl) rfl rfl ?_
      refine AO.guardN rfl rfl rfl (ltb rfl) rfl rfl ?_
      refine AO.op rfl (AOp.pick rfl rfl (ltb rfl) rfl rfl rfl ?_)
      refine AO.op rfl (AOp.move rfl rfl (ltb rfl) rfl ?_)
      refine AO.guardN rfl rfl rfl (ltb rfl) rfl rfl ?_
      refine AO.guardN rfl rfl rfl (ltb rfl) rfl rfl ?_
      refine AO.guardN rfl rfl rfl (ltb rfl) rfl rfl ?_
      refine AO.guardN rfl rfl rfl (ltb rfl) rfl rfl ?_
      refine AO.guardN rfl rfl rfl (ltb rfl) rfl rfl ?_
      refine AO.guardN rfl rfl rfl (ltb rfl) rfl rfl ?_
      refine AO.op rfl (AOp.pick rfl rfl (ltb rfl) rfl rfl rfl ?_)
      refine AO.op rfl (AOp.move rfl rfl (ltb rfl) rfl ?_)
      refine AO.guardN rfl rfl rfl (ltb rfl) rfl rfl ?_
      refine AO.guardN rfl rfl rfl (ltb rfl) rfl rfl ?_
      refine AO.guardN rfl rfl rfl (ltb rfl) rfl rfl ?_
      refine AO.guardN rfl rfl rfl (ltb rfl) rfl rfl ?_
      refine AO.guardN rfl rfl rfl (ltb rfl) rfl rfl ?_
      refine AO.guardN rfl rfl rfl (ltb rfl) rfl rfl ?_
      refine AO.guardN rfl rfl rfl (ltb rfl) rfl rfl ?_
      refine AO.op rfl (AOp.pick rfl rfl (ltb rfl) rfl rfl rfl ?_)
      refine AO.op rfl (AOp.move rfl rfl (ltb rfl) rfl ?_)
      refine AO.guardN rfl rfl rfl (ltb rfl) rfl rfl ?_
      refine AO.guardN rfl rfl rfl (ltb rfl) rfl rfl ?_
      refine AO.guardN rfl rfl rfl (ltb rfl) rfl rfl ?_
      refine AO.guardN rfl rfl rfl (ltb rfl) rfl rfl ?_
      refine AO.guardN rfl rfl rfl (ltb rfl) rfl rfl ?_
      refine AO.guardN rfl rfl rfl (ltb rfl) rfl rfl ?_
      refine AO.guardN rfl rfl rfl (ltb rfl) rfl rfl ?_
      refine AO.op rfl (AOp.pick rfl rfl (ltb rfl) rfl rfl rfl ?_)
      refine AO.nil ?_
      exact ⟨true, _, rfl, (LeL.refl _), rfl, rfl, h0⟩
    replace h0 := cF h0 q33
    refine AO.guardY rfl rfl rfl q33 (AOp.fieldAddr rfl rfl (ltb rfl) rfl fo30_1 ?_)
    refine AO.guardY rfl rfl rfl q33 (AOp.load1 rfl rfl (ltb rfl) rfl agg3 rfl rfl ?_)
    refine AO.guardY rfl rfl rfl q33 (AOp.fieldAddr rfl rfl (ltb rfl) rfl fo30_1 ?_)
    refine AO.guardY rfl rfl rfl q33 (AOp.load1 rfl rfl (ltb rfl) rfl agg3 rfl rfl ?_)
    refine AO.guardY rfl rfl rfl q33 (AOp.ineq rfl rfl (ltb rfl) rfl rfl ?_)
    refine AO.op rfl (AOp.pickN rfl rfl (ltb rfl) rfl q33 rfl ?_)
    refine AO.op rfl (AOp.move rfl rfl (ltb rfl) rfl ?_)
    refine AO.dec (!decide (a0.Layout = a1.Layout)) (fun q34 => ?_) (fun q34 => ?_)
    · replace h0 := cT h0 q34
      refine AO.guardN rfl rfl rfl (ltb rfl) rfl q34 ?_
      refine AO.guardN rfl rfl rfl (ltb rfl) rfl q34 ?_
      refine AO.guardN rfl rfl rfl (ltb rfl) rfl q34 ?_
      refine AO.guardN rfl rfl rfl (ltb rfl) rfl q34 ?_
      refine AO.guardN rfl rfl rfl (ltb rfl) rfl q34 ?_
      refine AO.op rfl (AOp.pick rfl rfl (ltb rfl) rfl q34 rfl ?_)
      refine AO.op rfl (AOp.move rfl rfl (ltb rfl) rfl ?_)
      refine AO.guardN rfl rfl rfl (ltb rfl) rfl rfl ?_
      refine AO.guardN rfl rfl rfl (ltb rfl) rfl rfl ?_
      refine AO.guardN rfl rfl rfl (ltb rfl) rfl rfl ?_
      refine AO.guardN rfl rfl rfl (ltb rfl) rfl rfl ?_
      refine AO.guardN rfl rfl rfl (ltb rfl) rfl rfl ?_
      refine AO.guardN rfl rfl rfl (ltb rfl) rfl rfl ?_
      refine AO.op rfl (AOp.pick rfl rfl (ltb rfl) rfl rfl rfl ?_)
      refine AO.op rfl (AOp.move rfl rfl (ltb rfl) rfl ?_)
      refine AO.guardN rfl rfl rfl (ltb rfl) rfl rfl ?_
      refine AO.guardN rfl rfl rfl (ltb rfl) rfl rfl ?_
      refine AO.guardN rfl rfl rfl (ltb rfl) rfl rfl ?_
      refine AO.guardN rfl rfl rfl (ltb rfl) rfl rfl ?_
      refine AO.guardN rfl rfl rfl (ltb rfl) rfl rfl ?_
      refine AO.guardN rfl rfl rfl (ltb rfl) rfl rfl ?_
      refine AO.op rfl (AOp.pick rfl rfl (ltb rfl) rfl rfl rfl ?_)
      refine AO.op rfl (AOp.move rfl rfl (ltb rfl) rfl ?_)
      refine AO.guardN rfl rfl rfl (ltb rfl) rfl rfl ?_
      refine AO.guardN rfl rfl rfl (ltb rfl) rfl rfl ?_
      refine AO.guardN rfl rfl rfl (ltb rfl) rfl rfl ?_
      refine AO.guardN rfl rfl rfl (ltb rfl) rfl rfl ?_
      refine AO.guardN rfl rfl rfl (ltb rfl) rfl rfl ?_
      refine AO.guardN rfl rfl rfl (ltb rfl) rfl rfl ?_
      refine AO.guardN rfl rfl rfl (ltb rfl) rfl rfl ?_
      refine AO.op rfl (AOp.pick rfl rfl (ltb rfl) rfl rfl rfl ?_)
      refine AO.op rfl (AOp.move rfl rfl (ltb rfl) rfl ?_)
      refine AO.guardN rfl rfl rfl (ltb rfl) rfl rfl ?_
      refine AO.guardN rfl rfl rfl (ltb rfl) rfl rfl ?_
      refine AO.guardN rfl rfl rfl (ltb rfl) rfl rfl ?_
      refine AO.guardN rfl rfl rfl (ltb rfl) rfl rfl ?_
      refine AO.guardN rfl rfl rfl (ltb rfl) rfl rfl ?_
      refine AO.guardN rfl rfl rfl (ltb rfl) rfl rfl ?_
      refine AO.guardN rfl rfl rfl (ltb rfl) rfl rfl ?_
      refine AO.op rfl (AOp.pick rfl rfl (ltb rfl) rfl rfl rfl ?_)
      refine AO.nil ?_
      exact ⟨true, _, rfl, (LeL.refl _), rfl, rfl, h0⟩
    replace h0 := cF h0 q34
    refine AO.guardY rfl rfl rfl q34 (AOp.fieldAddr rfl rfl (ltb rfl) rfl fo30_2 ?_)
    refine AO.guardY rfl rfl rfl q34 (AOp.load1 rfl rfl (ltb rfl) rfl agg3 rfl rfl ?_)
    refine AO.guardY rfl rfl rfl q34 (AOp.fieldAddr rfl rfl (ltb rfl) rfl fo30_2 ?_)
    refine AO.guardY rfl rfl rfl q34 (AOp.load1 rfl rfl (ltb rfl) rfl agg3 rfl rfl ?_)
    refine AO.guardY rfl rfl rfl q34 (AOp.ineq rfl rfl (ltb rfl) rfl rfl ?_)
    refine AO.op rfl (AOp.pickN rfl rfl (ltb rfl) rfl q34 rfl ?_)
    refine AO.op rfl (AOp.move rfl rfl (ltb rfl) rfl ?_)
    refine AO.dec (!decide (a0.SRID = a1.SRID)) (fun q35 => ?_) (fun q35 => ?_)
    · replace h0 := cT h0 q35
      refine AO.guardN rfl rfl rfl (ltb rfl) rfl q35 ?_
      refine AO.guardN rfl rfl rfl (ltb rfl) rfl q35 ?_
      refine AO.guardN rfl rfl rfl (ltb rfl) rfl q35 ?_
      refine AO.guardN rfl rfl rfl (ltb rfl) rfl q35 ?_
      refine AO.guardN rfl rfl rfl (ltb rfl) rfl q35 ?_
      refine AO.guardN rfl rfl rfl (ltb rfl) rfl q35 ?_
      refine AO.op rfl (AOp.pick rfl rfl (ltb rfl) rfl q35 rfl ?_)
      refine AO.op rfl (AOp.move rfl rfl (ltb rfl) rfl ?_)
      refine AO.guardN rfl rfl rfl (ltb rfl) rfl rfl ?_
      refine AO.guardN rfl rfl rfl (ltb rfl) rfl rfl ?_
      refine AO.guardN rfl rfl rfl (ltb rfl) rfl rfl ?_
      refine AO.guardN rfl rfl rfl (ltb rfl) rfl rfl ?_
      refine AO.guardN rfl rfl rfl (ltb rfl) rfl rfl ?_
      refine AO.guardN rfl rfl rfl (ltb rfl) rfl rfl ?_
      refine AO.op rfl (AOp.pick rfl rfl (ltb rfl) rfl rfl rfl ?_)
      refine AO.op rfl (AOp.move rfl rfl (ltb rfl) rfl ?_)
      refine AO.guardN rfl rfl rfl (ltb rfl) rfl rfl ?_
      refine AO.guardN rfl rfl rfl (ltb rfl) rfl rfl ?_
      refine AO.guardN rfl rfl rfl (ltb rfl) rfl rfl ?_
      refine AO.guardN rfl rfl rfl (ltb rfl) rfl rfl ?_
      refine AO.guardN rfl rfl rfl (ltb rfl) rfl rfl ?_
      refine AO.guardN rfl rfl rfl (ltb rfl) rfl rfl ?_
      refine AO.guardN rfl rfl rfl (ltb rfl) rfl rfl ?_
      refine AO.op rfl (AOp.pick rfl rfl (ltb rfl) rfl rfl rfl ?_)
      refine AO.op rfl (AOp.move rfl rfl (ltb rfl) rfl ?_)
      refine AO.guardN rfl rfl rfl (ltb rfl) rfl rfl ?_
      refine AO.guardN rfl rfl rfl (ltb rfl) rfl rfl ?_
      refine AO.guardN rfl rfl rfl (ltb rfl) rfl rfl ?_
      refine AO.guardN rfl rfl rfl (ltb rfl) rfl rfl ?_
      refine AO.guardN rfl rfl rfl (ltb rfl) rfl rfl ?_
      refine AO.guardN rfl rfl rfl (ltb rfl) rfl rfl ?_
      refine AO.guardN rfl rfl rfl (ltb rfl) rfl rfl ?_
      refine AO.op rfl (AOp.pick rfl rfl (ltb rfl) rfl rfl rfl ?_)
      refine AO.nil ?_
      exact ⟨true, _, rfl, (LeL.refl _), rfl, rfl, h0⟩
    replace h0 := cF h0 q35
    refine AO.guardY rfl rfl rfl q35 (AOp.fieldAddr rfl rfl (ltb rfl) rfl fo30_3 ?_)
    refine AO.guardY rfl rfl rfl q35 (AOp.load1 rfl rfl (ltb rfl) rfl agg25 rfl rfl ?_)
    refine AO.guardY rfl rfl rfl q35 (AOp.fieldAddr rfl rfl (ltb rfl) rfl fo30_3 ?_)
    refine AO.guardY rfl rfl rfl q35 (AOp.load1 rfl rfl (ltb rfl) rfl agg25 rfl rfl ?_)
    obtain ⟨y36, q37, h0⟩ := bind_elim h0
    refine AO.guardY rfl rfl rfl q35 (AOp.callD rfl rfl (ltb rfl) rfl rfl (w_SameFloats F a0.Flat a1.Flat y36 q37) ?_)
    rintro _ rfl
    refine AO.guardY rfl rfl rfl q35 (AOp.bnot rfl rfl (ltb rfl) rfl ?_)
    refine AO.op rfl (AOp.pickN rfl rfl (ltb rfl) rfl q35 rfl ?_)
    refine AO.op rfl (AOp.move rfl rfl (ltb rfl) rfl ?_)
    refine AO.dec (!y36) (fun q38 => ?_) (fun q38 => ?_)
    · replace h0 := cT h0 q38
      refine AO.guardN rfl rfl rfl (ltb rfl) rfl q38 ?_
      refine AO.guardN rfl rfl rfl (ltb rfl) rfl q38 ?_
      refine AO.guardN rfl rfl rfl (ltb rfl) rfl q38 ?_
      refine AO.guardN rfl rfl rfl (ltb rfl) rfl q38 ?_
      refine AO.guardN rfl rfl rfl (ltb rfl) rfl q38 ?_
      refine AO.guardN rfl rfl rfl (ltb rfl) rfl q38 ?_
      refine AO.op rfl (AOp.pick rfl rfl (ltb rfl) rfl q38 rfl ?_)
      refine AO.op rfl (AOp.move rfl rfl (ltb rfl) rfl ?_)
      refine AO.guardN rfl rfl rfl (ltb rfl) rfl rfl ?_
      refine AO.guardN rfl rfl rfl (ltb rfl) rfl rfl ?_
      refine AO.guardN rfl rfl rfl (ltb rfl) rfl rfl ?_
      refine AO.guardN rfl rfl rfl (ltb rfl) rfl rfl ?_
      refine AO.guardN rfl rfl rfl (ltb rfl) rfl rfl ?_
      refine AO.guardN rfl rfl rfl (ltb rfl) rfl rfl ?_
      refine AO.guardN rfl rfl rfl (ltb rfl) rfl rfl ?_
      refine AO.op rfl (AOp.pick rfl rfl (ltb rfl) rfl rfl rfl ?_)
      refine AO.op rfl (AOp.move rfl rfl (ltb rfl) rfl ?_)
      refine AO.guardN rfl rfl rfl (ltb rfl) rfl rfl ?_
      refine AO.guardN rfl rfl rfl (ltb rfl) rfl rfl ?_
      refine AO.guardN rfl rfl rfl (ltb rfl) rfl rfl ?_
      refine AO.guardN rfl rfl rfl (ltb rfl) rfl rfl ?_
      refine AO.guardN rfl rfl rfl (ltb rfl) rfl rfl ?_
      refine AO.guardN rfl rfl rfl (ltb rfl) rfl rfl ?_
      refine AO.guardN rfl rfl rfl (ltb rfl) rfl rfl ?_
      refine AO.op rfl (AOp.pick rfl rfl (ltb rfl) rfl rfl rfl ?_)
      refine AO.nil ?_
      exact ⟨true, _, rfl, (LeL.refl _), rfl, rfl, h0⟩
    replace h0 := cF h0 q38
    refine AO.guardY rfl rfl rfl q38 (AOp.fieldAddr rfl rfl (ltb rfl) rfl fo30_4 ?_)
    refine AO.guardY rfl rfl rfl q38 (AOp.load1 rfl rfl (ltb rfl) rfl agg26 rfl rfl ?_)
    refine AO.guardY rfl rfl rfl q38 (AOp.fieldAddr rfl rfl (ltb rfl) rfl fo30_4 ?_)
    refine AO.guardY rfl rfl rfl q38 (AOp.load1 rfl rfl (ltb rfl) rfl agg26 rfl rfl ?_)
    obtain ⟨y39, q40, h0⟩ := bind_elim h0
    refine AO.guardY rfl rfl rfl q38 (AOp.callD rfl rfl (ltb rfl) rfl rfl (w_sameInts F a0.Ends a1.Ends y39 q40) ?_)
    rintro _ rfl
    refine AO.guardY rfl rfl rfl q38 (AOp.bnot rfl rfl (ltb rfl) rfl ?_)
    refine AO.op rfl (AOp.pickN rfl rfl (ltb rfl) rfl q38 rfl ?_)
    refine AO.op rfl (AOp.move rfl rfl (ltb rfl) rfl ?_)
    refine AO.dec (!y39) (fun q41 => ?_) (fun q41 => ?_)
    · replace h0 := cT h0 q41
      refine AO.guardN rfl rfl rfl (ltb rfl) rfl q41 ?_
      refine AO.guardN rfl rfl rfl (ltb rfl) rfl q41 ?_
      refine AO.guardN rfl rfl rfl (ltb rfl) rfl q41 ?_
      refine AO.guardN rfl rfl rfl (ltb rfl) rfl q41 ?_
      refine AO.guardN rfl rfl rfl (ltb rfl) rfl q41 ?_
      refine AO.guardN rfl rfl rfl (ltb rfl) rfl q41 ?_
      refine AO.guardN rfl rfl rfl (ltb rfl) rfl q41 ?_
      refine AO.op rfl (AOp.pick rfl rfl (ltb rfl) rfl q41 rfl ?_)
      refine AO.op rfl (AOp.move rfl rfl (ltb rfl) rfl ?_)
      refine AO.guardN rfl rfl rfl (ltb rfl) rfl rfl ?_
      refine AO.guardN rfl rfl rfl (ltb rfl) rfl rfl ?_
      refine AO.guardN rfl rfl rfl (ltb rfl) rfl rfl ?_
      refine AO.guardN rfl rfl rfl (ltb rfl) rfl rfl ?_
      refine AO.guardN rfl rfl rfl (ltb rfl) rfl rfl ?_
      refine AO.guardN rfl rfl rfl (ltb rfl) rfl rfl ?_
      refine AO.guardN rfl rfl rfl (ltb rfl) rfl rfl ?_
      refine AO.op rfl (AOp.pick rfl rfl (ltb rfl) rfl rfl rfl ?_)
      refine AO.nil ?_
      exact ⟨true, _, rfl, (LeL.refl _), rfl, rfl, h0⟩
    replace h0 := cF h0 q41
    refine AO.guardY rfl rfl rfl q41 (AOp.fieldAddr rfl rfl (ltb rfl) rfl fo30_5 ?_)
    refine AO.guardY rfl rfl rfl q41 (AOp.load1 rfl rfl (ltb rfl) rfl agg27 rfl rfl ?_)
    refine AO.guardY rfl rfl rfl q41 (AOp.lenDs (n := a0.Endss.length) (cells := (List.map keS5 a0.Endss)) rfl rfl (ltb rfl) rfl el27 (by decide) (len1 _ _) ?_)
    refine AO.guardY rfl rfl rfl q41 (AOp.fieldAddr rfl rfl (ltb rfl) rfl fo30_5 ?_)
    refine AO.guardY rfl rfl rfl q41 (AOp.load1 rfl rfl (ltb rfl) rfl agg27 rfl rfl ?_)
    refine AO.guardY rfl rfl rfl q41 (AOp.lenDs (n := a1.Endss.length) (cells := (List.map keS5 a1.Endss)) rfl rfl (ltb rfl) rfl el27 (by decide) (len1 _ _) ?_)
    refine AO.guardY rfl rfl rfl q41 (AOp.ineq rfl rfl (ltb rfl) rfl rfl ?_)
    refine AO.op rfl (AOp.pickN rfl rfl (ltb rfl) rfl q41 rfl ?_)
    refine AO.op rfl (AOp.move rfl rfl (ltb rfl) rfl ?_)
    refine AO.dec (!decide (((a0.Endss.length : Nat) : Int) = ((a1.Endss.length : Nat) : Int))) (fun q42 => ?_) (fun q42 => ?_)
    · replace h0 := cT h0 q42
      refine AO.guardN rfl rfl rfl (ltb rfl) rfl q42 ?_
      refine AO.guardN rfl rfl rfl (ltb rfl) rfl q42 ?_
      refine AO.guardN rfl rfl rfl (ltb rfl) rfl q42 ?_
      refine AO.guardN rfl rfl rfl (ltb rfl) rfl q42 ?_
      refine AO.guardN rfl rfl rfl (ltb rfl) rfl q42 ?_
      refine AO.guardN rfl rfl rfl (ltb rfl) rfl q42 ?_
      refine AO.guardN rfl rfl rfl (ltb rfl) rfl q42 ?_
      refine AO.op rfl (AOp.pick rfl rfl (ltb rfl) rfl q42 rfl ?_)
      refine AO.nil ?_
      exact ⟨true, _, rfl, (LeL.refl _), rfl, rfl, h0⟩
    replace h0 := cF h0 q42
    refine AO.guardY rfl rfl rfl q42 (AOp.fieldAddr rfl rfl (ltb rfl) rfl fo30_6 ?_)
    refine AO.guardY rfl rfl rfl q42 (AOp.load1 rfl rfl (ltb rfl) rfl agg28 rfl rfl ?_)
    refine AO.guardY rfl rfl rfl q42 (AOp.lenDs (n := a0.Kids.length) (cells := (List.flatMap c0_TImpl_Geom a0.Kids)) rfl rfl (ltb rfl) rfl el28 (by decide) (lenN _ 7 c0_TImpl_Geom_len _) ?_)
    refine AO.guardY rfl rfl rfl q42 (AOp.fieldAddr rfl rfl (ltb rfl) rfl fo30_6 ?_)
    refine AO.guardY rfl rfl rfl q42 (AOp.load1 rfl rfl (ltb rfl) rfl agg28 rfl rfl ?_)
    refine AO.guardY rfl rfl rfl q42 (AOp.lenDs (n := a1.Kids.length) (cells := (List.flatMap c0_TImpl_Geom a1.Kids)) rfl rfl (ltb rfl) rfl el28 (by decide) (lenN _ 7 c0_TImpl_Geom_len _) ?_)
    refine AO.guardY rfl rfl rfl q42 (AOp.ineq rfl rfl (ltb rfl) rfl rfl ?_)
    refine AO.op rfl (AOp.pickN rfl rfl (ltb rfl) rfl q42 rfl ?_)
    refine AO.nil ?_
    exact ⟨(!decide (((a0.Kids.length : Nat) : Int) = ((a1.Kids.length : Nat) : Int))), _, rfl, (LeL.refl _), rfl, rfl, h0⟩
  intro g1 h0
  unfold p_SameGeom_k1 at h0
  refine AC.cond rfl (fun q2 => ?_) (fun q2 => ?_)
  · replace h0 := cT h0 q2
    refine AC.seq ?_
    refine AC.region ?_
    refine AO.op rfl (AOp.assign rfl rfl (ltb rfl) rfl ?_)
    refine AO.nil ?_
    change AC _ _ _ _
    refine AC.ret ?_
    change RetQ _ _ _ .ret _
    obtain rfl := Option.some.inj h0
    refine retq rfl rfl
  replace h0 := cF h0 q2
  refine AC.skip ?_
  change AC _ _ _ _
  refine AC.seq ?_
  refine AC.seq ?_
  refine AC.region ?_
  refine AO.op rfl (AOp.fieldAddr rfl rfl (ltb rfl) rfl fo30_5 ?_)
  refine AO.op rfl (AOp.load1 rfl rfl (ltb rfl) rfl agg27 rfl rfl ?_)
  refine AO.op rfl (AOp.lenDs (n := a0.Endss.length) (cells := (List.map keS5 a0.Endss)) rfl rfl (ltb rfl) rfl el27 (by decide) (len1 _ _) ?_)
  refine AO.op rfl (AOp.move rfl rfl (ltb rfl) rfl ?_)
  refine AO.nil ?_
  change AC _ _ _ _
  obtain ⟨o3, l4, h0⟩ := bind_elim h0
  refine AC.joinE (V := Unit) [2, 3] [] 2 (fun g5 => []) (fun g5 => [.fix 30 [.d (di .i64 a0.Kind), .d (di .i64 a0.Layout), .d (di .i64 a0.SRID), .d (eS3 a0.Flat), .d (eS4 a0.Ends), .d (eS5 a0.Endss), .d (eS6 a0.Kids)], .fix 30 [.d (di .i64 a1.Kind), .d (di .i64 a1.Layout), .d (di .i64 a1.SRID), .d (eS3 a1.Flat), .d (eS4 a1.Ends), .d (eS5 a1.Endss), .d (eS6 a1.Kids)]]) (fun g5 => (p_SameGeom_k2 a0 a1 F Rec_) g5 = some r0) rfl ?_ ?_
  · refine AC.block ?_
    refine AC.loopP (V := Int) (p_SameGeom_l5 a0 a1 F) o3 [2, 3, 63, 64] [65] 2 (fun g21 => [(65, .d (di .i64 g21))]) (fun g21 => [.fix 30 [.d (di .i64 a0.Kind), .d (di .i64 a0.Layout), .d (di .i64 a0.SRID), .d (eS3 a0.Flat), .d (eS4 a0.Ends), .d (eS5 a0.Endss), .d (eS6 a0.Kids)], .fix 30 [.d (di .i64 a1.Kind), .d (di .i64 a1.Layout), .d (di .i64 a1.SRID), .d (eS3 a1.Flat), .d (eS4 a1.Ends), .d (eS5 a1.Endss), .d (eS6 a1.Kids)]]) F (0 : Int) l4 rfl rfl (LeL.refl _) rfl rfl ?_
    intro n23 g21 h1
    unfold p_SameGeom_l5 at h1
    refine AC.seq ?_
    refine AC.region ?_
    refine AO.op rfl (AOp.ilss rfl rfl (ltb rfl) rfl rfl ?_)
    refine AO.nil ?_
    change AC _ _ _ _
    refine AC.seq ?_
    refine AC.cond rfl (fun q24 => ?_) (fun q24 => ?_)
    · replace h1 := cT h1 q24
      refine AC.skip ?_
      change AC _ _ _ _
      refine AC.seq ?_
      refine AC.block ?_
      refine AC.seq ?_
      refine AC.region ?_
      refine AO.op rfl (AOp.move rfl rfl (ltb rfl) rfl ?_)
      obtain ⟨x25, q26, h1⟩ := idx_elim h1
      refine AO.op rfl (AOp.indexDs (cells := (List.map keS5 a0.Endss)) rfl rfl (ltb rfl) rfl rfl el27 (by decide) q26.1 (lt1 q26.2) ?_)
      refine AO.op rfl (AOp.loadEp rfl rfl (ltb rfl) rfl agg26 (at1 q26.2) ?_)
      refine AO.op rfl (AOp.assign rfl rfl (ltb rfl) rfl ?_)
      refine AO.op rfl (AOp.assign rfl rfl (ltb rfl) rfl ?_)
      refine AO.nil ?_
      change AC _ _ _ _
      refine AC.seq ?_
      refine AC.region ?_
      refine AO.op rfl (AOp.move rfl rfl (ltb rfl) rfl ?_)
      refine AO.op rfl (AOp.fieldAddr rfl rfl (ltb rfl) rfl fo30_5 ?_)
      refine AO.op rfl (AOp.load1 rfl rfl (ltb rfl) rfl agg27 rfl rfl ?_)
      refine AO.op rfl (AOp.move rfl rfl (ltb rfl) rfl ?_)
      obtain ⟨x27, q28, h1⟩ := idx_elim h1
      refine AO.op rfl (AOp.indexDs (cells := (List.map keS5 a1.Endss)) rfl rfl (ltb rfl) rfl rfl el27 (by decide) q28.1 (lt1 q28.2) ?_)
      refine AO.op rfl (AOp.loadEp rfl rfl (ltb rfl) rfl agg26 (at1 q28.2) ?_)
      obtain ⟨y29, q30, h1⟩ := bind_elim h1
      refine AO.op rfl (AOp.callD rfl rfl (ltb rfl) rfl rfl (w_sameInts F x25 x27 y29 q30) ?_)
      rintro _ rfl
      refine AO.op rfl (AOp.bnot rfl rfl (ltb rfl) rfl ?_)
      refine AO.nil ?_
      change AC _ _ _ _
      refine AC.cond rfl (fun q31 => ?_) (fun q31 => ?_)
      · replace h1 := cT h1 q31
        refine AC.seq ?_
        refine AC.region ?_
        refine AO.op rfl (AOp.assign rfl rfl (ltb rfl) rfl ?_)
        refine AO.nil ?_
        change AC _ _ _ _
        refine AC.ret ?_
        change RetQ _ _ _ .ret _
        obtain rfl := Option.some.inj h1
        replace h0 := aftR h0
        obtain rfl := Option.some.inj h0
        refine retq rfl rfl
      replace h1 := cF h1 q31
      refine AC.skip ?_
      change AC _ _ _ _
      refine AC.region ?_
      obtain ⟨q32, h1⟩ := need_elim h1
      refine AO.op rfl (AOp.iadd rfl rfl (ltb rfl) rfl rfl rfl q32.1 q32.2 ?_)
      refine AO.op rfl (AOp.move rfl rfl (ltb rfl) rfl ?_)
      refine AO.nil ?_
      exact ⟨(g21 + (1 : Int)), _, rfl, (LeL.refl _), rfl, rfl, h1⟩
    replace h1 := cF h1 q24
    refine AC.exit ?_
    obtain rfl := Option.some.inj h1
    exact ⟨(), _, rfl, (LeL.refl _), rfl, rfl, aftL h0⟩
  intro g5 h0
  unfold p_SameGeom_k2 at h0
  change AC _ _ _ _
  refine AC.seq ?_
  refine AC.seq ?_
  refine AC.region ?_
  refine AO.op rfl (AOp.fieldAddr rfl rfl (ltb rfl) rfl fo30_6 ?_)
  refine AO.op rfl (AOp.load1 rfl rfl (ltb rfl) rfl agg28 rfl rfl ?_)
  refine AO.op rfl (AOp.lenDs (n := a0.Kids.length) (cells := (List.flatMap c0_TImpl_Geom a0.Kids)) rfl rfl (ltb rfl) rfl el28 (by decide) (lenN _ 7 c0_TImpl_Geom_len _) ?_)
  refine AO.op rfl (AOp.move rfl rfl (ltb rfl) rfl ?_)
  refine AO.nil ?_
  change AC _ _ _ _
  obtain ⟨o6, l7, h0⟩ := bind_elim h0
  refine AC.joinE (V := Unit) [] [] 2 (fun g8 => []) (fun g8 => [.fix 30 [.d (di .i64 a0.Kind), .d (di .i64 a0.Layout), .d (di .i64 a0.SRID), .d (eS3 a0.Flat), .d (eS4 a0.Ends), .d (eS5 a0.Endss), .d (eS6 a0.Kids)], .fix 30 [.d (di .i64 a1.Kind), .d (di .i64 a1.Layout), .d (di .i64 a1.SRID), .d (eS3 a1.Flat), .d (eS4 a1.Ends), .d (eS5 a1.Endss), .d (eS6 a1.Kids)]]) (fun g8 => p_SameGeom_k3 g8 = some r0) rfl ?_ ?_
  · refine AC.block ?_
    refine AC.loopP (V := Int) (p_SameGeom_l4 a0 a1 Rec_) o6 [3, 80, 81] [82] 2 (fun g9 => [(82, .d (di .i64 g9))]) (fun g9 => [.fix 30 [.d (di .i64 a0.Kind), .d (di .i64 a0.Layout), .d (di .i64 a0.SRID), .d (eS3 a0.Flat), .d (eS4 a0.Ends), .d (eS5 a0.Endss), .d (eS6 a0.Kids)], .fix 30 [.d (di .i64 a1.Kind), .d (di .i64 a1.Layout), .d (di .i64 a1.SRID), .d (eS3 a1.Flat), .d (eS4 a1.Ends), .d (eS5 a1.Endss), .d (eS6 a1.Kids)]]) F (0 : Int) l7 rfl rfl (LeL.refl _) rfl rfl ?_
    intro n11 g9 h1
    unfold p_SameGeom_l4 at h1
    refine AC.seq ?_
    refine AC.region ?_
    refine AO.op rfl (AOp.ilss rfl rfl (ltb rfl) rfl rfl ?_)
    refine AO.nil ?_
    change AC _ _ _ _
    refine AC.seq ?_
    refine AC.cond rfl (fun q12 => ?_) (fun q12 => ?_)
    · replace h1 := cT h1 q12
      refine AC.skip ?_
      change AC _ _ _ _
      refine AC.seq ?_
      refine AC.block ?_
      refine AC.seq ?_
      refine AC.region ?_
      refine AO.op rfl (AOp.move rfl rfl (ltb rfl) rfl ?_)
      obtain ⟨x13, q14, h1⟩ := idx_elim h1
      refine AO.op rfl (AOp.indexDs (cells := (List.flatMap c0_TImpl_Geom a0.Kids)) rfl rfl (ltb rfl) rfl rfl el28 (by decide) q14.1 (ltN 7 c0_TImpl_Geom_len (by decide) q14.2) ?_)
      refine AO.op rfl (AOp.loadEpN rfl rfl (ltb rfl) rfl agg30 size30 (leN 7 c0_TImpl_Geom_len q14.2) ((atN 7 c0_TImpl_Geom_len q14.2).trans (c0_TImpl_Geom_eq x13)) ?_)
      refine AO.op rfl (AOp.alloc rfl rfl (ltb rfl) zero30 rfl ?_)
      refine AO.op rfl (AOp.assign rfl rfl (ltb rfl) rfl ?_)
      refine AO.op rfl (AOp.store rfl rfl rfl rfl size30 rfl rfl rfl (leb rfl) ?_)
      refine AO.nil ?_
      change AC _ _ _ _
      refine AC.seq ?_
      refine AC.draw 8 mixed (by kernel_rfl) ?_
      refine AD.op [8] rfl (by kernel_rfl) rfl rfl (fun _ _ h => AOp.loadN rfl rfl (ltb rfl) rfl agg30 size30 rfl (leb rfl) rfl h) ?_
      refine AD.op [3] rfl (by kernel_rfl) rfl rfl (fun _ _ h => AOp.fieldAddr rfl rfl (ltb rfl) rfl fo30_6 h) ?_
      refine AD.op [88] rfl (by kernel_rfl) rfl rfl (fun _ _ h => AOp.load1 rfl rfl (ltb rfl) rfl agg28 rfl rfl h) ?_
      refine AD.op [7] rfl (by kernel_rfl) rfl rfl (fun _ _ h => AOp.move rfl rfl (ltb rfl) rfl h) ?_
      obtain ⟨x15, q16, h1⟩ := idx_elim h1
      refine AD.op [89, 90] rfl (by kernel_rfl) rfl rfl (fun _ _ h => AOp.indexDs (cells := (List.flatMap c0_TImpl_Geom a1.Kids)) rfl rfl (ltb rfl) rfl rfl el28 (by decide) q16.1 (ltN 7 c0_TImpl_Geom_len (by decide) q16.2) h) ?_
      refine AD.op [91] rfl (by kernel_rfl) rfl rfl (fun _ _ h => AOp.loadEpN rfl rfl (ltb rfl) rfl agg30 size30 (leN 7 c0_TImpl_Geom_len q16.2) ((atN 7 c0_TImpl_Geom_len q16.2).trans (c0_TImpl_Geom_eq x15)) h) ?_
      obtain ⟨y17, q18, h1⟩ := bind_elim h1
      refine AD.op [87, 92] rfl (by kernel_rfl) rfl rfl (fun _ _ h => AOp.callD rfl rfl (ltb rfl) rfl rfl (hR x13 x15 y17 q18) (by rintro _ rfl; exact h)) ?_
      refine AD.op [93] rfl (by kernel_rfl) rfl rfl (fun _ _ h => AOp.bnot rfl rfl (ltb rfl) rfl h) ?_
      refine AD.done ?_
      refine AO.nil ?_
      change AC _ _ _ _
      refine AC.cond rfl (fun q19 => ?_) (fun q19 => ?_)
      · replace h1 := cT h1 q19
        refine AC.seq ?_
        refine AC.region ?_
        refine AO.op rfl (AOp.assign rfl rfl (ltb rfl) rfl ?_)
        refine AO.nil ?_
        change AC _ _ _ _
        refine AC.ret ?_
        change RetQ _ _ _ .ret _
        obtain rfl := Option.some.inj h1
        replace h0 := aftR h0
        obtain rfl := Option.some.inj h0
        refine retq rfl rfl
      replace h1 := cF h1 q19
      refine AC.skip ?_
      change AC _ _ _ _
      refine AC.region ?_
      obtain ⟨q20, h1⟩ := need_elim h1
      refine AO.op rfl (AOp.iadd rfl rfl (ltb rfl) rfl rfl rfl q20.1 q20.2 ?_)
      refine AO.op rfl (AOp.move rfl rfl (ltb rfl) rfl ?_)
      refine AO.nil ?_
      exact ⟨(g9 + (1 : Int)), _, rfl, (LeL.refl _), rfl, rfl, h1⟩
    replace h1 := cF h1 q12
    refine AC.exit ?_
    obtain rfl := Option.some.inj h1
    exact ⟨(), _, rfl, (LeL.refl _), rfl, rfl, aftL h0⟩
  intro g8 h0
  unfold p_SameGeom_k3 at h0
  change AC _ _ _ _
  refine AC.seq ?_
  refine AC.region ?_
  refine AO.op rfl (AOp.assign rfl rfl (ltb rfl) rfl ?_)
  refine AO.nil ?_
  change AC _ _ _ _
  refine AC.ret ?_
  change RetQ _ _ _ .ret _
  obtain rfl := Option.some.inj h0
  refine retq rfl rfl
theorem w_SameGeom : ∀ (F : Nat) (a0 : TImpl_Geom) (a1 : TImpl_Geom) (r0 : Bool), p_SameGeom F a0 a1 = some r0 → FnD Try.prog 14 [e_TImpl_Geom a0, e_TImpl_Geom a1] (fun r => r = dbool r0)
  | 0, _, _, _, h => by cases h
  | F + 1, a0, a1, r0, h => w_SameGeom_b _ (fun a0 a1 r0 h => w_SameGeom F a0 a1 r0 h) F a0 a1 r0 h

set_option maxRecDepth 100000 in
set_option maxHeartbeats 1000000 in
/-- pub-orthodrome/laws.FnSetAreas -/
theorem w_FnSetAreas (F : Nat) (a0 : Int) (a1 : (List (List (List (List Nat))))) (r0 : Bool) (h0 : p_FnSetAreas F a0 a1 = some r0) : FnD Try.prog 3 [di .i64 a0, eS0 a1] (fun r => r = dbool r0) := by
  refine FnD.of (by kernel_rfl) Try.func3 rfl Try.ntmps3 rfl (leb rfl) fun W ok => ?_
  unfold p_FnSetAreas at h0
  refine AC.seq ?_
  refine AC.region ?_
  refine AO.op rfl (AOp.assign rfl rfl (ltb rfl) rfl ?_)
  refine AO.nil ?_
  change AC _ _ _ _
  refine AC.seq ?_
  refine AC.seq ?_
  refine AC.region ?_
  refine AO.op rfl (AOp.move rfl rfl (ltb rfl) rfl ?_)
  obtain ⟨y1, q2, h0⟩ := bind_elim h0
  refine AO.op rfl (AOp.callD rfl rfl (ltb rfl) rfl rfl (w_zzFits6 F a1 y1 q2) ?_)
  rintro _ rfl
  refine AO.op rfl (AOp.bnot rfl rfl (ltb rfl) rfl ?_)
  refine AO.nil ?_
  change AC _ _ _ _
  refine AC.cond rfl (fun q3 => ?_) (fun q3 => ?_)
  · replace h0 := cT h0 q3
    refine AC.seq ?_
    refine AC.region ?_
    refine AO.op rfl (AOp.assign rfl rfl (ltb rfl) rfl ?_)
    refine AO.nil ?_
    change AC _ _ _ _
    refine AC.ret ?_
    change RetQ _ _ _ .ret _
    obtain rfl := Option.some.inj h0
    refine retq rfl rfl
  replace h0 := cF h0 q3
  refine AC.skip ?_
  change AC _ _ _ _
  refine AC.seq ?_
  refine AC.joinP (V := Bool) [0, 1] [33] 0 (fun g4 => [(33, .d (dbool g4))]) (fun g4 => []) (fun g4 => (p_FnSetAreas_k1 a0 a1 F) g4 = some r0) rfl ?_ ?_
  · refine AC.region ?_
    refine AO.op rfl (AOp.move rfl rfl (ltb rfl) rfl ?_)
    refine AO.op rfl (AOp.ilss rfl rfl (ltb rfl) rfl rfl ?_)
    refine AO.op rfl (AOp.move rfl rfl (ltb rfl) rfl ?_)
    refine AO.dec (decide (a0 < (1 : Int))) (fun q54 => ?_) (fun q54 => ?_)
    · replace h0 := cT h0 q54
      refine AO.guardN rfl rfl rfl (ltb rfl) rfl q54 ?_
      refine AO.guardN rfl rfl rfl (ltb rfl) rfl q54 ?_
      refine AO.op rfl (AOp.pick rfl rfl (ltb rfl) rfl q54 rfl ?_)
      refine AO.op rfl (AOp.move rfl rfl (ltb rfl) rfl ?_)
      refine AO.guardN rfl rfl rfl (ltb rfl) rfl rfl ?_
      refine AO.guardN rfl rfl rfl (ltb rfl) rfl rfl ?_
      refine AO.guardN rfl rfl rfl (ltb rfl) rfl rfl ?_
      refine AO.op rfl (AOp.pick rfl rfl (ltb rfl) rfl rfl rfl ?_)
      refine AO.nil ?_
      exact ⟨true, _, rfl, (LeL.refl _), rfl, rfl, h0⟩
    replace h0 := cF h0 q54
    refine AO.guardY rfl rfl rfl q54 (AOp.move rfl rfl (ltb rfl) rfl ?_)
    refine AO.guardY rfl rfl rfl q54 (AOp.igtr rfl rfl (ltb rfl) rfl rfl ?_)
    refine AO.op rfl (AOp.pickN rfl rfl (ltb rfl) rfl q54 rfl ?_)
    refine AO.op rfl (AOp.move rfl rfl (ltb rfl) rfl ?_)
    refine AO.dec (decide ((9 : Int) < a0)) (fun q55 => ?_) (fun q55 => ?_)
    · replace h0 := cT h0 q55
      refine AO.guardN rfl rfl rfl (ltb rfl) rfl q55 ?_
      refine AO.guardN rfl rfl rfl (ltb rfl) rfl q55 ?_
      refine AO.guardN rfl rfl rfl (ltb rfl) rfl q55 ?_
      refine AO.op rfl (AOp.pick rfl rfl (ltb rfl) rfl q55 rfl ?_)
      refine AO.nil ?_
      exact ⟨true, _, rfl, (LeL.refl _), rfl, rfl, h0⟩
    replace h0 := cF h0 q55
    refine AO.guardY rfl rfl rfl q55 (AOp.move rfl rfl (ltb rfl) rfl ?_)
    obtain ⟨y56, q57, h0⟩ := bind_elim h0
    refine AO.guardY rfl rfl rfl q55 (AOp.callD rfl rfl (ltb rfl) rfl rfl (w_gCount F a1 y56 q57) ?_)
    rintro _ rfl
    refine AO.guardY rfl rfl rfl q55 (AOp.igtr rfl rfl (ltb rfl) rfl rfl ?_)
    refine AO.op rfl (AOp.pickN rfl rfl (ltb rfl) rfl q55 rfl ?_)
    refine AO.nil ?_
    exact ⟨(decide ((2000 : Int) < y56)), _, rfl, (LeL.refl _), rfl, rfl, h0⟩
  intro g4 h0
  unfold p_FnSetAreas_k1 at h0
  refine AC.cond rfl (fun q5 => ?_) (fun q5 => ?_)
  · replace h0 := cT h0 q5
    refine AC.seq ?_
    refine AC.region ?_
    refine AO.op rfl (AOp.assign rfl rfl (ltb rfl) rfl ?_)
    refine AO.nil ?_
    change AC _ _ _ _
    refine AC.ret ?_
    change RetQ _ _ _ .ret _
    obtain rfl := Option.some.inj h0
    refine retq rfl rfl
  replace h0 := cF h0 q5
  refine AC.skip ?_
  change AC _ _ _ _
  refine AC.seq ?_
  refine AC.region ?_
  refine AO.op rfl (AOp.move rfl rfl (ltb rfl) rfl ?_)
  refine AO.op rfl (AOp.build rfl rfl (ltb rfl) zero30 rfl places30 rfl rfl ?_)
  refine AO.op rfl (AOp.alloc rfl rfl (ltb rfl) zero30 rfl ?_)
  refine AO.op rfl (AOp.store rfl rfl rfl rfl size30 rfl rfl rfl (leb rfl) ?_)
  refine AO.nil ?_
  change AC _ _ _ _
  refine AC.seq ?_
  refine AC.region ?_
  refine AO.op rfl (AOp.assign rfl rfl (ltb rfl) rfl ?_)
  refine AO.nil ?_
  change AC _ _ _ _
  refine AC.seq ?_
  refine AC.seq ?_
  refine AC.region ?_
  refine AO.op rfl (AOp.move rfl rfl (ltb rfl) rfl ?_)
  refine AO.op rfl (AOp.lenDs (n := a1.length) (cells := (List.map keS0 a1)) rfl rfl (ltb rfl) rfl el22 (by decide) (len1 _ _) ?_)
  refine AO.op rfl (AOp.move rfl rfl (ltb rfl) rfl ?_)
  refine AO.nil ?_
  change AC _ _ _ _
  refine AC.adoptO 0 3 37 1 rfl rfl ?_
  refine AC.adoptO 0 5 26 1 rfl rfl ?_
  obtain ⟨o6, l7, h0⟩ := bind_elim h0
  refine AC.joinE (V := (Bool × (List Nat) × (List (List Int)))) [0, 1, 5] [6] 3 (fun g8 => [(6, .d (dbool g8.1))]) (fun g8 => [.fix 30 [.d (di .i64 (6 : Int)), .d (di .i64 a0), .d (di .i64 (0 : Int)), .own 1, .d (.v (.slice none 0 0)), .own 2, .d (.v (.slice none 0 0))], .grow 37 1 (List.map keS3 g8.2.1), .grow 26 1 (List.map keS5 g8.2.2)]) (fun g8 => (p_FnSetAreas_k2 a0 a1 F) g8 = some r0) rfl ?_ ?_
  · refine AC.block ?_
    refine AC.loopP (V := (Bool × Int × (List Nat) × (List (List Int)))) (p_FnSetAreas_l3 a0 a1 F) o6 [0, 1, 5, 36, 37] [6, 38] 3 (fun g18 => [(6, .d (dbool g18.1)), (38, .d (di .i64 g18.2.1))]) (fun g18 => [.fix 30 [.d (di .i64 (6 : Int)), .d (di .i64 a0), .d (di .i64 (0 : Int)), .own 1, .d (.v (.slice none 0 0)), .own 2, .d (.v (.slice none 0 0))], .grow 37 1 (List.map keS3 g18.2.2.1), .grow 26 1 (List.map keS5 g18.2.2.2)]) F (true, (0 : Int), [], []) l7 rfl rfl (LeL.refl _) rfl rfl ?_
    intro n20 g18 h1
    unfold p_FnSetAreas_l3 at h1
    refine AC.seq ?_
    refine AC.region ?_
    refine AO.op rfl (AOp.ilss rfl rfl (ltb rfl) rfl rfl ?_)
    refine AO.nil ?_
    change AC _ _ _ _
    refine AC.seq ?_
    refine AC.cond rfl (fun q21 => ?_) (fun q21 => ?_)
    · replace h1 := cT h1 q21
      refine AC.skip ?_
      change AC _ _ _ _
      refine AC.seq ?_
      refine AC.block ?_
      refine AC.seq ?_
      refine AC.region ?_
      obtain ⟨x22, q23, h1⟩ := idx_elim h1
      refine AO.op rfl (AOp.indexDs (cells := (List.map keS0 a1)) rfl rfl (ltb rfl) rfl rfl el22 (by decide) q23.1 (lt1 q23.2) ?_)
      refine AO.op rfl (AOp.loadEp rfl rfl (ltb rfl) rfl agg31 (at1 q23.2) ?_)
      refine AO.op rfl (AOp.assign rfl rfl (ltb rfl) rfl ?_)
      refine AO.nil ?_
      change AC _ _ _ _
      refine AC.seq ?_
      refine AC.seq ?_
      refine AC.region ?_
      refine AO.op rfl (AOp.move rfl rfl (ltb rfl) rfl ?_)
      refine AO.op rfl (AOp.lenDs (n := x22.length) (cells := (List.map keS1 x22)) rfl rfl (ltb rfl) rfl el31 (by decide) (len1 _ _) ?_)
      refine AO.op rfl (AOp.move rfl rfl (ltb rfl) rfl ?_)
      refine AO.nil ?_
      change AC _ _ _ _
      obtain ⟨o24, l25, h1⟩ := bind_elim h1
      refine AC.joinE (V := Unit) [0, 1, 5, 6, 8, 36, 37, 38] [] 3 (fun g26 => []) (fun g26 => [.fix 30 [.d (di .i64 (6 : Int)), .d (di .i64 a0), .d (di .i64 (0 : Int)), .own 1, .d (.v (.slice none 0 0)), .own 2, .d (.v (.slice none 0 0))], .grow 37 1 (List.map keS3 g18.2.2.1), .grow 26 1 (List.map keS5 g18.2.2.2)]) (fun g26 => (p_FnSetAreas_k4 a0 F g18 (iter (p_FnSetAreas_l3 a0 a1 F) n20) x22) g26 = some o6) rfl ?_ ?_
      · refine AC.block ?_
        refine AC.loopP (V := Int) (p_FnSetAreas_l5 F x22) o24 [0, 1, 5, 6, 8, 36, 37, 38, 42, 43] [44] 3 (fun g36 => [(44, .d (di .i64 g36))]) (fun g36 => [.fix 30 [.d (di .i64 (6 : Int)), .d (di .i64 a0), .d (di .i64 (0 : Int)), .own 1, .d (.v (.slice none 0 0)), .own 2, .d (.v (.slice none 0 0))], .grow 37 1 (List.map keS3 g18.2.2.1), .grow 26 1 (List.map keS5 g18.2.2.2)]) F (0 : Int) l25 rfl rfl (LeL.refl _) rfl rfl ?_
        intro n38 g36 h2
        unfold p_FnSetAreas_l5 at h2
        refine AC.seq ?_
        refine AC.region ?_
        refine AO.op rfl (AOp.ilss rfl rfl (ltb rfl) rfl rfl ?_)
        refine AO.nil ?_
        change AC _ _ _ _
        refine AC.seq ?_
        refine AC.cond rfl (fun q39 => ?_) (fun q39 => ?_)
        · replace h2 := cT h2 q39
          refine AC.skip ?_
          change AC _ _ _ _
          refine AC.seq ?_
          refine AC.block ?_
          refine AC.seq ?_
          refine AC.region ?_
          obtain ⟨x40, q41, h2⟩ := idx_elim h2
          refine AO.op rfl (AOp.indexDs (cells := (List.map keS1 x22)) rfl rfl (ltb rfl) rfl rfl el31 (by decide) q41.1 (lt1 q41.2) ?_)
          refine AO.op rfl (AOp.loadEp rfl rfl (ltb rfl) rfl agg32 (at1 q41.2) ?_)
          refine AO.op rfl (AOp.assign rfl rfl (ltb rfl) rfl ?_)
          refine AO.nil ?_
          change AC _ _ _ _
          refine AC.seq ?_
          refine AC.region ?_
          refine AO.op rfl (AOp.move rfl rfl (ltb rfl) rfl ?_)
          refine AO.op rfl (AOp.lenDs (n := x40.length) (cells := (List.map keS2 x40)) rfl rfl (ltb rfl) rfl el32 (by decide) (len1 _ _) ?_)
          refine AO.op rfl (AOp.move rfl rfl (ltb rfl) rfl ?_)
          refine AO.nil ?_
          change AC _ _ _ _
          obtain ⟨o42, l43, h2⟩ := bind_elim h2
          refine AC.joinE (V := Unit) [0, 1, 5, 6, 8, 36, 37, 38, 42, 43, 44] [] 3 (fun g44 => []) (fun g44 => [.fix 30 [.d (di .i64 (6 : Int)), .d (di .i64 a0), .d (di .i64 (0 : Int)), .own 1, .d (.v (.slice none 0 0)), .own 2, .d (.v (.slice none 0 0))], .grow 37 1 (List.map keS3 g18.2.2.1), .grow 26 1 (List.map keS5 g18.2.2.2)]) (fun g44 => (p_FnSetAreas_k6 g36 (iter (p_FnSetAreas_l5 F x22) n38)) g44 = some o24) rfl ?_ ?_
          · refine AC.block ?_
            refine AC.loopP (V := Int) (p_FnSetAreas_l7 x40) o42 [0, 1, 5, 6, 8, 36, 37, 38, 42, 43, 44, 48, 49] [50] 3 (fun g46 => [(50, .d (di .i64 g46))]) (fun g46 => [.fix 30 [.d (di .i64 (6 : Int)), .d (di .i64 a0), .d (di .i64 (0 : Int)), .own 1, .d (.v (.slice none 0 0)), .own 2, .d (.v (.slice none 0 0))], .grow 37 1 (List.map keS3 g18.2.2.1), .grow 26 1 (List.map keS5 g18.2.2.2)]) F (0 : Int) l43 rfl rfl (LeL.refl _) rfl rfl ?_
            intro n48 g46 h3
            unfold p_FnSetAreas_l7 at h3
            refine AC.seq ?_
            refine AC.region ?_
            refine AO.op rfl (AOp.ilss rfl rfl (ltb rfl) rfl rfl ?_)
            refine AO.nil ?_
            change AC _ _ _ _
            refine AC.seq ?_
            refine AC.cond rfl (fun q49 => ?_) (fun q49 => ?_)
            · replace h3 := cT h3 q49
              refine AC.skip ?_
              change AC _ _ _ _
              refine AC.seq ?_
              refine AC.block ?_
              refine AC.seq ?_
              refine AC.region ?_
              obtain ⟨x50, q51, h3⟩ := idx_elim h3
              refine AO.op rfl (AOp.indexDs (cells := (List.map keS2 x40)) rfl rfl (ltb rfl) rfl rfl el32 (by decide) q51.1 (lt1 q51.2) ?_)
              refine AO.op rfl (AOp.loadEp rfl rfl (ltb rfl) rfl agg25 (at1 q51.2) ?_)
              refine AO.op rfl (AOp.assign rfl rfl (ltb rfl) rfl ?_)
              refine AO.nil ?_
              change AC _ _ _ _
              refine AC.seq ?_
              refine AC.region ?_
              refine AO.op rfl (AOp.move rfl rfl (ltb rfl) rfl ?_)
              refine AO.op rfl (AOp.lenDs (n := x50.length) (cells := (List.map keS3 x50)) rfl rfl (ltb rfl) rfl el25 (by decide) (len1 _ _) ?_)
              refine AO.op rfl (AOp.ieql rfl rfl (ltb rfl) rfl rfl ?_)
              refine AO.nil ?_
              change AC _ _ _ _
              refine AC.cond rfl (fun q52 => ?_) (fun q52 => ?_)
              · replace h3 := cT h3 q52
                refine AC.seq ?_
                refine AC.region ?_
                refine AO.op rfl (AOp.assign rfl rfl (ltb rfl) rfl ?_)
                refine AO.nil ?_
                change AC _ _ _ _
                refine AC.ret ?_
                change RetQ _ _ _ .ret _
                obtain rfl := Option.some.inj h3
                replace h2 := aftR h2
                obtain rfl := Option.some.inj h2
                replace h1 := aftR h1
                obtain rfl := Option.some.inj h1
                replace h0 := aftR h0
                obtain rfl := Option.some.inj h0
                refine retq rfl rfl
              replace h3 := cF h3 q52
              refine AC.skip ?_
              change AC _ _ _ _
              refine AC.region ?_
              obtain ⟨q53, h3⟩ := need_elim h3
              refine AO.op rfl (AOp.iadd rfl rfl (ltb rfl) rfl rfl rfl q53.1 q53.2 ?_)
              refine AO.op rfl (AOp.move rfl rfl (ltb rfl) rfl ?_)
              refine AO.nil ?_
              exact ⟨(g46 + (1 : Int)), _, rfl, (LeL.refl _), rfl, rfl, h3⟩
            replace h3 := cF h3 q49
            refine AC.exit ?_
            obtain rfl := Option.some.inj h3
            exact ⟨(), _, rfl, (LeL.refl _), rfl, rfl, aftL h2⟩
          intro g44 h2
          unfold p_FnSetAreas_k6 at h2
          change AC _ _ _ _
          refine AC.region ?_
          obtain ⟨q45, h2⟩ := need_elim h2
          refine AO.op rfl (AOp.iadd rfl rfl (ltb rfl) rfl rfl rfl q45.1 q45.2 ?_)
          refine AO.op rfl (AOp.move rfl rfl (ltb rfl) rfl ?_)
          refine AO.nil ?_
          exact ⟨(g36 + (1 : Int)), _, rfl, (LeL.refl _), rfl, rfl, h2⟩
        replace h2 := cF h2 q39
        refine AC.exit ?_
        obtain rfl := Option.some.inj h2
        exact ⟨(), _, rfl, (LeL.refl _), rfl, rfl, aftL h1⟩
      intro g26 h1
      unfold p_FnSetAreas_k4 at h1
      change AC _ _ _ _
      refine AC.seq ?_
      refine AC.region ?_
      refine AO.op rfl (AOp.move rfl rfl (ltb rfl) rfl ?_)
      refine AO.op rfl (AOp.fieldAddr rfl rfl (ltb rfl) rfl fo30_3 ?_)
      refine AO.op rfl (AOp.load1 rfl rfl (ltb rfl) rfl agg25 rfl rfl ?_)
      refine AO.op rfl (AOp.lenOwn (cells := (List.map keS3 g18.2.2.1)) (n := g18.2.2.1.length) rfl rfl (ltb rfl) rfl el25 rfl (by decide) (len1 _ _) ?_)
      refine AO.op rfl (AOp.move rfl rfl (ltb rfl) rfl ?_)
      obtain ⟨y27, q28, h1⟩ := bind_elim h1
      refine AO.op rfl (AOp.callD rfl rfl (ltb rfl) rfl rfl (w_gFlats F a0 ((g18.2.2.1.length : Nat) : Int) x22 y27 q28) ?_)
      rintro _ rfl
      refine AO.op rfl (AOp.move rfl rfl (ltb rfl) rfl ?_)
      first | refine AO.op rfl (AOp.extractD rfl rfl (ltb rfl) rfl rfl ?_) | refine AO.op rfl (AOp.extract rfl rfl (ltb rfl) rfl rfl ?_)
      first | refine AO.op rfl (AOp.extractD rfl rfl (ltb rfl) rfl rfl ?_) | refine AO.op rfl (AOp.extract rfl rfl (ltb rfl) rfl rfl ?_)
      first | refine AO.op rfl (AOp.extractD rfl rfl (ltb rfl) rfl rfl ?_) | refine AO.op rfl (AOp.extract rfl rfl (ltb rfl) rfl rfl ?_)
      refine AO.op rfl (AOp.assign rfl rfl (ltb rfl) rfl ?_)
      refine AO.op rfl (AOp.assign rfl rfl (ltb rfl) rfl ?_)
      refine AO.op rfl (AOp.assign rfl rfl (ltb rfl) rfl ?_)
      refine AO.nil ?_
      change AC _ _ _ _
      refine AC.dec g18.1 (fun q29 => ?_) (fun q29 => ?_)
      · replace h1 := cT h1 q29
        obtain ⟨q30, h1⟩ := need_elim h1
        obtain ⟨q31, h1⟩ := need_elim h1
        refine AC.drawS [0, 1, 2, 3, 4, 5, 6, 7, 8, 9, 10, 11, 12, 13, 14, 15, 16] [3, 8, 14, 16] [17] (fun L => [.fix 30 [.d (di .i64 (6 : Int)), .d (di .i64 a0), .d (di .i64 (0 : Int)), (bif L 14 then .own 1 else (bif L 3 then .any else .own 1)), .d (.v (.slice none 0 0)), (bif L 16 then .own 2 else (bif L 8 then .any else .own 2)), .d (.v (.slice none 0 0))], bif L 3 then .grow 37 1 (List.map keS3 (g18.2.2.1 ++ y27.1)) else .grow 37 1 (List.map keS3 g18.2.2.1), bif L 8 then .grow 26 1 (List.map keS5 (g18.2.2.2 ++ [y27.2.1])) else .grow 26 1 (List.map keS5 g18.2.2.2)]) [(3, SV.noO 1), (8, SV.noO 2), (14, (fun _ => true)), (16, (fun _ => true))] mixed (by kernel_rfl) (fun L L' h => by simp only [h 3 (by decide), h 8 (by decide), h 14 (by decide), h 16 (by decide), h 3 (by decide), h 8 (by decide)]) rfl ?_
        refine AS.op [5] [] [3, 8, 14, 16] [] rfl rfl rfl (by kernel_rfl) (by kernel_rfl) rfl rfl (fun _ _ _ h => AOp.fieldAddr rfl rfl (ltb rfl) rfl fo30_3 h) (by kernel_rfl) ?_
        refine AS.op [69] [] [3, 8, 14, 16] [] rfl rfl rfl (by kernel_rfl) (by kernel_rfl) rfl rfl (fun _ _ _ h => AOp.load1 rfl rfl (ltb rfl) rfl agg25 rfl rfl h) (by kernel_rfl) ?_
        refine AS.op [13] [] [3, 8, 14, 16] [] rfl rfl rfl (by kernel_rfl) (by kernel_rfl) rfl rfl (fun _ _ _ h => AOp.move rfl rfl (ltb rfl) rfl h) (by kernel_rfl) ?_
        refine AS.mid [70, 71] [] [8, 14, 16, 3] [] rfl rfl rfl rfl (by kernel_rfl) (by kernel_rfl) rfl rfl (fun _ _ _ h => AOp.subO 0 rfl (.cons (SVLe.refl _) (.cons (SVLe.refl _) (.cons (SVLe.refl _) (.cons (SVLe.any _) (.cons (SVLe.refl _) (.cons (SVLe.refl _) (.cons (SVLe.refl _) .nil))))))) (AOp.appendOwn' (p := 1) (n := g18.2.2.1.length) (m := y27.1.length) (news := (List.map keS3 y27.1)) rfl rfl (ltb rfl) rfl rfl el25 info37 rfl (by decide) rfl (len1 _ _) (len1 _ _) (one1 _ (fun _ => rfl) _) q30 (by decide) (allNo (.cons rfl (.cons rfl (.cons (noO2_cond rfl rfl) .nil)))) rfl (cat1 _ _ _) (AO.dropped h))) (by kernel_rfl) rfl ?_
        refine AS.op [5] [] [8, 14, 16] [3] rfl rfl rfl (by kernel_rfl) (by kernel_rfl) rfl rfl (fun _ _ _ h => AOp.fieldAddr rfl rfl (ltb rfl) rfl fo30_5 h) (by kernel_rfl) ?_
        refine AS.op [73] [] [8, 14, 16] [3] rfl rfl rfl (by kernel_rfl) (by kernel_rfl) rfl rfl (fun _ _ _ h => AOp.load1 rfl rfl (ltb rfl) rfl agg27 rfl rfl h) (by kernel_rfl) ?_
        refine AS.op [14] [] [8, 14, 16] [3] rfl rfl rfl (by kernel_rfl) (by kernel_rfl) rfl rfl (fun _ _ _ h => AOp.move rfl rfl (ltb rfl) rfl h) (by kernel_rfl) ?_
        refine AS.op [75] [] [8, 14, 16] [3] rfl rfl rfl (by kernel_rfl) (by kernel_rfl) rfl rfl (fun _ _ _ h => AOp.buildSliceD rfl rfl (ltb rfl) el27 zero26 rfl (leb rfl) rfl rfl rfl rfl h) (by kernel_rfl) ?_
        refine AS.mid [74, 76] [3] [14, 16, 8] [] rfl rfl rfl rfl (by kernel_rfl) (by kernel_rfl) rfl rfl (fun _ _ _ h => AOp.subO 0 rfl (.cons (SVLe.refl _) (.cons (SVLe.refl _) (.cons (SVLe.refl _) (.cons (SVLe.refl _) (.cons (SVLe.refl _) (.cons (SVLe.any _) (.cons (SVLe.refl _) .nil))))))) (AOp.appendOwn' (p := 2) (n := g18.2.2.2.length) (m := [y27.2.1].length) (news := (List.map keS5 [y27.2.1])) rfl rfl (ltb rfl) rfl rfl el27 info26 rfl (by decide) rfl (len1 _ _) (len1 _ _) (one1 _ (fun _ => rfl) _) q31 (by decide) (allNo (.cons rfl (.cons (noO2_cond rfl rfl) (.cons rfl .nil)))) rfl (cat1 _ _ _) (AO.dropped h))) (by kernel_rfl) rfl ?_
        refine AS.op [6] [] [14, 16] [3, 8] rfl rfl rfl (by kernel_rfl) (by kernel_rfl) rfl rfl (fun _ _ _ h => AOp.move rfl rfl (ltb rfl) rfl h) (by kernel_rfl) ?_
        refine AS.op [78] [3, 8] [14, 16] [] rfl rfl rfl (by kernel_rfl) (by kernel_rfl) rfl rfl (fun _ _ _ h => AOp.move rfl rfl (ltb rfl) rfl h) (by kernel_rfl) ?_
        refine AS.opY [15, 79] [3, 8] [] [14, 16] rfl rfl rfl rfl rfl q29 (by kernel_rfl) (by kernel_rfl) rfl rfl (fun _ _ _ h => AOp.move rfl rfl (ltb rfl) rfl h) (by kernel_rfl) ?_
        refine AS.op [79, 80] [3, 8] [] [14, 16] rfl rfl rfl (by kernel_rfl) (by kernel_rfl) rfl rfl (fun _ _ _ h => AOp.pick rfl rfl (ltb rfl) rfl q29 rfl h) (by kernel_rfl) ?_
        refine AS.op [5] [3] [14, 16] [8] rfl rfl rfl (by kernel_rfl) (by kernel_rfl) rfl rfl (fun _ _ _ h => AOp.fieldAddr rfl rfl (ltb rfl) rfl fo30_3 h) (by kernel_rfl) ?_
        refine AS.mid0 [72, 82] [3, 8] [16, 14] [] rfl rfl rfl rfl (by kernel_rfl) (by kernel_rfl) rfl rfl (fun _ _ _ h => AOp.storeOwn rfl rfl rfl rfl rfl rfl size25 rfl rfl (leb rfl) (AO.dropT h)) (by kernel_rfl) rfl ?_
        refine AS.op [5] [3, 8, 14] [16] [] rfl rfl rfl (by kernel_rfl) (by kernel_rfl) rfl rfl (fun _ _ _ h => AOp.fieldAddr rfl rfl (ltb rfl) rfl fo30_5 h) (by kernel_rfl) ?_
        refine AS.mid0 [77, 83] [3, 8, 14] [16] [] rfl rfl rfl rfl (by kernel_rfl) (by kernel_rfl) rfl rfl (fun _ _ _ h => AOp.storeOwn rfl rfl rfl rfl rfl rfl size27 rfl rfl (leb rfl) (AO.dropT h)) (by kernel_rfl) rfl ?_
        refine AS.done ?_
        refine AO.objs (obs' := [.fix 30 [.d (di .i64 (6 : Int)), .d (di .i64 a0), .d (di .i64 (0 : Int)), .own 1, .d (.v (.slice none 0 0)), .own 2, .d (.v (.slice none 0 0))], .grow 37 1 (List.map keS3 (g18.2.2.1 ++ y27.1)), .grow 26 1 (List.map keS5 (g18.2.2.2 ++ [y27.2.1]))]) rfl ?_
        refine AO.op rfl (AOp.assign rfl rfl (ltb rfl) rfl ?_)
        refine AO.nil ?_
        change AC _ _ _ _
        refine AC.region ?_
        obtain ⟨q32, h1⟩ := need_elim h1
        refine AO.op rfl (AOp.iadd rfl rfl (ltb rfl) rfl rfl rfl q32.1 q32.2 ?_)
        refine AO.op rfl (AOp.move rfl rfl (ltb rfl) rfl ?_)
        refine AO.nil ?_
        exact ⟨(y27.2.2, (g18.2.1 + (1 : Int)), (g18.2.2.1 ++ y27.1), (g18.2.2.2 ++ [y27.2.1])), _, rfl, (LeL.refl _), rfl, rfl, h1⟩
      replace h1 := cF h1 q29
      obtain ⟨q33, h1⟩ := need_elim h1
      obtain ⟨q34, h1⟩ := need_elim h1
      refine AC.drawS [0, 1, 2, 3, 4, 5, 6, 7, 8, 9, 10, 11, 12, 13, 14, 15, 16] [3, 8, 14, 16] [17] (fun L => [.fix 30 [.d (di .i64 (6 : Int)), .d (di .i64 a0), .d (di .i64 (0 : Int)), (bif L 14 then .own 1 else (bif L 3 then .any else .own 1)), .d (.v (.slice none 0 0)), (bif L 16 then .own 2 else (bif L 8 then .any else .own 2)), .d (.v (.slice none 0 0))], bif L 3 then .grow 37 1 (List.map keS3 (g18.2.2.1 ++ y27.1)) else .grow 37 1 (List.map keS3 g18.2.2.1), bif L 8 then .grow 26 1 (List.map keS5 (g18.2.2.2 ++ [y27.2.1])) else .grow 26 1 (List.map keS5 g18.2.2.2)]) [(3, SV.noO 1), (8, SV.noO 2), (14, (fun _ => true)), (16, (fun _ => true))] mixed (by kernel_rfl) (fun L L' h => by simp only [h 3 (by decide), h 8 (by decide), h 14 (by decide), h 16 (by decide), h 3 (by decide), h 8 (by decide)]) rfl ?_
      refine AS.op [5] [] [3, 8, 14, 16] [] rfl rfl rfl (by kernel_rfl) (by kernel_rfl) rfl rfl (fun _ _ _ h => AOp.fieldAddr rfl rfl (ltb rfl) rfl fo30_3 h) (by kernel_rfl) ?_
      refine AS.op [69] [] [3, 8, 14, 16] [] rfl rfl rfl (by kernel_rfl) (by kernel_rfl) rfl rfl (fun _ _ _ h => AOp.load1 rfl rfl (ltb rfl) rfl agg25 rfl rfl h) (by kernel_rfl) ?_
      refine AS.op [13] [] [3, 8, 14, 16] [] rfl rfl rfl (by kernel_rfl) (by kernel_rfl) rfl rfl (fun _ _ _ h => AOp.move rfl rfl (ltb rfl) rfl h) (by kernel_rfl) ?_
      refine AS.mid [70, 71] [] [8, 14, 16, 3] [] rfl rfl rfl rfl (by kernel_rfl) (by kernel_rfl) rfl rfl (fun _ _ _ h => AOp.subO 0 rfl (.cons (SVLe.refl _) (.cons (SVLe.refl _) (.cons (SVLe.refl _) (.cons (SVLe.any _) (.cons (SVLe.refl _) (.cons (SVLe.refl _) (.cons (SVLe.refl _) .nil))))))) (AOp.appendOwn' (p := 1) (n := g18.2.2.1.length) (m := y27.1.length) (news := (List.map keS3 y27.1)) rfl rfl (ltb rfl) rfl rfl el25 info37 rfl (by decide) rfl (len1 _ _) (len1 _ _) (one1 _ (fun _ => rfl) _) q33 (by decide) (allNo (.cons rfl (.cons rfl (.cons (noO2_cond rfl rfl) .nil)))) rfl (cat1 _ _ _) (AO.dropped h))) (by kernel_rfl) rfl ?_
      refine AS.op [5] [] [8, 14, 16] [3] rfl rfl rfl (by kernel_rfl) (by kernel_rfl) rfl rfl (fun _ _ _ h => AOp.fieldAddr rfl rfl (ltb rfl) rfl fo30_5 h) (by kernel_rfl) ?_
      refine AS.op [73] [] [8, 14, 16] [3] rfl rfl rfl (by kernel_rfl) (by kernel_rfl) rfl rfl (fun _ _ _ h => AOp.load1 rfl rfl (ltb rfl) rfl agg27 rfl rfl h) (by kernel_rfl) ?_
      refine AS.op [14] [] [8, 14, 16] [3] rfl rfl rfl (by kernel_rfl) (by kernel_rfl) rfl rfl (fun _ _ _ h => AOp.move rfl rfl (ltb rfl) rfl h) (by kernel_rfl) ?_
      refine AS.op [75] [] [8, 14, 16] [3] rfl rfl rfl (by kernel_rfl) (by kernel_rfl) rfl rfl (fun _ _ _ h => AOp.buildSliceD rfl rfl (ltb rfl) el27 zero26 rfl (leb rfl) rfl rfl rfl rfl h) (by kernel_rfl) ?_
      refine AS.mid [74, 76] [3] [14, 16, 8] [] rfl rfl rfl rfl (by kernel_rfl) (by kernel_rfl) rfl rfl (fun _ _ _ h => AOp.subO 0 rfl (.cons (SVLe.refl _) (.cons (SVLe.refl _) (.cons (SVLe.refl _) (.cons (SVLe.refl _) (.cons (SVLe.refl _) (.cons (SVLe.any _) (.cons (SVLe.refl _) .nil))))))) (AOp.appendOwn' (p := 2) (n := g18.2.2.2.length) (m := [y27.2.1].length) (news := (List.map keS5 [y27.2.1])) rfl rfl (ltb rfl) rfl rfl el27 info26 rfl (by decide) rfl (len1 _ _) (len1 _ _) (one1 _ (fun _ => rfl) _) q34 (by decide) (allNo (.cons rfl (.cons (noO2_cond rfl rfl) (.cons rfl .nil)))) rfl (cat1 _ _ _) (AO.dropped h))) (by kernel_rfl) rfl ?_
      refine AS.op [6] [] [14, 16] [3, 8] rfl rfl rfl (by kernel_rfl) (by kernel_rfl) rfl rfl (fun _ _ _ h => AOp.move rfl rfl (ltb rfl) rfl h) (by kernel_rfl) ?_
      refine AS.op [78] [3, 8] [14, 16] [] rfl rfl rfl (by kernel_rfl) (by kernel_rfl) rfl rfl (fun _ _ _ h => AOp.move rfl rfl (ltb rfl) rfl h) (by kernel_rfl) ?_
      refine AS.opN [15, 79] [3, 8] [] [14, 16] rfl rfl rfl rfl rfl q29 (by kernel_rfl) (by kernel_rfl) rfl rfl (ltb rfl) (by kernel_rfl) ?_
      refine AS.op [79, 80] [3, 8] [] [14, 16] rfl rfl rfl (by kernel_rfl) (by kernel_rfl) rfl rfl (fun _ _ _ h => AOp.pickN rfl rfl (ltb rfl) rfl q29 rfl h) (by kernel_rfl) ?_
      refine AS.op [5] [3] [14, 16] [8] rfl rfl rfl (by kernel_rfl) (by kernel_rfl) rfl rfl (fun _ _ _ h => AOp.fieldAddr rfl rfl (ltb rfl) rfl fo30_3 h) (by kernel_rfl) ?_
      refine AS.mid0 [72, 82] [3, 8] [16, 14] [] rfl rfl rfl rfl (by kernel_rfl) (by kernel_rfl) rfl rfl (fun _ _ _ h => AOp.storeOwn rfl rfl rfl rfl rfl rfl size25 rfl rfl (leb rfl) (AO.dropT h)) (by kernel_rfl) rfl ?_
      refine AS.op [5] [3, 8, 14] [16] [] rfl rfl rfl (by kernel_rfl) (by kernel_rfl) rfl rfl (fun _ _ _ h => AOp.fieldAddr rfl rfl (ltb rfl) rfl fo30_5 h) (by kernel_rfl) ?_
      refine AS.mid0 [77, 83] [3, 8, 14] [16] [] rfl rfl rfl rfl (by kernel_rfl) (by kernel_rfl) rfl rfl (fun _ _ _ h => AOp.storeOwn rfl rfl rfl rfl rfl rfl size27 rfl rfl (leb rfl) (AO.dropT h)) (by kernel_rfl) rfl ?_
      refine AS.done ?_
      refine AO.objs (obs' := [.fix 30 [.d (di .i64 (6 : Int)), .d (di .i64 a0), .d (di .i64 (0 : Int)), .own 1, .d (.v (.slice none 0 0)), .own 2, .d (.v (.slice none 0 0))], .grow 37 1 (List.map keS3 (g18.2.2.1 ++ y27.1)), .grow 26 1 (List.map keS5 (g18.2.2.2 ++ [y27.2.1]))]) rfl ?_
      refine AO.op rfl (AOp.assign rfl rfl (ltb rfl) rfl ?_)
      refine AO.nil ?_
      change AC _ _ _ _
      refine AC.region ?_
      obtain ⟨q35, h1⟩ := need_elim h1
      refine AO.op rfl (AOp.iadd rfl rfl (ltb rfl) rfl rfl rfl q35.1 q35.2 ?_)
      refine AO.op rfl (AOp.move rfl rfl (ltb rfl) rfl ?_)
      refine AO.nil ?_
      exact ⟨(false, (g18.2.1 + (1 : Int)), (g18.2.2.1 ++ y27.1), (g18.2.2.2 ++ [y27.2.1])), _, rfl, (LeL.refl _), rfl, rfl, h1⟩
    replace h1 := cF h1 q21
    refine AC.exit ?_
    obtain rfl := Option.some.inj h1
    exact ⟨(g18.1, g18.2.2.1, g18.2.2.2), _, rfl, (LeL.refl _), rfl, rfl, aftL h0⟩
  intro g8 h0
  unfold p_FnSetAreas_k2 at h0
  change AC _ _ _ _
  refine AC.seq ?_
  refine AC.region ?_
  refine AO.op rfl (AOp.move rfl rfl (ltb rfl) rfl ?_)
  refine AO.op rfl (AOp.move rfl rfl (ltb rfl) rfl ?_)
  obtain ⟨y9, q10, h0⟩ := bind_elim h0
  refine AO.op rfl (AOp.callD rfl rfl (ltb rfl) rfl rfl (w_SetAreas F a0 a1 y9 q10) ?_)
  rintro _ rfl
  refine AO.op rfl (AOp.move rfl rfl (ltb rfl) rfl ?_)
  first | refine AO.op rfl (AOp.extractD rfl rfl (ltb rfl) rfl rfl ?_) | refine AO.op rfl (AOp.extract rfl rfl (ltb rfl) rfl rfl ?_)
  first | refine AO.op rfl (AOp.extractD rfl rfl (ltb rfl) rfl rfl ?_) | refine AO.op rfl (AOp.extract rfl rfl (ltb rfl) rfl rfl ?_)
  refine AO.op rfl (AOp.alloc rfl rfl (ltb rfl) zero30 rfl ?_)
  refine AO.op rfl (AOp.store rfl rfl rfl rfl size30 rfl rfl rfl (leb rfl) ?_)
  refine AO.op rfl (AOp.assign rfl rfl (ltb rfl) rfl ?_)
  refine AO.nil ?_
  change AC _ _ _ _
  refine AC.seq ?_
  refine AC.region ?_
  refine AO.op rfl (AOp.buildSliceD rfl rfl (ltb rfl) el25 zero37 rfl (leb rfl) rfl rfl rfl rfl ?_)
  refine AO.op rfl (AOp.buildSliceD rfl rfl (ltb rfl) el32 zero25 rfl (leb rfl) rfl rfl rfl rfl ?_)
  refine AO.op rfl (AOp.buildSliceD rfl rfl (ltb rfl) el31 zero32 rfl (leb rfl) rfl rfl rfl rfl ?_)
  refine AO.op rfl (AOp.buildSliceD rfl rfl (ltb rfl) el22 zero31 rfl (leb rfl) rfl rfl rfl rfl ?_)
  obtain ⟨y11, q12, h0⟩ := bind_elim h0
  refine AO.op rfl (AOp.callD rfl rfl (ltb rfl) rfl rfl (w_SetAreas F (1 : Int) [[[[(4607182418800017408 : Nat), (4611686018427387904 : Nat)]]]] y11 q12) ?_)
  rintro _ rfl
  refine AO.op rfl (AOp.move rfl rfl (ltb rfl) rfl ?_)
  first | refine AO.op rfl (AOp.extractD rfl rfl (ltb rfl) rfl rfl ?_) | refine AO.op rfl (AOp.extract rfl rfl (ltb rfl) rfl rfl ?_)
  first | refine AO.op rfl (AOp.extractD rfl rfl (ltb rfl) rfl rfl ?_) | refine AO.op rfl (AOp.extract rfl rfl (ltb rfl) rfl rfl ?_)
  refine AO.op rfl (AOp.alloc rfl rfl (ltb rfl) zero30 rfl ?_)
  refine AO.op rfl (AOp.store rfl rfl rfl rfl size30 rfl rfl rfl (leb rfl) ?_)
  refine AO.op rfl (AOp.assign rfl rfl (ltb rfl) rfl ?_)
  refine AO.nil ?_
  change AC _ _ _ _
  refine AC.seq ?_
  refine AC.region ?_
  refine AO.op rfl (AOp.move rfl rfl (ltb rfl) rfl ?_)
  refine AO.op rfl (AOp.move rfl rfl (ltb rfl) rfl ?_)
  refine AO.dec y11.2 (fun q13 => ?_) (fun q13 => ?_)
  · replace h0 := cT h0 q13
    refine AO.guardY rfl rfl rfl q13 (AOp.move rfl rfl (ltb rfl) rfl ?_)
    refine AO.guardY rfl rfl rfl q13 (AOp.move rfl rfl (ltb rfl) rfl ?_)
    refine AO.guardY rfl rfl rfl q13 (AOp.beql Try.underlying4 rfl rfl (ltb rfl) rfl rfl ?_)
    refine AO.op rfl (AOp.pick rfl rfl (ltb rfl) rfl q13 rfl ?_)
    refine AO.op rfl (AOp.move rfl rfl (ltb rfl) rfl ?_)
    refine AO.dec (y9.2 == g8.1) (fun q14 => ?_) (fun q14 => ?_)
    · replace h0 := cT h0 q14
      refine AO.guardY rfl rfl rfl q14 (AOp.move rfl rfl (ltb rfl) rfl ?_)
      refine AO.guardY rfl rfl rfl q14 (AOp.bnot rfl rfl (ltb rfl) rfl ?_)
      refine AO.guardY rfl rfl rfl q14 (AOp.move rfl rfl (ltb rfl) rfl ?_)
      refine AO.dec (!y9.2) (fun q15 => ?_) (fun q15 => ?_)
      · replace h0 := cT h0 q15
        refine AO.guardN rfl rfl rfl (ltb rfl) rfl q15 ?_
        refine AO.guardN rfl rfl rfl (ltb rfl) rfl q15 ?_
        refine AO.guardN rfl rfl rfl (ltb rfl) rfl q15 ?_
        refine AO.guardY rfl rfl rfl q14 (AOp.pick rfl rfl (ltb rfl) rfl q15 rfl ?_)
        refine AO.op rfl (AOp.pick rfl rfl (ltb rfl) rfl q14 rfl ?_)
        refine AO.op rfl (AOp.assign rfl rfl (ltb rfl) rfl ?_)
        refine AO.nil ?_
        change AC _ _ _ _
        refine AC.ret ?_
        change RetQ _ _ _ .ret _
        obtain rfl := Option.some.inj h0
        refine retq rfl rfl
      replace h0 := cF h0 q15
      refine AO.guardY rfl rfl rfl q15 (AOp.loadN rfl rfl (ltb rfl) rfl agg30 size30 rfl (leb rfl) rfl ?_)
      refine AO.guardY rfl rfl rfl q15 (AOp.loadN rfl rfl (ltb rfl) rfl agg30 size30 rfl (leb rfl) rfl ?_)
      refine AO.subO 0 rfl (.cons (SVLe.refl _) (.cons (SVLe.refl _) (.cons (SVLe.refl _) (.cons (SVLe.any _) (.cons (SVLe.refl _) (.cons (SVLe.refl _) (.cons (SVLe.refl _) .nil))))))) ?_
      refine AO.freezeG 1 rfl rfl rfl ?_
      refine AO.subO 0 rfl (.cons (SVLe.refl _) (.cons (SVLe.refl _) (.cons (SVLe.refl _) (.cons (SVLe.refl _) (.cons (SVLe.refl _) (.cons (SVLe.any _) (.cons (SVLe.refl _) .nil))))))) ?_
      refine AO.freezeG 2 rfl rfl rfl ?_
      refine AO.sub 110 rfl (SVLe.ag (.cons (SVLe.refl _) (.cons (SVLe.refl _) (.cons (SVLe.refl _) (.cons (SVLe.refl _) (.cons (SVLe.nil 1) (.cons (SVLe.refl _) (.cons (SVLe.nil 7) .nil)))))))) ?_
      obtain ⟨y16, q17, h0⟩ := bind_elim h0
      refine AO.guardY rfl rfl rfl q15 (AOp.callD rfl rfl (ltb rfl) rfl rfl (w_SameGeom F y9.1 (TImpl_Geom.mk (6 : Int) a0 (0 : Int) g8.2.1 [] g8.2.2 []) y16 q17) ?_)
      rintro _ rfl
      refine AO.guardY rfl rfl rfl q14 (AOp.pickN rfl rfl (ltb rfl) rfl q15 rfl ?_)
      refine AO.op rfl (AOp.pick rfl rfl (ltb rfl) rfl q14 rfl ?_)
      refine AO.op rfl (AOp.assign rfl rfl (ltb rfl) rfl ?_)
      refine AO.nil ?_
      change AC _ _ _ _
      refine AC.ret ?_
      change RetQ _ _ _ .ret _
      obtain rfl := Option.some.inj h0
      refine retq rfl rfl
    replace h0 := cF h0 q14
    refine AO.guardN rfl rfl rfl (ltb rfl) rfl q14 ?_
    refine AO.guardN rfl rfl rfl (ltb rfl) rfl q14 ?_
    refine AO.guardN rfl rfl rfl (ltb rfl) rfl q14 ?_
    refine AO.guardU rfl rfl rfl (ltb rfl) rfl ?_
    refine AO.guardU rfl rfl rfl (ltb rfl) rfl ?_
    refine AO.guardU rfl rfl rfl (ltb rfl) rfl ?_
    refine AO.guardN rfl rfl rfl (ltb rfl) rfl q14 ?_
    refine AO.op rfl (AOp.pickN rfl rfl (ltb rfl) rfl q14 rfl ?_)
    refine AO.op rfl (AOp.assign rfl rfl (ltb rfl) rfl ?_)
    refine AO.nil ?_
    change AC _ _ _ _
    refine AC.ret ?_
    change RetQ _ _ _ .ret _
    obtain rfl := Option.some.inj h0
    refine retq rfl rfl
  replace h0 := cF h0 q13
  refine AO.guardN rfl rfl rfl (ltb rfl) rfl q13 ?_
  refine AO.guardN rfl rfl rfl (ltb rfl) rfl q13 ?_
  refine AO.guardN rfl rfl rfl (ltb rfl) rfl q13 ?_
  refine AO.op rfl (AOp.pickN rfl rfl (ltb rfl) rfl q13 rfl ?_)
  refine AO.op rfl (AOp.move rfl rfl (ltb rfl) rfl ?_)
  refine AO.guardN rfl rfl rfl (ltb rfl) rfl rfl ?_
  refine AO.guardN rfl rfl rfl (ltb rfl) rfl rfl ?_
  refine AO.guardN rfl rfl rfl (ltb rfl) rfl rfl ?_
  refine AO.guardU rfl rfl rfl (ltb rfl) rfl ?_
  refine AO.guardU rfl rfl rfl (ltb rfl) rfl ?_
  refine AO.guardU rfl rfl rfl (ltb rfl) rfl ?_
  refine AO.guardN rfl rfl rfl (ltb rfl) rfl rfl ?_
  refine AO.op rfl (AOp.pickN rfl rfl (ltb rfl) rfl rfl rfl ?_)
  refine AO.op rfl (AOp.assign rfl rfl (ltb rfl) rfl ?_)
  refine AO.nil ?_
  change AC _ _ _ _
  refine AC.ret ?_
  change RetQ _ _ _ .ret _
  obtain rfl := Option.some.inj h0
  refine retq rfl rfl

end Go.Proofs.Ytlafodjpnolmhaa.Wk
