/- Proved: functions of the program compute what the printed functions say, wherever these say something. -/
import Derived.Test.YtbinnbmpedmabaaGreatPEp
import Derived.Test.YtbinnbmpedmabaaGreatLibC
import Derived.Test.YtbinnbmpedmabaaGreatProg
namespace Go.Proofs.YtbinnbmpedmabaaGreat.Wk
open Go.Vm
set_option linter.unusedVariables false
set_option linter.unusedSimpArgs false
theorem agg100 : aggT Tryz.prog 100 = some true := by kernel_rfl
theorem agg147 : aggT Tryz.prog 147 = some false := by kernel_rfl
theorem agg22 : aggT Tryz.prog 22 = some false := by kernel_rfl
theorem agg23 : aggT Tryz.prog 23 = some false := by kernel_rfl
theorem agg24 : aggT Tryz.prog 24 = some false := by kernel_rfl
theorem agg25 : aggT Tryz.prog 25 = some false := by kernel_rfl
theorem agg27 : aggT Tryz.prog 27 = some true := by kernel_rfl
theorem agg3 : aggT Tryz.prog 3 = some false := by kernel_rfl
theorem agg30 : aggT Tryz.prog 30 = some false := by kernel_rfl
theorem agg4 : aggT Tryz.prog 4 = some false := by kernel_rfl
theorem agg48 : aggT Tryz.prog 48 = some false := by kernel_rfl
theorem agg5 : aggT Tryz.prog 5 = some false := by kernel_rfl
theorem agg60 : aggT Tryz.prog 60 = some false := by kernel_rfl
theorem agg65 : aggT Tryz.prog 65 = some false := by kernel_rfl
theorem agg83 : aggT Tryz.prog 83 = some false := by kernel_rfl
theorem agg99 : aggT Tryz.prog 99 = some true := by kernel_rfl
theorem ar153 : arrT Tryz.prog 153 = some (1, 5, 1) := by kernel_rfl
theorem ar156 : arrT Tryz.prog 156 = some (4, 5, 1) := by kernel_rfl
theorem cmpS100 : cmpS Tryz.prog 100 = true := by kernel_rfl
theorem cmpS99 : cmpS Tryz.prog 99 = true := by kernel_rfl
theorem conc100 : concT Tryz.prog 100 = true := by kernel_rfl
theorem conc61 : concT Tryz.prog 61 = true := by kernel_rfl
theorem conc67 : concT Tryz.prog 67 = true := by kernel_rfl
theorem conc70 : concT Tryz.prog 70 = true := by kernel_rfl
theorem conc73 : concT Tryz.prog 73 = true := by kernel_rfl
theorem conc76 : concT Tryz.prog 76 = true := by kernel_rfl
theorem conc80 : concT Tryz.prog 80 = true := by kernel_rfl
theorem conc86 : concT Tryz.prog 86 = true := by kernel_rfl
theorem conc89 : concT Tryz.prog 89 = true := by kernel_rfl
theorem conc93 : concT Tryz.prog 93 = true := by kernel_rfl
theorem conc99 : concT Tryz.prog 99 = true := by kernel_rfl
theorem el140 : elemT Tryz.prog 140 = some (83, 1) := by kernel_rfl
theorem el147 : elemT Tryz.prog 147 = some (48, 1) := by kernel_rfl
theorem el22 : elemT Tryz.prog 22 = some (60, 1) := by kernel_rfl
theorem el23 : elemT Tryz.prog 23 = some (3, 1) := by kernel_rfl
theorem el24 : elemT Tryz.prog 24 = some (23, 1) := by kernel_rfl
theorem el25 : elemT Tryz.prog 25 = some (27, 7) := by kernel_rfl
theorem el30 : elemT Tryz.prog 30 = some (5, 1) := by kernel_rfl
theorem fo108_0 : fieldOff Tryz.prog 108 0 = some 0 := by kernel_rfl
theorem fo108_1 : fieldOff Tryz.prog 108 1 = some 1 := by kernel_rfl
theorem fo122_0 : fieldOff Tryz.prog 122 0 = some 0 := by kernel_rfl
theorem fo122_1 : fieldOff Tryz.prog 122 1 = some 1 := by kernel_rfl
theorem fo122_2 : fieldOff Tryz.prog 122 2 = some 2 := by kernel_rfl
theorem fo122_3 : fieldOff Tryz.prog 122 3 = some 3 := by kernel_rfl
theorem fo124_0 : fieldOff Tryz.prog 124 0 = some 0 := by kernel_rfl
theorem fo129_0 : fieldOff Tryz.prog 129 0 = some 0 := by kernel_rfl
theorem fo131_0 : fieldOff Tryz.prog 131 0 = some 0 := by kernel_rfl
theorem fo134_0 : fieldOff Tryz.prog 134 0 = some 0 := by kernel_rfl
theorem fo134_1 : fieldOff Tryz.prog 134 1 = some 4 := by kernel_rfl
theorem fo136_0 : fieldOff Tryz.prog 136 0 = some 0 := by kernel_rfl
theorem fo139_0 : fieldOff Tryz.prog 139 0 = some 0 := by kernel_rfl
theorem fo141_0 : fieldOff Tryz.prog 141 0 = some 0 := by kernel_rfl
theorem fo142_0 : fieldOff Tryz.prog 142 0 = some 0 := by kernel_rfl
theorem fo144_0 : fieldOff Tryz.prog 144 0 = some 0 := by kernel_rfl
theorem fo144_1 : fieldOff Tryz.prog 144 1 = some 4 := by kernel_rfl
theorem fo146_0 : fieldOff Tryz.prog 146 0 = some 0 := by kernel_rfl
theorem fo149_0 : fieldOff Tryz.prog 149 0 = some 0 := by kernel_rfl
theorem fo149_1 : fieldOff Tryz.prog 149 1 = some 1 := by kernel_rfl
theorem fo149_2 : fieldOff Tryz.prog 149 2 = some 2 := by kernel_rfl
theorem fo27_0 : fieldOff Tryz.prog 27 0 = some 0 := by kernel_rfl
theorem fo27_1 : fieldOff Tryz.prog 27 1 = some 1 := by kernel_rfl
theorem fo27_2 : fieldOff Tryz.prog 27 2 = some 2 := by kernel_rfl
theorem fo27_3 : fieldOff Tryz.prog 27 3 = some 3 := by kernel_rfl
theorem fo27_4 : fieldOff Tryz.prog 27 4 = some 4 := by kernel_rfl
theorem fo27_5 : fieldOff Tryz.prog 27 5 = some 5 := by kernel_rfl
theorem fo27_6 : fieldOff Tryz.prog 27 6 = some 6 := by kernel_rfl
theorem fo57_0 : fieldOff Tryz.prog 57 0 = some 0 := by kernel_rfl
theorem fo57_1 : fieldOff Tryz.prog 57 1 = some 1 := by kernel_rfl
theorem idle17 (vs : Array Value) (w : World) (h : vs.size = 2) : CallsD Tryz.prog 17 vs .returning w fun e u' w' => e = .returned (.tuple #[]) ∧ u' = .returning ∧ w' = w := by
 obtain ⟨x0, x1, rfl⟩ : ∃ x0 x1, vs = #[x0, x1] := by
  obtain ⟨l⟩ := vs
  match l, h with
  | [x0, x1], _ => exact ⟨x0, x1, rfl⟩
 refine callsD_of_wpS Tryz.func17 rfl fun c₀ cs hu => ?_
 apply wpS_seq
 apply wpS_region
 simp [wpOpsS, go_sem, recoverD, hu, Tryz.ntmps17, Exit.thenS]
 refine wpS_cond (t := false) (by simp [Act.eval, Array.replicate]) ?_
 simp only [Bool.false_eq_true, if_false]
 refine wpS_of_wp (wp_skip ?_)
 cases c₀
 simp_all [bodyPostS, results, Tryz.results17]
theorem imeth44 : Tryz.prog.underlying 44 = some (.interface (Tryz.prog.methodsAt 44)) := by kernel_rfl
theorem imeth51 : Tryz.prog.underlying 51 = some (.interface (Tryz.prog.methodsAt 51)) := by kernel_rfl
theorem info23 : (Tryz.prog.info? 23).map (fun i => (i.zero, i.size, i.bytes)) = some (some (.slice none 0 0), 1, 24) := by kernel_rfl
theorem info27 : (Tryz.prog.info? 27).map (fun i => (i.zero, i.size, i.bytes)) = some (some (.agg #[.int .i64 0, .int .i64 0, .int .i64 0, .slice none 0 0, .slice none 0 0, .slice none 0 0, .slice none 0 0]), 7, 120) := by kernel_rfl
theorem info3 : (Tryz.prog.info? 3).map (fun i => (i.zero, i.size, i.bytes)) = some (some (.int .i64 0), 1, 8) := by kernel_rfl
theorem info48 : (Tryz.prog.info? 48).map (fun i => (i.zero, i.size, i.bytes)) = some (some (.nilIface), 1, 16) := by kernel_rfl
theorem info5 : (Tryz.prog.info? 5).map (fun i => (i.zero, i.size, i.bytes)) = some (some (.int .u8 0), 1, 1) := by kernel_rfl
theorem info60 : (Tryz.prog.info? 60).map (fun i => (i.zero, i.size, i.bytes)) = some (some (.float .f64 0), 1, 8) := by kernel_rfl
theorem meth100_PutUint32 : methT Tryz.prog 100 "PutUint32" = some (142, none) := by kernel_rfl
theorem meth100_PutUint64 : methT Tryz.prog 100 "PutUint64" = some (143, none) := by kernel_rfl
theorem meth61_Write : methT Tryz.prog 61 "Write" = some (106, none) := by kernel_rfl
theorem meth67_Empty : methT Tryz.prog 67 "Empty" = some (58, some 0) := by kernel_rfl
theorem meth67_Layout : methT Tryz.prog 67 "Layout" = some (118, some 0) := by kernel_rfl
theorem meth67_SRID : methT Tryz.prog 67 "SRID" = some (119, some 0) := by kernel_rfl
theorem meth70_Empty : methT Tryz.prog 70 "Empty" = some (58, some 0) := by kernel_rfl
theorem meth70_Layout : methT Tryz.prog 70 "Layout" = some (118, some 0) := by kernel_rfl
theorem meth70_SRID : methT Tryz.prog 70 "SRID" = some (119, some 0) := by kernel_rfl
theorem meth76_Empty : methT Tryz.prog 76 "Empty" = some (58, some 0) := by kernel_rfl
theorem meth76_Layout : methT Tryz.prog 76 "Layout" = some (118, some 0) := by kernel_rfl
theorem meth76_SRID : methT Tryz.prog 76 "SRID" = some (119, some 0) := by kernel_rfl
theorem meth80_Empty : methT Tryz.prog 80 "Empty" = some (58, some 0) := by kernel_rfl
theorem meth80_Layout : methT Tryz.prog 80 "Layout" = some (118, some 0) := by kernel_rfl
theorem meth80_SRID : methT Tryz.prog 80 "SRID" = some (119, some 0) := by kernel_rfl
theorem meth86_Empty : methT Tryz.prog 86 "Empty" = some (58, some 0) := by kernel_rfl
theorem meth86_Layout : methT Tryz.prog 86 "Layout" = some (118, some 0) := by kernel_rfl
theorem meth86_SRID : methT Tryz.prog 86 "SRID" = some (119, some 0) := by kernel_rfl
theorem meth89_Empty : methT Tryz.prog 89 "Empty" = some (58, some 0) := by kernel_rfl
theorem meth89_Layout : methT Tryz.prog 89 "Layout" = some (118, some 0) := by kernel_rfl
theorem meth89_SRID : methT Tryz.prog 89 "SRID" = some (119, some 0) := by kernel_rfl
theorem meth93_Empty : methT Tryz.prog 93 "Empty" = some (125, none) := by kernel_rfl
theorem meth93_Layout : methT Tryz.prog 93 "Layout" = some (129, none) := by kernel_rfl
theorem meth93_SRID : methT Tryz.prog 93 "SRID" = some (130, none) := by kernel_rfl
theorem meth99_PutUint32 : methT Tryz.prog 99 "PutUint32" = some (134, none) := by kernel_rfl
theorem meth99_PutUint64 : methT Tryz.prog 99 "PutUint64" = some (135, none) := by kernel_rfl
theorem mixed : Tryz.prog.follows .mixedOrders = true := by kernel_rfl
theorem nilm100_PutUint32 : nilT Tryz.prog 100 "PutUint32" = true := by kernel_rfl
theorem nilm61_Write : nilT Tryz.prog 61 "Write" = true := by kernel_rfl
theorem nilm99_PutUint32 : nilT Tryz.prog 99 "PutUint32" = true := by kernel_rfl
theorem pass67_67 : passT Tryz.prog 67 67 = some true := by kernel_rfl
theorem pass67_93 : passT Tryz.prog 67 93 = some false := by kernel_rfl
theorem pass70_67 : passT Tryz.prog 70 67 = some false := by kernel_rfl
theorem pass70_70 : passT Tryz.prog 70 70 = some true := by kernel_rfl
theorem pass70_93 : passT Tryz.prog 70 93 = some false := by kernel_rfl
theorem pass76_67 : passT Tryz.prog 76 67 = some false := by kernel_rfl
theorem pass76_70 : passT Tryz.prog 76 70 = some false := by kernel_rfl
theorem pass76_76 : passT Tryz.prog 76 76 = some true := by kernel_rfl
theorem pass76_93 : passT Tryz.prog 76 93 = some false := by kernel_rfl
theorem pass80_67 : passT Tryz.prog 80 67 = some false := by kernel_rfl
theorem pass80_70 : passT Tryz.prog 80 70 = some false := by kernel_rfl
theorem pass80_76 : passT Tryz.prog 80 76 = some false := by kernel_rfl
theorem pass80_80 : passT Tryz.prog 80 80 = some true := by kernel_rfl
theorem pass80_93 : passT Tryz.prog 80 93 = some false := by kernel_rfl
theorem pass86_67 : passT Tryz.prog 86 67 = some false := by kernel_rfl
theorem pass86_70 : passT Tryz.prog 86 70 = some false := by kernel_rfl
theorem pass86_76 : passT Tryz.prog 86 76 = some false := by kernel_rfl
theorem pass86_80 : passT Tryz.prog 86 80 = some false := by kernel_rfl
theorem pass86_86 : passT Tryz.prog 86 86 = some true := by kernel_rfl
theorem pass86_93 : passT Tryz.prog 86 93 = some false := by kernel_rfl
theorem pass89_67 : passT Tryz.prog 89 67 = some false := by kernel_rfl
theorem pass89_70 : passT Tryz.prog 89 70 = some false := by kernel_rfl
theorem pass89_76 : passT Tryz.prog 89 76 = some false := by kernel_rfl
theorem pass89_80 : passT Tryz.prog 89 80 = some false := by kernel_rfl
theorem pass89_86 : passT Tryz.prog 89 86 = some false := by kernel_rfl
theorem pass89_89 : passT Tryz.prog 89 89 = some true := by kernel_rfl
theorem pass89_93 : passT Tryz.prog 89 93 = some false := by kernel_rfl
theorem pass93_67 : passT Tryz.prog 93 67 = some false := by kernel_rfl
theorem pass93_70 : passT Tryz.prog 93 70 = some false := by kernel_rfl
theorem pass93_76 : passT Tryz.prog 93 76 = some false := by kernel_rfl
theorem pass93_80 : passT Tryz.prog 93 80 = some false := by kernel_rfl
theorem pass93_86 : passT Tryz.prog 93 86 = some false := by kernel_rfl
theorem pass93_89 : passT Tryz.prog 93 89 = some false := by kernel_rfl
theorem pass93_93 : passT Tryz.prog 93 93 = some true := by kernel_rfl
def pl108 : Nat → Option (Nat × Nat) := fun i => ([(0, 1), (1, 1), (2, 1)] : List (Nat × Nat))[i]?
theorem places108 : placesT Tryz.prog 108 = some pl108 := by kernel_rfl
def pl149 : Nat → Option (Nat × Nat) := fun i => ([(0, 1), (1, 1), (2, 1)] : List (Nat × Nat))[i]?
theorem places149 : placesT Tryz.prog 149 = some pl149 := by kernel_rfl
def pl27 : Nat → Option (Nat × Nat) := fun i => ([(0, 1), (1, 1), (2, 1), (3, 1), (4, 1), (5, 1), (6, 1)] : List (Nat × Nat))[i]?
theorem places27 : placesT Tryz.prog 27 = some pl27 := by kernel_rfl
def pl57 : Nat → Option (Nat × Nat) := fun i => ([(0, 1), (1, 1), (2, 1), (3, 1), (4, 1)] : List (Nat × Nat))[i]?
theorem places57 : placesT Tryz.prog 57 = some pl57 := by kernel_rfl
theorem size100 : sizeT Tryz.prog 100 = some 0 := by kernel_rfl
theorem size147 : sizeT Tryz.prog 147 = some 1 := by kernel_rfl
theorem size22 : sizeT Tryz.prog 22 = some 1 := by kernel_rfl
theorem size23 : sizeT Tryz.prog 23 = some 1 := by kernel_rfl
theorem size24 : sizeT Tryz.prog 24 = some 1 := by kernel_rfl
theorem size25 : sizeT Tryz.prog 25 = some 1 := by kernel_rfl
theorem size27 : sizeT Tryz.prog 27 = some 7 := by kernel_rfl
theorem size3 : sizeT Tryz.prog 3 = some 1 := by kernel_rfl
theorem size30 : sizeT Tryz.prog 30 = some 1 := by kernel_rfl
theorem size4 : sizeT Tryz.prog 4 = some 1 := by kernel_rfl
theorem size5 : sizeT Tryz.prog 5 = some 1 := by kernel_rfl
theorem size60 : sizeT Tryz.prog 60 = some 1 := by kernel_rfl
theorem size65 : sizeT Tryz.prog 65 = some 1 := by kernel_rfl
theorem size99 : sizeT Tryz.prog 99 = some 0 := by kernel_rfl
theorem zero108 : (Tryz.prog.info? 108).map (·.zero) = some (some (.agg #[.slice none 0 0, .int .i64 0, .int .i8 0])) := by kernel_rfl
theorem zero124 : (Tryz.prog.info? 124).map (·.zero) = some (some (.agg #[.int .i64 0, .int .i64 0, .slice none 0 0, .int .i64 0])) := by kernel_rfl
theorem zero131 : (Tryz.prog.info? 131).map (·.zero) = some (some (.agg #[.int .i64 0, .int .i64 0, .slice none 0 0, .int .i64 0])) := by kernel_rfl
theorem zero136 : (Tryz.prog.info? 136).map (·.zero) = some (some (.agg #[.int .i64 0, .int .i64 0, .slice none 0 0, .int .i64 0, .slice none 0 0])) := by kernel_rfl
theorem zero139 : (Tryz.prog.info? 139).map (·.zero) = some (some (.agg #[.int .i64 0, .int .i64 0, .slice none 0 0, .int .i64 0])) := by kernel_rfl
theorem zero141 : (Tryz.prog.info? 141).map (·.zero) = some (some (.agg #[.int .i64 0, .int .i64 0, .slice none 0 0, .int .i64 0, .slice none 0 0])) := by kernel_rfl
theorem zero142 : (Tryz.prog.info? 142).map (·.zero) = some (some (.agg #[.int .i64 0, .int .i64 0, .slice none 0 0, .int .i64 0, .slice none 0 0])) := by kernel_rfl
theorem zero146 : (Tryz.prog.info? 146).map (·.zero) = some (some (.agg #[.int .i64 0, .int .i64 0, .slice none 0 0, .int .i64 0, .slice none 0 0])) := by kernel_rfl
theorem zero149 : (Tryz.prog.info? 149).map (·.zero) = some (some (.agg #[.int .i64 0, .slice none 0 0, .int .i64 0])) := by kernel_rfl
theorem zero153 : (Tryz.prog.info? 153).map (·.zero) = some (some (.agg #[.int .u8 0])) := by kernel_rfl
theorem zero156 : (Tryz.prog.info? 156).map (·.zero) = some (some (.agg #[.int .u8 0, .int .u8 0, .int .u8 0, .int .u8 0])) := by kernel_rfl
theorem zero23 : (Tryz.prog.info? 23).map (·.zero) = some (some (.slice none 0 0)) := by kernel_rfl
theorem zero27 : (Tryz.prog.info? 27).map (·.zero) = some (some (.agg #[.int .i64 0, .int .i64 0, .int .i64 0, .slice none 0 0, .slice none 0 0, .slice none 0 0, .slice none 0 0])) := by kernel_rfl
theorem zero3 : (Tryz.prog.info? 3).map (·.zero) = some (some (.int .i64 0)) := by kernel_rfl
theorem zero30 : (Tryz.prog.info? 30).map (·.zero) = some (some (.slice none 0 0)) := by kernel_rfl
theorem zero4 : (Tryz.prog.info? 4).map (·.zero) = some (some (.bool false)) := by kernel_rfl
theorem zero48 : (Tryz.prog.info? 48).map (·.zero) = some (some (.nilIface)) := by kernel_rfl
theorem zero5 : (Tryz.prog.info? 5).map (·.zero) = some (some (.int .u8 0)) := by kernel_rfl
theorem zero57 : (Tryz.prog.info? 57).map (·.zero) = some (some (.agg #[.slice none 0 0, .bool false, .bool false, .bool false, .bool false])) := by kernel_rfl
theorem zero60 : (Tryz.prog.info? 60).map (·.zero) = some (some (.float .f64 0)) := by kernel_rfl
theorem zero67 : (Tryz.prog.info? 67).map (·.zero) = some (some (.pointer none)) := by kernel_rfl
theorem zero70 : (Tryz.prog.info? 70).map (·.zero) = some (some (.pointer none)) := by kernel_rfl
theorem zero76 : (Tryz.prog.info? 76).map (·.zero) = some (some (.pointer none)) := by kernel_rfl
theorem zero80 : (Tryz.prog.info? 80).map (·.zero) = some (some (.pointer none)) := by kernel_rfl
theorem zero83 : (Tryz.prog.info? 83).map (·.zero) = some (some (.nilFunc)) := by kernel_rfl
theorem zero86 : (Tryz.prog.info? 86).map (·.zero) = some (some (.pointer none)) := by kernel_rfl
theorem zero89 : (Tryz.prog.info? 89).map (·.zero) = some (some (.pointer none)) := by kernel_rfl
theorem zero93 : (Tryz.prog.info? 93).map (·.zero) = some (some (.pointer none)) := by kernel_rfl
set_option maxRecDepth 100000 in
set_option maxHeartbeats 4000000 in
theorem w_zzFits3 (F : Nat) (a0 : (List (List Int))) (r0 : Bool) (h0 : p_zzFits3 F a0 = some r0) : FnD Tryz.prog 11 [eS3 a0] (fun r => r = dbool r0) := by
 refine FnD.of (by kernel_rfl) Tryz.func11 rfl Tryz.ntmps11 rfl (leb rfl) fun W ok => ?_
 unfold p_zzFits3 at h0
 refine AC.smn 1 rfl ?_
 refine AC.seq ?_
 refine AC.sm 1 rfl ?_
 refine AO.op rfl (AOp.lenDs (n := a0.length) (cells := (List.map keS3 a0)) rfl rfl lb rfl el24 (by decide) (len1 _ _) ?_)
 refine AO.op rfl (AOp.igtr rfl rfl lb rfl rfl ?_)
 refine AO.nS ?_
 refine AC.cond rfl (fun q1 => ?_) (fun q1 => ?_)
 ·replace h0 := cT h0 q1
  refine AC.smn 1 rfl ?_
  refine AC.ret ?_
  change RetQ _ _ _ .ret _
  obtain rfl := Option.some.inj h0
  refine retq rfl rfl
 replace h0 := cF h0 q1
 refine AC.skip ?_
 change AC _ _ _ _
 refine AC.seq ?_
 refine AC.sm 1 rfl ?_
 refine AO.op rfl (AOp.lenDs (n := a0.length) (cells := (List.map keS3 a0)) rfl rfl lb rfl el24 (by decide) (len1 _ _) ?_)
 refine AO.mn 1 rfl ?_
 obtain ⟨o2, l3, h0⟩ := bind_elim h0
 refine AC.joinE (V := Unit) [] [] 0 (fun g4 => []) (fun g4 => []) (fun g4 => p_zzFits3_k1 g4 = some r0) rfl ?_ ?_
 ·refine AC.block ?_
  refine AC.loopP (V := Int) (p_zzFits3_l2 a0) o2 [8, 9] [10] 0 (fun g5 => [(10, .d (di .i64 g5))]) (fun g5 => []) F (0 : Int) l3 rfl rfl (LeL.refl _) rfl rfl ?_
  intro n7 g5 h1
  unfold p_zzFits3_l2 at h1
  refine AC.sr ?_
  refine AO.op rfl (AOp.ilss rfl rfl lb rfl rfl ?_)
  refine AO.nS ?_
  refine AC.seq ?_
  refine AC.cond rfl (fun q8 => ?_) (fun q8 => ?_)
  ·replace h1 := cT h1 q8
   refine AC.skip ?_
   change AC _ _ _ _
   refine AC.seq ?_
   refine AC.block ?_
   refine AC.sr ?_
   obtain ⟨x9, q10, h1⟩ := idx_elim h1
   refine AO.op rfl (AOp.indexDs (cells := (List.map keS3 a0)) rfl rfl lb rfl rfl el24 (by decide) q10.1 (lt1 q10.2) ?_)
   refine AO.op rfl (AOp.loadEp rfl rfl lb rfl agg23 (at1 q10.2) ?_)
   refine AO.mn 1 rfl ?_
   refine AC.sm 1 rfl ?_
   refine AO.op rfl (AOp.lenDs (n := x9.length) (cells := (List.map keS2 x9)) rfl rfl lb rfl el23 (by decide) (len1 _ _) ?_)
   refine AO.op rfl (AOp.igtr rfl rfl lb rfl rfl ?_)
   refine AO.nS ?_
   refine AC.cond rfl (fun q11 => ?_) (fun q11 => ?_)
   ·replace h1 := cT h1 q11
    refine AC.smn 1 rfl ?_
    refine AC.ret ?_
    change RetQ _ _ _ .ret _
    obtain rfl := Option.some.inj h1
    replace h0 := aftR h0
    obtain rfl := Option.some.inj h0
    refine retq rfl rfl
   replace h1 := cF h1 q11
   refine AC.skip ?_
   change AC _ _ _ _
   refine AC.region ?_
   obtain ⟨q12, h1⟩ := need_elim h1
   refine AO.op rfl (AOp.iadd rfl rfl lb rfl rfl rfl q12.1 q12.2 ?_)
   refine AO.mv 1 rfl ?_
   refine AO.nil ?_
   exact ⟨(g5 + (1 : Int)), _, rfl, (LeL.refl _), rfl, rfl, h1⟩
  replace h1 := cF h1 q8
  refine AC.exit ?_
  obtain rfl := Option.some.inj h1
  exact ⟨(), _, rfl, (LeL.refl _), rfl, rfl, aftL h0⟩
 intro g4 h0
 unfold p_zzFits3_k1 at h0
 change AC _ _ _ _
 refine AC.smn 1 rfl ?_
 refine AC.ret ?_
 change RetQ _ _ _ .ret _
 obtain rfl := Option.some.inj h0
 refine retq rfl rfl

set_option maxRecDepth 100000 in
set_option maxHeartbeats 4000000 in
theorem w_zzFits2 (F : Nat) (a0 : TImpl_Geom) (r0 : Bool) (h0 : p_zzFits2 F a0 = some r0) : FnD Tryz.prog 4 [e_TImpl_Geom a0] (fun r => r = dbool r0) := by
 refine FnD.of (by kernel_rfl) Tryz.func4 rfl Tryz.ntmps4 rfl (leb rfl) fun W ok => ?_
 unfold p_zzFits2 at h0
 refine AC.sr ?_
 refine AO.op rfl (AOp.box rfl rfl lb rfl rfl ?_)
 refine AO.mn 1 rfl ?_
 refine AC.seq ?_
 refine AC.sr ?_
 refine AO.op rfl (AOp.fieldAddr rfl rfl lb rfl fo27_3 ?_)
 refine AO.op rfl (AOp.load1 rfl rfl lb rfl agg22 rfl rfl ?_)
 refine AO.op rfl (AOp.lenDs (n := a0.Flat.length) (cells := (List.map keS1 a0.Flat)) rfl rfl lb rfl el22 (by decide) (len1 _ _) ?_)
 refine AO.op rfl (AOp.igtr rfl rfl lb rfl rfl ?_)
 refine AO.nS ?_
 refine AC.cond rfl (fun q1 => ?_) (fun q1 => ?_)
 ·replace h0 := cT h0 q1
  refine AC.smn 1 rfl ?_
  refine AC.ret ?_
  change RetQ _ _ _ .ret _
  obtain rfl := Option.some.inj h0
  refine retq rfl rfl
 replace h0 := cF h0 q1
 refine AC.skip ?_
 change AC _ _ _ _
 refine AC.seq ?_
 refine AC.sr ?_
 refine AO.op rfl (AOp.fieldAddr rfl rfl lb rfl fo27_4 ?_)
 refine AO.op rfl (AOp.load1 rfl rfl lb rfl agg23 rfl rfl ?_)
 refine AO.op rfl (AOp.lenDs (n := a0.Ends.length) (cells := (List.map keS2 a0.Ends)) rfl rfl lb rfl el23 (by decide) (len1 _ _) ?_)
 refine AO.op rfl (AOp.igtr rfl rfl lb rfl rfl ?_)
 refine AO.nS ?_
 refine AC.cond rfl (fun q2 => ?_) (fun q2 => ?_)
 ·replace h0 := cT h0 q2
  refine AC.smn 1 rfl ?_
  refine AC.ret ?_
  change RetQ _ _ _ .ret _
  obtain rfl := Option.some.inj h0
  refine retq rfl rfl
 replace h0 := cF h0 q2
 refine AC.skip ?_
 change AC _ _ _ _
 refine AC.seq ?_
 refine AC.sr ?_
 refine AO.op rfl (AOp.fieldAddr rfl rfl lb rfl fo27_5 ?_)
 refine AO.op rfl (AOp.load1 rfl rfl lb rfl agg24 rfl rfl ?_)
 obtain ⟨y3, q4, h0⟩ := bind_elim h0
 refine AO.op rfl (AOp.callD rfl rfl lb rfl rfl (w_zzFits3 F a0.Endss y3 q4) ?_)
 rintro _ rfl
 refine AO.op rfl (AOp.bnot rfl rfl lb rfl ?_)
 refine AO.nS ?_
 refine AC.cond rfl (fun q5 => ?_) (fun q5 => ?_)
 ·replace h0 := cT h0 q5
  refine AC.smn 1 rfl ?_
  refine AC.ret ?_
  change RetQ _ _ _ .ret _
  obtain rfl := Option.some.inj h0
  refine retq rfl rfl
 replace h0 := cF h0 q5
 refine AC.skip ?_
 change AC _ _ _ _
 refine AC.seq ?_
 refine AC.sr ?_
 refine AO.op rfl (AOp.fieldAddr rfl rfl lb rfl fo27_6 ?_)
 refine AO.op rfl (AOp.load1 rfl rfl lb rfl agg25 rfl rfl ?_)
 refine AO.op rfl (AOp.lenDs (n := a0.Kids.length) (cells := (List.flatMap c0_TImpl_Geom a0.Kids)) rfl rfl lb rfl el25 (by decide) (lenN _ 7 c0_TImpl_Geom_len _) ?_)
 refine AO.op rfl (AOp.igtr rfl rfl lb rfl rfl ?_)
 refine AO.nS ?_
 refine AC.cond rfl (fun q6 => ?_) (fun q6 => ?_)
 ·replace h0 := cT h0 q6
  refine AC.smn 1 rfl ?_
  refine AC.ret ?_
  change RetQ _ _ _ .ret _
  obtain rfl := Option.some.inj h0
  refine retq rfl rfl
 replace h0 := cF h0 q6
 refine AC.skip ?_
 change AC _ _ _ _
 refine AC.smn 1 rfl ?_
 refine AC.ret ?_
 change RetQ _ _ _ .ret _
 obtain rfl := Option.some.inj h0
 refine retq rfl rfl

set_option maxRecDepth 100000 in
set_option maxHeartbeats 4000000 in
theorem w_Weight_b (Rec_ : TImpl_Geom → Int → Option Int) (hR : ∀ (a0 : TImpl_Geom) (a1 : Int) (r0 : Int), Rec_ a0 a1 = some r0 → FnD Tryz.prog 52 [e_TImpl_Geom a0, di .i64 a1] (fun r => r = di .i64 r0)) (F : Nat) (a0 : TImpl_Geom) (a1 : Int) (r0 : Int) (h0 : p_Weight_b Rec_ F a0 a1 = some r0) : FnD Tryz.prog 52 [e_TImpl_Geom a0, di .i64 a1] (fun r => r = di .i64 r0) := by
 refine FnD.of (by kernel_rfl) Tryz.func52 rfl Tryz.ntmps52 rfl (leb rfl) fun W ok => ?_
 unfold p_Weight_b at h0
 refine AC.sr ?_
 refine AO.op rfl (AOp.box rfl rfl lb rfl rfl ?_)
 refine AO.mn 1 rfl ?_
 refine AC.sr ?_
 refine AO.op rfl (AOp.fieldAddr rfl rfl lb rfl fo27_3 ?_)
 refine AO.op rfl (AOp.load1 rfl rfl lb rfl agg22 rfl rfl ?_)
 refine AO.op rfl (AOp.lenDs (n := a0.Flat.length) (cells := (List.map keS1 a0.Flat)) rfl rfl lb rfl el22 (by decide) (len1 _ _) ?_)
 refine AO.op rfl (AOp.iwAdd rfl rfl lb rfl rfl ?_)
 refine AO.op rfl (AOp.fieldAddr rfl rfl lb rfl fo27_4 ?_)
 refine AO.op rfl (AOp.load1 rfl rfl lb rfl agg23 rfl rfl ?_)
 refine AO.op rfl (AOp.lenDs (n := a0.Ends.length) (cells := (List.map keS2 a0.Ends)) rfl rfl lb rfl el23 (by decide) (len1 _ _) ?_)
 refine AO.op rfl (AOp.iwAdd rfl rfl lb rfl rfl ?_)
 refine AO.mn 1 rfl ?_
 refine AC.seq ?_
 refine AC.sr ?_
 refine AO.op rfl (AOp.fieldAddr rfl rfl lb rfl fo27_5 ?_)
 refine AO.op rfl (AOp.load1 rfl rfl lb rfl agg24 rfl rfl ?_)
 refine AO.op rfl (AOp.lenDs (n := a0.Endss.length) (cells := (List.map keS3 a0.Endss)) rfl rfl lb rfl el24 (by decide) (len1 _ _) ?_)
 refine AO.mn 1 rfl ?_
 obtain ⟨o1, l2, h0⟩ := bind_elim h0
 refine AC.joinE (V := Int) [1, 2] [5] 1 (fun g3 => [(5, .d (di .i64 g3))]) (fun g3 => [.fix 27 [.d (di .i64 a0.Kind), .d (di .i64 a0.Layout), .d (di .i64 a0.SRID), .d (eS1 a0.Flat), .d (eS2 a0.Ends), .d (eS3 a0.Endss), .d (eS0 a0.Kids)]]) (fun g3 => (p_Weight_k1 a0 a1 F Rec_) g3 = some r0) rfl ?_ ?_
 ·refine AC.block ?_
  refine AC.loopP (V := (Int × Int)) (p_Weight_l4 a0) o1 [1, 2, 19, 20] [5, 21] 1 (fun g17 => [(5, .d (di .i64 g17.1)), (21, .d (di .i64 g17.2))]) (fun g17 => [.fix 27 [.d (di .i64 a0.Kind), .d (di .i64 a0.Layout), .d (di .i64 a0.SRID), .d (eS1 a0.Flat), .d (eS2 a0.Ends), .d (eS3 a0.Endss), .d (eS0 a0.Kids)]]) F ((IntKind.i64.wrap ((IntKind.i64.wrap ((1 : Int) + ((a0.Flat.length : Nat) : Int))) + ((a0.Ends.length : Nat) : Int))), (0 : Int)) l2 rfl rfl (LeL.refl _) rfl rfl ?_
  intro n19 g17 h1
  unfold p_Weight_l4 at h1
  refine AC.sr ?_
  refine AO.op rfl (AOp.ilss rfl rfl lb rfl rfl ?_)
  refine AO.nS ?_
  refine AC.seq ?_
  refine AC.cond rfl (fun q20 => ?_) (fun q20 => ?_)
  ·replace h1 := cT h1 q20
   refine AC.skip ?_
   change AC _ _ _ _
   refine AC.seq ?_
   refine AC.block ?_
   refine AC.sr ?_
   obtain ⟨x21, q22, h1⟩ := idx_elim h1
   refine AO.op rfl (AOp.indexDs (cells := (List.map keS3 a0.Endss)) rfl rfl lb rfl rfl el24 (by decide) q22.1 (lt1 q22.2) ?_)
   refine AO.op rfl (AOp.loadEp rfl rfl lb rfl agg23 (at1 q22.2) ?_)
   refine AO.mn 1 rfl ?_
   refine AC.region ?_
   refine AO.mv 2 rfl ?_
   refine AO.op rfl (AOp.lenDs (n := x21.length) (cells := (List.map keS2 x21)) rfl rfl lb rfl el23 (by decide) (len1 _ _) ?_)
   refine AO.op rfl (AOp.iwAdd rfl rfl lb rfl rfl ?_)
   refine AO.op rfl (AOp.iwAdd rfl rfl lb rfl rfl ?_)
   refine AO.mv 1 rfl ?_
   refine AO.nil (?_ : AC _ _ _ _)
   refine AC.region ?_
   obtain ⟨q23, h1⟩ := need_elim h1
   refine AO.op rfl (AOp.iadd rfl rfl lb rfl rfl rfl q23.1 q23.2 ?_)
   refine AO.mv 1 rfl ?_
   refine AO.nil ?_
   exact ⟨((IntKind.i64.wrap (g17.1 + (IntKind.i64.wrap ((1 : Int) + ((x21.length : Nat) : Int))))), (g17.2 + (1 : Int))), _, rfl, (LeL.refl _), rfl, rfl, h1⟩
  replace h1 := cF h1 q20
  refine AC.exit ?_
  obtain rfl := Option.some.inj h1
  exact ⟨g17.1, _, rfl, (LeL.refl _), rfl, rfl, aftL h0⟩
 intro g3 h0
 unfold p_Weight_k1 at h0
 change AC _ _ _ _
 refine AC.seq ?_
 refine AC.sr ?_
 refine AO.op rfl (AOp.fieldAddr rfl rfl lb rfl fo27_6 ?_)
 refine AO.op rfl (AOp.load1 rfl rfl lb rfl agg25 rfl rfl ?_)
 refine AO.op rfl (AOp.lenDs (n := a0.Kids.length) (cells := (List.flatMap c0_TImpl_Geom a0.Kids)) rfl rfl lb rfl el25 (by decide) (lenN _ 7 c0_TImpl_Geom_len _) ?_)
 refine AO.mn 1 rfl ?_
 obtain ⟨o4, l5, h0⟩ := bind_elim h0
 refine AC.joinE (V := Int) [] [5] 1 (fun g6 => [(5, .d (di .i64 g6))]) (fun g6 => [.fix 27 [.d (di .i64 a0.Kind), .d (di .i64 a0.Layout), .d (di .i64 a0.SRID), .d (eS1 a0.Flat), .d (eS2 a0.Ends), .d (eS3 a0.Endss), .d (eS0 a0.Kids)]]) (fun g6 => p_Weight_k2 g6 = some r0) rfl ?_ ?_
 ·refine AC.block ?_
  refine AC.loopP (V := (Int × Int)) (p_Weight_l3 a0 a1 Rec_) o4 [1, 32, 33] [5, 34] 1 (fun g7 => [(5, .d (di .i64 g7.1)), (34, .d (di .i64 g7.2))]) (fun g7 => [.fix 27 [.d (di .i64 a0.Kind), .d (di .i64 a0.Layout), .d (di .i64 a0.SRID), .d (eS1 a0.Flat), .d (eS2 a0.Ends), .d (eS3 a0.Endss), .d (eS0 a0.Kids)]]) F (g3, (0 : Int)) l5 rfl rfl (LeL.refl _) rfl rfl ?_
  intro n9 g7 h1
  unfold p_Weight_l3 at h1
  refine AC.sr ?_
  refine AO.op rfl (AOp.ilss rfl rfl lb rfl rfl ?_)
  refine AO.nS ?_
  refine AC.seq ?_
  refine AC.cond rfl (fun q10 => ?_) (fun q10 => ?_)
  ·replace h1 := cT h1 q10
   refine AC.skip ?_
   change AC _ _ _ _
   refine AC.seq ?_
   refine AC.block ?_
   refine AC.sr ?_
   obtain ⟨x11, q12, h1⟩ := idx_elim h1
   refine AO.op rfl (AOp.indexDs (cells := (List.flatMap c0_TImpl_Geom a0.Kids)) rfl rfl lb rfl rfl el25 (by decide) q12.1 (ltN 7 c0_TImpl_Geom_len (by decide) q12.2) ?_)
   refine AO.op rfl (AOp.loadEpN rfl rfl lb rfl agg27 size27 (leN 7 c0_TImpl_Geom_len q12.2) ((atN 7 c0_TImpl_Geom_len q12.2).trans (c0_TImpl_Geom_eq x11)) ?_)
   refine AO.op rfl (AOp.alloc rfl rfl lb zero27 rfl ?_)
   refine AO.op rfl (AOp.store rfl rfl rfl rfl size27 rfl rfl rfl (leb rfl) ?_)
   refine AO.nS ?_
   refine AC.seq ?_
   refine AC.sm 2 rfl ?_
   refine AO.op rfl (AOp.igtr rfl rfl lb rfl rfl ?_)
   refine AO.nS ?_
   refine AC.cond rfl (fun q13 => ?_) (fun q13 => ?_)
   ·replace h1 := cT h1 q13
    refine AC.smn 2 rfl ?_
    refine AC.ret ?_
    change RetQ _ _ _ .ret _
    obtain rfl := Option.some.inj h1
    replace h0 := aftR h0
    obtain rfl := Option.some.inj h0
    refine retq rfl rfl
   replace h1 := cF h1 q13
   refine AC.skip ?_
   change AC _ _ _ _
   refine AC.region ?_
   refine AO.mv 1 rfl ?_
   refine AO.op rfl (AOp.loadN rfl rfl lb rfl agg27 size27 rfl (leb rfl) rfl ?_)
   refine AO.mv 2 rfl ?_
   refine AO.op rfl (AOp.iwSub rfl rfl lb rfl rfl ?_)
   obtain ⟨y14, q15, h1⟩ := bind_elim h1
   refine AO.op rfl (AOp.callD rfl rfl lb rfl rfl (hR x11 (IntKind.i64.wrap (a1 - g7.1)) y14 q15) ?_)
   rintro _ rfl
   refine AO.op rfl (AOp.iwAdd rfl rfl lb rfl rfl ?_)
   refine AO.mv 1 rfl ?_
   refine AO.nil (?_ : AC _ _ _ _)
   refine AC.region ?_
   obtain ⟨q16, h1⟩ := need_elim h1
   refine AO.op rfl (AOp.iadd rfl rfl lb rfl rfl rfl q16.1 q16.2 ?_)
   refine AO.mv 1 rfl ?_
   refine AO.nil ?_
   exact ⟨((IntKind.i64.wrap (g7.1 + y14)), (g7.2 + (1 : Int))), _, rfl, (LeL.refl _), rfl, rfl, h1⟩
  replace h1 := cF h1 q10
  refine AC.exit ?_
  obtain rfl := Option.some.inj h1
  exact ⟨g7.1, _, rfl, (LeL.refl _), rfl, rfl, aftL h0⟩
 intro g6 h0
 unfold p_Weight_k2 at h0
 change AC _ _ _ _
 refine AC.smn 2 rfl ?_
 refine AC.ret ?_
 change RetQ _ _ _ .ret _
 obtain rfl := Option.some.inj h0
 refine retq rfl rfl
theorem w_Weight : ∀ (F : Nat) (a0 : TImpl_Geom) (a1 : Int) (r0 : Int), p_Weight F a0 a1 = some r0 → FnD Tryz.prog 52 [e_TImpl_Geom a0, di .i64 a1] (fun r => r = di .i64 r0)
 | 0, _, _, _, h => by cases h
 | F + 1, a0, a1, r0, h => w_Weight_b _ (fun a0 a1 r0 h => w_Weight F a0 a1 r0 h) F a0 a1 r0 h

set_option maxRecDepth 100000 in
set_option maxHeartbeats 4000000 in
theorem w_gLayouts_b (Rec_ : TImpl_Geom → Int → Option Bool) (hR : ∀ (a0 : TImpl_Geom) (a1 : Int) (r0 : Bool), Rec_ a0 a1 = some r0 → FnD Tryz.prog 13 [e_TImpl_Geom a0, di .i64 a1] (fun r => r = dbool r0)) (F : Nat) (a0 : TImpl_Geom) (a1 : Int) (r0 : Bool) (h0 : p_gLayouts_b Rec_ F a0 a1 = some r0) : FnD Tryz.prog 13 [e_TImpl_Geom a0, di .i64 a1] (fun r => r = dbool r0) := by
 refine FnD.of (by kernel_rfl) Tryz.func13 rfl Tryz.ntmps13 rfl (leb rfl) fun W ok => ?_
 unfold p_gLayouts_b at h0
 refine AC.sr ?_
 refine AO.op rfl (AOp.box rfl rfl lb rfl rfl ?_)
 refine AO.mn 1 rfl ?_
 refine AC.seq ?_
 refine AC.sr ?_
 refine AO.op rfl (AOp.fieldAddr rfl rfl lb rfl fo27_6 ?_)
 refine AO.op rfl (AOp.load1 rfl rfl lb rfl agg25 rfl rfl ?_)
 refine AO.op rfl (AOp.lenDs (n := a0.Kids.length) (cells := (List.flatMap c0_TImpl_Geom a0.Kids)) rfl rfl lb rfl el25 (by decide) (lenN _ 7 c0_TImpl_Geom_len _) ?_)
 refine AO.mn 1 rfl ?_
 obtain ⟨o1, l2, h0⟩ := bind_elim h0
 refine AC.joinE (V := Unit) [1, 2] [] 1 (fun g3 => []) (fun g3 => [.fix 27 [.d (di .i64 a0.Kind), .d (di .i64 a0.Layout), .d (di .i64 a0.SRID), .d (eS1 a0.Flat), .d (eS2 a0.Ends), .d (eS3 a0.Endss), .d (eS0 a0.Kids)]]) (fun g3 => (p_gLayouts_k1 a0 a1) g3 = some r0) rfl ?_ ?_
 ·refine AC.block ?_
  refine AC.loopP (V := Int) (p_gLayouts_l2 a0 a1 Rec_) o1 [1, 2, 8, 9] [10] 1 (fun g7 => [(10, .d (di .i64 g7))]) (fun g7 => [.fix 27 [.d (di .i64 a0.Kind), .d (di .i64 a0.Layout), .d (di .i64 a0.SRID), .d (eS1 a0.Flat), .d (eS2 a0.Ends), .d (eS3 a0.Endss), .d (eS0 a0.Kids)]]) F (0 : Int) l2 rfl rfl (LeL.refl _) rfl rfl ?_
  intro n9 g7 h1
  unfold p_gLayouts_l2 at h1
  refine AC.sr ?_
  refine AO.op rfl (AOp.ilss rfl rfl lb rfl rfl ?_)
  refine AO.nS ?_
  refine AC.seq ?_
  refine AC.cond rfl (fun q10 => ?_) (fun q10 => ?_)
  ·replace h1 := cT h1 q10
   refine AC.skip ?_
   change AC _ _ _ _
   refine AC.seq ?_
   refine AC.block ?_
   refine AC.sr ?_
   obtain ⟨x11, q12, h1⟩ := idx_elim h1
   refine AO.op rfl (AOp.indexDs (cells := (List.flatMap c0_TImpl_Geom a0.Kids)) rfl rfl lb rfl rfl el25 (by decide) q12.1 (ltN 7 c0_TImpl_Geom_len (by decide) q12.2) ?_)
   refine AO.op rfl (AOp.loadEpN rfl rfl lb rfl agg27 size27 (leN 7 c0_TImpl_Geom_len q12.2) ((atN 7 c0_TImpl_Geom_len q12.2).trans (c0_TImpl_Geom_eq x11)) ?_)
   refine AO.op rfl (AOp.alloc rfl rfl lb zero27 rfl ?_)
   refine AO.op rfl (AOp.store rfl rfl rfl rfl size27 rfl rfl rfl (leb rfl) ?_)
   refine AO.nS ?_
   refine AC.sr ?_
   refine AO.op rfl (AOp.loadN rfl rfl lb rfl agg27 size27 rfl (leb rfl) rfl ?_)
   refine AO.mv 1 rfl ?_
   obtain ⟨y13, q14, h1⟩ := bind_elim h1
   refine AO.op rfl (AOp.callD rfl rfl lb rfl rfl (hR x11 a1 y13 q14) ?_)
   rintro _ rfl
   refine AO.op rfl (AOp.bnot rfl rfl lb rfl ?_)
   refine AO.nS ?_
   refine AC.cond rfl (fun q15 => ?_) (fun q15 => ?_)
   ·replace h1 := cT h1 q15
    refine AC.smn 1 rfl ?_
    refine AC.ret ?_
    change RetQ _ _ _ .ret _
    obtain rfl := Option.some.inj h1
    replace h0 := aftR h0
    obtain rfl := Option.some.inj h0
    refine retq rfl rfl
   replace h1 := cF h1 q15
   refine AC.skip ?_
   change AC _ _ _ _
   refine AC.region ?_
   obtain ⟨q16, h1⟩ := need_elim h1
   refine AO.op rfl (AOp.iadd rfl rfl lb rfl rfl rfl q16.1 q16.2 ?_)
   refine AO.mv 1 rfl ?_
   refine AO.nil ?_
   exact ⟨(g7 + (1 : Int)), _, rfl, (LeL.refl _), rfl, rfl, h1⟩
  replace h1 := cF h1 q10
  refine AC.exit ?_
  obtain rfl := Option.some.inj h1
  exact ⟨(), _, rfl, (LeL.refl _), rfl, rfl, aftL h0⟩
 intro g3 h0
 unfold p_gLayouts_k1 at h0
 change AC _ _ _ _
 refine AC.sr ?_
 refine AO.op rfl (AOp.fieldAddr rfl rfl lb rfl fo27_1 ?_)
 refine AO.op rfl (AOp.load1 rfl rfl lb rfl agg3 rfl rfl ?_)
 refine AO.mv 1 rfl ?_
 refine AO.op rfl (AOp.ileq rfl rfl lb rfl rfl ?_)
 refine AO.mv 1 rfl ?_
 refine AO.dec (decide (a0.Layout ≤ a1)) (fun q4 => ?_) (fun q4 => ?_)
 ·replace h0 := cT h0 q4
  refine AO.guardY rfl rfl rfl q4 (AOp.fieldAddr rfl rfl lb rfl fo27_1 ?_)
  refine AO.guardY rfl rfl rfl q4 (AOp.load1 rfl rfl lb rfl agg3 rfl rfl ?_)
  refine AO.guardY rfl rfl rfl q4 (AOp.igeq rfl rfl lb rfl rfl ?_)
  refine AO.guardY rfl rfl rfl q4 (AOp.move rfl rfl lb rfl ?_)
  refine AO.dec (decide ((1 : Int) ≤ a0.Layout)) (fun q5 => ?_) (fun q5 => ?_)
  ·replace h0 := cT h0 q5
   refine AO.guardN rfl rfl rfl lb rfl q5 ?_
   refine AO.guardN rfl rfl rfl lb rfl q5 ?_
   refine AO.guardN rfl rfl rfl lb rfl q5 ?_
   refine AO.guardN rfl rfl rfl lb rfl q5 ?_
   refine AO.guardU rfl rfl rfl lb rfl ?_
   refine AO.guardU rfl rfl rfl lb rfl ?_
   refine AO.guardU rfl rfl rfl lb rfl ?_
   refine AO.guardN rfl rfl rfl lb rfl q5 ?_
   refine AO.guardY rfl rfl rfl q4 (AOp.pick rfl rfl lb rfl q5 rfl ?_)
   refine AO.op rfl (AOp.pick rfl rfl lb rfl q4 rfl ?_)
   refine AO.mn 1 rfl ?_
   refine AC.ret ?_
   change RetQ _ _ _ .ret _
   obtain rfl := Option.some.inj h0
   refine retq rfl rfl
  replace h0 := cF h0 q5
  refine AO.guardY rfl rfl rfl q5 (AOp.fieldAddr rfl rfl lb rfl fo27_0 ?_)
  refine AO.guardY rfl rfl rfl q5 (AOp.load1 rfl rfl lb rfl agg3 rfl rfl ?_)
  refine AO.guardY rfl rfl rfl q5 (AOp.ieql rfl rfl lb rfl rfl ?_)
  refine AO.guardY rfl rfl rfl q5 (AOp.move rfl rfl lb rfl ?_)
  refine AO.dec (decide (a0.Kind = (7 : Int))) (fun q6 => ?_) (fun q6 => ?_)
  ·replace h0 := cT h0 q6
   refine AO.guardY rfl rfl rfl q6 (AOp.fieldAddr rfl rfl lb rfl fo27_1 ?_)
   refine AO.guardY rfl rfl rfl q6 (AOp.load1 rfl rfl lb rfl agg3 rfl rfl ?_)
   refine AO.guardY rfl rfl rfl q6 (AOp.igeq rfl rfl lb rfl rfl ?_)
   refine AO.guardY rfl rfl rfl q5 (AOp.pick rfl rfl lb rfl q6 rfl ?_)
   refine AO.guardY rfl rfl rfl q4 (AOp.pickN rfl rfl lb rfl q5 rfl ?_)
   refine AO.op rfl (AOp.pick rfl rfl lb rfl q4 rfl ?_)
   refine AO.mn 1 rfl ?_
   refine AC.ret ?_
   change RetQ _ _ _ .ret _
   obtain rfl := Option.some.inj h0
   refine retq rfl rfl
  replace h0 := cF h0 q6
  refine AO.guardN rfl rfl rfl lb rfl q6 ?_
  refine AO.guardN rfl rfl rfl lb rfl q6 ?_
  refine AO.guardN rfl rfl rfl lb rfl q6 ?_
  refine AO.guardY rfl rfl rfl q5 (AOp.pickN rfl rfl lb rfl q6 rfl ?_)
  refine AO.guardY rfl rfl rfl q4 (AOp.pickN rfl rfl lb rfl q5 rfl ?_)
  refine AO.op rfl (AOp.pick rfl rfl lb rfl q4 rfl ?_)
  refine AO.mn 1 rfl ?_
  refine AC.ret ?_
  change RetQ _ _ _ .ret _
  obtain rfl := Option.some.inj h0
  refine retq rfl rfl
 replace h0 := cF h0 q4
 refine AO.guardN rfl rfl rfl lb rfl q4 ?_
 refine AO.guardN rfl rfl rfl lb rfl q4 ?_
 refine AO.guardN rfl rfl rfl lb rfl q4 ?_
 refine AO.guardN rfl rfl rfl lb rfl q4 ?_
 refine AO.guardU rfl rfl rfl lb rfl ?_
 refine AO.guardU rfl rfl rfl lb rfl ?_
 refine AO.guardU rfl rfl rfl lb rfl ?_
 refine AO.guardU rfl rfl rfl lb rfl ?_
 refine AO.guardU rfl rfl rfl lb rfl ?_
 refine AO.guardU rfl rfl rfl lb rfl ?_
 refine AO.guardU rfl rfl rfl lb rfl ?_
 refine AO.guardU rfl rfl rfl lb rfl ?_
 refine AO.guardN rfl rfl rfl lb rfl q4 ?_
 refine AO.op rfl (AOp.pickN rfl rfl lb rfl q4 rfl ?_)
 refine AO.mn 1 rfl ?_
 refine AC.ret ?_
 change RetQ _ _ _ .ret _
 obtain rfl := Option.some.inj h0
 refine retq rfl rfl
theorem w_gLayouts : ∀ (F : Nat) (a0 : TImpl_Geom) (a1 : Int) (r0 : Bool), p_gLayouts F a0 a1 = some r0 → FnD Tryz.prog 13 [e_TImpl_Geom a0, di .i64 a1] (fun r => r = dbool r0)
 | 0, _, _, _, h => by cases h
 | F + 1, a0, a1, r0, h => w_gLayouts_b _ (fun a0 a1 r0 h => w_gLayouts F a0 a1 r0 h) F a0 a1 r0 h

set_option maxRecDepth 100000 in
set_option maxHeartbeats 4000000 in
theorem w_gSmall (F : Nat) (a0 : (List TImpl_Geom)) (r0 : Bool) (h0 : p_gSmall F a0 = some r0) : FnD Tryz.prog 24 [eS0 a0] (fun r => r = dbool r0) := by
 refine FnD.of (by kernel_rfl) Tryz.func24 rfl Tryz.ntmps24 rfl (leb rfl) fun W ok => ?_
 unfold p_gSmall at h0
 refine AC.smn 1 rfl ?_
 refine AC.smn 1 rfl ?_
 refine AC.seq ?_
 refine AC.sm 1 rfl ?_
 refine AO.op rfl (AOp.lenDs (n := a0.length) (cells := (List.flatMap c0_TImpl_Geom a0)) rfl rfl lb rfl el25 (by decide) (lenN _ 7 c0_TImpl_Geom_len _) ?_)
 refine AO.mn 1 rfl ?_
 obtain ⟨o1, l2, h0⟩ := bind_elim h0
 refine AC.joinE (V := Unit) [] [] 0 (fun g3 => []) (fun g3 => []) (fun g3 => p_gSmall_k1 g3 = some r0) rfl ?_ ?_
 ·refine AC.block ?_
  refine AC.loopP (V := (Int × Int)) (p_gSmall_l2 a0 F) o1 [6, 7] [3, 8] 0 (fun g4 => [(3, .d (di .i64 g4.1)), (8, .d (di .i64 g4.2))]) (fun g4 => []) F ((2000 : Int), (0 : Int)) l2 rfl rfl (LeL.refl _) rfl rfl ?_
  intro n6 g4 h1
  unfold p_gSmall_l2 at h1
  refine AC.sr ?_
  refine AO.op rfl (AOp.ilss rfl rfl lb rfl rfl ?_)
  refine AO.nS ?_
  refine AC.seq ?_
  refine AC.cond rfl (fun q7 => ?_) (fun q7 => ?_)
  ·replace h1 := cT h1 q7
   refine AC.skip ?_
   change AC _ _ _ _
   refine AC.seq ?_
   refine AC.block ?_
   refine AC.sr ?_
   obtain ⟨x8, q9, h1⟩ := idx_elim h1
   refine AO.op rfl (AOp.indexDs (cells := (List.flatMap c0_TImpl_Geom a0)) rfl rfl lb rfl rfl el25 (by decide) q9.1 (ltN 7 c0_TImpl_Geom_len (by decide) q9.2) ?_)
   refine AO.op rfl (AOp.loadEpN rfl rfl lb rfl agg27 size27 (leN 7 c0_TImpl_Geom_len q9.2) ((atN 7 c0_TImpl_Geom_len q9.2).trans (c0_TImpl_Geom_eq x8)) ?_)
   refine AO.op rfl (AOp.alloc rfl rfl lb zero27 rfl ?_)
   refine AO.op rfl (AOp.store rfl rfl rfl rfl size27 rfl rfl rfl (leb rfl) ?_)
   refine AO.nS ?_
   refine AC.sm 1 rfl ?_
   refine AO.op rfl (AOp.loadN rfl rfl lb rfl agg27 size27 rfl (leb rfl) rfl ?_)
   refine AO.mv 1 rfl ?_
   obtain ⟨y10, q11, h1⟩ := bind_elim h1
   refine AO.op rfl (AOp.callD rfl rfl lb rfl rfl (w_Weight F x8 g4.1 y10 q11) ?_)
   rintro _ rfl
   refine AO.op rfl (AOp.iwSub rfl rfl lb rfl rfl ?_)
   refine AO.mn 1 rfl ?_
   refine AC.sm 1 rfl ?_
   refine AO.op rfl (AOp.ilss rfl rfl lb rfl rfl ?_)
   refine AO.mv 1 rfl ?_
   refine AO.dec (decide ((IntKind.i64.wrap (g4.1 - y10)) < (0 : Int))) (fun q12 => ?_) (fun q12 => ?_)
   ·replace h1 := cT h1 q12
    refine AO.guardN rfl rfl rfl lb rfl q12 ?_
    refine AO.guardN rfl rfl rfl lb rfl q12 ?_
    refine AO.guardN rfl rfl rfl lb rfl q12 ?_
    refine AO.op rfl (AOp.pick rfl rfl lb rfl q12 rfl ?_)
    refine AO.nS ?_
    refine AC.condT rfl rfl ?_
    refine AC.smn 1 rfl ?_
    refine AC.ret ?_
    change RetQ _ _ _ .ret _
    obtain rfl := Option.some.inj h1
    replace h0 := aftR h0
    obtain rfl := Option.some.inj h0
    refine retq rfl rfl
   replace h1 := cF h1 q12
   refine AO.guardY rfl rfl rfl q12 (AOp.loadN rfl rfl lb rfl agg27 size27 rfl (leb rfl) rfl ?_)
   obtain ⟨y13, q14, h1⟩ := bind_elim h1
   refine AO.guardY rfl rfl rfl q12 (AOp.callD rfl rfl lb rfl rfl (w_gLayouts F x8 (9 : Int) y13 q14) ?_)
   rintro _ rfl
   refine AO.guardY rfl rfl rfl q12 (AOp.bnot rfl rfl lb rfl ?_)
   refine AO.op rfl (AOp.pickN rfl rfl lb rfl q12 rfl ?_)
   refine AO.nS ?_
   refine AC.cond rfl (fun q15 => ?_) (fun q15 => ?_)
   ·replace h1 := cT h1 q15
    refine AC.smn 1 rfl ?_
    refine AC.ret ?_
    change RetQ _ _ _ .ret _
    obtain rfl := Option.some.inj h1
    replace h0 := aftR h0
    obtain rfl := Option.some.inj h0
    refine retq rfl rfl
   replace h1 := cF h1 q15
   refine AC.skip ?_
   change AC _ _ _ _
   refine AC.region ?_
   obtain ⟨q16, h1⟩ := need_elim h1
   refine AO.op rfl (AOp.iadd rfl rfl lb rfl rfl rfl q16.1 q16.2 ?_)
   refine AO.mv 1 rfl ?_
   refine AO.nil ?_
   exact ⟨((IntKind.i64.wrap (g4.1 - y10)), (g4.2 + (1 : Int))), _, rfl, (LeL.refl _), rfl, rfl, h1⟩
  replace h1 := cF h1 q7
  refine AC.exit ?_
  obtain rfl := Option.some.inj h1
  exact ⟨(), _, rfl, (LeL.refl _), rfl, rfl, aftL h0⟩
 intro g3 h0
 unfold p_gSmall_k1 at h0
 change AC _ _ _ _
 refine AC.smn 1 rfl ?_
 refine AC.ret ?_
 change RetQ _ _ _ .ret _
 obtain rfl := Option.some.inj h0
 refine retq rfl rfl

set_option maxRecDepth 100000 in
set_option maxHeartbeats 4000000 in
theorem w_Stride (a0 : Int) (r0 : Int) (h0 : p_Stride a0 = some r0) : FnD Tryz.prog 53 [di .i64 a0] (fun r => r = di .i64 r0) := by
 refine FnD.of (by kernel_rfl) Tryz.func53 rfl Tryz.ntmps53 rfl (leb rfl) fun W ok => ?_
 unfold p_Stride at h0
 refine AC.smn 1 rfl ?_
 refine AC.seq ?_
 refine AC.block ?_
 refine AC.sm 1 rfl ?_
 refine AO.op rfl (AOp.ilss rfl rfl lb rfl rfl ?_)
 refine AO.mn 1 rfl ?_
 refine AC.cond rfl (fun q1 => ?_) (fun q1 => ?_)
 ·replace h0 := cT h0 q1
  refine AC.smn 1 rfl ?_
  refine AC.ret ?_
  change RetQ _ _ _ .ret _
  obtain rfl := Option.some.inj h0
  refine retq rfl rfl
 replace h0 := cF h0 q1
 refine AC.sm 1 rfl ?_
 refine AO.op rfl (AOp.ieql rfl rfl lb rfl rfl ?_)
 refine AO.mn 1 rfl ?_
 refine AC.cond rfl (fun q2 => ?_) (fun q2 => ?_)
 ·replace h0 := cT h0 q2
  refine AC.smn 1 rfl ?_
  refine AC.ret ?_
  change RetQ _ _ _ .ret _
  obtain rfl := Option.some.inj h0
  refine retq rfl rfl
 replace h0 := cF h0 q2
 refine AC.sm 1 rfl ?_
 refine AO.op rfl (AOp.ieql rfl rfl lb rfl rfl ?_)
 refine AO.mv 1 rfl ?_
 refine AO.dec (decide (a0 = (2 : Int))) (fun q3 => ?_) (fun q3 => ?_)
 ·replace h0 := cT h0 q3
  refine AO.guardN rfl rfl rfl lb rfl q3 ?_
  refine AO.guardN rfl rfl rfl lb rfl q3 ?_
  refine AO.op rfl (AOp.pick rfl rfl lb rfl q3 rfl ?_)
  refine AO.mn 1 rfl ?_
  refine AC.condT rfl rfl ?_
  refine AC.smn 1 rfl ?_
  refine AC.ret ?_
  change RetQ _ _ _ .ret _
  obtain rfl := Option.some.inj h0
  refine retq rfl rfl
 replace h0 := cF h0 q3
 refine AO.guardY rfl rfl rfl q3 (AOp.move rfl rfl lb rfl ?_)
 refine AO.guardY rfl rfl rfl q3 (AOp.ieql rfl rfl lb rfl rfl ?_)
 refine AO.op rfl (AOp.pickN rfl rfl lb rfl q3 rfl ?_)
 refine AO.mn 1 rfl ?_
 refine AC.cond rfl (fun q4 => ?_) (fun q4 => ?_)
 ·replace h0 := cT h0 q4
  refine AC.smn 1 rfl ?_
  refine AC.ret ?_
  change RetQ _ _ _ .ret _
  obtain rfl := Option.some.inj h0
  refine retq rfl rfl
 replace h0 := cF h0 q4
 refine AC.skip ?_
 change AC _ _ _ _
 refine AC.smn 2 rfl ?_
 refine AC.ret ?_
 change RetQ _ _ _ .ret _
 obtain rfl := Option.some.inj h0
 refine retq rfl rfl

set_option maxRecDepth 100000 in
set_option maxHeartbeats 4000000 in
theorem w_Cover (a0 : Int) (a1 : Int) (r0 : Int) (h0 : p_Cover a0 a1 = some r0) : FnD Tryz.prog 78 [di .i64 a0, di .i64 a1] (fun r => r = di .i64 r0) := by
 refine FnD.of (by kernel_rfl) Tryz.func78 rfl Tryz.ntmps78 rfl (leb rfl) fun W ok => ?_
 unfold p_Cover at h0
 refine AC.smn 1 rfl ?_
 refine AC.seq ?_
 refine AC.sm 1 rfl ?_
 refine AO.op rfl (AOp.ieql rfl rfl lb rfl rfl ?_)
 refine AO.mv 1 rfl ?_
 refine AO.dec (decide (a0 = (2 : Int))) (fun q1 => ?_) (fun q1 => ?_)
 ·replace h0 := cT h0 q1
  refine AO.guardY rfl rfl rfl q1 (AOp.move rfl rfl lb rfl ?_)
  refine AO.guardY rfl rfl rfl q1 (AOp.ieql rfl rfl lb rfl rfl ?_)
  refine AO.op rfl (AOp.pick rfl rfl lb rfl q1 rfl ?_)
  refine AO.mv 1 rfl ?_
  refine AO.dec (decide (a1 = (3 : Int))) (fun q2 => ?_) (fun q2 => ?_)
  ·replace h0 := cT h0 q2
   refine AO.guardN rfl rfl rfl lb rfl q2 ?_
   refine AO.guardN rfl rfl rfl lb rfl q2 ?_
   refine AO.guardN rfl rfl rfl lb rfl q2 ?_
   refine AO.guardU rfl rfl rfl lb rfl ?_
   refine AO.guardU rfl rfl rfl lb rfl ?_
   refine AO.guardN rfl rfl rfl lb rfl q2 ?_
   refine AO.op rfl (AOp.pick rfl rfl lb rfl q2 rfl ?_)
   refine AO.nS ?_
   refine AC.condT rfl rfl ?_
   refine AC.smn 1 rfl ?_
   refine AC.ret ?_
   change RetQ _ _ _ .ret _
   obtain rfl := Option.some.inj h0
   refine retq rfl rfl
  replace h0 := cF h0 q2
  refine AO.guardY rfl rfl rfl q2 (AOp.move rfl rfl lb rfl ?_)
  refine AO.guardY rfl rfl rfl q2 (AOp.ieql rfl rfl lb rfl rfl ?_)
  refine AO.guardY rfl rfl rfl q2 (AOp.move rfl rfl lb rfl ?_)
  refine AO.dec (decide (a0 = (3 : Int))) (fun q3 => ?_) (fun q3 => ?_)
  ·replace h0 := cT h0 q3
   refine AO.guardY rfl rfl rfl q3 (AOp.move rfl rfl lb rfl ?_)
   refine AO.guardY rfl rfl rfl q3 (AOp.ieql rfl rfl lb rfl rfl ?_)
   refine AO.guardY rfl rfl rfl q2 (AOp.pick rfl rfl lb rfl q3 rfl ?_)
   refine AO.op rfl (AOp.pickN rfl rfl lb rfl q2 rfl ?_)
   refine AO.nS ?_
   refine AC.cond rfl (fun q4 => ?_) (fun q4 => ?_)
   ·replace h0 := cT h0 q4
    refine AC.smn 1 rfl ?_
    refine AC.ret ?_
    change RetQ _ _ _ .ret _
    obtain rfl := Option.some.inj h0
    refine retq rfl rfl
   replace h0 := cF h0 q4
   refine AC.skip ?_
   change AC _ _ _ _
   refine AC.sm 2 rfl ?_
   refine AO.op rfl (AOp.imax rfl rfl lb rfl rfl ?_)
   refine AO.mn 1 rfl ?_
   refine AC.ret ?_
   change RetQ _ _ _ .ret _
   obtain rfl := Option.some.inj h0
   refine retq rfl rfl
  replace h0 := cF h0 q3
  refine AO.guardN rfl rfl rfl lb rfl q3 ?_
  refine AO.guardN rfl rfl rfl lb rfl q3 ?_
  refine AO.guardY rfl rfl rfl q2 (AOp.pickN rfl rfl lb rfl q3 rfl ?_)
  refine AO.op rfl (AOp.pickN rfl rfl lb rfl q2 rfl ?_)
  refine AO.nS ?_
  refine AC.condF rfl rfl ?_
  refine AC.skip ?_
  change AC _ _ _ _
  refine AC.sm 2 rfl ?_
  refine AO.op rfl (AOp.imax rfl rfl lb rfl rfl ?_)
  refine AO.mn 1 rfl ?_
  refine AC.ret ?_
  change RetQ _ _ _ .ret _
  obtain rfl := Option.some.inj h0
  refine retq rfl rfl
 replace h0 := cF h0 q1
 refine AO.guardN rfl rfl rfl lb rfl q1 ?_
 refine AO.guardN rfl rfl rfl lb rfl q1 ?_
 refine AO.op rfl (AOp.pickN rfl rfl lb rfl q1 rfl ?_)
 refine AO.mv 1 rfl ?_
 refine AO.guardY rfl rfl rfl rfl (AOp.move rfl rfl lb rfl ?_)
 refine AO.guardY rfl rfl rfl rfl (AOp.ieql rfl rfl lb rfl rfl ?_)
 refine AO.guardY rfl rfl rfl rfl (AOp.move rfl rfl lb rfl ?_)
 refine AO.dec (decide (a0 = (3 : Int))) (fun q5 => ?_) (fun q5 => ?_)
 ·replace h0 := cT h0 q5
  refine AO.guardY rfl rfl rfl q5 (AOp.move rfl rfl lb rfl ?_)
  refine AO.guardY rfl rfl rfl q5 (AOp.ieql rfl rfl lb rfl rfl ?_)
  refine AO.guardY rfl rfl rfl rfl (AOp.pick rfl rfl lb rfl q5 rfl ?_)
  refine AO.op rfl (AOp.pickN rfl rfl lb rfl rfl rfl ?_)
  refine AO.nS ?_
  refine AC.cond rfl (fun q6 => ?_) (fun q6 => ?_)
  ·replace h0 := cT h0 q6
   refine AC.smn 1 rfl ?_
   refine AC.ret ?_
   change RetQ _ _ _ .ret _
   obtain rfl := Option.some.inj h0
   refine retq rfl rfl
  replace h0 := cF h0 q6
  refine AC.skip ?_
  change AC _ _ _ _
  refine AC.sm 2 rfl ?_
  refine AO.op rfl (AOp.imax rfl rfl lb rfl rfl ?_)
  refine AO.mn 1 rfl ?_
  refine AC.ret ?_
  change RetQ _ _ _ .ret _
  obtain rfl := Option.some.inj h0
  refine retq rfl rfl
 replace h0 := cF h0 q5
 refine AO.guardN rfl rfl rfl lb rfl q5 ?_
 refine AO.guardN rfl rfl rfl lb rfl q5 ?_
 refine AO.guardY rfl rfl rfl rfl (AOp.pickN rfl rfl lb rfl q5 rfl ?_)
 refine AO.op rfl (AOp.pickN rfl rfl lb rfl rfl rfl ?_)
 refine AO.nS ?_
 refine AC.condF rfl rfl ?_
 refine AC.skip ?_
 change AC _ _ _ _
 refine AC.sm 2 rfl ?_
 refine AO.op rfl (AOp.imax rfl rfl lb rfl rfl ?_)
 refine AO.mn 1 rfl ?_
 refine AC.ret ?_
 change RetQ _ _ _ .ret _
 obtain rfl := Option.some.inj h0
 refine retq rfl rfl

set_option maxRecDepth 100000 in
set_option maxHeartbeats 4000000 in
theorem w_LayoutOf_b (Rec_ : TImpl_Geom → Option Int) (hR : ∀ (a0 : TImpl_Geom) (r0 : Int), Rec_ a0 = some r0 → FnD Tryz.prog 54 [e_TImpl_Geom a0] (fun r => r = di .i64 r0)) (F : Nat) (a0 : TImpl_Geom) (r0 : Int) (h0 : p_LayoutOf_b Rec_ F a0 = some r0) : FnD Tryz.prog 54 [e_TImpl_Geom a0] (fun r => r = di .i64 r0) := by
 refine FnD.of (by kernel_rfl) Tryz.func54 rfl Tryz.ntmps54 rfl (leb rfl) fun W ok => ?_
 unfold p_LayoutOf_b at h0
 refine AC.sr ?_
 refine AO.op rfl (AOp.box rfl rfl lb rfl rfl ?_)
 refine AO.mn 1 rfl ?_
 refine AC.sr ?_
 refine AO.op rfl (AOp.fieldAddr rfl rfl lb rfl fo27_1 ?_)
 refine AO.op rfl (AOp.load1 rfl rfl lb rfl agg3 rfl rfl ?_)
 refine AO.mn 1 rfl ?_
 refine AC.seq ?_
 refine AC.joinP (V := Bool) [1, 3] [14] 1 (fun g1 => [(14, .d (dbool g1))]) (fun g1 => [.fix 27 [.d (di .i64 a0.Kind), .d (di .i64 a0.Layout), .d (di .i64 a0.SRID), .d (eS1 a0.Flat), .d (eS2 a0.Ends), .d (eS3 a0.Endss), .d (eS0 a0.Kids)]]) (fun g1 => (p_LayoutOf_k1 a0 F Rec_) g1 = some r0) rfl ?_ ?_
 ·refine AC.region ?_
  refine AO.op rfl (AOp.fieldAddr rfl rfl lb rfl fo27_0 ?_)
  refine AO.op rfl (AOp.load1 rfl rfl lb rfl agg3 rfl rfl ?_)
  refine AO.op rfl (AOp.ineq rfl rfl lb rfl rfl ?_)
  refine AO.mv 1 rfl ?_
  refine AO.dec (!decide (a0.Kind = (7 : Int))) (fun q17 => ?_) (fun q17 => ?_)
  ·replace h0 := cT h0 q17
   refine AO.guardN rfl rfl rfl lb rfl q17 ?_
   refine AO.guardN rfl rfl rfl lb rfl q17 ?_
   refine AO.op rfl (AOp.pick rfl rfl lb rfl q17 rfl ?_)
   refine AO.nil ?_
   exact ⟨true, _, rfl, (LeL.refl _), rfl, rfl, h0⟩
  replace h0 := cF h0 q17
  refine AO.guardY rfl rfl rfl q17 (AOp.move rfl rfl lb rfl ?_)
  refine AO.guardY rfl rfl rfl q17 (AOp.ineq rfl rfl lb rfl rfl ?_)
  refine AO.op rfl (AOp.pickN rfl rfl lb rfl q17 rfl ?_)
  refine AO.nil ?_
  exact ⟨(!decide (a0.Layout = (0 : Int))), _, rfl, (LeL.refl _), rfl, rfl, h0⟩
 intro g1 h0
 unfold p_LayoutOf_k1 at h0
 refine AC.cond rfl (fun q2 => ?_) (fun q2 => ?_)
 ·replace h0 := cT h0 q2
  refine AC.smn 2 rfl ?_
  refine AC.ret ?_
  change RetQ _ _ _ .ret _
  obtain rfl := Option.some.inj h0
  refine retq rfl rfl
 replace h0 := cF h0 q2
 refine AC.skip ?_
 change AC _ _ _ _
 refine AC.seq ?_
 refine AC.sr ?_
 refine AO.op rfl (AOp.fieldAddr rfl rfl lb rfl fo27_6 ?_)
 refine AO.op rfl (AOp.load1 rfl rfl lb rfl agg25 rfl rfl ?_)
 refine AO.op rfl (AOp.lenDs (n := a0.Kids.length) (cells := (List.flatMap c0_TImpl_Geom a0.Kids)) rfl rfl lb rfl el25 (by decide) (lenN _ 7 c0_TImpl_Geom_len _) ?_)
 refine AO.mn 1 rfl ?_
 obtain ⟨o3, l4, h0⟩ := bind_elim h0
 refine AC.joinE (V := Int) [] [3] 1 (fun g5 => [(3, .d (di .i64 g5))]) (fun g5 => [.fix 27 [.d (di .i64 a0.Kind), .d (di .i64 a0.Layout), .d (di .i64 a0.SRID), .d (eS1 a0.Flat), .d (eS2 a0.Ends), .d (eS3 a0.Endss), .d (eS0 a0.Kids)]]) (fun g5 => p_LayoutOf_k2 g5 = some r0) rfl ?_ ?_
 ·refine AC.block ?_
  refine AC.loopP (V := (Int × Int)) (p_LayoutOf_l3 a0 Rec_) o3 [17, 18] [3, 19] 1 (fun g6 => [(3, .d (di .i64 g6.1)), (19, .d (di .i64 g6.2))]) (fun g6 => [.fix 27 [.d (di .i64 a0.Kind), .d (di .i64 a0.Layout), .d (di .i64 a0.SRID), .d (eS1 a0.Flat), .d (eS2 a0.Ends), .d (eS3 a0.Endss), .d (eS0 a0.Kids)]]) F (a0.Layout, (0 : Int)) l4 rfl rfl (LeL.refl _) rfl rfl ?_
  intro n8 g6 h1
  unfold p_LayoutOf_l3 at h1
  refine AC.sr ?_
  refine AO.op rfl (AOp.ilss rfl rfl lb rfl rfl ?_)
  refine AO.nS ?_
  refine AC.seq ?_
  refine AC.cond rfl (fun q9 => ?_) (fun q9 => ?_)
  ·replace h1 := cT h1 q9
   refine AC.skip ?_
   change AC _ _ _ _
   refine AC.seq ?_
   refine AC.block ?_
   refine AC.sr ?_
   obtain ⟨x10, q11, h1⟩ := idx_elim h1
   refine AO.op rfl (AOp.indexDs (cells := (List.flatMap c0_TImpl_Geom a0.Kids)) rfl rfl lb rfl rfl el25 (by decide) q11.1 (ltN 7 c0_TImpl_Geom_len (by decide) q11.2) ?_)
   refine AO.op rfl (AOp.loadEpN rfl rfl lb rfl agg27 size27 (leN 7 c0_TImpl_Geom_len q11.2) ((atN 7 c0_TImpl_Geom_len q11.2).trans (c0_TImpl_Geom_eq x10)) ?_)
   refine AO.op rfl (AOp.alloc rfl rfl lb zero27 rfl ?_)
   refine AO.op rfl (AOp.store rfl rfl rfl rfl size27 rfl rfl rfl (leb rfl) ?_)
   refine AO.nS ?_
   refine AC.region ?_
   refine AO.mv 1 rfl ?_
   refine AO.op rfl (AOp.loadN rfl rfl lb rfl agg27 size27 rfl (leb rfl) rfl ?_)
   obtain ⟨y12, q13, h1⟩ := bind_elim h1
   refine AO.op rfl (AOp.callD rfl rfl lb rfl rfl (hR x10 y12 q13) ?_)
   rintro _ rfl
   obtain ⟨y14, q15, h1⟩ := bind_elim h1
   refine AO.op rfl (AOp.callD rfl rfl lb rfl rfl (w_Cover g6.1 y12 y14 q15) ?_)
   rintro _ rfl
   refine AO.mv 1 rfl ?_
   refine AO.nil (?_ : AC _ _ _ _)
   refine AC.region ?_
   obtain ⟨q16, h1⟩ := need_elim h1
   refine AO.op rfl (AOp.iadd rfl rfl lb rfl rfl rfl q16.1 q16.2 ?_)
   refine AO.mv 1 rfl ?_
   refine AO.nil ?_
   exact ⟨(y14, (g6.2 + (1 : Int))), _, rfl, (LeL.refl _), rfl, rfl, h1⟩
  replace h1 := cF h1 q9
  refine AC.exit ?_
  obtain rfl := Option.some.inj h1
  exact ⟨g6.1, _, rfl, (LeL.refl _), rfl, rfl, aftL h0⟩
 intro g5 h0
 unfold p_LayoutOf_k2 at h0
 change AC _ _ _ _
 refine AC.smn 2 rfl ?_
 refine AC.ret ?_
 change RetQ _ _ _ .ret _
 obtain rfl := Option.some.inj h0
 refine retq rfl rfl
theorem w_LayoutOf : ∀ (F : Nat) (a0 : TImpl_Geom) (r0 : Int), p_LayoutOf F a0 = some r0 → FnD Tryz.prog 54 [e_TImpl_Geom a0] (fun r => r = di .i64 r0)
 | 0, _, _, h => by cases h
 | F + 1, a0, r0, h => w_LayoutOf_b _ (fun a0 r0 h => w_LayoutOf F a0 r0 h) F a0 r0 h

set_option maxRecDepth 100000 in
set_option maxHeartbeats 4000000 in
theorem w_goodEnds (F : Nat) (a0 : (List Int)) (a1 : Int) (a2 : Int) (a3 : Bool) (r0 : (Int × Bool)) (h0 : p_goodEnds F a0 a1 a2 a3 = some r0) : FnD Tryz.prog 55 [eS2 a0, di .i64 a1, di .i64 a2, dbool a3] (fun r => r = .tu [di .i64 r0.1, dbool r0.2]) := by
 refine FnD.of (by kernel_rfl) Tryz.func55 rfl Tryz.ntmps55 rfl (leb rfl) fun W ok => ?_
 unfold p_goodEnds at h0
 refine AC.smn 2 rfl ?_
 refine AC.seq ?_
 refine AC.sm 1 rfl ?_
 refine AO.op rfl (AOp.lenDs (n := a0.length) (cells := (List.map keS2 a0)) rfl rfl lb rfl el23 (by decide) (len1 _ _) ?_)
 refine AO.mn 1 rfl ?_
 obtain ⟨o1, l2, h0⟩ := bind_elim h0
 refine AC.joinE (V := Int) [] [1] 0 (fun g3 => [(1, .d (di .i64 g3))]) (fun g3 => []) (fun g3 => p_goodEnds_k1 g3 = some r0) rfl ?_ ?_
 ·refine AC.block ?_
  refine AC.loopP (V := (Int × Int)) (p_goodEnds_l2 a0 a2 a3) o1 [2, 3, 12, 13] [1, 14] 0 (fun g4 => [(1, .d (di .i64 g4.1)), (14, .d (di .i64 g4.2))]) (fun g4 => []) F (a1, (0 : Int)) l2 rfl rfl (LeL.refl _) rfl rfl ?_
  intro n6 g4 h1
  unfold p_goodEnds_l2 at h1
  refine AC.sr ?_
  refine AO.op rfl (AOp.ilss rfl rfl lb rfl rfl ?_)
  refine AO.nS ?_
  refine AC.seq ?_
  refine AC.cond rfl (fun q7 => ?_) (fun q7 => ?_)
  ·replace h1 := cT h1 q7
   refine AC.skip ?_
   change AC _ _ _ _
   refine AC.seq ?_
   refine AC.block ?_
   refine AC.sr ?_
   obtain ⟨x8, q9, h1⟩ := idx_elim h1
   refine AO.op rfl (AOp.indexDs (cells := (List.map keS2 a0)) rfl rfl lb rfl rfl el23 (by decide) q9.1 (lt1 q9.2) ?_)
   refine AO.op rfl (AOp.loadEp rfl rfl lb rfl agg3 (at1 q9.2) ?_)
   refine AO.mn 1 rfl ?_
   refine AC.seq ?_
   refine AC.joinP (V := Bool) [1, 2, 3, 11, 12, 13, 14] [38] 0 (fun g10 => [(38, .d (dbool g10))]) (fun g10 => []) (fun g10 => (p_goodEnds_k3 g4 (iter (p_goodEnds_l2 a0 a2 a3) n6) x8) g10 = some o1) rfl ?_ ?_
   ·refine AC.region ?_
    refine AO.mv 2 rfl ?_
    refine AO.op rfl (AOp.ilss rfl rfl lb rfl rfl ?_)
    refine AO.mv 1 rfl ?_
    refine AO.dec (decide (x8 < g4.1)) (fun q13 => ?_) (fun q13 => ?_)
    ·replace h1 := cT h1 q13
     refine AO.guardN rfl rfl rfl lb rfl q13 ?_
     refine AO.guardN rfl rfl rfl lb rfl q13 ?_
     refine AO.guardN rfl rfl rfl lb rfl q13 ?_
     refine AO.guardN rfl rfl rfl lb rfl q13 ?_
     refine AO.guardN rfl rfl rfl lb rfl q13 ?_
     refine AO.guardN rfl rfl rfl lb rfl q13 ?_
     refine AO.op rfl (AOp.pick rfl rfl lb rfl q13 rfl ?_)
     refine AO.mv 1 rfl ?_
     refine AO.guardN rfl rfl rfl lb rfl rfl ?_
     refine AO.guardN rfl rfl rfl lb rfl rfl ?_
     refine AO.guardU rfl rfl rfl lb rfl ?_
     refine AO.guardU rfl rfl rfl lb rfl ?_
     refine AO.guardU rfl rfl rfl lb rfl ?_
     refine AO.guardU rfl rfl rfl lb rfl ?_
     refine AO.guardU rfl rfl rfl lb rfl ?_
     refine AO.guardN rfl rfl rfl lb rfl rfl ?_
     refine AO.op rfl (AOp.pick rfl rfl lb rfl rfl rfl ?_)
     refine AO.nil ?_
     exact ⟨true, _, rfl, (LeL.refl _), rfl, rfl, h1⟩
    replace h1 := cF h1 q13
    refine AO.guardY rfl rfl rfl q13 (AOp.move rfl rfl lb rfl ?_)
    refine AO.guardY rfl rfl rfl q13 (AOp.move rfl rfl lb rfl ?_)
    obtain ⟨q14, h1⟩ := need_elim h1
    refine AO.guardY rfl rfl rfl q13 (AOp.isub rfl rfl lb rfl rfl rfl q14.1 q14.2 ?_)
    refine AO.guardY rfl rfl rfl q13 (AOp.move rfl rfl lb rfl ?_)
    obtain ⟨q15, h1⟩ := need_elim h1
    refine AO.guardY rfl rfl rfl q13 (AOp.irem rfl rfl lb rfl rfl q15 rfl ?_)
    refine AO.guardY rfl rfl rfl q13 (AOp.ineq rfl rfl lb rfl rfl ?_)
    refine AO.op rfl (AOp.pickN rfl rfl lb rfl q13 rfl ?_)
    refine AO.mv 1 rfl ?_
    refine AO.dec (!decide ((Int.tmod (x8 - g4.1) a2) = (0 : Int))) (fun q16 => ?_) (fun q16 => ?_)
    ·replace h1 := cT h1 q16
     refine AO.guardN rfl rfl rfl lb rfl q16 ?_
     refine AO.guardN rfl rfl rfl lb rfl q16 ?_
     refine AO.guardU rfl rfl rfl lb rfl ?_
     refine AO.guardU rfl rfl rfl lb rfl ?_
     refine AO.guardU rfl rfl rfl lb rfl ?_
     refine AO.guardU rfl rfl rfl lb rfl ?_
     refine AO.guardU rfl rfl rfl lb rfl ?_
     refine AO.guardN rfl rfl rfl lb rfl q16 ?_
     refine AO.op rfl (AOp.pick rfl rfl lb rfl q16 rfl ?_)
     refine AO.nil ?_
     exact ⟨true, _, rfl, (LeL.refl _), rfl, rfl, h1⟩
    replace h1 := cF h1 q16
    refine AO.guardY rfl rfl rfl q16 (AOp.move rfl rfl lb rfl ?_)
    refine AO.guardY rfl rfl rfl q16 (AOp.move rfl rfl lb rfl ?_)
    refine AO.dec a3 (fun q17 => ?_) (fun q17 => ?_)
    ·replace h1 := cT h1 q17
     refine AO.guardY rfl rfl rfl q17 (AOp.move rfl rfl lb rfl ?_)
     refine AO.guardY rfl rfl rfl q17 (AOp.move rfl rfl lb rfl ?_)
     obtain ⟨q18, h1⟩ := need_elim h1
     refine AO.guardY rfl rfl rfl q17 (AOp.isub rfl rfl lb rfl rfl rfl q18.1 q18.2 ?_)
     refine AO.guardY rfl rfl rfl q17 (AOp.move rfl rfl lb rfl ?_)
     refine AO.guardY rfl rfl rfl q17 (AOp.igtr rfl rfl lb rfl rfl ?_)
     refine AO.guardY rfl rfl rfl q16 (AOp.pick rfl rfl lb rfl q17 rfl ?_)
     refine AO.op rfl (AOp.pickN rfl rfl lb rfl q16 rfl ?_)
     refine AO.nil ?_
     exact ⟨(decide (a2 < (x8 - g4.1))), _, rfl, (LeL.refl _), rfl, rfl, h1⟩
    replace h1 := cF h1 q17
    refine AO.guardN rfl rfl rfl lb rfl q17 ?_
    refine AO.guardN rfl rfl rfl lb rfl q17 ?_
    refine AO.guardN rfl rfl rfl lb rfl q17 ?_
    refine AO.guardN rfl rfl rfl lb rfl q17 ?_
    refine AO.guardN rfl rfl rfl lb rfl q17 ?_
    refine AO.guardY rfl rfl rfl q16 (AOp.pickN rfl rfl lb rfl q17 rfl ?_)
    refine AO.op rfl (AOp.pickN rfl rfl lb rfl q16 rfl ?_)
    refine AO.nil ?_
    exact ⟨false, _, rfl, (LeL.refl _), rfl, rfl, h1⟩
   intro g10 h1
   unfold p_goodEnds_k3 at h1
   refine AC.cond rfl (fun q11 => ?_) (fun q11 => ?_)
   ·replace h1 := cT h1 q11
    refine AC.smn 3 rfl ?_
    refine AC.ret ?_
    change RetQ _ _ _ .ret _
    obtain rfl := Option.some.inj h1
    replace h0 := aftR h0
    obtain rfl := Option.some.inj h0
    refine retq rfl rfl
   replace h1 := cF h1 q11
   refine AC.skip ?_
   change AC _ _ _ _
   refine AC.region ?_
   refine AO.mv 2 rfl ?_
   refine AO.nil (?_ : AC _ _ _ _)
   refine AC.region ?_
   obtain ⟨q12, h1⟩ := need_elim h1
   refine AO.op rfl (AOp.iadd rfl rfl lb rfl rfl rfl q12.1 q12.2 ?_)
   refine AO.mv 1 rfl ?_
   refine AO.nil ?_
   exact ⟨(x8, (g4.2 + (1 : Int))), _, rfl, (LeL.refl _), rfl, rfl, h1⟩
  replace h1 := cF h1 q7
  refine AC.exit ?_
  obtain rfl := Option.some.inj h1
  exact ⟨g4.1, _, rfl, (LeL.refl _), rfl, rfl, aftL h0⟩
 intro g3 h0
 unfold p_goodEnds_k1 at h0
 change AC _ _ _ _
 refine AC.smn 3 rfl ?_
 refine AC.ret ?_
 change RetQ _ _ _ .ret _
 obtain rfl := Option.some.inj h0
 refine retq rfl rfl

set_option maxRecDepth 100000 in
set_option maxHeartbeats 4000000 in
theorem w_Good_b (Rec_ : TImpl_Geom → Option Bool) (hR : ∀ (a0 : TImpl_Geom) (r0 : Bool), Rec_ a0 = some r0 → FnD Tryz.prog 25 [e_TImpl_Geom a0] (fun r => r = dbool r0)) (F : Nat) (a0 : TImpl_Geom) (r0 : Bool) (h0 : p_Good_b Rec_ F a0 = some r0) : FnD Tryz.prog 25 [e_TImpl_Geom a0] (fun r => r = dbool r0) := by
 refine FnD.of (by kernel_rfl) Tryz.func25 rfl Tryz.ntmps25 rfl (leb rfl) fun W ok => ?_
 unfold p_Good_b at h0
 refine AC.sr ?_
 refine AO.op rfl (AOp.box rfl rfl lb rfl rfl ?_)
 refine AO.mn 1 rfl ?_
 refine AC.sr ?_
 refine AO.op rfl (AOp.fieldAddr rfl rfl lb rfl fo27_1 ?_)
 refine AO.op rfl (AOp.load1 rfl rfl lb rfl agg3 rfl rfl ?_)
 obtain ⟨y1, q2, h0⟩ := bind_elim h0
 refine AO.op rfl (AOp.callD rfl rfl lb rfl rfl (w_Stride a0.Layout y1 q2) ?_)
 rintro _ rfl
 refine AO.mn 1 rfl ?_
 refine AC.seq ?_
 refine AC.sr ?_
 refine AO.op rfl (AOp.fieldAddr rfl rfl lb rfl fo27_0 ?_)
 refine AO.op rfl (AOp.load1 rfl rfl lb rfl agg3 rfl rfl ?_)
 refine AO.op rfl (AOp.ieql rfl rfl lb rfl rfl ?_)
 refine AO.nS ?_
 refine AC.cond rfl (fun q3 => ?_) (fun q3 => ?_)
 ·replace h0 := cT h0 q3
  refine AC.seq ?_
  refine AC.sr ?_
  refine AO.op rfl (AOp.fieldAddr rfl rfl lb rfl fo27_6 ?_)
  refine AO.op rfl (AOp.load1 rfl rfl lb rfl agg25 rfl rfl ?_)
  refine AO.op rfl (AOp.lenDs (n := a0.Kids.length) (cells := (List.flatMap c0_TImpl_Geom a0.Kids)) rfl rfl lb rfl el25 (by decide) (lenN _ 7 c0_TImpl_Geom_len _) ?_)
  refine AO.mn 1 rfl ?_
  obtain ⟨o4, l5, h0⟩ := bind_elim h0
  refine AC.joinE (V := Unit) [1] [] 1 (fun g6 => []) (fun g6 => [.fix 27 [.d (di .i64 a0.Kind), .d (di .i64 a0.Layout), .d (di .i64 a0.SRID), .d (eS1 a0.Flat), .d (eS2 a0.Ends), .d (eS3 a0.Endss), .d (eS0 a0.Kids)]]) (fun g6 => (p_Good_k1 a0) g6 = some r0) rfl ?_ ?_
  ·refine AC.block ?_
   refine AC.loopP (V := Int) (p_Good_l3 a0 F Rec_) o4 [1, 20, 21] [22] 1 (fun g9 => [(22, .d (di .i64 g9))]) (fun g9 => [.fix 27 [.d (di .i64 a0.Kind), .d (di .i64 a0.Layout), .d (di .i64 a0.SRID), .d (eS1 a0.Flat), .d (eS2 a0.Ends), .d (eS3 a0.Endss), .d (eS0 a0.Kids)]]) F (0 : Int) l5 rfl rfl (LeL.refl _) rfl rfl ?_
   intro n11 g9 h1
   unfold p_Good_l3 at h1
   refine AC.sr ?_
   refine AO.op rfl (AOp.ilss rfl rfl lb rfl rfl ?_)
   refine AO.nS ?_
   refine AC.seq ?_
   refine AC.cond rfl (fun q12 => ?_) (fun q12 => ?_)
   ·replace h1 := cT h1 q12
    refine AC.skip ?_
    change AC _ _ _ _
    refine AC.seq ?_
    refine AC.block ?_
    refine AC.sr ?_
    obtain ⟨x13, q14, h1⟩ := idx_elim h1
    refine AO.op rfl (AOp.indexDs (cells := (List.flatMap c0_TImpl_Geom a0.Kids)) rfl rfl lb rfl rfl el25 (by decide) q14.1 (ltN 7 c0_TImpl_Geom_len (by decide) q14.2) ?_)
    refine AO.op rfl (AOp.loadEpN rfl rfl lb rfl agg27 size27 (leN 7 c0_TImpl_Geom_len q14.2) ((atN 7 c0_TImpl_Geom_len q14.2).trans (c0_TImpl_Geom_eq x13)) ?_)
    refine AO.op rfl (AOp.alloc rfl rfl lb zero27 rfl ?_)
    refine AO.op rfl (AOp.store rfl rfl rfl rfl size27 rfl rfl rfl (leb rfl) ?_)
    refine AO.nS ?_
    refine AC.seq ?_
    refine AC.draw 15 mixed (by kernel_rfl) ?_
    refine AD.op [5] rfl (by kernel_rfl) rfl rfl (fun _ _ h => AOp.loadN rfl rfl lb rfl agg27 size27 rfl (leb rfl) rfl h) ?_
    obtain ⟨y15, q16, h1⟩ := bind_elim h1
    refine AD.op [26] rfl (by kernel_rfl) rfl rfl (fun _ _ h => AOp.callD rfl rfl lb rfl rfl (hR x13 y15 q16) (by rintro _ rfl; exact h)) ?_
    refine AD.op [27] rfl (by kernel_rfl) rfl rfl (fun _ _ h => AOp.bnot rfl rfl lb rfl h) ?_
    refine AD.op [28] rfl (by kernel_rfl) rfl rfl (fun _ _ h => AOp.move rfl rfl lb rfl h) ?_
    refine AD.dec (!y15) (fun q17 => ?_) (fun q17 => ?_)
    ·replace h1 := cT h1 q17
     refine AD.opN rfl rfl rfl lb rfl q17 ?_
     refine AD.opN rfl rfl rfl lb rfl q17 ?_
     refine AD.opN rfl rfl rfl lb rfl q17 ?_
     refine AD.opN rfl rfl rfl lb rfl q17 ?_
     refine AD.opU rfl rfl rfl lb rfl ?_
     refine AD.opU rfl rfl rfl lb rfl ?_
     refine AD.opU rfl rfl rfl lb rfl ?_
     refine AD.opU rfl rfl rfl lb rfl ?_
     refine AD.opU rfl rfl rfl lb rfl ?_
     refine AD.opN rfl rfl rfl lb rfl q17 ?_
     refine AD.op [29, 39] rfl (by kernel_rfl) rfl rfl (fun _ _ h => AOp.pick rfl rfl lb rfl q17 rfl h) ?_
     refine AD.done ?_
     refine AO.nS ?_
     refine AC.condT rfl rfl ?_
     refine AC.smn 1 rfl ?_
     refine AC.ret ?_
     change RetQ _ _ _ .ret _
     obtain rfl := Option.some.inj h1
     replace h0 := aftR h0
     obtain rfl := Option.some.inj h0
     refine retq rfl rfl
    replace h1 := cF h1 q17
    refine AD.opY [1, 29] rfl rfl rfl q17 (by kernel_rfl) rfl rfl (fun _ _ h => AOp.fieldAddr rfl rfl lb rfl fo27_1 h) ?_
    refine AD.opY [29, 30] rfl rfl rfl q17 (by kernel_rfl) rfl rfl (fun _ _ h => AOp.load1 rfl rfl lb rfl agg3 rfl rfl h) ?_
    refine AD.opY [29, 31] rfl rfl rfl q17 (by kernel_rfl) rfl rfl (fun _ _ h => AOp.ineq rfl rfl lb rfl rfl h) ?_
    refine AD.opY [29, 32] rfl rfl rfl q17 (by kernel_rfl) rfl rfl (fun _ _ h => AOp.move rfl rfl lb rfl h) ?_
    refine AD.dec (!decide (a0.Layout = (0 : Int))) (fun q18 => ?_) (fun q18 => ?_)
    ·replace h1 := cT h1 q18
     refine AD.opY [5, 33] rfl rfl rfl q18 (by kernel_rfl) rfl rfl (fun _ _ h => AOp.loadN rfl rfl lb rfl agg27 size27 rfl (leb rfl) rfl h) ?_
     obtain ⟨y19, q20, h1⟩ := bind_elim h1
     refine AD.opY [33, 34] rfl rfl rfl q18 (by kernel_rfl) rfl rfl (fun _ _ h => AOp.callD rfl rfl lb rfl rfl (w_LayoutOf F x13 y19 q20) (by rintro _ rfl; exact h)) ?_
     refine AD.opY [1, 33] rfl rfl rfl q18 (by kernel_rfl) rfl rfl (fun _ _ h => AOp.fieldAddr rfl rfl lb rfl fo27_1 h) ?_
     refine AD.opY [33, 36] rfl rfl rfl q18 (by kernel_rfl) rfl rfl (fun _ _ h => AOp.load1 rfl rfl lb rfl agg3 rfl rfl h) ?_
     refine AD.opY [33, 35, 37] rfl rfl rfl q18 (by kernel_rfl) rfl rfl (fun _ _ h => AOp.ineq rfl rfl lb rfl rfl h) ?_
     refine AD.opY [29, 33, 38] rfl rfl rfl q17 (by kernel_rfl) rfl rfl (fun _ _ h => AOp.pick rfl rfl lb rfl q18 rfl h) ?_
     refine AD.op [29, 39] rfl (by kernel_rfl) rfl rfl (fun _ _ h => AOp.pickN rfl rfl lb rfl q17 rfl h) ?_
     refine AD.done ?_
     refine AO.nS ?_
     refine AC.cond rfl (fun q21 => ?_) (fun q21 => ?_)
     ·replace h1 := cT h1 q21
      refine AC.smn 1 rfl ?_
      refine AC.ret ?_
      change RetQ _ _ _ .ret _
      obtain rfl := Option.some.inj h1
      replace h0 := aftR h0
      obtain rfl := Option.some.inj h0
      refine retq rfl rfl
     replace h1 := cF h1 q21
     refine AC.skip ?_
     change AC _ _ _ _
     refine AC.region ?_
     obtain ⟨q22, h1⟩ := need_elim h1
     refine AO.op rfl (AOp.iadd rfl rfl lb rfl rfl rfl q22.1 q22.2 ?_)
     refine AO.mv 1 rfl ?_
     refine AO.nil ?_
     exact ⟨(g9 + (1 : Int)), _, rfl, (LeL.refl _), rfl, rfl, h1⟩
    replace h1 := cF h1 q18
    refine AD.opN rfl rfl rfl lb rfl q18 ?_
    refine AD.opN rfl rfl rfl lb rfl q18 ?_
    refine AD.opN rfl rfl rfl lb rfl q18 ?_
    refine AD.opN rfl rfl rfl lb rfl q18 ?_
    refine AD.opN rfl rfl rfl lb rfl q18 ?_
    refine AD.opY [29, 33, 38] rfl rfl rfl q17 (by kernel_rfl) rfl rfl (fun _ _ h => AOp.pickN rfl rfl lb rfl q18 rfl h) ?_
    refine AD.op [29, 39] rfl (by kernel_rfl) rfl rfl (fun _ _ h => AOp.pickN rfl rfl lb rfl q17 rfl h) ?_
    refine AD.done ?_
    refine AO.nS ?_
    refine AC.condF rfl rfl ?_
    refine AC.skip ?_
    change AC _ _ _ _
    refine AC.region ?_
    obtain ⟨q23, h1⟩ := need_elim h1
    refine AO.op rfl (AOp.iadd rfl rfl lb rfl rfl rfl q23.1 q23.2 ?_)
    refine AO.mv 1 rfl ?_
    refine AO.nil ?_
    exact ⟨(g9 + (1 : Int)), _, rfl, (LeL.refl _), rfl, rfl, h1⟩
   replace h1 := cF h1 q12
   refine AC.exit ?_
   obtain rfl := Option.some.inj h1
   exact ⟨(), _, rfl, (LeL.refl _), rfl, rfl, aftL h0⟩
  intro g6 h0
  unfold p_Good_k1 at h0
  change AC _ _ _ _
  refine AC.joinP (V := Bool) [] [2] 1 (fun g7 => [(2, .d (dbool g7))]) (fun g7 => [.fix 27 [.d (di .i64 a0.Kind), .d (di .i64 a0.Layout), .d (di .i64 a0.SRID), .d (eS1 a0.Flat), .d (eS2 a0.Ends), .d (eS3 a0.Endss), .d (eS0 a0.Kids)]]) (fun g7 => p_Good_k2 g7 = some r0) rfl ?_ ?_
  ·refine AC.region ?_
   refine AO.op rfl (AOp.fieldAddr rfl rfl lb rfl fo27_1 ?_)
   refine AO.op rfl (AOp.load1 rfl rfl lb rfl agg3 rfl rfl ?_)
   refine AO.op rfl (AOp.igeq rfl rfl lb rfl rfl ?_)
   refine AO.mv 1 rfl ?_
   refine AO.dec (decide ((0 : Int) ≤ a0.Layout)) (fun q8 => ?_) (fun q8 => ?_)
   ·replace h0 := cT h0 q8
    refine AO.guardY rfl rfl rfl q8 (AOp.fieldAddr rfl rfl lb rfl fo27_3 ?_)
    refine AO.guardY rfl rfl rfl q8 (AOp.load1 rfl rfl lb rfl agg22 rfl rfl ?_)
    refine AO.guardY rfl rfl rfl q8 (AOp.lenDs (n := a0.Flat.length) (cells := (List.map keS1 a0.Flat)) rfl rfl lb rfl el22 (by decide) (len1 _ _) ?_)
    refine AO.guardY rfl rfl rfl q8 (AOp.fieldAddr rfl rfl lb rfl fo27_4 ?_)
    refine AO.guardY rfl rfl rfl q8 (AOp.load1 rfl rfl lb rfl agg23 rfl rfl ?_)
    refine AO.guardY rfl rfl rfl q8 (AOp.lenDs (n := a0.Ends.length) (cells := (List.map keS2 a0.Ends)) rfl rfl lb rfl el23 (by decide) (len1 _ _) ?_)
    refine AO.guardY rfl rfl rfl q8 (AOp.iwAdd rfl rfl lb rfl rfl ?_)
    refine AO.guardY rfl rfl rfl q8 (AOp.fieldAddr rfl rfl lb rfl fo27_5 ?_)
    refine AO.guardY rfl rfl rfl q8 (AOp.load1 rfl rfl lb rfl agg24 rfl rfl ?_)
    refine AO.guardY rfl rfl rfl q8 (AOp.lenDs (n := a0.Endss.length) (cells := (List.map keS3 a0.Endss)) rfl rfl lb rfl el24 (by decide) (len1 _ _) ?_)
    refine AO.guardY rfl rfl rfl q8 (AOp.iwAdd rfl rfl lb rfl rfl ?_)
    refine AO.guardY rfl rfl rfl q8 (AOp.ieql rfl rfl lb rfl rfl ?_)
    refine AO.op rfl (AOp.pick rfl rfl lb rfl q8 rfl ?_)
    refine AO.mv 1 rfl ?_
    refine AO.nil ?_
    exact ⟨(decide ((IntKind.i64.wrap ((IntKind.i64.wrap (((a0.Flat.length : Nat) : Int) + ((a0.Ends.length : Nat) : Int))) + ((a0.Endss.length : Nat) : Int))) = (0 : Int))), _, rfl, (LeL.refl _), rfl, rfl, h0⟩
   replace h0 := cF h0 q8
   refine AO.guardN rfl rfl rfl lb rfl q8 ?_
   refine AO.guardN rfl rfl rfl lb rfl q8 ?_
   refine AO.guardN rfl rfl rfl lb rfl q8 ?_
   refine AO.guardN rfl rfl rfl lb rfl q8 ?_
   refine AO.guardN rfl rfl rfl lb rfl q8 ?_
   refine AO.guardN rfl rfl rfl lb rfl q8 ?_
   refine AO.guardN rfl rfl rfl lb rfl q8 ?_
   refine AO.guardN rfl rfl rfl lb rfl q8 ?_
   refine AO.guardN rfl rfl rfl lb rfl q8 ?_
   refine AO.guardN rfl rfl rfl lb rfl q8 ?_
   refine AO.guardN rfl rfl rfl lb rfl q8 ?_
   refine AO.guardN rfl rfl rfl lb rfl q8 ?_
   refine AO.op rfl (AOp.pickN rfl rfl lb rfl q8 rfl ?_)
   refine AO.mv 1 rfl ?_
   refine AO.nil ?_
   exact ⟨false, _, rfl, (LeL.refl _), rfl, rfl, h0⟩
  intro g7 h0
  unfold p_Good_k2 at h0
  refine AC.ret ?_
  change RetQ _ _ _ .ret _
  obtain rfl := Option.some.inj h0
  refine retq rfl rfl
 replace h0 := cF h0 q3
 refine AC.skip ?_
 change AC _ _ _ _
 refine AC.joinP (V := Unit) [1, 3] [] 1 (fun g24 => []) (fun g24 => [.fix 27 [.d (di .i64 a0.Kind), .d (di .i64 a0.Layout), .d (di .i64 a0.SRID), .d (eS1 a0.Flat), .d (eS2 a0.Ends), .d (eS3 a0.Endss), .d (eS0 a0.Kids)]]) (fun g24 => (p_Good_k4 a0 F y1) g24 = some r0) rfl ?_ ?_
 ·refine AC.sm 1 rfl ?_
  refine AO.op rfl (AOp.ieql rfl rfl lb rfl rfl ?_)
  refine AO.mv 1 rfl ?_
  refine AO.dec (decide (y1 = (0 : Int))) (fun q54 => ?_) (fun q54 => ?_)
  ·replace h0 := cT h0 q54
   refine AO.guardN rfl rfl rfl lb rfl q54 ?_
   refine AO.guardN rfl rfl rfl lb rfl q54 ?_
   refine AO.guardN rfl rfl rfl lb rfl q54 ?_
   refine AO.guardN rfl rfl rfl lb rfl q54 ?_
   refine AO.guardN rfl rfl rfl lb rfl q54 ?_
   refine AO.guardN rfl rfl rfl lb rfl q54 ?_
   refine AO.op rfl (AOp.pick rfl rfl lb rfl q54 rfl ?_)
   refine AO.mv 1 rfl ?_
   refine AO.guardN rfl rfl rfl lb rfl rfl ?_
   refine AO.guardN rfl rfl rfl lb rfl rfl ?_
   refine AO.guardN rfl rfl rfl lb rfl rfl ?_
   refine AO.guardN rfl rfl rfl lb rfl rfl ?_
   refine AO.op rfl (AOp.pick rfl rfl lb rfl rfl rfl ?_)
   refine AO.mv 1 rfl ?_
   refine AO.guardN rfl rfl rfl lb rfl rfl ?_
   refine AO.guardN rfl rfl rfl lb rfl rfl ?_
   refine AO.guardN rfl rfl rfl lb rfl rfl ?_
   refine AO.guardN rfl rfl rfl lb rfl rfl ?_
   refine AO.guardN rfl rfl rfl lb rfl rfl ?_
   refine AO.guardU rfl rfl rfl lb rfl ?_
   refine AO.guardU rfl rfl rfl lb rfl ?_
   refine AO.guardU rfl rfl rfl lb rfl ?_
   refine AO.guardN rfl rfl rfl lb rfl rfl ?_
   refine AO.op rfl (AOp.pick rfl rfl lb rfl rfl rfl ?_)
   refine AO.nS ?_
   refine AC.condT rfl rfl ?_
   refine AC.smn 1 rfl ?_
   refine AC.ret ?_
   change RetQ _ _ _ .ret _
   obtain rfl := Option.some.inj h0
   refine retq rfl rfl
  replace h0 := cF h0 q54
  refine AO.guardY rfl rfl rfl q54 (AOp.fieldAddr rfl rfl lb rfl fo27_3 ?_)
  refine AO.guardY rfl rfl rfl q54 (AOp.load1 rfl rfl lb rfl agg22 rfl rfl ?_)
  refine AO.guardY rfl rfl rfl q54 (AOp.lenDs (n := a0.Flat.length) (cells := (List.map keS1 a0.Flat)) rfl rfl lb rfl el22 (by decide) (len1 _ _) ?_)
  refine AO.guardY rfl rfl rfl q54 (AOp.move rfl rfl lb rfl ?_)
  obtain ⟨q55, h0⟩ := need_elim h0
  refine AO.guardY rfl rfl rfl q54 (AOp.irem rfl rfl lb rfl rfl q55 rfl ?_)
  refine AO.guardY rfl rfl rfl q54 (AOp.ineq rfl rfl lb rfl rfl ?_)
  refine AO.op rfl (AOp.pickN rfl rfl lb rfl q54 rfl ?_)
  refine AO.mv 1 rfl ?_
  refine AO.dec (!decide ((Int.tmod ((a0.Flat.length : Nat) : Int) y1) = (0 : Int))) (fun q56 => ?_) (fun q56 => ?_)
  ·replace h0 := cT h0 q56
   refine AO.guardN rfl rfl rfl lb rfl q56 ?_
   refine AO.guardN rfl rfl rfl lb rfl q56 ?_
   refine AO.guardN rfl rfl rfl lb rfl q56 ?_
   refine AO.guardN rfl rfl rfl lb rfl q56 ?_
   refine AO.op rfl (AOp.pick rfl rfl lb rfl q56 rfl ?_)
   refine AO.mv 1 rfl ?_
   refine AO.guardN rfl rfl rfl lb rfl rfl ?_
   refine AO.guardN rfl rfl rfl lb rfl rfl ?_
   refine AO.guardN rfl rfl rfl lb rfl rfl ?_
   refine AO.guardN rfl rfl rfl lb rfl rfl ?_
   refine AO.guardN rfl rfl rfl lb rfl rfl ?_
   refine AO.guardU rfl rfl rfl lb rfl ?_
   refine AO.guardU rfl rfl rfl lb rfl ?_
   refine AO.guardU rfl rfl rfl lb rfl ?_
   refine AO.guardN rfl rfl rfl lb rfl rfl ?_
   refine AO.op rfl (AOp.pick rfl rfl lb rfl rfl rfl ?_)
   refine AO.nS ?_
   refine AC.condT rfl rfl ?_
   refine AC.smn 1 rfl ?_
   refine AC.ret ?_
   change RetQ _ _ _ .ret _
   obtain rfl := Option.some.inj h0
   refine retq rfl rfl
  replace h0 := cF h0 q56
  refine AO.guardY rfl rfl rfl q56 (AOp.fieldAddr rfl rfl lb rfl fo27_6 ?_)
  refine AO.guardY rfl rfl rfl q56 (AOp.load1 rfl rfl lb rfl agg25 rfl rfl ?_)
  refine AO.guardY rfl rfl rfl q56 (AOp.lenDs (n := a0.Kids.length) (cells := (List.flatMap c0_TImpl_Geom a0.Kids)) rfl rfl lb rfl el25 (by decide) (lenN _ 7 c0_TImpl_Geom_len _) ?_)
  refine AO.guardY rfl rfl rfl q56 (AOp.igtr rfl rfl lb rfl rfl ?_)
  refine AO.op rfl (AOp.pickN rfl rfl lb rfl q56 rfl ?_)
  refine AO.mv 1 rfl ?_
  refine AO.dec (decide ((0 : Int) < ((a0.Kids.length : Nat) : Int))) (fun q57 => ?_) (fun q57 => ?_)
  ·replace h0 := cT h0 q57
   refine AO.guardN rfl rfl rfl lb rfl q57 ?_
   refine AO.guardN rfl rfl rfl lb rfl q57 ?_
   refine AO.guardN rfl rfl rfl lb rfl q57 ?_
   refine AO.guardN rfl rfl rfl lb rfl q57 ?_
   refine AO.guardN rfl rfl rfl lb rfl q57 ?_
   refine AO.guardU rfl rfl rfl lb rfl ?_
   refine AO.guardU rfl rfl rfl lb rfl ?_
   refine AO.guardU rfl rfl rfl lb rfl ?_
   refine AO.guardN rfl rfl rfl lb rfl q57 ?_
   refine AO.op rfl (AOp.pick rfl rfl lb rfl q57 rfl ?_)
   refine AO.nS ?_
   refine AC.condT rfl rfl ?_
   refine AC.smn 1 rfl ?_
   refine AC.ret ?_
   change RetQ _ _ _ .ret _
   obtain rfl := Option.some.inj h0
   refine retq rfl rfl
  replace h0 := cF h0 q57
  refine AO.guardY rfl rfl rfl q57 (AOp.fieldAddr rfl rfl lb rfl fo27_5 ?_)
  refine AO.guardY rfl rfl rfl q57 (AOp.load1 rfl rfl lb rfl agg24 rfl rfl ?_)
  refine AO.guardY rfl rfl rfl q57 (AOp.lenDs (n := a0.Endss.length) (cells := (List.map keS3 a0.Endss)) rfl rfl lb rfl el24 (by decide) (len1 _ _) ?_)
  refine AO.guardY rfl rfl rfl q57 (AOp.igtr rfl rfl lb rfl rfl ?_)
  refine AO.guardY rfl rfl rfl q57 (AOp.move rfl rfl lb rfl ?_)
  refine AO.dec (decide ((0 : Int) < ((a0.Endss.length : Nat) : Int))) (fun q58 => ?_) (fun q58 => ?_)
  ·replace h0 := cT h0 q58
   refine AO.guardY rfl rfl rfl q58 (AOp.fieldAddr rfl rfl lb rfl fo27_0 ?_)
   refine AO.guardY rfl rfl rfl q58 (AOp.load1 rfl rfl lb rfl agg3 rfl rfl ?_)
   refine AO.guardY rfl rfl rfl q58 (AOp.ineq rfl rfl lb rfl rfl ?_)
   refine AO.guardY rfl rfl rfl q57 (AOp.pick rfl rfl lb rfl q58 rfl ?_)
   refine AO.op rfl (AOp.pickN rfl rfl lb rfl q57 rfl ?_)
   refine AO.nS ?_
   refine AC.cond rfl (fun q59 => ?_) (fun q59 => ?_)
   ·replace h0 := cT h0 q59
    refine AC.smn 1 rfl ?_
    refine AC.ret ?_
    change RetQ _ _ _ .ret _
    obtain rfl := Option.some.inj h0
    refine retq rfl rfl
   replace h0 := cF h0 q59
   refine AC.skip ?_
   exact ⟨(), _, rfl, (LeL.refl _), rfl, rfl, h0⟩
  replace h0 := cF h0 q58
  refine AO.guardN rfl rfl rfl lb rfl q58 ?_
  refine AO.guardN rfl rfl rfl lb rfl q58 ?_
  refine AO.guardN rfl rfl rfl lb rfl q58 ?_
  refine AO.guardY rfl rfl rfl q57 (AOp.pickN rfl rfl lb rfl q58 rfl ?_)
  refine AO.op rfl (AOp.pickN rfl rfl lb rfl q57 rfl ?_)
  refine AO.nS ?_
  refine AC.condF rfl rfl ?_
  refine AC.skip ?_
  exact ⟨(), _, rfl, (LeL.refl _), rfl, rfl, h0⟩
 intro g24 h0
 unfold p_Good_k4 at h0
 refine AC.seq ?_
 refine AC.sr ?_
 refine AO.op rfl (AOp.fieldAddr rfl rfl lb rfl fo27_0 ?_)
 refine AO.op rfl (AOp.load1 rfl rfl lb rfl agg3 rfl rfl ?_)
 refine AO.nS ?_
 refine AC.block ?_
 refine AC.sr ?_
 refine AO.op rfl (AOp.ieql rfl rfl lb rfl rfl ?_)
 refine AO.mn 1 rfl ?_
 refine AC.cond rfl (fun q25 => ?_) (fun q25 => ?_)
 ·replace h0 := cT h0 q25
  refine AC.sr ?_
  refine AO.op rfl (AOp.fieldAddr rfl rfl lb rfl fo27_4 ?_)
  refine AO.op rfl (AOp.load1 rfl rfl lb rfl agg23 rfl rfl ?_)
  refine AO.op rfl (AOp.lenDs (n := a0.Ends.length) (cells := (List.map keS2 a0.Ends)) rfl rfl lb rfl el23 (by decide) (len1 _ _) ?_)
  refine AO.op rfl (AOp.ieql rfl rfl lb rfl rfl ?_)
  refine AO.mv 1 rfl ?_
  refine AO.dec (decide (((a0.Ends.length : Nat) : Int) = (0 : Int))) (fun q26 => ?_) (fun q26 => ?_)
  ·replace h0 := cT h0 q26
   refine AO.guardY rfl rfl rfl q26 (AOp.fieldAddr rfl rfl lb rfl fo27_3 ?_)
   refine AO.guardY rfl rfl rfl q26 (AOp.load1 rfl rfl lb rfl agg22 rfl rfl ?_)
   refine AO.guardY rfl rfl rfl q26 (AOp.lenDs (n := a0.Flat.length) (cells := (List.map keS1 a0.Flat)) rfl rfl lb rfl el22 (by decide) (len1 _ _) ?_)
   refine AO.guardY rfl rfl rfl q26 (AOp.move rfl rfl lb rfl ?_)
   refine AO.guardY rfl rfl rfl q26 (AOp.ileq rfl rfl lb rfl rfl ?_)
   refine AO.op rfl (AOp.pick rfl rfl lb rfl q26 rfl ?_)
   refine AO.mn 1 rfl ?_
   refine AC.ret ?_
   change RetQ _ _ _ .ret _
   obtain rfl := Option.some.inj h0
   refine retq rfl rfl
  replace h0 := cF h0 q26
  refine AO.guardN rfl rfl rfl lb rfl q26 ?_
  refine AO.guardN rfl rfl rfl lb rfl q26 ?_
  refine AO.guardN rfl rfl rfl lb rfl q26 ?_
  refine AO.guardN rfl rfl rfl lb rfl q26 ?_
  refine AO.guardN rfl rfl rfl lb rfl q26 ?_
  refine AO.op rfl (AOp.pickN rfl rfl lb rfl q26 rfl ?_)
  refine AO.mn 1 rfl ?_
  refine AC.ret ?_
  change RetQ _ _ _ .ret _
  obtain rfl := Option.some.inj h0
  refine retq rfl rfl
 replace h0 := cF h0 q25
 refine AC.joinP (V := Bool) [1, 3, 87] [101] 1 (fun g27 => [(101, .d (dbool g27))]) (fun g27 => [.fix 27 [.d (di .i64 a0.Kind), .d (di .i64 a0.Layout), .d (di .i64 a0.SRID), .d (eS1 a0.Flat), .d (eS2 a0.Ends), .d (eS3 a0.Endss), .d (eS0 a0.Kids)]]) (fun g27 => (p_Good_k5 a0 F y1) g27 = some r0) rfl ?_ ?_
 ·refine AC.sr ?_
  refine AO.op rfl (AOp.ieql rfl rfl lb rfl rfl ?_)
  refine AO.mn 1 rfl ?_
  refine AC.cond rfl (fun q53 => ?_) (fun q53 => ?_)
  ·replace h0 := cT h0 q53
   refine AC.skip ?_
   exact ⟨(decide (a0.Kind = (2 : Int))), _, rfl, (LeL.refl _), rfl, rfl, h0⟩
  replace h0 := cF h0 q53
  refine AC.region ?_
  refine AO.op rfl (AOp.ieql rfl rfl lb rfl rfl ?_)
  refine AO.mv 1 rfl ?_
  refine AO.nil ?_
  exact ⟨(decide (a0.Kind = (8 : Int))), _, rfl, (LeL.refl _), rfl, rfl, h0⟩
 intro g27 h0
 unfold p_Good_k5 at h0
 refine AC.cond rfl (fun q28 => ?_) (fun q28 => ?_)
 ·replace h0 := cT h0 q28
  refine AC.sr ?_
  refine AO.op rfl (AOp.fieldAddr rfl rfl lb rfl fo27_4 ?_)
  refine AO.op rfl (AOp.load1 rfl rfl lb rfl agg23 rfl rfl ?_)
  refine AO.op rfl (AOp.lenDs (n := a0.Ends.length) (cells := (List.map keS2 a0.Ends)) rfl rfl lb rfl el23 (by decide) (len1 _ _) ?_)
  refine AO.op rfl (AOp.ieql rfl rfl lb rfl rfl ?_)
  refine AO.mn 1 rfl ?_
  refine AC.ret ?_
  change RetQ _ _ _ .ret _
  obtain rfl := Option.some.inj h0
  refine retq rfl rfl
 replace h0 := cF h0 q28
 refine AC.joinP (V := Bool) [1, 3, 87] [108] 1 (fun g29 => [(108, .d (dbool g29))]) (fun g29 => [.fix 27 [.d (di .i64 a0.Kind), .d (di .i64 a0.Layout), .d (di .i64 a0.SRID), .d (eS1 a0.Flat), .d (eS2 a0.Ends), .d (eS3 a0.Endss), .d (eS0 a0.Kids)]]) (fun g29 => (p_Good_k6 a0 F y1) g29 = some r0) rfl ?_ ?_
 ·refine AC.sr ?_
  refine AO.op rfl (AOp.ieql rfl rfl lb rfl rfl ?_)
  refine AO.mn 1 rfl ?_
  refine AC.cond rfl (fun q51 => ?_) (fun q51 => ?_)
  ·replace h0 := cT h0 q51
   refine AC.skip ?_
   exact ⟨(decide (a0.Kind = (3 : Int))), _, rfl, (LeL.refl _), rfl, rfl, h0⟩
  replace h0 := cF h0 q51
  refine AC.sr ?_
  refine AO.op rfl (AOp.ieql rfl rfl lb rfl rfl ?_)
  refine AO.mn 1 rfl ?_
  refine AC.cond rfl (fun q52 => ?_) (fun q52 => ?_)
  ·replace h0 := cT h0 q52
   refine AC.skip ?_
   exact ⟨(decide (a0.Kind = (4 : Int))), _, rfl, (LeL.refl _), rfl, rfl, h0⟩
  replace h0 := cF h0 q52
  refine AC.region ?_
  refine AO.op rfl (AOp.ieql rfl rfl lb rfl rfl ?_)
  refine AO.mv 1 rfl ?_
  refine AO.nil ?_
  exact ⟨(decide (a0.Kind = (5 : Int))), _, rfl, (LeL.refl _), rfl, rfl, h0⟩
 intro g29 h0
 unfold p_Good_k6 at h0
 refine AC.cond rfl (fun q30 => ?_) (fun q30 => ?_)
 ·replace h0 := cT h0 q30
  refine AC.sr ?_
  refine AO.op rfl (AOp.fieldAddr rfl rfl lb rfl fo27_4 ?_)
  refine AO.op rfl (AOp.load1 rfl rfl lb rfl agg23 rfl rfl ?_)
  refine AO.mv 1 rfl ?_
  refine AO.op rfl (AOp.fieldAddr rfl rfl lb rfl fo27_0 ?_)
  refine AO.op rfl (AOp.load1 rfl rfl lb rfl agg3 rfl rfl ?_)
  refine AO.op rfl (AOp.ieql rfl rfl lb rfl rfl ?_)
  obtain ⟨y31, q32, h0⟩ := bind_elim h0
  refine AO.op rfl (AOp.callD rfl rfl lb rfl rfl (w_goodEnds F a0.Ends (0 : Int) y1 (decide (a0.Kind = (4 : Int))) y31 q32) ?_)
  rintro _ rfl
  refine AO.mn 5 rfl ?_
  refine AC.sm 2 rfl ?_
  refine AO.dec y31.2 (fun q33 => ?_) (fun q33 => ?_)
  ·replace h0 := cT h0 q33
   refine AO.guardY rfl rfl rfl q33 (AOp.move rfl rfl lb rfl ?_)
   refine AO.guardY rfl rfl rfl q33 (AOp.fieldAddr rfl rfl lb rfl fo27_3 ?_)
   refine AO.guardY rfl rfl rfl q33 (AOp.load1 rfl rfl lb rfl agg22 rfl rfl ?_)
   refine AO.guardY rfl rfl rfl q33 (AOp.lenDs (n := a0.Flat.length) (cells := (List.map keS1 a0.Flat)) rfl rfl lb rfl el22 (by decide) (len1 _ _) ?_)
   refine AO.guardY rfl rfl rfl q33 (AOp.ieql rfl rfl lb rfl rfl ?_)
   refine AO.op rfl (AOp.pick rfl rfl lb rfl q33 rfl ?_)
   refine AO.mn 1 rfl ?_
   refine AC.ret ?_
   change RetQ _ _ _ .ret _
   obtain rfl := Option.some.inj h0
   refine retq rfl rfl
  replace h0 := cF h0 q33
  refine AO.guardN rfl rfl rfl lb rfl q33 ?_
  refine AO.guardN rfl rfl rfl lb rfl q33 ?_
  refine AO.guardN rfl rfl rfl lb rfl q33 ?_
  refine AO.guardN rfl rfl rfl lb rfl q33 ?_
  refine AO.guardN rfl rfl rfl lb rfl q33 ?_
  refine AO.op rfl (AOp.pickN rfl rfl lb rfl q33 rfl ?_)
  refine AO.mn 1 rfl ?_
  refine AC.ret ?_
  change RetQ _ _ _ .ret _
  obtain rfl := Option.some.inj h0
  refine retq rfl rfl
 replace h0 := cF h0 q30
 refine AC.sr ?_
 refine AO.op rfl (AOp.ieql rfl rfl lb rfl rfl ?_)
 refine AO.mn 1 rfl ?_
 refine AC.cond rfl (fun q34 => ?_) (fun q34 => ?_)
 ·replace h0 := cT h0 q34
  refine AC.smn 2 rfl ?_
  refine AC.seq ?_
  refine AC.sr ?_
  refine AO.op rfl (AOp.fieldAddr rfl rfl lb rfl fo27_5 ?_)
  refine AO.op rfl (AOp.load1 rfl rfl lb rfl agg24 rfl rfl ?_)
  refine AO.op rfl (AOp.lenDs (n := a0.Endss.length) (cells := (List.map keS3 a0.Endss)) rfl rfl lb rfl el24 (by decide) (len1 _ _) ?_)
  refine AO.mn 1 rfl ?_
  obtain ⟨o35, l36, h0⟩ := bind_elim h0
  refine AC.joinE (V := (Int × Bool)) [1] [8, 9] 1 (fun g37 => [(8, .d (di .i64 g37.1)), (9, .d (dbool g37.2))]) (fun g37 => [.fix 27 [.d (di .i64 a0.Kind), .d (di .i64 a0.Layout), .d (di .i64 a0.SRID), .d (eS1 a0.Flat), .d (eS2 a0.Ends), .d (eS3 a0.Endss), .d (eS0 a0.Kids)]]) (fun g37 => (p_Good_k7 a0) g37 = some r0) rfl ?_ ?_
  ·refine AC.block ?_
   refine AC.loopP (V := (Int × Bool × Int)) (p_Good_l8 a0 F y1) o35 [1, 3, 133, 134] [8, 9, 135] 1 (fun g40 => [(8, .d (di .i64 g40.1)), (9, .d (dbool g40.2.1)), (135, .d (di .i64 g40.2.2))]) (fun g40 => [.fix 27 [.d (di .i64 a0.Kind), .d (di .i64 a0.Layout), .d (di .i64 a0.SRID), .d (eS1 a0.Flat), .d (eS2 a0.Ends), .d (eS3 a0.Endss), .d (eS0 a0.Kids)]]) F ((0 : Int), true, (0 : Int)) l36 rfl rfl (LeL.refl _) rfl rfl ?_
   intro n42 g40 h1
   unfold p_Good_l8 at h1
   refine AC.sr ?_
   refine AO.op rfl (AOp.ilss rfl rfl lb rfl rfl ?_)
   refine AO.nS ?_
   refine AC.seq ?_
   refine AC.cond rfl (fun q43 => ?_) (fun q43 => ?_)
   ·replace h1 := cT h1 q43
    refine AC.skip ?_
    change AC _ _ _ _
    refine AC.seq ?_
    refine AC.block ?_
    refine AC.sr ?_
    obtain ⟨x44, q45, h1⟩ := idx_elim h1
    refine AO.op rfl (AOp.indexDs (cells := (List.map keS3 a0.Endss)) rfl rfl lb rfl rfl el24 (by decide) q45.1 (lt1 q45.2) ?_)
    refine AO.op rfl (AOp.loadEp rfl rfl lb rfl agg23 (at1 q45.2) ?_)
    refine AO.mn 1 rfl ?_
    refine AC.smn 1 rfl ?_
    refine AC.sm 3 rfl ?_
    obtain ⟨y46, q47, h1⟩ := bind_elim h1
    refine AO.op rfl (AOp.callD rfl rfl lb rfl rfl (w_goodEnds F x44 g40.1 y1 false y46 q47) ?_)
    rintro _ rfl
    refine AO.mn 5 rfl ?_
    refine AC.region ?_
    refine AO.mv 2 rfl ?_
    refine AO.dec g40.2.1 (fun q48 => ?_) (fun q48 => ?_)
    ·replace h1 := cT h1 q48
     refine AO.guardY rfl rfl rfl q48 (AOp.move rfl rfl lb rfl ?_)
     refine AO.op rfl (AOp.pick rfl rfl lb rfl q48 rfl ?_)
     refine AO.mv 1 rfl ?_
     refine AO.nil (?_ : AC _ _ _ _)
     refine AC.region ?_
     obtain ⟨q49, h1⟩ := need_elim h1
     refine AO.op rfl (AOp.iadd rfl rfl lb rfl rfl rfl q49.1 q49.2 ?_)
     refine AO.mv 1 rfl ?_
     refine AO.nil ?_
     exact ⟨(y46.1, y46.2, (g40.2.2 + (1 : Int))), _, rfl, (LeL.refl _), rfl, rfl, h1⟩
    replace h1 := cF h1 q48
    refine AO.guardN rfl rfl rfl lb rfl q48 ?_
    refine AO.op rfl (AOp.pickN rfl rfl lb rfl q48 rfl ?_)
    refine AO.mv 1 rfl ?_
    refine AO.nil (?_ : AC _ _ _ _)
    refine AC.region ?_
    obtain ⟨q50, h1⟩ := need_elim h1
    refine AO.op rfl (AOp.iadd rfl rfl lb rfl rfl rfl q50.1 q50.2 ?_)
    refine AO.mv 1 rfl ?_
    refine AO.nil ?_
    exact ⟨(y46.1, false, (g40.2.2 + (1 : Int))), _, rfl, (LeL.refl _), rfl, rfl, h1⟩
   replace h1 := cF h1 q43
   refine AC.exit ?_
   obtain rfl := Option.some.inj h1
   exact ⟨(g40.1, g40.2.1), _, rfl, (LeL.refl _), rfl, rfl, aftL h0⟩
  intro g37 h0
  unfold p_Good_k7 at h0
  change AC _ _ _ _
  refine AC.sm 2 rfl ?_
  refine AO.dec g37.2 (fun q38 => ?_) (fun q38 => ?_)
  ·replace h0 := cT h0 q38
   refine AO.guardY rfl rfl rfl q38 (AOp.move rfl rfl lb rfl ?_)
   refine AO.guardY rfl rfl rfl q38 (AOp.fieldAddr rfl rfl lb rfl fo27_3 ?_)
   refine AO.guardY rfl rfl rfl q38 (AOp.load1 rfl rfl lb rfl agg22 rfl rfl ?_)
   refine AO.guardY rfl rfl rfl q38 (AOp.lenDs (n := a0.Flat.length) (cells := (List.map keS1 a0.Flat)) rfl rfl lb rfl el22 (by decide) (len1 _ _) ?_)
   refine AO.guardY rfl rfl rfl q38 (AOp.ieql rfl rfl lb rfl rfl ?_)
   refine AO.op rfl (AOp.pick rfl rfl lb rfl q38 rfl ?_)
   refine AO.mv 1 rfl ?_
   refine AO.dec (decide (g37.1 = ((a0.Flat.length : Nat) : Int))) (fun q39 => ?_) (fun q39 => ?_)
   ·replace h0 := cT h0 q39
    refine AO.guardY rfl rfl rfl q39 (AOp.fieldAddr rfl rfl lb rfl fo27_4 ?_)
    refine AO.guardY rfl rfl rfl q39 (AOp.load1 rfl rfl lb rfl agg23 rfl rfl ?_)
    refine AO.guardY rfl rfl rfl q39 (AOp.lenDs (n := a0.Ends.length) (cells := (List.map keS2 a0.Ends)) rfl rfl lb rfl el23 (by decide) (len1 _ _) ?_)
    refine AO.guardY rfl rfl rfl q39 (AOp.ieql rfl rfl lb rfl rfl ?_)
    refine AO.op rfl (AOp.pick rfl rfl lb rfl q39 rfl ?_)
    refine AO.mn 1 rfl ?_
    refine AC.ret ?_
    change RetQ _ _ _ .ret _
    obtain rfl := Option.some.inj h0
    refine retq rfl rfl
   replace h0 := cF h0 q39
   refine AO.guardN rfl rfl rfl lb rfl q39 ?_
   refine AO.guardN rfl rfl rfl lb rfl q39 ?_
   refine AO.guardN rfl rfl rfl lb rfl q39 ?_
   refine AO.guardN rfl rfl rfl lb rfl q39 ?_
   refine AO.op rfl (AOp.pickN rfl rfl lb rfl q39 rfl ?_)
   refine AO.mn 1 rfl ?_
   refine AC.ret ?_
   change RetQ _ _ _ .ret _
   obtain rfl := Option.some.inj h0
   refine retq rfl rfl
  replace h0 := cF h0 q38
  refine AO.guardN rfl rfl rfl lb rfl q38 ?_
  refine AO.guardN rfl rfl rfl lb rfl q38 ?_
  refine AO.guardN rfl rfl rfl lb rfl q38 ?_
  refine AO.guardN rfl rfl rfl lb rfl q38 ?_
  refine AO.guardN rfl rfl rfl lb rfl q38 ?_
  refine AO.op rfl (AOp.pickN rfl rfl lb rfl q38 rfl ?_)
  refine AO.mv 1 rfl ?_
  refine AO.guardN rfl rfl rfl lb rfl rfl ?_
  refine AO.guardN rfl rfl rfl lb rfl rfl ?_
  refine AO.guardN rfl rfl rfl lb rfl rfl ?_
  refine AO.guardN rfl rfl rfl lb rfl rfl ?_
  refine AO.op rfl (AOp.pickN rfl rfl lb rfl rfl rfl ?_)
  refine AO.mn 1 rfl ?_
  refine AC.ret ?_
  change RetQ _ _ _ .ret _
  obtain rfl := Option.some.inj h0
  refine retq rfl rfl
 replace h0 := cF h0 q34
 refine AC.skip ?_
 change AC _ _ _ _
 refine AC.smn 1 rfl ?_
 refine AC.ret ?_
 change RetQ _ _ _ .ret _
 obtain rfl := Option.some.inj h0
 refine retq rfl rfl
theorem w_Good : ∀ (F : Nat) (a0 : TImpl_Geom) (r0 : Bool), p_Good F a0 = some r0 → FnD Tryz.prog 25 [e_TImpl_Geom a0] (fun r => r = dbool r0)
 | 0, _, _, h => by cases h
 | F + 1, a0, r0, h => w_Good_b _ (fun a0 r0 h => w_Good F a0 r0 h) F a0 r0 h

set_option maxRecDepth 100000 in
set_option maxHeartbeats 4000000 in
theorem w_gGood (F : Nat) (a0 : (List TImpl_Geom)) (r0 : Bool) (h0 : p_gGood F a0 = some r0) : FnD Tryz.prog 12 [eS0 a0] (fun r => r = dbool r0) := by
 refine FnD.of (by kernel_rfl) Tryz.func12 rfl Tryz.ntmps12 rfl (leb rfl) fun W ok => ?_
 unfold p_gGood at h0
 refine AC.smn 1 rfl ?_
 refine AC.seq ?_
 refine AC.sm 1 rfl ?_
 obtain ⟨y1, q2, h0⟩ := bind_elim h0
 refine AO.op rfl (AOp.callD rfl rfl lb rfl rfl (w_gSmall F a0 y1 q2) ?_)
 rintro _ rfl
 refine AO.op rfl (AOp.bnot rfl rfl lb rfl ?_)
 refine AO.nS ?_
 refine AC.cond rfl (fun q3 => ?_) (fun q3 => ?_)
 ·replace h0 := cT h0 q3
  refine AC.smn 1 rfl ?_
  refine AC.ret ?_
  change RetQ _ _ _ .ret _
  obtain rfl := Option.some.inj h0
  refine retq rfl rfl
 replace h0 := cF h0 q3
 refine AC.skip ?_
 change AC _ _ _ _
 refine AC.seq ?_
 refine AC.sm 1 rfl ?_
 refine AO.op rfl (AOp.lenDs (n := a0.length) (cells := (List.flatMap c0_TImpl_Geom a0)) rfl rfl lb rfl el25 (by decide) (lenN _ 7 c0_TImpl_Geom_len _) ?_)
 refine AO.mn 1 rfl ?_
 obtain ⟨o4, l5, h0⟩ := bind_elim h0
 refine AC.joinE (V := Unit) [] [] 0 (fun g6 => []) (fun g6 => []) (fun g6 => p_gGood_k1 g6 = some r0) rfl ?_ ?_
 ·refine AC.block ?_
  refine AC.loopP (V := Int) (p_gGood_l2 a0 F) o4 [8, 9] [10] 0 (fun g7 => [(10, .d (di .i64 g7))]) (fun g7 => []) F (0 : Int) l5 rfl rfl (LeL.refl _) rfl rfl ?_
  intro n9 g7 h1
  unfold p_gGood_l2 at h1
  refine AC.sr ?_
  refine AO.op rfl (AOp.ilss rfl rfl lb rfl rfl ?_)
  refine AO.nS ?_
  refine AC.seq ?_
  refine AC.cond rfl (fun q10 => ?_) (fun q10 => ?_)
  ·replace h1 := cT h1 q10
   refine AC.skip ?_
   change AC _ _ _ _
   refine AC.seq ?_
   refine AC.block ?_
   refine AC.sr ?_
   obtain ⟨x11, q12, h1⟩ := idx_elim h1
   refine AO.op rfl (AOp.indexDs (cells := (List.flatMap c0_TImpl_Geom a0)) rfl rfl lb rfl rfl el25 (by decide) q12.1 (ltN 7 c0_TImpl_Geom_len (by decide) q12.2) ?_)
   refine AO.op rfl (AOp.loadEpN rfl rfl lb rfl agg27 size27 (leN 7 c0_TImpl_Geom_len q12.2) ((atN 7 c0_TImpl_Geom_len q12.2).trans (c0_TImpl_Geom_eq x11)) ?_)
   refine AO.op rfl (AOp.alloc rfl rfl lb zero27 rfl ?_)
   refine AO.op rfl (AOp.store rfl rfl rfl rfl size27 rfl rfl rfl (leb rfl) ?_)
   refine AO.nS ?_
   refine AC.sr ?_
   refine AO.op rfl (AOp.loadN rfl rfl lb rfl agg27 size27 rfl (leb rfl) rfl ?_)
   obtain ⟨y13, q14, h1⟩ := bind_elim h1
   refine AO.op rfl (AOp.callD rfl rfl lb rfl rfl (w_Good F x11 y13 q14) ?_)
   rintro _ rfl
   refine AO.op rfl (AOp.bnot rfl rfl lb rfl ?_)
   refine AO.nS ?_
   refine AC.cond rfl (fun q15 => ?_) (fun q15 => ?_)
   ·replace h1 := cT h1 q15
    refine AC.smn 1 rfl ?_
    refine AC.ret ?_
    change RetQ _ _ _ .ret _
    obtain rfl := Option.some.inj h1
    replace h0 := aftR h0
    obtain rfl := Option.some.inj h0
    refine retq rfl rfl
   replace h1 := cF h1 q15
   refine AC.skip ?_
   change AC _ _ _ _
   refine AC.region ?_
   obtain ⟨q16, h1⟩ := need_elim h1
   refine AO.op rfl (AOp.iadd rfl rfl lb rfl rfl rfl q16.1 q16.2 ?_)
   refine AO.mv 1 rfl ?_
   refine AO.nil ?_
   exact ⟨(g7 + (1 : Int)), _, rfl, (LeL.refl _), rfl, rfl, h1⟩
  replace h1 := cF h1 q10
  refine AC.exit ?_
  obtain rfl := Option.some.inj h1
  exact ⟨(), _, rfl, (LeL.refl _), rfl, rfl, aftL h0⟩
 intro g6 h0
 unfold p_gGood_k1 at h0
 change AC _ _ _ _
 refine AC.smn 1 rfl ?_
 refine AC.ret ?_
 change RetQ _ _ _ .ret _
 obtain rfl := Option.some.inj h0
 refine retq rfl rfl

set_option maxRecDepth 100000 in
set_option maxHeartbeats 4000000 in
theorem w_gNumber (a0 : Nat) (r0 : Bool) (h0 : p_gNumber a0 = some r0) : FnD Tryz.prog 15 [dfl a0] (fun r => r = dbool r0) := by
 refine FnD.of (by kernel_rfl) Tryz.func15 rfl Tryz.ntmps15 rfl (leb rfl) fun W ok => ?_
 unfold p_gNumber at h0
 refine AC.smn 1 rfl ?_
 refine AC.sm 2 rfl ?_
 refine AO.op rfl (AOp.feql rfl rfl lb rfl rfl ?_)
 refine AO.mn 1 rfl ?_
 refine AC.ret ?_
 change RetQ _ _ _ .ret _
 obtain rfl := Option.some.inj h0
 refine retq rfl rfl

set_option maxRecDepth 100000 in
set_option maxHeartbeats 4000000 in
theorem w_gEach_b (Rec_ : TImpl_Geom → Option Bool) (hR : ∀ (a0 : TImpl_Geom) (r0 : Bool), Rec_ a0 = some r0 → FnD Tryz.prog 14 [e_TImpl_Geom a0, .v (.func (.func 15) #[] #[])] (fun r => r = dbool r0)) (F : Nat) (a0 : TImpl_Geom) (r0 : Bool) (h0 : p_gEach_b Rec_ F a0 = some r0) : FnD Tryz.prog 14 [e_TImpl_Geom a0, .v (.func (.func 15) #[] #[])] (fun r => r = dbool r0) := by
 refine FnD.of (by kernel_rfl) Tryz.func14 rfl Tryz.ntmps14 rfl (leb rfl) fun W ok => ?_
 unfold p_gEach_b at h0
 refine AC.sr ?_
 refine AO.op rfl (AOp.box rfl rfl lb rfl rfl ?_)
 refine AO.mn 1 rfl ?_
 refine AC.seq ?_
 refine AC.sr ?_
 refine AO.op rfl (AOp.fieldAddr rfl rfl lb rfl fo27_3 ?_)
 refine AO.op rfl (AOp.load1 rfl rfl lb rfl agg22 rfl rfl ?_)
 refine AO.op rfl (AOp.lenDs (n := a0.Flat.length) (cells := (List.map keS1 a0.Flat)) rfl rfl lb rfl el22 (by decide) (len1 _ _) ?_)
 refine AO.mn 1 rfl ?_
 obtain ⟨o1, l2, h0⟩ := bind_elim h0
 refine AC.joinE (V := Unit) [1, 2] [] 1 (fun g3 => []) (fun g3 => [.fix 27 [.d (di .i64 a0.Kind), .d (di .i64 a0.Layout), .d (di .i64 a0.SRID), .d (eS1 a0.Flat), .d (eS2 a0.Ends), .d (eS3 a0.Endss), .d (eS0 a0.Kids)]]) (fun g3 => (p_gEach_k1 a0 F Rec_) g3 = some r0) rfl ?_ ?_
 ·refine AC.block ?_
  refine AC.loopP (V := Int) (p_gEach_l4 a0) o1 [1, 2, 10, 11] [12] 1 (fun g17 => [(12, .d (di .i64 g17))]) (fun g17 => [.fix 27 [.d (di .i64 a0.Kind), .d (di .i64 a0.Layout), .d (di .i64 a0.SRID), .d (eS1 a0.Flat), .d (eS2 a0.Ends), .d (eS3 a0.Endss), .d (eS0 a0.Kids)]]) F (0 : Int) l2 rfl rfl (LeL.refl _) rfl rfl ?_
  intro n19 g17 h1
  unfold p_gEach_l4 at h1
  refine AC.sr ?_
  refine AO.op rfl (AOp.ilss rfl rfl lb rfl rfl ?_)
  refine AO.nS ?_
  refine AC.seq ?_
  refine AC.cond rfl (fun q20 => ?_) (fun q20 => ?_)
  ·replace h1 := cT h1 q20
   refine AC.skip ?_
   change AC _ _ _ _
   refine AC.seq ?_
   refine AC.block ?_
   refine AC.sr ?_
   obtain ⟨x21, q22, h1⟩ := idx_elim h1
   refine AO.op rfl (AOp.indexDs (cells := (List.map keS1 a0.Flat)) rfl rfl lb rfl rfl el22 (by decide) q22.1 (lt1 q22.2) ?_)
   refine AO.op rfl (AOp.loadEp rfl rfl lb rfl agg60 (at1 q22.2) ?_)
   refine AO.mn 1 rfl ?_
   refine AC.sm 2 rfl ?_
   obtain ⟨y23, q24, h1⟩ := bind_elim h1
   refine AO.op rfl (AOp.callF rfl rfl lb rfl rfl rfl (w_gNumber x21 y23 q24) ?_)
   rintro _ rfl
   refine AO.op rfl (AOp.bnot rfl rfl lb rfl ?_)
   refine AO.nS ?_
   refine AC.cond rfl (fun q25 => ?_) (fun q25 => ?_)
   ·replace h1 := cT h1 q25
    refine AC.smn 1 rfl ?_
    refine AC.ret ?_
    change RetQ _ _ _ .ret _
    obtain rfl := Option.some.inj h1
    replace h0 := aftR h0
    obtain rfl := Option.some.inj h0
    refine retq rfl rfl
   replace h1 := cF h1 q25
   refine AC.skip ?_
   change AC _ _ _ _
   refine AC.region ?_
   obtain ⟨q26, h1⟩ := need_elim h1
   refine AO.op rfl (AOp.iadd rfl rfl lb rfl rfl rfl q26.1 q26.2 ?_)
   refine AO.mv 1 rfl ?_
   refine AO.nil ?_
   exact ⟨(g17 + (1 : Int)), _, rfl, (LeL.refl _), rfl, rfl, h1⟩
  replace h1 := cF h1 q20
  refine AC.exit ?_
  obtain rfl := Option.some.inj h1
  exact ⟨(), _, rfl, (LeL.refl _), rfl, rfl, aftL h0⟩
 intro g3 h0
 unfold p_gEach_k1 at h0
 change AC _ _ _ _
 refine AC.seq ?_
 refine AC.sr ?_
 refine AO.op rfl (AOp.fieldAddr rfl rfl lb rfl fo27_6 ?_)
 refine AO.op rfl (AOp.load1 rfl rfl lb rfl agg25 rfl rfl ?_)
 refine AO.op rfl (AOp.lenDs (n := a0.Kids.length) (cells := (List.flatMap c0_TImpl_Geom a0.Kids)) rfl rfl lb rfl el25 (by decide) (lenN _ 7 c0_TImpl_Geom_len _) ?_)
 refine AO.mn 1 rfl ?_
 obtain ⟨o4, l5, h0⟩ := bind_elim h0
 refine AC.joinE (V := Unit) [] [] 1 (fun g6 => []) (fun g6 => [.fix 27 [.d (di .i64 a0.Kind), .d (di .i64 a0.Layout), .d (di .i64 a0.SRID), .d (eS1 a0.Flat), .d (eS2 a0.Ends), .d (eS3 a0.Endss), .d (eS0 a0.Kids)]]) (fun g6 => p_gEach_k2 g6 = some r0) rfl ?_ ?_
 ·refine AC.block ?_
  refine AC.loopP (V := Int) (p_gEach_l3 a0 Rec_) o4 [1, 22, 23] [24] 1 (fun g7 => [(24, .d (di .i64 g7))]) (fun g7 => [.fix 27 [.d (di .i64 a0.Kind), .d (di .i64 a0.Layout), .d (di .i64 a0.SRID), .d (eS1 a0.Flat), .d (eS2 a0.Ends), .d (eS3 a0.Endss), .d (eS0 a0.Kids)]]) F (0 : Int) l5 rfl rfl (LeL.refl _) rfl rfl ?_
  intro n9 g7 h1
  unfold p_gEach_l3 at h1
  refine AC.sr ?_
  refine AO.op rfl (AOp.ilss rfl rfl lb rfl rfl ?_)
  refine AO.nS ?_
  refine AC.seq ?_
  refine AC.cond rfl (fun q10 => ?_) (fun q10 => ?_)
  ·replace h1 := cT h1 q10
   refine AC.skip ?_
   change AC _ _ _ _
   refine AC.seq ?_
   refine AC.block ?_
   refine AC.sr ?_
   obtain ⟨x11, q12, h1⟩ := idx_elim h1
   refine AO.op rfl (AOp.indexDs (cells := (List.flatMap c0_TImpl_Geom a0.Kids)) rfl rfl lb rfl rfl el25 (by decide) q12.1 (ltN 7 c0_TImpl_Geom_len (by decide) q12.2) ?_)
   refine AO.op rfl (AOp.loadEpN rfl rfl lb rfl agg27 size27 (leN 7 c0_TImpl_Geom_len q12.2) ((atN 7 c0_TImpl_Geom_len q12.2).trans (c0_TImpl_Geom_eq x11)) ?_)
   refine AO.op rfl (AOp.alloc rfl rfl lb zero27 rfl ?_)
   refine AO.op rfl (AOp.store rfl rfl rfl rfl size27 rfl rfl rfl (leb rfl) ?_)
   refine AO.nS ?_
   refine AC.sr ?_
   refine AO.op rfl (AOp.loadN rfl rfl lb rfl agg27 size27 rfl (leb rfl) rfl ?_)
   refine AO.mv 1 rfl ?_
   obtain ⟨y13, q14, h1⟩ := bind_elim h1
   refine AO.op rfl (AOp.callD rfl rfl lb rfl rfl (hR x11 y13 q14) ?_)
   rintro _ rfl
   refine AO.op rfl (AOp.bnot rfl rfl lb rfl ?_)
   refine AO.nS ?_
   refine AC.cond rfl (fun q15 => ?_) (fun q15 => ?_)
   ·replace h1 := cT h1 q15
    refine AC.smn 1 rfl ?_
    refine AC.ret ?_
    change RetQ _ _ _ .ret _
    obtain rfl := Option.some.inj h1
    replace h0 := aftR h0
    obtain rfl := Option.some.inj h0
    refine retq rfl rfl
   replace h1 := cF h1 q15
   refine AC.skip ?_
   change AC _ _ _ _
   refine AC.region ?_
   obtain ⟨q16, h1⟩ := need_elim h1
   refine AO.op rfl (AOp.iadd rfl rfl lb rfl rfl rfl q16.1 q16.2 ?_)
   refine AO.mv 1 rfl ?_
   refine AO.nil ?_
   exact ⟨(g7 + (1 : Int)), _, rfl, (LeL.refl _), rfl, rfl, h1⟩
  replace h1 := cF h1 q10
  refine AC.exit ?_
  obtain rfl := Option.some.inj h1
  exact ⟨(), _, rfl, (LeL.refl _), rfl, rfl, aftL h0⟩
 intro g6 h0
 unfold p_gEach_k2 at h0
 change AC _ _ _ _
 refine AC.smn 1 rfl ?_
 refine AC.ret ?_
 change RetQ _ _ _ .ret _
 obtain rfl := Option.some.inj h0
 refine retq rfl rfl
theorem w_gEach : ∀ (F : Nat) (a0 : TImpl_Geom) (r0 : Bool), p_gEach F a0 = some r0 → FnD Tryz.prog 14 [e_TImpl_Geom a0, .v (.func (.func 15) #[] #[])] (fun r => r = dbool r0)
 | 0, _, _, h => by cases h
 | F + 1, a0, r0, h => w_gEach_b _ (fun a0 r0 h => w_gEach F a0 r0 h) F a0 r0 h

set_option maxRecDepth 100000 in
set_option maxHeartbeats 4000000 in
theorem w_yRing_b (Rec_ : TImpl_Geom → Option Bool) (hR : ∀ (a0 : TImpl_Geom) (r0 : Bool), Rec_ a0 = some r0 → FnD Tryz.prog 16 [e_TImpl_Geom a0] (fun r => r = dbool r0)) (F : Nat) (a0 : TImpl_Geom) (r0 : Bool) (h0 : p_yRing_b Rec_ F a0 = some r0) : FnD Tryz.prog 16 [e_TImpl_Geom a0] (fun r => r = dbool r0) := by
 refine FnD.of (by kernel_rfl) Tryz.func16 rfl Tryz.ntmps16 rfl (leb rfl) fun W ok => ?_
 unfold p_yRing_b at h0
 refine AC.sr ?_
 refine AO.op rfl (AOp.box rfl rfl lb rfl rfl ?_)
 refine AO.mn 1 rfl ?_
 refine AC.seq ?_
 refine AC.sr ?_
 refine AO.op rfl (AOp.fieldAddr rfl rfl lb rfl fo27_6 ?_)
 refine AO.op rfl (AOp.load1 rfl rfl lb rfl agg25 rfl rfl ?_)
 refine AO.op rfl (AOp.lenDs (n := a0.Kids.length) (cells := (List.flatMap c0_TImpl_Geom a0.Kids)) rfl rfl lb rfl el25 (by decide) (lenN _ 7 c0_TImpl_Geom_len _) ?_)
 refine AO.mn 1 rfl ?_
 obtain ⟨o1, l2, h0⟩ := bind_elim h0
 refine AC.joinE (V := Unit) [1] [] 1 (fun g3 => []) (fun g3 => [.fix 27 [.d (di .i64 a0.Kind), .d (di .i64 a0.Layout), .d (di .i64 a0.SRID), .d (eS1 a0.Flat), .d (eS2 a0.Ends), .d (eS3 a0.Endss), .d (eS0 a0.Kids)]]) (fun g3 => (p_yRing_k1 a0) g3 = some r0) rfl ?_ ?_
 ·refine AC.block ?_
  refine AC.loopP (V := Int) (p_yRing_l2 a0 Rec_) o1 [1, 6, 7] [8] 1 (fun g4 => [(8, .d (di .i64 g4))]) (fun g4 => [.fix 27 [.d (di .i64 a0.Kind), .d (di .i64 a0.Layout), .d (di .i64 a0.SRID), .d (eS1 a0.Flat), .d (eS2 a0.Ends), .d (eS3 a0.Endss), .d (eS0 a0.Kids)]]) F (0 : Int) l2 rfl rfl (LeL.refl _) rfl rfl ?_
  intro n6 g4 h1
  unfold p_yRing_l2 at h1
  refine AC.sr ?_
  refine AO.op rfl (AOp.ilss rfl rfl lb rfl rfl ?_)
  refine AO.nS ?_
  refine AC.seq ?_
  refine AC.cond rfl (fun q7 => ?_) (fun q7 => ?_)
  ·replace h1 := cT h1 q7
   refine AC.skip ?_
   change AC _ _ _ _
   refine AC.seq ?_
   refine AC.block ?_
   refine AC.sr ?_
   obtain ⟨x8, q9, h1⟩ := idx_elim h1
   refine AO.op rfl (AOp.indexDs (cells := (List.flatMap c0_TImpl_Geom a0.Kids)) rfl rfl lb rfl rfl el25 (by decide) q9.1 (ltN 7 c0_TImpl_Geom_len (by decide) q9.2) ?_)
   refine AO.op rfl (AOp.loadEpN rfl rfl lb rfl agg27 size27 (leN 7 c0_TImpl_Geom_len q9.2) ((atN 7 c0_TImpl_Geom_len q9.2).trans (c0_TImpl_Geom_eq x8)) ?_)
   refine AO.op rfl (AOp.alloc rfl rfl lb zero27 rfl ?_)
   refine AO.op rfl (AOp.store rfl rfl rfl rfl size27 rfl rfl rfl (leb rfl) ?_)
   refine AO.nS ?_
   refine AC.sr ?_
   refine AO.op rfl (AOp.loadN rfl rfl lb rfl agg27 size27 rfl (leb rfl) rfl ?_)
   obtain ⟨y10, q11, h1⟩ := bind_elim h1
   refine AO.op rfl (AOp.callD rfl rfl lb rfl rfl (hR x8 y10 q11) ?_)
   rintro _ rfl
   refine AO.nS ?_
   refine AC.cond rfl (fun q12 => ?_) (fun q12 => ?_)
   ·replace h1 := cT h1 q12
    refine AC.smn 1 rfl ?_
    refine AC.ret ?_
    change RetQ _ _ _ .ret _
    obtain rfl := Option.some.inj h1
    replace h0 := aftR h0
    obtain rfl := Option.some.inj h0
    refine retq rfl rfl
   replace h1 := cF h1 q12
   refine AC.skip ?_
   change AC _ _ _ _
   refine AC.region ?_
   obtain ⟨q13, h1⟩ := need_elim h1
   refine AO.op rfl (AOp.iadd rfl rfl lb rfl rfl rfl q13.1 q13.2 ?_)
   refine AO.mv 1 rfl ?_
   refine AO.nil ?_
   exact ⟨(g4 + (1 : Int)), _, rfl, (LeL.refl _), rfl, rfl, h1⟩
  replace h1 := cF h1 q7
  refine AC.exit ?_
  obtain rfl := Option.some.inj h1
  exact ⟨(), _, rfl, (LeL.refl _), rfl, rfl, aftL h0⟩
 intro g3 h0
 unfold p_yRing_k1 at h0
 change AC _ _ _ _
 refine AC.sr ?_
 refine AO.op rfl (AOp.fieldAddr rfl rfl lb rfl fo27_0 ?_)
 refine AO.op rfl (AOp.load1 rfl rfl lb rfl agg3 rfl rfl ?_)
 refine AO.op rfl (AOp.ieql rfl rfl lb rfl rfl ?_)
 refine AO.mn 1 rfl ?_
 refine AC.ret ?_
 change RetQ _ _ _ .ret _
 obtain rfl := Option.some.inj h0
 refine retq rfl rfl
theorem w_yRing : ∀ (F : Nat) (a0 : TImpl_Geom) (r0 : Bool), p_yRing F a0 = some r0 → FnD Tryz.prog 16 [e_TImpl_Geom a0] (fun r => r = dbool r0)
 | 0, _, _, h => by cases h
 | F + 1, a0, r0, h => w_yRing_b _ (fun a0 r0 h => w_yRing F a0 r0 h) F a0 r0 h

set_option maxRecDepth 100000 in
set_option maxHeartbeats 4000000 in
theorem w_yWritten (F : Nat) (a0 : TImpl_Geom) (r0 : Bool) (h0 : p_yWritten F a0 = some r0) : FnD Tryz.prog 5 [e_TImpl_Geom a0] (fun r => r = dbool r0) := by
 refine FnD.of (by kernel_rfl) Tryz.func5 rfl Tryz.ntmps5 rfl (leb rfl) fun W ok => ?_
 unfold p_yWritten at h0
 refine AC.sr ?_
 refine AO.op rfl (AOp.box rfl rfl lb rfl rfl ?_)
 refine AO.mn 1 rfl ?_
 refine AC.sr ?_
 refine AO.op rfl (AOp.loadN rfl rfl lb rfl agg27 size27 rfl (leb rfl) rfl ?_)
 refine AO.op rfl (AOp.buildSliceD rfl rfl lb el25 zero27 rfl (leb rfl) rfl rfl rfl rfl (AO.top (y := .d (eS0 [a0])) (SVLe.of_eq (by simp only [eS0, List.flatMap_cons, List.flatMap_nil, c0_TImpl_Geom_eq, List.append_nil] <;> rfl)) ?_))
 obtain ⟨y1, q2, h0⟩ := bind_elim h0
 refine AO.op rfl (AOp.callD rfl rfl lb rfl rfl (w_gGood F [a0] y1 q2) ?_)
 rintro _ rfl
 refine AO.mv 1 rfl ?_
 refine AO.dec y1 (fun q3 => ?_) (fun q3 => ?_)
 ·replace h0 := cT h0 q3
  refine AO.guardY rfl rfl rfl q3 (AOp.loadN rfl rfl lb rfl agg27 size27 rfl (leb rfl) rfl ?_)
  obtain ⟨y4, q5, h0⟩ := bind_elim h0
  refine AO.guardY rfl rfl rfl q3 (AOp.callD rfl rfl lb rfl rfl (w_gLayouts F a0 (4 : Int) y4 q5) ?_)
  rintro _ rfl
  refine AO.op rfl (AOp.pick rfl rfl lb rfl q3 rfl ?_)
  refine AO.mv 1 rfl ?_
  refine AO.dec y4 (fun q6 => ?_) (fun q6 => ?_)
  ·replace h0 := cT h0 q6
   refine AO.guardY rfl rfl rfl q6 (AOp.loadN rfl rfl lb rfl agg27 size27 rfl (leb rfl) rfl ?_)
   obtain ⟨y7, q8, h0⟩ := bind_elim h0
   refine AO.guardY rfl rfl rfl q6 (AOp.callD rfl rfl lb rfl rfl (w_gEach F a0 y7 q8) ?_)
   rintro _ rfl
   refine AO.op rfl (AOp.pick rfl rfl lb rfl q6 rfl ?_)
   refine AO.mv 1 rfl ?_
   refine AO.dec y7 (fun q9 => ?_) (fun q9 => ?_)
   ·replace h0 := cT h0 q9
    refine AO.guardY rfl rfl rfl q9 (AOp.loadN rfl rfl lb rfl agg27 size27 rfl (leb rfl) rfl ?_)
    obtain ⟨y10, q11, h0⟩ := bind_elim h0
    refine AO.guardY rfl rfl rfl q9 (AOp.callD rfl rfl lb rfl rfl (w_yRing F a0 y10 q11) ?_)
    rintro _ rfl
    refine AO.guardY rfl rfl rfl q9 (AOp.bnot rfl rfl lb rfl ?_)
    refine AO.op rfl (AOp.pick rfl rfl lb rfl q9 rfl ?_)
    refine AO.mn 1 rfl ?_
    refine AC.ret ?_
    change RetQ _ _ _ .ret _
    obtain rfl := Option.some.inj h0
    refine retq rfl rfl
   replace h0 := cF h0 q9
   refine AO.guardN rfl rfl rfl lb rfl q9 ?_
   refine AO.guardN rfl rfl rfl lb rfl q9 ?_
   refine AO.guardN rfl rfl rfl lb rfl q9 ?_
   refine AO.op rfl (AOp.pickN rfl rfl lb rfl q9 rfl ?_)
   refine AO.mn 1 rfl ?_
   refine AC.ret ?_
   change RetQ _ _ _ .ret _
   obtain rfl := Option.some.inj h0
   refine retq rfl rfl
  replace h0 := cF h0 q6
  refine AO.guardN rfl rfl rfl lb rfl q6 ?_
  refine AO.guardN rfl rfl rfl lb rfl q6 ?_
  refine AO.op rfl (AOp.pickN rfl rfl lb rfl q6 rfl ?_)
  refine AO.mv 1 rfl ?_
  refine AO.guardN rfl rfl rfl lb rfl rfl ?_
  refine AO.guardN rfl rfl rfl lb rfl rfl ?_
  refine AO.guardN rfl rfl rfl lb rfl rfl ?_
  refine AO.op rfl (AOp.pickN rfl rfl lb rfl rfl rfl ?_)
  refine AO.mn 1 rfl ?_
  refine AC.ret ?_
  change RetQ _ _ _ .ret _
  obtain rfl := Option.some.inj h0
  refine retq rfl rfl
 replace h0 := cF h0 q3
 refine AO.guardN rfl rfl rfl lb rfl q3 ?_
 refine AO.guardN rfl rfl rfl lb rfl q3 ?_
 refine AO.op rfl (AOp.pickN rfl rfl lb rfl q3 rfl ?_)
 refine AO.mv 1 rfl ?_
 refine AO.guardN rfl rfl rfl lb rfl rfl ?_
 refine AO.guardN rfl rfl rfl lb rfl rfl ?_
 refine AO.op rfl (AOp.pickN rfl rfl lb rfl rfl rfl ?_)
 refine AO.mv 1 rfl ?_
 refine AO.guardN rfl rfl rfl lb rfl rfl ?_
 refine AO.guardN rfl rfl rfl lb rfl rfl ?_
 refine AO.guardN rfl rfl rfl lb rfl rfl ?_
 refine AO.op rfl (AOp.pickN rfl rfl lb rfl rfl rfl ?_)
 refine AO.mn 1 rfl ?_
 refine AC.ret ?_
 change RetQ _ _ _ .ret _
 obtain rfl := Option.some.inj h0
 refine retq rfl rfl

set_option maxRecDepth 100000 in
set_option maxHeartbeats 4000000 in
theorem w_yNoSRID_b (Rec_ : TImpl_Geom → Option TImpl_Geom) (hR : ∀ (a0 : TImpl_Geom) (r0 : TImpl_Geom), Rec_ a0 = some r0 → FnD Tryz.prog 6 [e_TImpl_Geom a0] (fun r => r = e_TImpl_Geom r0)) (F : Nat) (a0 : TImpl_Geom) (r0 : TImpl_Geom) (h0 : p_yNoSRID_b Rec_ F a0 = some r0) : FnD Tryz.prog 6 [e_TImpl_Geom a0] (fun r => r = e_TImpl_Geom r0) := by
 refine FnD.of (by kernel_rfl) Tryz.func6 rfl Tryz.ntmps6 rfl (leb rfl) fun W ok => ?_
 unfold p_yNoSRID_b at h0
 refine AC.sr ?_
 refine AO.op rfl (AOp.box rfl rfl lb rfl rfl ?_)
 refine AO.op rfl (AOp.alloc rfl rfl lb zero27 rfl ?_)
 refine AO.nS ?_
 refine AC.sr ?_
 refine AO.op rfl (AOp.fieldAddr rfl rfl lb rfl fo27_2 ?_)
 refine AO.op rfl (AOp.store rfl rfl rfl rfl size3 rfl rfl rfl (leb rfl) ?_)
 refine AO.nS ?_
 refine AC.smn 1 rfl ?_
 refine AC.seq ?_
 refine AC.sr ?_
 refine AO.op rfl (AOp.fieldAddr rfl rfl lb rfl fo27_6 ?_)
 refine AO.op rfl (AOp.load1 rfl rfl lb rfl agg25 rfl rfl ?_)
 refine AO.op rfl (AOp.lenDs (n := a0.Kids.length) (cells := (List.flatMap c0_TImpl_Geom a0.Kids)) rfl rfl lb rfl el25 (by decide) (lenN _ 7 c0_TImpl_Geom_len _) ?_)
 refine AO.mn 1 rfl ?_
 refine AC.adopt 3 27 7 rfl ?_
 obtain ⟨o1, l2, h0⟩ := bind_elim h0
 refine AC.joinE (V := (List TImpl_Geom)) [1, 2] [3] 3 (fun g3 => [(3, .own 2)]) (fun g3 => [.fix 27 [.d (di .i64 a0.Kind), .d (di .i64 a0.Layout), .d (di .i64 (0 : Int)), .d (eS1 a0.Flat), .d (eS2 a0.Ends), .d (eS3 a0.Endss), .d (eS0 a0.Kids)], .fix 27 [.d (di .i64 (0 : Int)), .d (di .i64 (0 : Int)), .d (di .i64 (0 : Int)), .d (.v (.slice none 0 0)), .d (.v (.slice none 0 0)), .d (.v (.slice none 0 0)), .d (.v (.slice none 0 0))], .grow 27 7 (List.flatMap c0_TImpl_Geom g3)]) (fun g3 => (p_yNoSRID_k1 a0) g3 = some r0) rfl ?_ ?_
 ·refine AC.block ?_
  refine AC.loopP (V := (Int × (List TImpl_Geom))) (p_yNoSRID_l2 a0 Rec_) o1 [1, 2, 8, 9] [3, 10] 3 (fun g4 => [(3, .own 2), (10, .d (di .i64 g4.1))]) (fun g4 => [.fix 27 [.d (di .i64 a0.Kind), .d (di .i64 a0.Layout), .d (di .i64 (0 : Int)), .d (eS1 a0.Flat), .d (eS2 a0.Ends), .d (eS3 a0.Endss), .d (eS0 a0.Kids)], .fix 27 [.d (di .i64 (0 : Int)), .d (di .i64 (0 : Int)), .d (di .i64 (0 : Int)), .d (.v (.slice none 0 0)), .d (.v (.slice none 0 0)), .d (.v (.slice none 0 0)), .d (.v (.slice none 0 0))], .grow 27 7 (List.flatMap c0_TImpl_Geom g4.2)]) F ((0 : Int), []) l2 rfl rfl (LeL.refl _) rfl rfl ?_
  intro n6 g4 h1
  unfold p_yNoSRID_l2 at h1
  refine AC.sr ?_
  refine AO.op rfl (AOp.ilss rfl rfl lb rfl rfl ?_)
  refine AO.nS ?_
  refine AC.seq ?_
  refine AC.cond rfl (fun q7 => ?_) (fun q7 => ?_)
  ·replace h1 := cT h1 q7
   refine AC.skip ?_
   change AC _ _ _ _
   refine AC.seq ?_
   refine AC.block ?_
   refine AC.sr ?_
   obtain ⟨x8, q9, h1⟩ := idx_elim h1
   refine AO.op rfl (AOp.indexDs (cells := (List.flatMap c0_TImpl_Geom a0.Kids)) rfl rfl lb rfl rfl el25 (by decide) q9.1 (ltN 7 c0_TImpl_Geom_len (by decide) q9.2) ?_)
   refine AO.op rfl (AOp.loadEpN rfl rfl lb rfl agg27 size27 (leN 7 c0_TImpl_Geom_len q9.2) ((atN 7 c0_TImpl_Geom_len q9.2).trans (c0_TImpl_Geom_eq x8)) ?_)
   refine AO.op rfl (AOp.alloc rfl rfl lb zero27 rfl ?_)
   refine AO.op rfl (AOp.store rfl rfl rfl rfl size27 rfl rfl rfl (leb rfl) ?_)
   refine AO.nS ?_
   refine AC.region ?_
   refine AO.mv 1 rfl ?_
   refine AO.op rfl (AOp.loadN rfl rfl lb rfl agg27 size27 rfl (leb rfl) rfl ?_)
   obtain ⟨y10, q11, h1⟩ := bind_elim h1
   refine AO.op rfl (AOp.callD rfl rfl lb rfl rfl (hR x8 y10 q11) ?_)
   rintro _ rfl
   refine AO.op rfl (AOp.buildSliceD rfl rfl lb el25 zero27 rfl (leb rfl) rfl rfl rfl rfl (AO.top (y := .d (eS0 [y10])) (SVLe.of_eq (by simp only [eS0, List.flatMap_cons, List.flatMap_nil, c0_TImpl_Geom_eq, List.append_nil] <;> rfl)) ?_))
   obtain ⟨q12, h1⟩ := need_elim h1
   refine AO.op rfl (AOp.appendOwn' (p := 2) (n := g4.2.length) (m := [y10].length) (news := (List.flatMap c0_TImpl_Geom [y10])) rfl rfl lb rfl rfl el25 info27 rfl (by decide) rfl (lenN _ 7 c0_TImpl_Geom_len _) (lenN _ 7 c0_TImpl_Geom_len _) (oneN _ c0_TImpl_Geom_one _) q12 (by decide) rfl rfl (catN _ _ _) ?_)
   refine AO.mv 1 rfl ?_
   refine AO.nil (?_ : AC _ _ _ _)
   refine AC.region ?_
   obtain ⟨q13, h1⟩ := need_elim h1
   refine AO.op rfl (AOp.iadd rfl rfl lb rfl rfl rfl q13.1 q13.2 ?_)
   refine AO.mv 1 rfl ?_
   refine AO.nil ?_
   exact ⟨((g4.1 + (1 : Int)), (g4.2 ++ [y10])), _, rfl, (LeL.refl _), rfl, rfl, h1⟩
  replace h1 := cF h1 q7
  refine AC.exit ?_
  obtain rfl := Option.some.inj h1
  exact ⟨g4.2, _, rfl, (LeL.refl _), rfl, rfl, aftL h0⟩
 intro g3 h0
 unfold p_yNoSRID_k1 at h0
 change AC _ _ _ _
 refine AC.sm 1 rfl ?_
 refine AO.op rfl (AOp.fieldAddr rfl rfl lb rfl fo27_6 ?_)
 refine AO.op rfl (AOp.storeOwn rfl rfl rfl rfl rfl rfl size25 rfl rfl (leb rfl) ?_)
 refine AO.nS ?_
 refine AC.sr ?_
 refine AO.op rfl (AOp.loadN rfl rfl lb rfl agg27 size27 rfl (leb rfl) rfl ?_)
 refine AO.subO 0 rfl (.cons (SVLe.refl _) (.cons (SVLe.refl _) (.cons (SVLe.refl _) (.cons (SVLe.refl _) (.cons (SVLe.refl _) (.cons (SVLe.refl _) (.cons (SVLe.any _) .nil))))))) ?_
 refine AO.freezeG 2 rfl rfl rfl ?_
 refine AO.op rfl (AOp.store rfl rfl rfl rfl size27 rfl rfl rfl (leb rfl) ?_)
 refine AO.nS ?_
 refine AC.ret ?_
 change RetQ _ _ _ .ret _
 obtain rfl := Option.some.inj h0
 refine retq rfl rfl
theorem w_yNoSRID : ∀ (F : Nat) (a0 : TImpl_Geom) (r0 : TImpl_Geom), p_yNoSRID F a0 = some r0 → FnD Tryz.prog 6 [e_TImpl_Geom a0] (fun r => r = e_TImpl_Geom r0)
 | 0, _, _, h => by cases h
 | F + 1, a0, r0, h => w_yNoSRID_b _ (fun a0 r0 h => w_yNoSRID F a0 r0 h) F a0 r0 h

set_option maxRecDepth 100000 in
set_option maxHeartbeats 4000000 in
theorem w_floats (a0 : (List Nat)) (r0 : (List Nat)) (h0 : p_floats a0 = some r0) : FnD Tryz.prog 29 [eS1 a0] (fun r => r = eS1 r0) := by
 refine FnD.of (by kernel_rfl) Tryz.func29 rfl Tryz.ntmps29 rfl (leb rfl) fun W ok => ?_
 unfold p_floats at h0
 refine AC.smn 1 rfl ?_
 refine AC.sm 1 rfl ?_
 obtain ⟨q1, h0⟩ := need_elim h0
 refine AO.op rfl (AOp.appendNil (m := a0.length) (news := (List.map keS1 a0)) rfl rfl lb rfl rfl el22 info60 rfl (by decide) (len1 _ _) (one1 _ (fun _ => rfl) _) (small63 q1) (small q1 (by decide)) ?_)
 refine AO.mn 1 rfl ?_
 refine AC.ret ?_
 change RetQ _ _ _ .ret _
 obtain rfl := Option.some.inj h0
 refine retq rfl rfl

set_option maxRecDepth 100000 in
set_option maxHeartbeats 4000000 in
theorem w_Layout_Stride (a0 : Int) (r0 : Int) (h0 : p_Layout_Stride a0 = some r0) : FnD Tryz.prog 74 [di .i64 a0] (fun r => r = di .i64 r0) := by
 refine FnD.of (by kernel_rfl) Tryz.func74 rfl Tryz.ntmps74 rfl (leb rfl) fun W ok => ?_
 unfold p_Layout_Stride at h0
 refine AC.smn 1 rfl ?_
 refine AC.smn 1 rfl ?_
 refine AC.block ?_
 refine AC.sr ?_
 refine AO.op rfl (AOp.ieql rfl rfl lb rfl rfl ?_)
 refine AO.mn 1 rfl ?_
 refine AC.cond rfl (fun q1 => ?_) (fun q1 => ?_)
 ·replace h0 := cT h0 q1
  refine AC.smn 1 rfl ?_
  refine AC.ret ?_
  change RetQ _ _ _ .ret _
  obtain rfl := Option.some.inj h0
  refine retq rfl rfl
 replace h0 := cF h0 q1
 refine AC.sr ?_
 refine AO.op rfl (AOp.ieql rfl rfl lb rfl rfl ?_)
 refine AO.mn 1 rfl ?_
 refine AC.cond rfl (fun q2 => ?_) (fun q2 => ?_)
 ·replace h0 := cT h0 q2
  refine AC.smn 1 rfl ?_
  refine AC.ret ?_
  change RetQ _ _ _ .ret _
  obtain rfl := Option.some.inj h0
  refine retq rfl rfl
 replace h0 := cF h0 q2
 refine AC.sr ?_
 refine AO.op rfl (AOp.ieql rfl rfl lb rfl rfl ?_)
 refine AO.mn 1 rfl ?_
 refine AC.cond rfl (fun q3 => ?_) (fun q3 => ?_)
 ·replace h0 := cT h0 q3
  refine AC.smn 1 rfl ?_
  refine AC.ret ?_
  change RetQ _ _ _ .ret _
  obtain rfl := Option.some.inj h0
  refine retq rfl rfl
 replace h0 := cF h0 q3
 refine AC.sr ?_
 refine AO.op rfl (AOp.ieql rfl rfl lb rfl rfl ?_)
 refine AO.mn 1 rfl ?_
 refine AC.cond rfl (fun q4 => ?_) (fun q4 => ?_)
 ·replace h0 := cT h0 q4
  refine AC.smn 1 rfl ?_
  refine AC.ret ?_
  change RetQ _ _ _ .ret _
  obtain rfl := Option.some.inj h0
  refine retq rfl rfl
 replace h0 := cF h0 q4
 refine AC.sr ?_
 refine AO.op rfl (AOp.ieql rfl rfl lb rfl rfl ?_)
 refine AO.mn 1 rfl ?_
 refine AC.cond rfl (fun q5 => ?_) (fun q5 => ?_)
 ·replace h0 := cT h0 q5
  refine AC.smn 1 rfl ?_
  refine AC.ret ?_
  change RetQ _ _ _ .ret _
  obtain rfl := Option.some.inj h0
  refine retq rfl rfl
 replace h0 := cF h0 q5
 refine AC.smn 2 rfl ?_
 refine AC.ret ?_
 change RetQ _ _ _ .ret _
 obtain rfl := Option.some.inj h0
 refine retq rfl rfl

set_option maxRecDepth 100000 in
theorem wa_NewPointFlat (a0 : Int) (a1 : (List Nat)) (r0 : TGeom_Point) (h0 : p_NewPointFlat a0 a1 = some r0) : FnA Tryz.prog 30 [di .i64 a0, eS1 a1] 124 (fun r => r = c_TGeom_Point r0) := by
 refine FnA.of (by kernel_rfl) Tryz.func30 rfl Tryz.ntmps30 rfl (leb rfl) fun W ok => ?_
 unfold p_NewPointFlat at h0
 refine AC.smn 1 rfl ?_
 refine AC.sr ?_
 refine AO.op rfl (AOp.alloc rfl rfl lb zero124 rfl ?_)
 refine AO.mn 1 rfl ?_
 refine AC.sm 2 rfl ?_
 refine AO.op rfl (AOp.nilCheck rfl rfl lb rfl rfl ?_)
 refine AO.op rfl (AOp.fieldAddr rfl rfl lb rfl fo124_0 ?_)
 refine AO.op rfl (AOp.fieldAddr rfl rfl lb rfl fo122_0 ?_)
 refine AO.op rfl (AOp.store rfl rfl rfl rfl size65 rfl rfl rfl (leb rfl) ?_)
 refine AO.nS ?_
 refine AC.sm 2 rfl ?_
 obtain ⟨y1, q2, h0⟩ := bind_elim h0
 refine AO.op rfl (AOp.callD rfl rfl lb rfl rfl (w_Layout_Stride a0 y1 q2) ?_)
 rintro _ rfl
 refine AO.op rfl (AOp.nilCheck rfl rfl lb rfl rfl ?_)
 refine AO.op rfl (AOp.fieldAddr rfl rfl lb rfl fo124_0 ?_)
 refine AO.op rfl (AOp.fieldAddr rfl rfl lb rfl fo122_1 ?_)
 refine AO.op rfl (AOp.store rfl rfl rfl rfl size3 rfl rfl rfl (leb rfl) ?_)
 refine AO.nS ?_
 refine AC.sm 2 rfl ?_
 refine AO.op rfl (AOp.nilCheck rfl rfl lb rfl rfl ?_)
 refine AO.op rfl (AOp.fieldAddr rfl rfl lb rfl fo124_0 ?_)
 refine AO.op rfl (AOp.fieldAddr rfl rfl lb rfl fo122_2 ?_)
 refine AO.op rfl (AOp.store rfl rfl rfl rfl size22 rfl rfl rfl (leb rfl) ?_)
 refine AO.nS ?_
 refine AC.smn 2 rfl ?_
 refine AC.ret ?_
 change RetA _ _ _ .ret _
 obtain rfl := Option.some.inj h0
 exact ⟨_, _, _, _, rfl, rfl, rfl, rfl, rfl⟩

set_option maxRecDepth 100000 in
theorem wa_NewLineStringFlat (a0 : Int) (a1 : (List Nat)) (r0 : TGeom_LineString) (h0 : p_NewLineStringFlat a0 a1 = some r0) : FnA Tryz.prog 32 [di .i64 a0, eS1 a1] 131 (fun r => r = c_TGeom_LineString r0) := by
 refine FnA.of (by kernel_rfl) Tryz.func32 rfl Tryz.ntmps32 rfl (leb rfl) fun W ok => ?_
 unfold p_NewLineStringFlat at h0
 refine AC.smn 1 rfl ?_
 refine AC.sr ?_
 refine AO.op rfl (AOp.alloc rfl rfl lb zero131 rfl ?_)
 refine AO.mn 1 rfl ?_
 refine AC.sm 2 rfl ?_
 refine AO.op rfl (AOp.nilCheck rfl rfl lb rfl rfl ?_)
 refine AO.op rfl (AOp.fieldAddr rfl rfl lb rfl fo131_0 ?_)
 refine AO.op rfl (AOp.fieldAddr rfl rfl lb rfl fo129_0 ?_)
 refine AO.op rfl (AOp.fieldAddr rfl rfl lb rfl fo122_0 ?_)
 refine AO.op rfl (AOp.store rfl rfl rfl rfl size65 rfl rfl rfl (leb rfl) ?_)
 refine AO.nS ?_
 refine AC.sm 2 rfl ?_
 obtain ⟨y1, q2, h0⟩ := bind_elim h0
 refine AO.op rfl (AOp.callD rfl rfl lb rfl rfl (w_Layout_Stride a0 y1 q2) ?_)
 rintro _ rfl
 refine AO.op rfl (AOp.nilCheck rfl rfl lb rfl rfl ?_)
 refine AO.op rfl (AOp.fieldAddr rfl rfl lb rfl fo131_0 ?_)
 refine AO.op rfl (AOp.fieldAddr rfl rfl lb rfl fo129_0 ?_)
 refine AO.op rfl (AOp.fieldAddr rfl rfl lb rfl fo122_1 ?_)
 refine AO.op rfl (AOp.store rfl rfl rfl rfl size3 rfl rfl rfl (leb rfl) ?_)
 refine AO.nS ?_
 refine AC.sm 2 rfl ?_
 refine AO.op rfl (AOp.nilCheck rfl rfl lb rfl rfl ?_)
 refine AO.op rfl (AOp.fieldAddr rfl rfl lb rfl fo131_0 ?_)
 refine AO.op rfl (AOp.fieldAddr rfl rfl lb rfl fo129_0 ?_)
 refine AO.op rfl (AOp.fieldAddr rfl rfl lb rfl fo122_2 ?_)
 refine AO.op rfl (AOp.store rfl rfl rfl rfl size22 rfl rfl rfl (leb rfl) ?_)
 refine AO.nS ?_
 refine AC.smn 2 rfl ?_
 refine AC.ret ?_
 change RetA _ _ _ .ret _
 obtain rfl := Option.some.inj h0
 exact ⟨_, _, _, _, rfl, rfl, rfl, rfl, rfl⟩

set_option maxRecDepth 100000 in
theorem wa_NewLinearRingFlat (a0 : Int) (a1 : (List Nat)) (r0 : TGeom_LineString) (h0 : p_NewLinearRingFlat a0 a1 = some r0) : FnA Tryz.prog 34 [di .i64 a0, eS1 a1] 139 (fun r => r = c_TGeom_LineString r0) := by
 refine FnA.of (by kernel_rfl) Tryz.func34 rfl Tryz.ntmps34 rfl (leb rfl) fun W ok => ?_
 unfold p_NewLinearRingFlat at h0
 refine AC.smn 1 rfl ?_
 refine AC.sr ?_
 refine AO.op rfl (AOp.alloc rfl rfl lb zero139 rfl ?_)
 refine AO.mn 1 rfl ?_
 refine AC.sm 2 rfl ?_
 refine AO.op rfl (AOp.nilCheck rfl rfl lb rfl rfl ?_)
 refine AO.op rfl (AOp.fieldAddr rfl rfl lb rfl fo139_0 ?_)
 refine AO.op rfl (AOp.fieldAddr rfl rfl lb rfl fo129_0 ?_)
 refine AO.op rfl (AOp.fieldAddr rfl rfl lb rfl fo122_0 ?_)
 refine AO.op rfl (AOp.store rfl rfl rfl rfl size65 rfl rfl rfl (leb rfl) ?_)
 refine AO.nS ?_
 refine AC.sm 2 rfl ?_
 obtain ⟨y1, q2, h0⟩ := bind_elim h0
 refine AO.op rfl (AOp.callD rfl rfl lb rfl rfl (w_Layout_Stride a0 y1 q2) ?_)
 rintro _ rfl
 refine AO.op rfl (AOp.nilCheck rfl rfl lb rfl rfl ?_)
 refine AO.op rfl (AOp.fieldAddr rfl rfl lb rfl fo139_0 ?_)
 refine AO.op rfl (AOp.fieldAddr rfl rfl lb rfl fo129_0 ?_)
 refine AO.op rfl (AOp.fieldAddr rfl rfl lb rfl fo122_1 ?_)
 refine AO.op rfl (AOp.store rfl rfl rfl rfl size3 rfl rfl rfl (leb rfl) ?_)
 refine AO.nS ?_
 refine AC.sm 2 rfl ?_
 refine AO.op rfl (AOp.nilCheck rfl rfl lb rfl rfl ?_)
 refine AO.op rfl (AOp.fieldAddr rfl rfl lb rfl fo139_0 ?_)
 refine AO.op rfl (AOp.fieldAddr rfl rfl lb rfl fo129_0 ?_)
 refine AO.op rfl (AOp.fieldAddr rfl rfl lb rfl fo122_2 ?_)
 refine AO.op rfl (AOp.store rfl rfl rfl rfl size22 rfl rfl rfl (leb rfl) ?_)
 refine AO.nS ?_
 refine AC.smn 2 rfl ?_
 refine AC.ret ?_
 change RetA _ _ _ .ret _
 obtain rfl := Option.some.inj h0
 exact ⟨_, _, _, _, rfl, rfl, rfl, rfl, rfl⟩

set_option maxRecDepth 100000 in
set_option maxHeartbeats 4000000 in
theorem w_ints (a0 : (List Int)) (r0 : (List Int)) (h0 : p_ints a0 = some r0) : FnD Tryz.prog 37 [eS2 a0] (fun r => r = eS2 r0) := by
 refine FnD.of (by kernel_rfl) Tryz.func37 rfl Tryz.ntmps37 rfl (leb rfl) fun W ok => ?_
 unfold p_ints at h0
 refine AC.smn 1 rfl ?_
 refine AC.sm 1 rfl ?_
 obtain ⟨q1, h0⟩ := need_elim h0
 refine AO.op rfl (AOp.appendNil (m := a0.length) (news := (List.map keS2 a0)) rfl rfl lb rfl rfl el23 info3 rfl (by decide) (len1 _ _) (one1 _ (fun _ => rfl) _) (small63 q1) (small q1 (by decide)) ?_)
 refine AO.mn 1 rfl ?_
 refine AC.ret ?_
 change RetQ _ _ _ .ret _
 obtain rfl := Option.some.inj h0
 refine retq rfl rfl

set_option maxRecDepth 100000 in
theorem wa_NewPolygonFlat (a0 : Int) (a1 : (List Nat)) (a2 : (List Int)) (r0 : TGeom_Polygon) (h0 : p_NewPolygonFlat a0 a1 a2 = some r0) : FnA Tryz.prog 36 [di .i64 a0, eS1 a1, eS2 a2] 136 (fun r => r = c_TGeom_Polygon r0) := by
 refine FnA.of (by kernel_rfl) Tryz.func36 rfl Tryz.ntmps36 rfl (leb rfl) fun W ok => ?_
 unfold p_NewPolygonFlat at h0
 refine AC.smn 1 rfl ?_
 refine AC.sr ?_
 refine AO.op rfl (AOp.alloc rfl rfl lb zero136 rfl ?_)
 refine AO.mn 1 rfl ?_
 refine AC.sm 2 rfl ?_
 refine AO.op rfl (AOp.nilCheck rfl rfl lb rfl rfl ?_)
 refine AO.op rfl (AOp.fieldAddr rfl rfl lb rfl fo136_0 ?_)
 refine AO.op rfl (AOp.fieldAddr rfl rfl lb rfl fo134_0 ?_)
 refine AO.op rfl (AOp.fieldAddr rfl rfl lb rfl fo129_0 ?_)
 refine AO.op rfl (AOp.fieldAddr rfl rfl lb rfl fo122_0 ?_)
 refine AO.op rfl (AOp.store rfl rfl rfl rfl size65 rfl rfl rfl (leb rfl) ?_)
 refine AO.nS ?_
 refine AC.sm 2 rfl ?_
 obtain ⟨y1, q2, h0⟩ := bind_elim h0
 refine AO.op rfl (AOp.callD rfl rfl lb rfl rfl (w_Layout_Stride a0 y1 q2) ?_)
 rintro _ rfl
 refine AO.op rfl (AOp.nilCheck rfl rfl lb rfl rfl ?_)
 refine AO.op rfl (AOp.fieldAddr rfl rfl lb rfl fo136_0 ?_)
 refine AO.op rfl (AOp.fieldAddr rfl rfl lb rfl fo134_0 ?_)
 refine AO.op rfl (AOp.fieldAddr rfl rfl lb rfl fo129_0 ?_)
 refine AO.op rfl (AOp.fieldAddr rfl rfl lb rfl fo122_1 ?_)
 refine AO.op rfl (AOp.store rfl rfl rfl rfl size3 rfl rfl rfl (leb rfl) ?_)
 refine AO.nS ?_
 refine AC.sm 2 rfl ?_
 refine AO.op rfl (AOp.nilCheck rfl rfl lb rfl rfl ?_)
 refine AO.op rfl (AOp.fieldAddr rfl rfl lb rfl fo136_0 ?_)
 refine AO.op rfl (AOp.fieldAddr rfl rfl lb rfl fo134_0 ?_)
 refine AO.op rfl (AOp.fieldAddr rfl rfl lb rfl fo129_0 ?_)
 refine AO.op rfl (AOp.fieldAddr rfl rfl lb rfl fo122_2 ?_)
 refine AO.op rfl (AOp.store rfl rfl rfl rfl size22 rfl rfl rfl (leb rfl) ?_)
 refine AO.nS ?_
 refine AC.sm 2 rfl ?_
 refine AO.op rfl (AOp.nilCheck rfl rfl lb rfl rfl ?_)
 refine AO.op rfl (AOp.fieldAddr rfl rfl lb rfl fo136_0 ?_)
 refine AO.op rfl (AOp.fieldAddr rfl rfl lb rfl fo134_1 ?_)
 refine AO.op rfl (AOp.store rfl rfl rfl rfl size23 rfl rfl rfl (leb rfl) ?_)
 refine AO.nS ?_
 refine AC.smn 2 rfl ?_
 refine AC.ret ?_
 change RetA _ _ _ .ret _
 obtain rfl := Option.some.inj h0
 exact ⟨_, _, _, _, rfl, rfl, rfl, rfl, rfl⟩

set_option maxRecDepth 100000 in
set_option maxHeartbeats 4000000 in
theorem w_NewMultiPointFlatOptionWithEnds (a0 : (List Int)) (r0 : (List Int)) (h0 : p_NewMultiPointFlatOptionWithEnds a0 = some r0) : FnD Tryz.prog 40 [eS2 a0] (fun r => r = .clo 75 [.pt [eS2 r0]]) := by
 refine FnD.of (by kernel_rfl) Tryz.func40 rfl Tryz.ntmps40 rfl (leb rfl) fun W ok => ?_
 unfold p_NewMultiPointFlatOptionWithEnds at h0
 refine AC.sr ?_
 refine AO.op rfl (AOp.box rfl rfl lb rfl rfl ?_)
 refine AO.mn 1 rfl ?_
 refine AC.sr ?_
 refine AO.op rfl (AOp.makeClo (caps := [.tmp 1]) rfl rfl lb rfl ?_)
 refine AO.mn 1 rfl ?_
 refine AC.ret ?_
 change RetQ _ _ _ .ret _
 obtain rfl := Option.some.inj h0
 refine retq rfl rfl

set_option maxRecDepth 100000 in
theorem wa_NewMultiPointFlat (F : Nat) (a0 : Int) (a1 : (List Nat)) (a2 : (List (List Int))) (r0 : TGeom_Polygon) (h0 : p_NewMultiPointFlat F a0 a1 a2 = some r0) : FnA Tryz.prog 39 [di .i64 a0, eS1 a1, eS4 a2] 141 (fun r => r = c_TGeom_Polygon r0) := by
 refine FnA.of (by kernel_rfl) Tryz.func39 rfl Tryz.ntmps39 rfl (leb rfl) fun W ok => ?_
 unfold p_NewMultiPointFlat at h0
 refine AC.smn 1 rfl ?_
 refine AC.sr ?_
 refine AO.op rfl (AOp.alloc rfl rfl lb zero141 rfl ?_)
 refine AO.mn 1 rfl ?_
 refine AC.sm 2 rfl ?_
 refine AO.op rfl (AOp.nilCheck rfl rfl lb rfl rfl ?_)
 refine AO.op rfl (AOp.fieldAddr rfl rfl lb rfl fo141_0 ?_)
 refine AO.op rfl (AOp.fieldAddr rfl rfl lb rfl fo134_0 ?_)
 refine AO.op rfl (AOp.fieldAddr rfl rfl lb rfl fo129_0 ?_)
 refine AO.op rfl (AOp.fieldAddr rfl rfl lb rfl fo122_0 ?_)
 refine AO.op rfl (AOp.store rfl rfl rfl rfl size65 rfl rfl rfl (leb rfl) ?_)
 refine AO.nS ?_
 refine AC.sm 2 rfl ?_
 obtain ⟨y1, q2, h0⟩ := bind_elim h0
 refine AO.op rfl (AOp.callD rfl rfl lb rfl rfl (w_Layout_Stride a0 y1 q2) ?_)
 rintro _ rfl
 refine AO.op rfl (AOp.nilCheck rfl rfl lb rfl rfl ?_)
 refine AO.op rfl (AOp.fieldAddr rfl rfl lb rfl fo141_0 ?_)
 refine AO.op rfl (AOp.fieldAddr rfl rfl lb rfl fo134_0 ?_)
 refine AO.op rfl (AOp.fieldAddr rfl rfl lb rfl fo129_0 ?_)
 refine AO.op rfl (AOp.fieldAddr rfl rfl lb rfl fo122_1 ?_)
 refine AO.op rfl (AOp.store rfl rfl rfl rfl size3 rfl rfl rfl (leb rfl) ?_)
 refine AO.nS ?_
 refine AC.sm 2 rfl ?_
 refine AO.op rfl (AOp.nilCheck rfl rfl lb rfl rfl ?_)
 refine AO.op rfl (AOp.fieldAddr rfl rfl lb rfl fo141_0 ?_)
 refine AO.op rfl (AOp.fieldAddr rfl rfl lb rfl fo134_0 ?_)
 refine AO.op rfl (AOp.fieldAddr rfl rfl lb rfl fo129_0 ?_)
 refine AO.op rfl (AOp.fieldAddr rfl rfl lb rfl fo122_2 ?_)
 refine AO.op rfl (AOp.store rfl rfl rfl rfl size22 rfl rfl rfl (leb rfl) ?_)
 refine AO.nS ?_
 refine AC.seq ?_
 refine AC.sm 1 rfl ?_
 refine AO.op rfl (AOp.lenDs (n := a2.length) (cells := (List.map keS4 a2)) rfl rfl lb rfl el140 (by decide) (len1 _ _) ?_)
 refine AO.mn 1 rfl ?_
 refine AC.subO 0 rfl (.cons (SVLe.refl _) (.cons (SVLe.refl _) (.cons (SVLe.refl _) (.cons (SVLe.refl _) (.cons (SVLe.nil 1) .nil))))) ?_
 obtain ⟨o3, l4, h0⟩ := bind_elim h0
 refine AC.joinE (V := (List Int)) [1, 7] [] 1 (fun g5 => []) (fun g5 => [.fix 141 [.d (di .i64 a0), .d (di .i64 y1), .d (eS1 a1), .d (di .i64 (0 : Int)), .d (eS2 g5)]]) (fun g5 => (p_NewMultiPointFlat_k1 a0 a1 y1) g5 = some r0) rfl ?_ ?_
 ·refine AC.block ?_
  refine AC.loopP (V := (Int × (List Int))) (p_NewMultiPointFlat_l3 a2) o3 [1, 7, 35, 36] [37] 1 (fun g10 => [(37, .d (di .i64 g10.1))]) (fun g10 => [.fix 141 [.d (di .i64 a0), .d (di .i64 y1), .d (eS1 a1), .d (di .i64 (0 : Int)), .d (eS2 g10.2)]]) F ((0 : Int), []) l4 rfl rfl (LeL.refl _) rfl rfl ?_
  intro n12 g10 h1
  unfold p_NewMultiPointFlat_l3 at h1
  refine AC.sr ?_
  refine AO.op rfl (AOp.ilss rfl rfl lb rfl rfl ?_)
  refine AO.nS ?_
  refine AC.seq ?_
  refine AC.cond rfl (fun q13 => ?_) (fun q13 => ?_)
  ·replace h1 := cT h1 q13
   refine AC.skip ?_
   change AC _ _ _ _
   refine AC.seq ?_
   refine AC.block ?_
   refine AC.sr ?_
   obtain ⟨x14, q15, h1⟩ := idx_elim h1
   refine AO.op rfl (AOp.indexDs (cells := (List.map keS4 a2)) rfl rfl lb rfl rfl el140 (by decide) q15.1 (lt1 q15.2) ?_)
   refine AO.op rfl (AOp.loadEp rfl rfl lb rfl agg83 (at1 q15.2) ?_)
   refine AO.mn 1 rfl ?_
   refine AC.region ?_
   refine AO.mv 2 rfl ?_
   refine AO.op rfl (AOp.inlE [1, 7, 35, 36, 37] (EntersS.cloD (by kernel_rfl) rfl rfl rfl) Tryz.func75 rfl Tryz.ntmps75 rfl lb (leb rfl) rfl ?_)
   intro fr16
   refine AC.sub 1 rfl (SVLe.ptEp _) ?_
   refine AC.region ?_
   refine AO.mv 1 rfl ?_
   refine AO.op rfl (AOp.loadEp rfl rfl lb rfl agg23 rfl ?_)
   refine AO.op rfl (AOp.nilCheck rfl rfl lb rfl rfl ?_)
   refine AO.op rfl (AOp.fieldAddr rfl rfl lb rfl fo141_0 ?_)
   refine AO.op rfl (AOp.fieldAddr rfl rfl lb rfl fo134_1 ?_)
   refine AO.op rfl (AOp.store rfl rfl rfl rfl size23 rfl rfl rfl (leb rfl) ?_)
   refine AO.nil ?_
   refine inlend (ob' := [.fix 141 [.d (di .i64 a0), .d (di .i64 y1), .d (eS1 a1), .d (di .i64 (0 : Int)), .d (eS2 x14)], .dead]) (e' := [(1, .d (eS1 a1)), (7, .ptr 0 0), (35, .d (eS4 a2)), (36, .d (di .i64 ((a2.length : Nat) : Int))), (37, .d (di .i64 g10.1))]) (r := .tu []) rfl rfl rfl ?_
   change AO _ _ _ _ _
   refine AO.nil (?_ : AC _ _ _ _)
   refine AC.region ?_
   obtain ⟨q17, h1⟩ := need_elim h1
   refine AO.op rfl (AOp.iadd rfl rfl lb rfl rfl rfl q17.1 q17.2 ?_)
   refine AO.mv 1 rfl ?_
   refine AO.nil ?_
   exact ⟨((g10.1 + (1 : Int)), x14), _, rfl, (LeL.refl _), rfl, rfl, h1⟩
  replace h1 := cF h1 q13
  refine AC.exit ?_
  obtain rfl := Option.some.inj h1
  exact ⟨g10.2, _, rfl, (LeL.refl _), rfl, rfl, aftL h0⟩
 intro g5 h0
 unfold p_NewMultiPointFlat_k1 at h0
 change AC _ _ _ _
 refine AC.seq ?_
 refine AC.joinP (V := Bool) [1, 7] [61] 1 (fun g6 => [(61, .d (dbool g6))]) (fun g6 => [.fix 141 [.d (di .i64 a0), .d (di .i64 y1), .d (eS1 a1), .d (di .i64 (0 : Int)), .d (eS2 g5)]]) (fun g6 => (p_NewMultiPointFlat_k2 a0 a1 y1 g5) g6 = some r0) rfl ?_ ?_
 ·refine AC.region ?_
  refine AO.mv 1 rfl ?_
  refine AO.op rfl (AOp.nilCheck rfl rfl lb rfl rfl ?_)
  refine AO.op rfl (AOp.fieldAddr rfl rfl lb rfl fo141_0 ?_)
  refine AO.op rfl (AOp.fieldAddr rfl rfl lb rfl fo134_1 ?_)
  refine AO.op rfl (AOp.load1 rfl rfl lb rfl agg23 rfl rfl ?_)
  refine AO.op rfl (AOp.nilEqlU (f := eS2) (x0 := (some g5)) Tryz.underlying23 rfl rfl lb rfl rfl (fun _ _ => ⟨_, _, _, rfl⟩) fun b8 hb9 => ?_)
  cases b8
  ·replace h0 := agr_f h0 hb9
   refine AO.mv 1 rfl ?_
   refine AO.guardN rfl rfl rfl lb rfl rfl ?_
   refine AO.guardN rfl rfl rfl lb rfl rfl ?_
   refine AO.guardN rfl rfl rfl lb rfl rfl ?_
   refine AO.guardN rfl rfl rfl lb rfl rfl ?_
   refine AO.guardN rfl rfl rfl lb rfl rfl ?_
   refine AO.guardN rfl rfl rfl lb rfl rfl ?_
   refine AO.guardN rfl rfl rfl lb rfl rfl ?_
   refine AO.guardN rfl rfl rfl lb rfl rfl ?_
   refine AO.guardN rfl rfl rfl lb rfl rfl ?_
   refine AO.op rfl (AOp.pickN rfl rfl lb rfl rfl rfl ?_)
   refine AO.nil ?_
   exact ⟨false, _, rfl, (LeL.refl _), rfl, rfl, h0⟩
  replace h0 := agr_t h0 hb9
  refine AO.mv 1 rfl ?_
  refine AO.guardY rfl rfl rfl rfl (AOp.move rfl rfl lb rfl ?_)
  refine AO.guardY rfl rfl rfl rfl (AOp.nilCheck rfl rfl lb rfl rfl ?_)
  refine AO.guardY rfl rfl rfl rfl (AOp.fieldAddr rfl rfl lb rfl fo141_0 ?_)
  refine AO.guardY rfl rfl rfl rfl (AOp.fieldAddr rfl rfl lb rfl fo134_0 ?_)
  refine AO.guardY rfl rfl rfl rfl (AOp.fieldAddr rfl rfl lb rfl fo129_0 ?_)
  refine AO.guardY rfl rfl rfl rfl (AOp.fieldAddr rfl rfl lb rfl fo122_2 ?_)
  refine AO.guardY rfl rfl rfl rfl (AOp.load1 rfl rfl lb rfl agg22 rfl rfl ?_)
  refine AO.guardY rfl rfl rfl rfl (AOp.lenDs (n := a1.length) (cells := (List.map keS1 a1)) rfl rfl lb rfl el22 (by decide) (len1 _ _) ?_)
  refine AO.guardY rfl rfl rfl rfl (AOp.igtr rfl rfl lb rfl rfl ?_)
  refine AO.op rfl (AOp.pick rfl rfl lb rfl rfl rfl ?_)
  refine AO.nil ?_
  exact ⟨(decide ((0 : Int) < ((a1.length : Nat) : Int))), _, rfl, (LeL.refl _), rfl, rfl, h0⟩
 intro g6 h0
 unfold p_NewMultiPointFlat_k2 at h0
 refine AC.cond rfl (fun q7 => ?_) (fun q7 => ?_)
 ·replace h0 := cT h0 q7
  cases h0
 replace h0 := cF h0 q7
 refine AC.skip ?_
 change AC _ _ _ _
 refine AC.smn 2 rfl ?_
 refine AC.ret ?_
 change RetA _ _ _ .ret _
 obtain rfl := Option.some.inj h0
 exact ⟨_, _, _, _, rfl, rfl, rfl, rfl, rfl⟩

set_option maxRecDepth 100000 in
theorem wa_NewMultiLineStringFlat (a0 : Int) (a1 : (List Nat)) (a2 : (List Int)) (r0 : TGeom_Polygon) (h0 : p_NewMultiLineStringFlat a0 a1 a2 = some r0) : FnA Tryz.prog 42 [di .i64 a0, eS1 a1, eS2 a2] 142 (fun r => r = c_TGeom_Polygon r0) := by
 refine FnA.of (by kernel_rfl) Tryz.func42 rfl Tryz.ntmps42 rfl (leb rfl) fun W ok => ?_
 unfold p_NewMultiLineStringFlat at h0
 refine AC.smn 1 rfl ?_
 refine AC.sr ?_
 refine AO.op rfl (AOp.alloc rfl rfl lb zero142 rfl ?_)
 refine AO.mn 1 rfl ?_
 refine AC.sm 2 rfl ?_
 refine AO.op rfl (AOp.nilCheck rfl rfl lb rfl rfl ?_)
 refine AO.op rfl (AOp.fieldAddr rfl rfl lb rfl fo142_0 ?_)
 refine AO.op rfl (AOp.fieldAddr rfl rfl lb rfl fo134_0 ?_)
 refine AO.op rfl (AOp.fieldAddr rfl rfl lb rfl fo129_0 ?_)
 refine AO.op rfl (AOp.fieldAddr rfl rfl lb rfl fo122_0 ?_)
 refine AO.op rfl (AOp.store rfl rfl rfl rfl size65 rfl rfl rfl (leb rfl) ?_)
 refine AO.nS ?_
 refine AC.sm 2 rfl ?_
 obtain ⟨y1, q2, h0⟩ := bind_elim h0
 refine AO.op rfl (AOp.callD rfl rfl lb rfl rfl (w_Layout_Stride a0 y1 q2) ?_)
 rintro _ rfl
 refine AO.op rfl (AOp.nilCheck rfl rfl lb rfl rfl ?_)
 refine AO.op rfl (AOp.fieldAddr rfl rfl lb rfl fo142_0 ?_)
 refine AO.op rfl (AOp.fieldAddr rfl rfl lb rfl fo134_0 ?_)
 refine AO.op rfl (AOp.fieldAddr rfl rfl lb rfl fo129_0 ?_)
 refine AO.op rfl (AOp.fieldAddr rfl rfl lb rfl fo122_1 ?_)
 refine AO.op rfl (AOp.store rfl rfl rfl rfl size3 rfl rfl rfl (leb rfl) ?_)
 refine AO.nS ?_
 refine AC.sm 2 rfl ?_
 refine AO.op rfl (AOp.nilCheck rfl rfl lb rfl rfl ?_)
 refine AO.op rfl (AOp.fieldAddr rfl rfl lb rfl fo142_0 ?_)
 refine AO.op rfl (AOp.fieldAddr rfl rfl lb rfl fo134_0 ?_)
 refine AO.op rfl (AOp.fieldAddr rfl rfl lb rfl fo129_0 ?_)
 refine AO.op rfl (AOp.fieldAddr rfl rfl lb rfl fo122_2 ?_)
 refine AO.op rfl (AOp.store rfl rfl rfl rfl size22 rfl rfl rfl (leb rfl) ?_)
 refine AO.nS ?_
 refine AC.sm 2 rfl ?_
 refine AO.op rfl (AOp.nilCheck rfl rfl lb rfl rfl ?_)
 refine AO.op rfl (AOp.fieldAddr rfl rfl lb rfl fo142_0 ?_)
 refine AO.op rfl (AOp.fieldAddr rfl rfl lb rfl fo134_1 ?_)
 refine AO.op rfl (AOp.store rfl rfl rfl rfl size23 rfl rfl rfl (leb rfl) ?_)
 refine AO.nS ?_
 refine AC.smn 2 rfl ?_
 refine AC.ret ?_
 change RetA _ _ _ .ret _
 obtain rfl := Option.some.inj h0
 exact ⟨_, _, _, _, rfl, rfl, rfl, rfl, rfl⟩

set_option maxRecDepth 100000 in
set_option maxHeartbeats 4000000 in
theorem w_intss (F : Nat) (a0 : (List (List Int))) (r0 : (List (List Int))) (h0 : p_intss F a0 = some r0) : FnD Tryz.prog 45 [eS3 a0] (fun r => r = eS3 r0) := by
 refine FnD.of (by kernel_rfl) Tryz.func45 rfl Tryz.ntmps45 rfl (leb rfl) fun W ok => ?_
 unfold p_intss at h0
 refine AC.smn 1 rfl ?_
 refine AC.smn 1 rfl ?_
 refine AC.seq ?_
 refine AC.sm 1 rfl ?_
 refine AO.op rfl (AOp.lenDs (n := a0.length) (cells := (List.map keS3 a0)) rfl rfl lb rfl el24 (by decide) (len1 _ _) ?_)
 refine AO.mn 1 rfl ?_
 refine AC.adopt 3 23 1 rfl ?_
 obtain ⟨o1, l2, h0⟩ := bind_elim h0
 refine AC.joinE (V := (List (List Int))) [] [3] 1 (fun g3 => [(3, .own 0)]) (fun g3 => [.grow 23 1 (List.map keS3 g3)]) (fun g3 => p_intss_k1 g3 = some r0) rfl ?_ ?_
 ·refine AC.block ?_
  refine AC.loopP (V := (Int × (List (List Int)))) (p_intss_l2 a0) o1 [6, 7] [3, 8] 1 (fun g4 => [(3, .own 0), (8, .d (di .i64 g4.1))]) (fun g4 => [.grow 23 1 (List.map keS3 g4.2)]) F ((0 : Int), []) l2 rfl rfl (LeL.refl _) rfl rfl ?_
  intro n6 g4 h1
  unfold p_intss_l2 at h1
  refine AC.sr ?_
  refine AO.op rfl (AOp.ilss rfl rfl lb rfl rfl ?_)
  refine AO.nS ?_
  refine AC.seq ?_
  refine AC.cond rfl (fun q7 => ?_) (fun q7 => ?_)
  ·replace h1 := cT h1 q7
   refine AC.skip ?_
   change AC _ _ _ _
   refine AC.seq ?_
   refine AC.block ?_
   refine AC.sr ?_
   obtain ⟨x8, q9, h1⟩ := idx_elim h1
   refine AO.op rfl (AOp.indexDs (cells := (List.map keS3 a0)) rfl rfl lb rfl rfl el24 (by decide) q9.1 (lt1 q9.2) ?_)
   refine AO.op rfl (AOp.loadEp rfl rfl lb rfl agg23 (at1 q9.2) ?_)
   refine AO.mn 1 rfl ?_
   refine AC.region ?_
   refine AO.mv 2 rfl ?_
   obtain ⟨y10, q11, h1⟩ := bind_elim h1
   refine AO.op rfl (AOp.callD rfl rfl lb rfl rfl (w_ints x8 y10 q11) ?_)
   rintro _ rfl
   refine AO.op rfl (AOp.buildSliceD rfl rfl lb el24 zero23 rfl (leb rfl) rfl rfl rfl rfl ?_)
   obtain ⟨q12, h1⟩ := need_elim h1
   refine AO.op rfl (AOp.appendOwn' (p := 0) (n := g4.2.length) (m := [y10].length) (news := (List.map keS3 [y10])) rfl rfl lb rfl rfl el24 info23 rfl (by decide) rfl (len1 _ _) (len1 _ _) (one1 _ (fun _ => rfl) _) q12 (by decide) rfl rfl (cat1 _ _ _) ?_)
   refine AO.mv 1 rfl ?_
   refine AO.nil (?_ : AC _ _ _ _)
   refine AC.region ?_
   obtain ⟨q13, h1⟩ := need_elim h1
   refine AO.op rfl (AOp.iadd rfl rfl lb rfl rfl rfl q13.1 q13.2 ?_)
   refine AO.mv 1 rfl ?_
   refine AO.nil ?_
   exact ⟨((g4.1 + (1 : Int)), (g4.2 ++ [y10])), _, rfl, (LeL.refl _), rfl, rfl, h1⟩
  replace h1 := cF h1 q7
  refine AC.exit ?_
  obtain rfl := Option.some.inj h1
  exact ⟨g4.2, _, rfl, (LeL.refl _), rfl, rfl, aftL h0⟩
 intro g3 h0
 unfold p_intss_k1 at h0
 change AC _ _ _ _
 refine AC.smn 2 rfl ?_
 refine AC.ret ?_
 change RetQ _ _ _ .ret _
 obtain rfl := Option.some.inj h0
 refine retq rfl rfl

set_option maxRecDepth 100000 in
theorem wa_NewMultiPolygonFlat (a0 : Int) (a1 : (List Nat)) (a2 : (List (List Int))) (r0 : TGeom_MultiPolygon) (h0 : p_NewMultiPolygonFlat a0 a1 a2 = some r0) : FnA Tryz.prog 44 [di .i64 a0, eS1 a1, eS3 a2] 146 (fun r => r = c_TGeom_MultiPolygon r0) := by
 refine FnA.of (by kernel_rfl) Tryz.func44 rfl Tryz.ntmps44 rfl (leb rfl) fun W ok => ?_
 unfold p_NewMultiPolygonFlat at h0
 refine AC.smn 1 rfl ?_
 refine AC.sr ?_
 refine AO.op rfl (AOp.alloc rfl rfl lb zero146 rfl ?_)
 refine AO.mn 1 rfl ?_
 refine AC.sm 2 rfl ?_
 refine AO.op rfl (AOp.nilCheck rfl rfl lb rfl rfl ?_)
 refine AO.op rfl (AOp.fieldAddr rfl rfl lb rfl fo146_0 ?_)
 refine AO.op rfl (AOp.fieldAddr rfl rfl lb rfl fo144_0 ?_)
 refine AO.op rfl (AOp.fieldAddr rfl rfl lb rfl fo129_0 ?_)
 refine AO.op rfl (AOp.fieldAddr rfl rfl lb rfl fo122_0 ?_)
 refine AO.op rfl (AOp.store rfl rfl rfl rfl size65 rfl rfl rfl (leb rfl) ?_)
 refine AO.nS ?_
 refine AC.sm 2 rfl ?_
 obtain ⟨y1, q2, h0⟩ := bind_elim h0
 refine AO.op rfl (AOp.callD rfl rfl lb rfl rfl (w_Layout_Stride a0 y1 q2) ?_)
 rintro _ rfl
 refine AO.op rfl (AOp.nilCheck rfl rfl lb rfl rfl ?_)
 refine AO.op rfl (AOp.fieldAddr rfl rfl lb rfl fo146_0 ?_)
 refine AO.op rfl (AOp.fieldAddr rfl rfl lb rfl fo144_0 ?_)
 refine AO.op rfl (AOp.fieldAddr rfl rfl lb rfl fo129_0 ?_)
 refine AO.op rfl (AOp.fieldAddr rfl rfl lb rfl fo122_1 ?_)
 refine AO.op rfl (AOp.store rfl rfl rfl rfl size3 rfl rfl rfl (leb rfl) ?_)
 refine AO.nS ?_
 refine AC.sm 2 rfl ?_
 refine AO.op rfl (AOp.nilCheck rfl rfl lb rfl rfl ?_)
 refine AO.op rfl (AOp.fieldAddr rfl rfl lb rfl fo146_0 ?_)
 refine AO.op rfl (AOp.fieldAddr rfl rfl lb rfl fo144_0 ?_)
 refine AO.op rfl (AOp.fieldAddr rfl rfl lb rfl fo129_0 ?_)
 refine AO.op rfl (AOp.fieldAddr rfl rfl lb rfl fo122_2 ?_)
 refine AO.op rfl (AOp.store rfl rfl rfl rfl size22 rfl rfl rfl (leb rfl) ?_)
 refine AO.nS ?_
 refine AC.sm 2 rfl ?_
 refine AO.op rfl (AOp.nilCheck rfl rfl lb rfl rfl ?_)
 refine AO.op rfl (AOp.fieldAddr rfl rfl lb rfl fo146_0 ?_)
 refine AO.op rfl (AOp.fieldAddr rfl rfl lb rfl fo144_1 ?_)
 refine AO.op rfl (AOp.store rfl rfl rfl rfl size24 rfl rfl rfl (leb rfl) ?_)
 refine AO.nS ?_
 refine AC.smn 2 rfl ?_
 refine AC.ret ?_
 change RetA _ _ _ .ret _
 obtain rfl := Option.some.inj h0
 exact ⟨_, _, _, _, rfl, rfl, rfl, rfl, rfl⟩

set_option maxRecDepth 100000 in
theorem wa_NewGeometryCollection  (r0 : TGeom_GeometryCollection) (h0 : p_NewGeometryCollection  = some r0) : FnA Tryz.prog 47 [] 149 (fun r => r = [di .i64 (0 : Int), .v (.slice none 0 0), di .i64 (0 : Int)]) := by
 refine FnA.of (by kernel_rfl) Tryz.func47 rfl Tryz.ntmps47 rfl (leb rfl) fun W ok => ?_
 unfold p_NewGeometryCollection at h0
 refine AC.smn 1 rfl ?_
 refine AC.sr ?_
 refine AO.op rfl (AOp.build rfl rfl lb zero149 rfl places149 rfl rfl ?_)
 refine AO.op rfl (AOp.box rfl rfl lb rfl rfl ?_)
 refine AO.mn 1 rfl ?_
 refine AC.ret ?_
 change RetA _ _ _ .ret _
 obtain rfl := Option.some.inj h0
 exact ⟨_, _, _, _, rfl, rfl, rfl, rfl, rfl⟩

set_option maxRecDepth 100000 in
set_option maxHeartbeats 4000000 in
theorem w_geom0_Layout (a0 : TGeom_geom0) (r0 : Int) (h0 : p_geom0_Layout a0 = some r0) : FnD Tryz.prog 118 [.pt (c_TGeom_geom0 a0)] (fun r => r = di .i64 r0) := by
 refine FnD.of (by kernel_rfl) Tryz.func118 rfl Tryz.ntmps118 rfl (leb rfl) fun W ok => ?_
 unfold p_geom0_Layout at h0
 refine AC.smn 1 rfl ?_
 refine AC.sm 1 rfl ?_
 refine AO.op rfl (AOp.nilCheck rfl rfl lb rfl rfl ?_)
 refine AO.op rfl (AOp.fieldAddrPt rfl rfl lb rfl fo122_0 ?_)
 refine AO.op rfl (AOp.loadEp rfl rfl lb rfl agg65 rfl ?_)
 refine AO.mn 1 rfl ?_
 refine AC.ret ?_
 change RetQ _ _ _ .ret _
 obtain rfl := Option.some.inj h0
 refine retq rfl rfl

set_option maxRecDepth 100000 in
set_option maxHeartbeats 4000000 in
theorem w_GeometryCollection_Layout_b (Rec_ : TGeom_GeometryCollection → Option Int) (hR : ∀ (a0 : TGeom_GeometryCollection) (r0 : Int), Rec_ a0 = some r0 → FnD Tryz.prog 129 [.pt (c_TGeom_GeometryCollection a0)] (fun r => r = di .i64 r0)) (F : Nat) (a0 : TGeom_GeometryCollection) (r0 : Int) (h0 : p_GeometryCollection_Layout_b Rec_ F a0 = some r0) : FnD Tryz.prog 129 [.pt (c_TGeom_GeometryCollection a0)] (fun r => r = di .i64 r0) := by
 refine FnD.of (by kernel_rfl) Tryz.func129 rfl Tryz.ntmps129 rfl (leb rfl) fun W ok => ?_
 unfold p_GeometryCollection_Layout_b at h0
 refine AC.smn 1 rfl ?_
 refine AC.seq ?_
 refine AC.sm 1 rfl ?_
 refine AO.op rfl (AOp.nilCheck rfl rfl lb rfl rfl ?_)
 refine AO.op rfl (AOp.fieldAddrPt rfl rfl lb rfl fo149_0 ?_)
 refine AO.op rfl (AOp.loadEp rfl rfl lb rfl agg65 rfl ?_)
 refine AO.op rfl (AOp.ineq rfl rfl lb rfl rfl ?_)
 refine AO.nS ?_
 refine AC.cond rfl (fun q1 => ?_) (fun q1 => ?_)
 ·replace h0 := cT h0 q1
  refine AC.sm 1 rfl ?_
  refine AO.op rfl (AOp.nilCheck rfl rfl lb rfl rfl ?_)
  refine AO.op rfl (AOp.fieldAddrPt rfl rfl lb rfl fo149_0 ?_)
  refine AO.op rfl (AOp.loadEp rfl rfl lb rfl agg65 rfl ?_)
  refine AO.mn 1 rfl ?_
  refine AC.ret ?_
  change RetQ _ _ _ .ret _
  obtain rfl := Option.some.inj h0
  refine retq rfl rfl
 replace h0 := cF h0 q1
 refine AC.skip ?_
 change AC _ _ _ _
 refine AC.smn 1 rfl ?_
 refine AC.seq ?_
 refine AC.sm 1 rfl ?_
 refine AO.op rfl (AOp.nilCheck rfl rfl lb rfl rfl ?_)
 refine AO.op rfl (AOp.fieldAddrPt rfl rfl lb rfl fo149_1 ?_)
 refine AO.op rfl (AOp.loadEp rfl rfl lb rfl agg147 rfl ?_)
 refine AO.op rfl (AOp.lenDs (n := a0.geoms.length) (cells := (List.map keS5 a0.geoms)) rfl rfl lb rfl el147 (by decide) (len1 _ _) ?_)
 refine AO.mn 1 rfl ?_
 obtain ⟨o2, l3, h0⟩ := bind_elim h0
 refine AC.joinE (V := Int) [] [3] 0 (fun g4 => [(3, .d (di .i64 g4))]) (fun g4 => []) (fun g4 => p_GeometryCollection_Layout_k1 g4 = some r0) rfl ?_ ?_
 ·refine AC.block ?_
  refine AC.loopP (V := (Int × Int)) (p_GeometryCollection_Layout_l2 a0 Rec_) o2 [19, 20] [3, 21] 0 (fun g5 => [(3, .d (di .i64 g5.1)), (21, .d (di .i64 g5.2))]) (fun g5 => []) F ((0 : Int), (0 : Int)) l3 rfl rfl (LeL.refl _) rfl rfl ?_
  intro n7 g5 h1
  unfold p_GeometryCollection_Layout_l2 at h1
  refine AC.sr ?_
  refine AO.op rfl (AOp.ilss rfl rfl lb rfl rfl ?_)
  refine AO.nS ?_
  refine AC.seq ?_
  refine AC.cond rfl (fun q8 => ?_) (fun q8 => ?_)
  ·replace h1 := cT h1 q8
   refine AC.skip ?_
   change AC _ _ _ _
   refine AC.seq ?_
   refine AC.block ?_
   refine AC.sr ?_
   obtain ⟨x9, q10, h1⟩ := idx_elim h1
   refine AO.op rfl (AOp.indexDs (cells := (List.map keS5 a0.geoms)) rfl rfl lb rfl rfl el147 (by decide) q10.1 (lt1 q10.2) ?_)
   refine AO.op rfl (AOp.loadEp rfl rfl lb rfl agg48 (at1 q10.2) ?_)
   refine AO.mn 1 rfl ?_
   refine AC.sm 1 rfl ?_
   refine AO.dec (decide (x9.dt = 67)) (fun q11 => ?_) (fun q11 => ?_)
   ·replace h1 := cT h1 q11
    obtain ⟨y12, q13, h1⟩ := bind_elim h1
    refine AO.sub 25 rfl (eIfc_le q11 q13) ?_
    obtain ⟨y14, q15, h1⟩ := bind_elim h1
    refine AO.op rfl (AOp.callE ((EntersS.meth (by kernel_rfl) rfl rfl rfl meth67_Layout rfl rfl).le (.cons (SVLe.epPt (n := 4) rfl) .nil)) rfl lb rfl rfl (w_geom0_Layout y12.geom0 y14 q15) ?_)
    rintro _ rfl
    refine AO.mn 1 rfl ?_
    refine AC.smn 1 rfl ?_
    refine AC.block ?_
    refine AC.sr ?_
    refine AO.op rfl (AOp.ieql rfl rfl lb rfl rfl ?_)
    refine AO.mn 1 rfl ?_
    refine AC.cond rfl (fun q16 => ?_) (fun q16 => ?_)
    ·replace h1 := cT h1 q16
     refine AC.sm 1 rfl ?_
     refine AO.op rfl (AOp.ieql rfl rfl lb rfl rfl ?_)
     refine AO.nS ?_
     refine AC.cond rfl (fun q17 => ?_) (fun q17 => ?_)
     ·replace h1 := cT h1 q17
      refine AC.region ?_
      refine AO.mv 1 rfl ?_
      refine AO.nil (?_ : AC _ _ _ _)
      refine AC.region ?_
      obtain ⟨q18, h1⟩ := need_elim h1
      refine AO.op rfl (AOp.iadd rfl rfl lb rfl rfl rfl q18.1 q18.2 ?_)
      refine AO.mv 1 rfl ?_
      refine AO.nil ?_
      exact ⟨((4 : Int), (g5.2 + (1 : Int))), _, rfl, (LeL.refl _), rfl, rfl, h1⟩
     replace h1 := cF h1 q17
     refine AC.sm 2 rfl ?_
     refine AO.op rfl (AOp.igtr rfl rfl lb rfl rfl ?_)
     refine AO.nS ?_
     refine AC.cond rfl (fun q19 => ?_) (fun q19 => ?_)
     ·replace h1 := cT h1 q19
      refine AC.region ?_
      refine AO.mv 2 rfl ?_
      refine AO.nil (?_ : AC _ _ _ _)
      refine AC.region ?_
      obtain ⟨q20, h1⟩ := need_elim h1
      refine AO.op rfl (AOp.iadd rfl rfl lb rfl rfl rfl q20.1 q20.2 ?_)
      refine AO.mv 1 rfl ?_
      refine AO.nil ?_
      exact ⟨(y14, (g5.2 + (1 : Int))), _, rfl, (LeL.refl _), rfl, rfl, h1⟩
     replace h1 := cF h1 q19
     refine AC.skip ?_
     change AC _ _ _ _
     refine AC.region ?_
     obtain ⟨q21, h1⟩ := need_elim h1
     refine AO.op rfl (AOp.iadd rfl rfl lb rfl rfl rfl q21.1 q21.2 ?_)
     refine AO.mv 1 rfl ?_
     refine AO.nil ?_
     exact ⟨(g5.1, (g5.2 + (1 : Int))), _, rfl, (LeL.refl _), rfl, rfl, h1⟩
    replace h1 := cF h1 q16
    refine AC.sr ?_
    refine AO.op rfl (AOp.ieql rfl rfl lb rfl rfl ?_)
    refine AO.mn 1 rfl ?_
    refine AC.cond rfl (fun q22 => ?_) (fun q22 => ?_)
    ·replace h1 := cT h1 q22
     refine AC.sm 1 rfl ?_
     refine AO.op rfl (AOp.ieql rfl rfl lb rfl rfl ?_)
     refine AO.nS ?_
     refine AC.cond rfl (fun q23 => ?_) (fun q23 => ?_)
     ·replace h1 := cT h1 q23
      refine AC.region ?_
      refine AO.mv 1 rfl ?_
      refine AO.nil (?_ : AC _ _ _ _)
      refine AC.region ?_
      obtain ⟨q24, h1⟩ := need_elim h1
      refine AO.op rfl (AOp.iadd rfl rfl lb rfl rfl rfl q24.1 q24.2 ?_)
      refine AO.mv 1 rfl ?_
      refine AO.nil ?_
      exact ⟨((4 : Int), (g5.2 + (1 : Int))), _, rfl, (LeL.refl _), rfl, rfl, h1⟩
     replace h1 := cF h1 q23
     refine AC.sm 2 rfl ?_
     refine AO.op rfl (AOp.igtr rfl rfl lb rfl rfl ?_)
     refine AO.nS ?_
     refine AC.cond rfl (fun q25 => ?_) (fun q25 => ?_)
     ·replace h1 := cT h1 q25
      refine AC.region ?_
      refine AO.mv 2 rfl ?_
      refine AO.nil (?_ : AC _ _ _ _)
      refine AC.region ?_
      obtain ⟨q26, h1⟩ := need_elim h1
      refine AO.op rfl (AOp.iadd rfl rfl lb rfl rfl rfl q26.1 q26.2 ?_)
      refine AO.mv 1 rfl ?_
      refine AO.nil ?_
      exact ⟨(y14, (g5.2 + (1 : Int))), _, rfl, (LeL.refl _), rfl, rfl, h1⟩
     replace h1 := cF h1 q25
     refine AC.skip ?_
     change AC _ _ _ _
     refine AC.region ?_
     obtain ⟨q27, h1⟩ := need_elim h1
     refine AO.op rfl (AOp.iadd rfl rfl lb rfl rfl rfl q27.1 q27.2 ?_)
     refine AO.mv 1 rfl ?_
     refine AO.nil ?_
     exact ⟨(g5.1, (g5.2 + (1 : Int))), _, rfl, (LeL.refl _), rfl, rfl, h1⟩
    replace h1 := cF h1 q22
    refine AC.sm 2 rfl ?_
    refine AO.op rfl (AOp.igtr rfl rfl lb rfl rfl ?_)
    refine AO.nS ?_
    refine AC.cond rfl (fun q28 => ?_) (fun q28 => ?_)
    ·replace h1 := cT h1 q28
     refine AC.region ?_
     refine AO.mv 2 rfl ?_
     refine AO.nil (?_ : AC _ _ _ _)
     refine AC.region ?_
     obtain ⟨q29, h1⟩ := need_elim h1
     refine AO.op rfl (AOp.iadd rfl rfl lb rfl rfl rfl q29.1 q29.2 ?_)
     refine AO.mv 1 rfl ?_
     refine AO.nil ?_
     exact ⟨(y14, (g5.2 + (1 : Int))), _, rfl, (LeL.refl _), rfl, rfl, h1⟩
    replace h1 := cF h1 q28
    refine AC.skip ?_
    change AC _ _ _ _
    refine AC.region ?_
    obtain ⟨q30, h1⟩ := need_elim h1
    refine AO.op rfl (AOp.iadd rfl rfl lb rfl rfl rfl q30.1 q30.2 ?_)
    refine AO.mv 1 rfl ?_
    refine AO.nil ?_
    exact ⟨(g5.1, (g5.2 + (1 : Int))), _, rfl, (LeL.refl _), rfl, rfl, h1⟩
   replace h1 := cF h1 q11
   refine AO.dec (decide (x9.dt = 70)) (fun q31 => ?_) (fun q31 => ?_)
   ·replace h1 := cT h1 q31
    obtain ⟨y32, q33, h1⟩ := bind_elim h1
    refine AO.sub 25 rfl (eIfc_le q31 q33) ?_
    obtain ⟨y34, q35, h1⟩ := bind_elim h1
    refine AO.op rfl (AOp.callE ((EntersS.meth (by kernel_rfl) rfl rfl rfl meth70_Layout rfl rfl).le (.cons (SVLe.epPt (n := 4) rfl) .nil)) rfl lb rfl rfl (w_geom0_Layout y32.geom1.geom0 y34 q35) ?_)
    rintro _ rfl
    refine AO.mn 1 rfl ?_
    refine AC.smn 1 rfl ?_
    refine AC.block ?_
    refine AC.sr ?_
    refine AO.op rfl (AOp.ieql rfl rfl lb rfl rfl ?_)
    refine AO.mn 1 rfl ?_
    refine AC.cond rfl (fun q36 => ?_) (fun q36 => ?_)
    ·replace h1 := cT h1 q36
     refine AC.sm 1 rfl ?_
     refine AO.op rfl (AOp.ieql rfl rfl lb rfl rfl ?_)
     refine AO.nS ?_
     refine AC.cond rfl (fun q37 => ?_) (fun q37 => ?_)
     ·replace h1 := cT h1 q37
      refine AC.region ?_
      refine AO.mv 1 rfl ?_
      refine AO.nil (?_ : AC _ _ _ _)
      refine AC.region ?_
      obtain ⟨q38, h1⟩ := need_elim h1
      refine AO.op rfl (AOp.iadd rfl rfl lb rfl rfl rfl q38.1 q38.2 ?_)
      refine AO.mv 1 rfl ?_
      refine AO.nil ?_
      exact ⟨((4 : Int), (g5.2 + (1 : Int))), _, rfl, (LeL.refl _), rfl, rfl, h1⟩
     replace h1 := cF h1 q37
     refine AC.sm 2 rfl ?_
     refine AO.op rfl (AOp.igtr rfl rfl lb rfl rfl ?_)
     refine AO.nS ?_
     refine AC.cond rfl (fun q39 => ?_) (fun q39 => ?_)
     ·replace h1 := cT h1 q39
      refine AC.region ?_
      refine AO.mv 2 rfl ?_
      refine AO.nil (?_ : AC _ _ _ _)
      refine AC.region ?_
      obtain ⟨q40, h1⟩ := need_elim h1
      refine AO.op rfl (AOp.iadd rfl rfl lb rfl rfl rfl q40.1 q40.2 ?_)
      refine AO.mv 1 rfl ?_
      refine AO.nil ?_
      exact ⟨(y34, (g5.2 + (1 : Int))), _, rfl, (LeL.refl _), rfl, rfl, h1⟩
     replace h1 := cF h1 q39
     refine AC.skip ?_
     change AC _ _ _ _
     refine AC.region ?_
     obtain ⟨q41, h1⟩ := need_elim h1
     refine AO.op rfl (AOp.iadd rfl rfl lb rfl rfl rfl q41.1 q41.2 ?_)
     refine AO.mv 1 rfl ?_
     refine AO.nil ?_
     exact ⟨(g5.1, (g5.2 + (1 : Int))), _, rfl, (LeL.refl _), rfl, rfl, h1⟩
    replace h1 := cF h1 q36
    refine AC.sr ?_
    refine AO.op rfl (AOp.ieql rfl rfl lb rfl rfl ?_)
    refine AO.mn 1 rfl ?_
    refine AC.cond rfl (fun q42 => ?_) (fun q42 => ?_)
    ·replace h1 := cT h1 q42
     refine AC.sm 1 rfl ?_
     refine AO.op rfl (AOp.ieql rfl rfl lb rfl rfl ?_)
     refine AO.nS ?_
     refine AC.cond rfl (fun q43 => ?_) (fun q43 => ?_)
     ·replace h1 := cT h1 q43
      refine AC.region ?_
      refine AO.mv 1 rfl ?_
      refine AO.nil (?_ : AC _ _ _ _)
      refine AC.region ?_
      obtain ⟨q44, h1⟩ := need_elim h1
      refine AO.op rfl (AOp.iadd rfl rfl lb rfl rfl rfl q44.1 q44.2 ?_)
      refine AO.mv 1 rfl ?_
      refine AO.nil ?_
      exact ⟨((4 : Int), (g5.2 + (1 : Int))), _, rfl, (LeL.refl _), rfl, rfl, h1⟩
     replace h1 := cF h1 q43
     refine AC.sm 2 rfl ?_
     refine AO.op rfl (AOp.igtr rfl rfl lb rfl rfl ?_)
     refine AO.nS ?_
     refine AC.cond rfl (fun q45 => ?_) (fun q45 => ?_)
     ·replace h1 := cT h1 q45
      refine AC.region ?_
      refine AO.mv 2 rfl ?_
      refine AO.nil (?_ : AC _ _ _ _)
      refine AC.region ?_
      obtain ⟨q46, h1⟩ := need_elim h1
      refine AO.op rfl (AOp.iadd rfl rfl lb rfl rfl rfl q46.1 q46.2 ?_)
      refine AO.mv 1 rfl ?_
      refine AO.nil ?_
      exact ⟨(y34, (g5.2 + (1 : Int))), _, rfl, (LeL.refl _), rfl, rfl, h1⟩
     replace h1 := cF h1 q45
     refine AC.skip ?_
     change AC _ _ _ _
     refine AC.region ?_
     obtain ⟨q47, h1⟩ := need_elim h1
     refine AO.op rfl (AOp.iadd rfl rfl lb rfl rfl rfl q47.1 q47.2 ?_)
     refine AO.mv 1 rfl ?_
     refine AO.nil ?_
     exact ⟨(g5.1, (g5.2 + (1 : Int))), _, rfl, (LeL.refl _), rfl, rfl, h1⟩
    replace h1 := cF h1 q42
    refine AC.sm 2 rfl ?_
    refine AO.op rfl (AOp.igtr rfl rfl lb rfl rfl ?_)
    refine AO.nS ?_
    refine AC.cond rfl (fun q48 => ?_) (fun q48 => ?_)
    ·replace h1 := cT h1 q48
     refine AC.region ?_
     refine AO.mv 2 rfl ?_
     refine AO.nil (?_ : AC _ _ _ _)
     refine AC.region ?_
     obtain ⟨q49, h1⟩ := need_elim h1
     refine AO.op rfl (AOp.iadd rfl rfl lb rfl rfl rfl q49.1 q49.2 ?_)
     refine AO.mv 1 rfl ?_
     refine AO.nil ?_
     exact ⟨(y34, (g5.2 + (1 : Int))), _, rfl, (LeL.refl _), rfl, rfl, h1⟩
    replace h1 := cF h1 q48
    refine AC.skip ?_
    change AC _ _ _ _
    refine AC.region ?_
    obtain ⟨q50, h1⟩ := need_elim h1
    refine AO.op rfl (AOp.iadd rfl rfl lb rfl rfl rfl q50.1 q50.2 ?_)
    refine AO.mv 1 rfl ?_
    refine AO.nil ?_
    exact ⟨(g5.1, (g5.2 + (1 : Int))), _, rfl, (LeL.refl _), rfl, rfl, h1⟩
   replace h1 := cF h1 q31
   refine AO.dec (decide (x9.dt = 76)) (fun q51 => ?_) (fun q51 => ?_)
   ·replace h1 := cT h1 q51
    obtain ⟨y52, q53, h1⟩ := bind_elim h1
    refine AO.sub 25 rfl (eIfc_le q51 q53) ?_
    obtain ⟨y54, q55, h1⟩ := bind_elim h1
    refine AO.op rfl (AOp.callE ((EntersS.meth (by kernel_rfl) rfl rfl rfl meth76_Layout rfl rfl).le (.cons (SVLe.epPt (n := 4) rfl) .nil)) rfl lb rfl rfl (w_geom0_Layout y52.geom2.geom1.geom0 y54 q55) ?_)
    rintro _ rfl
    refine AO.mn 1 rfl ?_
    refine AC.smn 1 rfl ?_
    refine AC.block ?_
    refine AC.sr ?_
    refine AO.op rfl (AOp.ieql rfl rfl lb rfl rfl ?_)
    refine AO.mn 1 rfl ?_
    refine AC.cond rfl (fun q56 => ?_) (fun q56 => ?_)
    ·replace h1 := cT h1 q56
     refine AC.sm 1 rfl ?_
     refine AO.op rfl (AOp.ieql rfl rfl lb rfl rfl ?_)
     refine AO.nS ?_
     refine AC.cond rfl (fun q57 => ?_) (fun q57 => ?_)
     ·replace h1 := cT h1 q57
      refine AC.region ?_
      refine AO.mv 1 rfl ?_
      refine AO.nil (?_ : AC _ _ _ _)
      refine AC.region ?_
      obtain ⟨q58, h1⟩ := need_elim h1
      refine AO.op rfl (AOp.iadd rfl rfl lb rfl rfl rfl q58.1 q58.2 ?_)
      refine AO.mv 1 rfl ?_
      refine AO.nil ?_
      exact ⟨((4 : Int), (g5.2 + (1 : Int))), _, rfl, (LeL.refl _), rfl, rfl, h1⟩
     replace h1 := cF h1 q57
     refine AC.sm 2 rfl ?_
     refine AO.op rfl (AOp.igtr rfl rfl lb rfl rfl ?_)
     refine AO.nS ?_
     refine AC.cond rfl (fun q59 => ?_) (fun q59 => ?_)
     ·replace h1 := cT h1 q59
      refine AC.region ?_
      refine AO.mv 2 rfl ?_
      refine AO.nil (?_ : AC _ _ _ _)
      refine AC.region ?_
      obtain ⟨q60, h1⟩ := need_elim h1
      refine AO.op rfl (AOp.iadd rfl rfl lb rfl rfl rfl q60.1 q60.2 ?_)
      refine AO.mv 1 rfl ?_
      refine AO.nil ?_
      exact ⟨(y54, (g5.2 + (1 : Int))), _, rfl, (LeL.refl _), rfl, rfl, h1⟩
     replace h1 := cF h1 q59
     refine AC.skip ?_
     change AC _ _ _ _
     refine AC.region ?_
     obtain ⟨q61, h1⟩ := need_elim h1
     refine AO.op rfl (AOp.iadd rfl rfl lb rfl rfl rfl q61.1 q61.2 ?_)
     refine AO.mv 1 rfl ?_
     refine AO.nil ?_
     exact ⟨(g5.1, (g5.2 + (1 : Int))), _, rfl, (LeL.refl _), rfl, rfl, h1⟩
    replace h1 := cF h1 q56
    refine AC.sr ?_
    refine AO.op rfl (AOp.ieql rfl rfl lb rfl rfl ?_)
    refine AO.mn 1 rfl ?_
    refine AC.cond rfl (fun q62 => ?_) (fun q62 => ?_)
    ·replace h1 := cT h1 q62
     refine AC.sm 1 rfl ?_
     refine AO.op rfl (AOp.ieql rfl rfl lb rfl rfl ?_)
     refine AO.nS ?_
     refine AC.cond rfl (fun q63 => ?_) (fun q63 => ?_)
     ·replace h1 := cT h1 q63
      refine AC.region ?_
      refine AO.mv 1 rfl ?_
      refine AO.nil (?_ : AC _ _ _ _)
      refine AC.region ?_
      obtain ⟨q64, h1⟩ := need_elim h1
      refine AO.op rfl (AOp.iadd rfl rfl lb rfl rfl rfl q64.1 q64.2 ?_)
      refine AO.mv 1 rfl ?_
      refine AO.nil ?_
      exact ⟨((4 : Int), (g5.2 + (1 : Int))), _, rfl, (LeL.refl _), rfl, rfl, h1⟩
     replace h1 := cF h1 q63
     refine AC.sm 2 rfl ?_
     refine AO.op rfl (AOp.igtr rfl rfl lb rfl rfl ?_)
     refine AO.nS ?_
     refine AC.cond rfl (fun q65 => ?_) (fun q65 => ?_)
     ·replace h1 := cT h1 q65
      refine AC.region ?_
      refine AO.mv 2 rfl ?_
      refine AO.nil (?_ : AC _ _ _ _)
      refine AC.region ?_
      obtain ⟨q66, h1⟩ := need_elim h1
      refine AO.op rfl (AOp.iadd rfl rfl lb rfl rfl rfl q66.1 q66.2 ?_)
      refine AO.mv 1 rfl ?_
      refine AO.nil ?_
      exact ⟨(y54, (g5.2 + (1 : Int))), _, rfl, (LeL.refl _), rfl, rfl, h1⟩
     replace h1 := cF h1 q65
     refine AC.skip ?_
     change AC _ _ _ _
     refine AC.region ?_
     obtain ⟨q67, h1⟩ := need_elim h1
     refine AO.op rfl (AOp.iadd rfl rfl lb rfl rfl rfl q67.1 q67.2 ?_)
     refine AO.mv 1 rfl ?_
     refine AO.nil ?_
     exact ⟨(g5.1, (g5.2 + (1 : Int))), _, rfl, (LeL.refl _), rfl, rfl, h1⟩
    replace h1 := cF h1 q62
    refine AC.sm 2 rfl ?_
    refine AO.op rfl (AOp.igtr rfl rfl lb rfl rfl ?_)
    refine AO.nS ?_
    refine AC.cond rfl (fun q68 => ?_) (fun q68 => ?_)
    ·replace h1 := cT h1 q68
     refine AC.region ?_
     refine AO.mv 2 rfl ?_
     refine AO.nil (?_ : AC _ _ _ _)
     refine AC.region ?_
     obtain ⟨q69, h1⟩ := need_elim h1
     refine AO.op rfl (AOp.iadd rfl rfl lb rfl rfl rfl q69.1 q69.2 ?_)
     refine AO.mv 1 rfl ?_
     refine AO.nil ?_
     exact ⟨(y54, (g5.2 + (1 : Int))), _, rfl, (LeL.refl _), rfl, rfl, h1⟩
    replace h1 := cF h1 q68
    refine AC.skip ?_
    change AC _ _ _ _
    refine AC.region ?_
    obtain ⟨q70, h1⟩ := need_elim h1
    refine AO.op rfl (AOp.iadd rfl rfl lb rfl rfl rfl q70.1 q70.2 ?_)
    refine AO.mv 1 rfl ?_
    refine AO.nil ?_
    exact ⟨(g5.1, (g5.2 + (1 : Int))), _, rfl, (LeL.refl _), rfl, rfl, h1⟩
   replace h1 := cF h1 q51
   refine AO.dec (decide (x9.dt = 80)) (fun q71 => ?_) (fun q71 => ?_)
   ·replace h1 := cT h1 q71
    obtain ⟨y72, q73, h1⟩ := bind_elim h1
    refine AO.sub 25 rfl (eIfc_le q71 q73) ?_
    obtain ⟨y74, q75, h1⟩ := bind_elim h1
    refine AO.op rfl (AOp.callE ((EntersS.meth (by kernel_rfl) rfl rfl rfl meth80_Layout rfl rfl).le (.cons (SVLe.epPt (n := 4) rfl) .nil)) rfl lb rfl rfl (w_geom0_Layout y72.geom2.geom1.geom0 y74 q75) ?_)
    rintro _ rfl
    refine AO.mn 1 rfl ?_
    refine AC.smn 1 rfl ?_
    refine AC.block ?_
    refine AC.sr ?_
    refine AO.op rfl (AOp.ieql rfl rfl lb rfl rfl ?_)
    refine AO.mn 1 rfl ?_
    refine AC.cond rfl (fun q76 => ?_) (fun q76 => ?_)
    ·replace h1 := cT h1 q76
     refine AC.sm 1 rfl ?_
     refine AO.op rfl (AOp.ieql rfl rfl lb rfl rfl ?_)
     refine AO.nS ?_
     refine AC.cond rfl (fun q77 => ?_) (fun q77 => ?_)
     ·replace h1 := cT h1 q77
      refine AC.region ?_
      refine AO.mv 1 rfl ?_
      refine AO.nil (?_ : AC _ _ _ _)
      refine AC.region ?_
      obtain ⟨q78, h1⟩ := need_elim h1
      refine AO.op rfl (AOp.iadd rfl rfl lb rfl rfl rfl q78.1 q78.2 ?_)
      refine AO.mv 1 rfl ?_
      refine AO.nil ?_
      exact ⟨((4 : Int), (g5.2 + (1 : Int))), _, rfl, (LeL.refl _), rfl, rfl, h1⟩
     replace h1 := cF h1 q77
     refine AC.sm 2 rfl ?_
     refine AO.op rfl (AOp.igtr rfl rfl lb rfl rfl ?_)
     refine AO.nS ?_
     refine AC.cond rfl (fun q79 => ?_) (fun q79 => ?_)
     ·replace h1 := cT h1 q79
      refine AC.region ?_
      refine AO.mv 2 rfl ?_
      refine AO.nil (?_ : AC _ _ _ _)
      refine AC.region ?_
      obtain ⟨q80, h1⟩ := need_elim h1
      refine AO.op rfl (AOp.iadd rfl rfl lb rfl rfl rfl q80.1 q80.2 ?_)
      refine AO.mv 1 rfl ?_
      refine AO.nil ?_
      exact ⟨(y74, (g5.2 + (1 : Int))), _, rfl, (LeL.refl _), rfl, rfl, h1⟩
     replace h1 := cF h1 q79
     refine AC.skip ?_
     change AC _ _ _ _
     refine AC.region ?_
     obtain ⟨q81, h1⟩ := need_elim h1
     refine AO.op rfl (AOp.iadd rfl rfl lb rfl rfl rfl q81.1 q81.2 ?_)
     refine AO.mv 1 rfl ?_
     refine AO.nil ?_
     exact ⟨(g5.1, (g5.2 + (1 : Int))), _, rfl, (LeL.refl _), rfl, rfl, h1⟩
    replace h1 := cF h1 q76
    refine AC.sr ?_
    refine AO.op rfl (AOp.ieql rfl rfl lb rfl rfl ?_)
    refine AO.mn 1 rfl ?_
    refine AC.cond rfl (fun q82 => ?_) (fun q82 => ?_)
    ·replace h1 := cT h1 q82
     refine AC.sm 1 rfl ?_
     refine AO.op rfl (AOp.ieql rfl rfl lb rfl rfl ?_)
     refine AO.nS ?_
     refine AC.cond rfl (fun q83 => ?_) (fun q83 => ?_)
     ·replace h1 := cT h1 q83
      refine AC.region ?_
      refine AO.mv 1 rfl ?_
      refine AO.nil (?_ : AC _ _ _ _)
      refine AC.region ?_
      obtain ⟨q84, h1⟩ := need_elim h1
      refine AO.op rfl (AOp.iadd rfl rfl lb rfl rfl rfl q84.1 q84.2 ?_)
      refine AO.mv 1 rfl ?_
      refine AO.nil ?_
      exact ⟨((4 : Int), (g5.2 + (1 : Int))), _, rfl, (LeL.refl _), rfl, rfl, h1⟩
     replace h1 := cF h1 q83
     refine AC.sm 2 rfl ?_
     refine AO.op rfl (AOp.igtr rfl rfl lb rfl rfl ?_)
     refine AO.nS ?_
     refine AC.cond rfl (fun q85 => ?_) (fun q85 => ?_)
     ·replace h1 := cT h1 q85
      refine AC.region ?_
      refine AO.mv 2 rfl ?_
      refine AO.nil (?_ : AC _ _ _ _)
      refine AC.region ?_
      obtain ⟨q86, h1⟩ := need_elim h1
      refine AO.op rfl (AOp.iadd rfl rfl lb rfl rfl rfl q86.1 q86.2 ?_)
      refine AO.mv 1 rfl ?_
      refine AO.nil ?_
      exact ⟨(y74, (g5.2 + (1 : Int))), _, rfl, (LeL.refl _), rfl, rfl, h1⟩
     replace h1 := cF h1 q85
     refine AC.skip ?_
     change AC _ _ _ _
     refine AC.region ?_
     obtain ⟨q87, h1⟩ := need_elim h1
     refine AO.op rfl (AOp.iadd rfl rfl lb rfl rfl rfl q87.1 q87.2 ?_)
     refine AO.mv 1 rfl ?_
     refine AO.nil ?_
     exact ⟨(g5.1, (g5.2 + (1 : Int))), _, rfl, (LeL.refl _), rfl, rfl, h1⟩
    replace h1 := cF h1 q82
    refine AC.sm 2 rfl ?_
    refine AO.op rfl (AOp.igtr rfl rfl lb rfl rfl ?_)
    refine AO.nS ?_
    refine AC.cond rfl (fun q88 => ?_) (fun q88 => ?_)
    ·replace h1 := cT h1 q88
     refine AC.region ?_
     refine AO.mv 2 rfl ?_
     refine AO.nil (?_ : AC _ _ _ _)
     refine AC.region ?_
     obtain ⟨q89, h1⟩ := need_elim h1
     refine AO.op rfl (AOp.iadd rfl rfl lb rfl rfl rfl q89.1 q89.2 ?_)
     refine AO.mv 1 rfl ?_
     refine AO.nil ?_
     exact ⟨(y74, (g5.2 + (1 : Int))), _, rfl, (LeL.refl _), rfl, rfl, h1⟩
    replace h1 := cF h1 q88
    refine AC.skip ?_
    change AC _ _ _ _
    refine AC.region ?_
    obtain ⟨q90, h1⟩ := need_elim h1
    refine AO.op rfl (AOp.iadd rfl rfl lb rfl rfl rfl q90.1 q90.2 ?_)
    refine AO.mv 1 rfl ?_
    refine AO.nil ?_
    exact ⟨(g5.1, (g5.2 + (1 : Int))), _, rfl, (LeL.refl _), rfl, rfl, h1⟩
   replace h1 := cF h1 q71
   refine AO.dec (decide (x9.dt = 86)) (fun q91 => ?_) (fun q91 => ?_)
   ·replace h1 := cT h1 q91
    obtain ⟨y92, q93, h1⟩ := bind_elim h1
    refine AO.sub 25 rfl (eIfc_le q91 q93) ?_
    obtain ⟨y94, q95, h1⟩ := bind_elim h1
    refine AO.op rfl (AOp.callE ((EntersS.meth (by kernel_rfl) rfl rfl rfl meth86_Layout rfl rfl).le (.cons (SVLe.epPt (n := 4) rfl) .nil)) rfl lb rfl rfl (w_geom0_Layout y92.geom2.geom1.geom0 y94 q95) ?_)
    rintro _ rfl
    refine AO.mn 1 rfl ?_
    refine AC.smn 1 rfl ?_
    refine AC.block ?_
    refine AC.sr ?_
    refine AO.op rfl (AOp.ieql rfl rfl lb rfl rfl ?_)
    refine AO.mn 1 rfl ?_
    refine AC.cond rfl (fun q96 => ?_) (fun q96 => ?_)
    ·replace h1 := cT h1 q96
     refine AC.sm 1 rfl ?_
     refine AO.op rfl (AOp.ieql rfl rfl lb rfl rfl ?_)
     refine AO.nS ?_
     refine AC.cond rfl (fun q97 => ?_) (fun q97 => ?_)
     ·replace h1 := cT h1 q97
      refine AC.region ?_
      refine AO.mv 1 rfl ?_
      refine AO.nil (?_ : AC _ _ _ _)
      refine AC.region ?_
      obtain ⟨q98, h1⟩ := need_elim h1
      refine AO.op rfl (AOp.iadd rfl rfl lb rfl rfl rfl q98.1 q98.2 ?_)
      refine AO.mv 1 rfl ?_
      refine AO.nil ?_
      exact ⟨((4 : Int), (g5.2 + (1 : Int))), _, rfl, (LeL.refl _), rfl, rfl, h1⟩
     replace h1 := cF h1 q97
     refine AC.sm 2 rfl ?_
     refine AO.op rfl (AOp.igtr rfl rfl lb rfl rfl ?_)
     refine AO.nS ?_
     refine AC.cond rfl (fun q99 => ?_) (fun q99 => ?_)
     ·replace h1 := cT h1 q99
      refine AC.region ?_
      refine AO.mv 2 rfl ?_
      refine AO.nil (?_ : AC _ _ _ _)
      refine AC.region ?_
      obtain ⟨q100, h1⟩ := need_elim h1
      refine AO.op rfl (AOp.iadd rfl rfl lb rfl rfl rfl q100.1 q100.2 ?_)
      refine AO.mv 1 rfl ?_
      refine AO.nil ?_
      exact ⟨(y94, (g5.2 + (1 : Int))), _, rfl, (LeL.refl _), rfl, rfl, h1⟩
     replace h1 := cF h1 q99
     refine AC.skip ?_
     change AC _ _ _ _
     refine AC.region ?_
     obtain ⟨q101, h1⟩ := need_elim h1
     refine AO.op rfl (AOp.iadd rfl rfl lb rfl rfl rfl q101.1 q101.2 ?_)
     refine AO.mv 1 rfl ?_
     refine AO.nil ?_
     exact ⟨(g5.1, (g5.2 + (1 : Int))), _, rfl, (LeL.refl _), rfl, rfl, h1⟩
    replace h1 := cF h1 q96
    refine AC.sr ?_
    refine AO.op rfl (AOp.ieql rfl rfl lb rfl rfl ?_)
    refine AO.mn 1 rfl ?_
    refine AC.cond rfl (fun q102 => ?_) (fun q102 => ?_)
    ·replace h1 := cT h1 q102
     refine AC.sm 1 rfl ?_
     refine AO.op rfl (AOp.ieql rfl rfl lb rfl rfl ?_)
     refine AO.nS ?_
     refine AC.cond rfl (fun q103 => ?_) (fun q103 => ?_)
     ·replace h1 := cT h1 q103
      refine AC.region ?_
      refine AO.mv 1 rfl ?_
      refine AO.nil (?_ : AC _ _ _ _)
      refine AC.region ?_
      obtain ⟨q104, h1⟩ := need_elim h1
      refine AO.op rfl (AOp.iadd rfl rfl lb rfl rfl rfl q104.1 q104.2 ?_)
      refine AO.mv 1 rfl ?_
      refine AO.nil ?_
      exact ⟨((4 : Int), (g5.2 + (1 : Int))), _, rfl, (LeL.refl _), rfl, rfl, h1⟩
     replace h1 := cF h1 q103
     refine AC.sm 2 rfl ?_
     refine AO.op rfl (AOp.igtr rfl rfl lb rfl rfl ?_)
     refine AO.nS ?_
     refine AC.cond rfl (fun q105 => ?_) (fun q105 => ?_)
     ·replace h1 := cT h1 q105
      refine AC.region ?_
      refine AO.mv 2 rfl ?_
      refine AO.nil (?_ : AC _ _ _ _)
      refine AC.region ?_
      obtain ⟨q106, h1⟩ := need_elim h1
      refine AO.op rfl (AOp.iadd rfl rfl lb rfl rfl rfl q106.1 q106.2 ?_)
      refine AO.mv 1 rfl ?_
      refine AO.nil ?_
      exact ⟨(y94, (g5.2 + (1 : Int))), _, rfl, (LeL.refl _), rfl, rfl, h1⟩
     replace h1 := cF h1 q105
     refine AC.skip ?_
     change AC _ _ _ _
     refine AC.region ?_
     obtain ⟨q107, h1⟩ := need_elim h1
     refine AO.op rfl (AOp.iadd rfl rfl lb rfl rfl rfl q107.1 q107.2 ?_)
     refine AO.mv 1 rfl ?_
     refine AO.nil ?_
     exact ⟨(g5.1, (g5.2 + (1 : Int))), _, rfl, (LeL.refl _), rfl, rfl, h1⟩
    replace h1 := cF h1 q102
    refine AC.sm 2 rfl ?_
    refine AO.op rfl (AOp.igtr rfl rfl lb rfl rfl ?_)
    refine AO.nS ?_
    refine AC.cond rfl (fun q108 => ?_) (fun q108 => ?_)
    ·replace h1 := cT h1 q108
     refine AC.region ?_
     refine AO.mv 2 rfl ?_
     refine AO.nil (?_ : AC _ _ _ _)
     refine AC.region ?_
     obtain ⟨q109, h1⟩ := need_elim h1
     refine AO.op rfl (AOp.iadd rfl rfl lb rfl rfl rfl q109.1 q109.2 ?_)
     refine AO.mv 1 rfl ?_
     refine AO.nil ?_
     exact ⟨(y94, (g5.2 + (1 : Int))), _, rfl, (LeL.refl _), rfl, rfl, h1⟩
    replace h1 := cF h1 q108
    refine AC.skip ?_
    change AC _ _ _ _
    refine AC.region ?_
    obtain ⟨q110, h1⟩ := need_elim h1
    refine AO.op rfl (AOp.iadd rfl rfl lb rfl rfl rfl q110.1 q110.2 ?_)
    refine AO.mv 1 rfl ?_
    refine AO.nil ?_
    exact ⟨(g5.1, (g5.2 + (1 : Int))), _, rfl, (LeL.refl _), rfl, rfl, h1⟩
   replace h1 := cF h1 q91
   refine AO.dec (decide (x9.dt = 89)) (fun q111 => ?_) (fun q111 => ?_)
   ·replace h1 := cT h1 q111
    obtain ⟨y112, q113, h1⟩ := bind_elim h1
    refine AO.sub 25 rfl (eIfc_le q111 q113) ?_
    obtain ⟨y114, q115, h1⟩ := bind_elim h1
    refine AO.op rfl (AOp.callE ((EntersS.meth (by kernel_rfl) rfl rfl rfl meth89_Layout rfl rfl).le (.cons (SVLe.epPt (n := 4) rfl) .nil)) rfl lb rfl rfl (w_geom0_Layout y112.geom3.geom1.geom0 y114 q115) ?_)
    rintro _ rfl
    refine AO.mn 1 rfl ?_
    refine AC.smn 1 rfl ?_
    refine AC.block ?_
    refine AC.sr ?_
    refine AO.op rfl (AOp.ieql rfl rfl lb rfl rfl ?_)
    refine AO.mn 1 rfl ?_
    refine AC.cond rfl (fun q116 => ?_) (fun q116 => ?_)
    ·replace h1 := cT h1 q116
     refine AC.sm 1 rfl ?_
     refine AO.op rfl (AOp.ieql rfl rfl lb rfl rfl ?_)
     refine AO.nS ?_
     refine AC.cond rfl (fun q117 => ?_) (fun q117 => ?_)
     ·replace h1 := cT h1 q117
      refine AC.region ?_
      refine AO.mv 1 rfl ?_
      refine AO.nil (?_ : AC _ _ _ _)
      refine AC.region ?_
      obtain ⟨q118, h1⟩ := need_elim h1
      refine AO.op rfl (AOp.iadd rfl rfl lb rfl rfl rfl q118.1 q118.2 ?_)
      refine AO.mv 1 rfl ?_
      refine AO.nil ?_
      exact ⟨((4 : Int), (g5.2 + (1 : Int))), _, rfl, (LeL.refl _), rfl, rfl, h1⟩
     replace h1 := cF h1 q117
     refine AC.sm 2 rfl ?_
     refine AO.op rfl (AOp.igtr rfl rfl lb rfl rfl ?_)
     refine AO.nS ?_
     refine AC.cond rfl (fun q119 => ?_) (fun q119 => ?_)
     ·replace h1 := cT h1 q119
      refine AC.region ?_
      refine AO.mv 2 rfl ?_
      refine AO.nil (?_ : AC _ _ _ _)
      refine AC.region ?_
      obtain ⟨q120, h1⟩ := need_elim h1
      refine AO.op rfl (AOp.iadd rfl rfl lb rfl rfl rfl q120.1 q120.2 ?_)
      refine AO.mv 1 rfl ?_
      refine AO.nil ?_
      exact ⟨(y114, (g5.2 + (1 : Int))), _, rfl, (LeL.refl _), rfl, rfl, h1⟩
     replace h1 := cF h1 q119
     refine AC.skip ?_
     change AC _ _ _ _
     refine AC.region ?_
     obtain ⟨q121, h1⟩ := need_elim h1
     refine AO.op rfl (AOp.iadd rfl rfl lb rfl rfl rfl q121.1 q121.2 ?_)
     refine AO.mv 1 rfl ?_
     refine AO.nil ?_
     exact ⟨(g5.1, (g5.2 + (1 : Int))), _, rfl, (LeL.refl _), rfl, rfl, h1⟩
    replace h1 := cF h1 q116
    refine AC.sr ?_
    refine AO.op rfl (AOp.ieql rfl rfl lb rfl rfl ?_)
    refine AO.mn 1 rfl ?_
    refine AC.cond rfl (fun q122 => ?_) (fun q122 => ?_)
    ·replace h1 := cT h1 q122
     refine AC.sm 1 rfl ?_
     refine AO.op rfl (AOp.ieql rfl rfl lb rfl rfl ?_)
     refine AO.nS ?_
     refine AC.cond rfl (fun q123 => ?_) (fun q123 => ?_)
     ·replace h1 := cT h1 q123
      refine AC.region ?_
      refine AO.mv 1 rfl ?_
      refine AO.nil (?_ : AC _ _ _ _)
      refine AC.region ?_
      obtain ⟨q124, h1⟩ := need_elim h1
      refine AO.op rfl (AOp.iadd rfl rfl lb rfl rfl rfl q124.1 q124.2 ?_)
      refine AO.mv 1 rfl ?_
      refine AO.nil ?_
      exact ⟨((4 : Int), (g5.2 + (1 : Int))), _, rfl, (LeL.refl _), rfl, rfl, h1⟩
     replace h1 := cF h1 q123
     refine AC.sm 2 rfl ?_
     refine AO.op rfl (AOp.igtr rfl rfl lb rfl rfl ?_)
     refine AO.nS ?_
     refine AC.cond rfl (fun q125 => ?_) (fun q125 => ?_)
     ·replace h1 := cT h1 q125
      refine AC.region ?_
      refine AO.mv 2 rfl ?_
      refine AO.nil (?_ : AC _ _ _ _)
      refine AC.region ?_
      obtain ⟨q126, h1⟩ := need_elim h1
      refine AO.op rfl (AOp.iadd rfl rfl lb rfl rfl rfl q126.1 q126.2 ?_)
      refine AO.mv 1 rfl ?_
      refine AO.nil ?_
      exact ⟨(y114, (g5.2 + (1 : Int))), _, rfl, (LeL.refl _), rfl, rfl, h1⟩
     replace h1 := cF h1 q125
     refine AC.skip ?_
     change AC _ _ _ _
     refine AC.region ?_
     obtain ⟨q127, h1⟩ := need_elim h1
     refine AO.op rfl (AOp.iadd rfl rfl lb rfl rfl rfl q127.1 q127.2 ?_)
     refine AO.mv 1 rfl ?_
     refine AO.nil ?_
     exact ⟨(g5.1, (g5.2 + (1 : Int))), _, rfl, (LeL.refl _), rfl, rfl, h1⟩
    replace h1 := cF h1 q122
    refine AC.sm 2 rfl ?_
    refine AO.op rfl (AOp.igtr rfl rfl lb rfl rfl ?_)
    refine AO.nS ?_
    refine AC.cond rfl (fun q128 => ?_) (fun q128 => ?_)
    ·replace h1 := cT h1 q128
     refine AC.region ?_
     refine AO.mv 2 rfl ?_
     refine AO.nil (?_ : AC _ _ _ _)
     refine AC.region ?_
     obtain ⟨q129, h1⟩ := need_elim h1
     refine AO.op rfl (AOp.iadd rfl rfl lb rfl rfl rfl q129.1 q129.2 ?_)
     refine AO.mv 1 rfl ?_
     refine AO.nil ?_
     exact ⟨(y114, (g5.2 + (1 : Int))), _, rfl, (LeL.refl _), rfl, rfl, h1⟩
    replace h1 := cF h1 q128
    refine AC.skip ?_
    change AC _ _ _ _
    refine AC.region ?_
    obtain ⟨q130, h1⟩ := need_elim h1
    refine AO.op rfl (AOp.iadd rfl rfl lb rfl rfl rfl q130.1 q130.2 ?_)
    refine AO.mv 1 rfl ?_
    refine AO.nil ?_
    exact ⟨(g5.1, (g5.2 + (1 : Int))), _, rfl, (LeL.refl _), rfl, rfl, h1⟩
   replace h1 := cF h1 q111
   refine AO.dec (decide (x9.dt = 93)) (fun q131 => ?_) (fun q131 => ?_)
   ·replace h1 := cT h1 q131
    obtain ⟨y132, q133, h1⟩ := bind_elim h1
    refine AO.sub 25 rfl (eIfc_le q131 q133) ?_
    obtain ⟨y134, q135, h1⟩ := bind_elim h1
    refine AO.op rfl (AOp.callE (EntersS.meth (by kernel_rfl) rfl rfl rfl meth93_Layout rfl rfl) rfl lb rfl rfl (hR y132 y134 q135) ?_)
    rintro _ rfl
    refine AO.mn 1 rfl ?_
    refine AC.smn 1 rfl ?_
    refine AC.block ?_
    refine AC.sr ?_
    refine AO.op rfl (AOp.ieql rfl rfl lb rfl rfl ?_)
    refine AO.mn 1 rfl ?_
    refine AC.cond rfl (fun q136 => ?_) (fun q136 => ?_)
    ·replace h1 := cT h1 q136
     refine AC.sm 1 rfl ?_
     refine AO.op rfl (AOp.ieql rfl rfl lb rfl rfl ?_)
     refine AO.nS ?_
     refine AC.cond rfl (fun q137 => ?_) (fun q137 => ?_)
     ·replace h1 := cT h1 q137
      refine AC.region ?_
      refine AO.mv 1 rfl ?_
      refine AO.nil (?_ : AC _ _ _ _)
      refine AC.region ?_
      obtain ⟨q138, h1⟩ := need_elim h1
      refine AO.op rfl (AOp.iadd rfl rfl lb rfl rfl rfl q138.1 q138.2 ?_)
      refine AO.mv 1 rfl ?_
      refine AO.nil ?_
      exact ⟨((4 : Int), (g5.2 + (1 : Int))), _, rfl, (LeL.refl _), rfl, rfl, h1⟩
     replace h1 := cF h1 q137
     refine AC.sm 2 rfl ?_
     refine AO.op rfl (AOp.igtr rfl rfl lb rfl rfl ?_)
     refine AO.nS ?_
     refine AC.cond rfl (fun q139 => ?_) (fun q139 => ?_)
     ·replace h1 := cT h1 q139
      refine AC.region ?_
      refine AO.mv 2 rfl ?_
      refine AO.nil (?_ : AC _ _ _ _)
      refine AC.region ?_
      obtain ⟨q140, h1⟩ := need_elim h1
      refine AO.op rfl (AOp.iadd rfl rfl lb rfl rfl rfl q140.1 q140.2 ?_)
      refine AO.mv 1 rfl ?_
      refine AO.nil ?_
      exact ⟨(y134, (g5.2 + (1 : Int))), _, rfl, (LeL.refl _), rfl, rfl, h1⟩
     replace h1 := cF h1 q139
     refine AC.skip ?_
     change AC _ _ _ _
     refine AC.region ?_
     obtain ⟨q141, h1⟩ := need_elim h1
     refine AO.op rfl (AOp.iadd rfl rfl lb rfl rfl rfl q141.1 q141.2 ?_)
     refine AO.mv 1 rfl ?_
     refine AO.nil ?_
     exact ⟨(g5.1, (g5.2 + (1 : Int))), _, rfl, (LeL.refl _), rfl, rfl, h1⟩
    replace h1 := cF h1 q136
    refine AC.sr ?_
    refine AO.op rfl (AOp.ieql rfl rfl lb rfl rfl ?_)
    refine AO.mn 1 rfl ?_
    refine AC.cond rfl (fun q142 => ?_) (fun q142 => ?_)
    ·replace h1 := cT h1 q142
     refine AC.sm 1 rfl ?_
     refine AO.op rfl (AOp.ieql rfl rfl lb rfl rfl ?_)
     refine AO.nS ?_
     refine AC.cond rfl (fun q143 => ?_) (fun q143 => ?_)
     ·replace h1 := cT h1 q143
      refine AC.region ?_
      refine AO.mv 1 rfl ?_
      refine AO.nil (?_ : AC _ _ _ _)
      refine AC.region ?_
      obtain ⟨q144, h1⟩ := need_elim h1
      refine AO.op rfl (AOp.iadd rfl rfl lb rfl rfl rfl q144.1 q144.2 ?_)
      refine AO.mv 1 rfl ?_
      refine AO.nil ?_
      exact ⟨((4 : Int), (g5.2 + (1 : Int))), _, rfl, (LeL.refl _), rfl, rfl, h1⟩
     replace h1 := cF h1 q143
     refine AC.sm 2 rfl ?_
     refine AO.op rfl (AOp.igtr rfl rfl lb rfl rfl ?_)
     refine AO.nS ?_
     refine AC.cond rfl (fun q145 => ?_) (fun q145 => ?_)
     ·replace h1 := cT h1 q145
      refine AC.region ?_
      refine AO.mv 2 rfl ?_
      refine AO.nil (?_ : AC _ _ _ _)
      refine AC.region ?_
      obtain ⟨q146, h1⟩ := need_elim h1
      refine AO.op rfl (AOp.iadd rfl rfl lb rfl rfl rfl q146.1 q146.2 ?_)
      refine AO.mv 1 rfl ?_
      refine AO.nil ?_
      exact ⟨(y134, (g5.2 + (1 : Int))), _, rfl, (LeL.refl _), rfl, rfl, h1⟩
     replace h1 := cF h1 q145
     refine AC.skip ?_
     change AC _ _ _ _
     refine AC.region ?_
     obtain ⟨q147, h1⟩ := need_elim h1
     refine AO.op rfl (AOp.iadd rfl rfl lb rfl rfl rfl q147.1 q147.2 ?_)
     refine AO.mv 1 rfl ?_
     refine AO.nil ?_
     exact ⟨(g5.1, (g5.2 + (1 : Int))), _, rfl, (LeL.refl _), rfl, rfl, h1⟩
    replace h1 := cF h1 q142
    refine AC.sm 2 rfl ?_
    refine AO.op rfl (AOp.igtr rfl rfl lb rfl rfl ?_)
    refine AO.nS ?_
    refine AC.cond rfl (fun q148 => ?_) (fun q148 => ?_)
    ·replace h1 := cT h1 q148
     refine AC.region ?_
     refine AO.mv 2 rfl ?_
     refine AO.nil (?_ : AC _ _ _ _)
     refine AC.region ?_
     obtain ⟨q149, h1⟩ := need_elim h1
     refine AO.op rfl (AOp.iadd rfl rfl lb rfl rfl rfl q149.1 q149.2 ?_)
     refine AO.mv 1 rfl ?_
     refine AO.nil ?_
     exact ⟨(y134, (g5.2 + (1 : Int))), _, rfl, (LeL.refl _), rfl, rfl, h1⟩
    replace h1 := cF h1 q148
    refine AC.skip ?_
    change AC _ _ _ _
    refine AC.region ?_
    obtain ⟨q150, h1⟩ := need_elim h1
    refine AO.op rfl (AOp.iadd rfl rfl lb rfl rfl rfl q150.1 q150.2 ?_)
    refine AO.mv 1 rfl ?_
    refine AO.nil ?_
    exact ⟨(g5.1, (g5.2 + (1 : Int))), _, rfl, (LeL.refl _), rfl, rfl, h1⟩
   replace h1 := cF h1 q131
   cases h1
  replace h1 := cF h1 q8
  refine AC.exit ?_
  obtain rfl := Option.some.inj h1
  exact ⟨g5.1, _, rfl, (LeL.refl _), rfl, rfl, aftL h0⟩
 intro g4 h0
 unfold p_GeometryCollection_Layout_k1 at h0
 change AC _ _ _ _
 refine AC.smn 2 rfl ?_
 refine AC.ret ?_
 change RetQ _ _ _ .ret _
 obtain rfl := Option.some.inj h0
 refine retq rfl rfl
theorem w_GeometryCollection_Layout : ∀ (F : Nat) (a0 : TGeom_GeometryCollection) (r0 : Int), p_GeometryCollection_Layout F a0 = some r0 → FnD Tryz.prog 129 [.pt (c_TGeom_GeometryCollection a0)] (fun r => r = di .i64 r0)
 | 0, _, _, h => by cases h
 | F + 1, a0, r0, h => w_GeometryCollection_Layout_b _ (fun a0 r0 h => w_GeometryCollection_Layout F a0 r0 h) F a0 r0 h

set_option maxRecDepth 100000 in
set_option maxHeartbeats 4000000 in
theorem w_geometry_b (Rec_ : TImpl_Geom → Option IfcV) (hR : ∀ (a0 : TImpl_Geom) (r0 : IfcV), Rec_ a0 = some r0 → FnD Tryz.prog 19 [e_TImpl_Geom a0] (fun r => r = eIfc r0)) (F : Nat) (a0 : TImpl_Geom) (r0 : IfcV) (h0 : p_geometry_b Rec_ F a0 = some r0) : FnD Tryz.prog 19 [e_TImpl_Geom a0] (fun r => r = eIfc r0) := by
 refine FnD.of (by kernel_rfl) Tryz.func19 rfl Tryz.ntmps19 rfl (leb rfl) fun W ok => ?_
 unfold p_geometry_b at h0
 refine AC.sr ?_
 refine AO.op rfl (AOp.box rfl rfl lb rfl rfl ?_)
 refine AO.mn 1 rfl ?_
 refine AC.seq ?_
 refine AC.draw 7 mixed (by kernel_rfl) ?_
 refine AD.op [1] rfl (by kernel_rfl) rfl rfl (fun _ _ h => AOp.fieldAddr rfl rfl lb rfl fo27_1 h) ?_
 refine AD.op [8] rfl (by kernel_rfl) rfl rfl (fun _ _ h => AOp.load1 rfl rfl lb rfl agg3 rfl rfl h) ?_
 refine AD.op [1] rfl (by kernel_rfl) rfl rfl (fun _ _ h => AOp.fieldAddr rfl rfl lb rfl fo27_3 h) ?_
 refine AD.op [10] rfl (by kernel_rfl) rfl rfl (fun _ _ h => AOp.load1 rfl rfl lb rfl agg22 rfl rfl h) ?_
 obtain ⟨y1, q2, h0⟩ := bind_elim h0
 refine AD.op [11] rfl (by kernel_rfl) rfl rfl (fun _ _ h => AOp.callD rfl rfl lb rfl rfl (w_floats a0.Flat y1 q2) (by rintro _ rfl; exact h)) ?_
 refine AD.op [9] rfl (by kernel_rfl) rfl rfl (fun _ _ h => AOp.assign rfl rfl lb rfl h) ?_
 refine AD.op [12] rfl (by kernel_rfl) rfl rfl (fun _ _ h => AOp.assign rfl rfl lb rfl h) ?_
 refine AD.done ?_
 refine AO.nS ?_
 refine AC.seq ?_
 refine AC.sr ?_
 refine AO.op rfl (AOp.fieldAddr rfl rfl lb rfl fo27_0 ?_)
 refine AO.op rfl (AOp.load1 rfl rfl lb rfl agg3 rfl rfl ?_)
 refine AO.nS ?_
 refine AC.block ?_
 refine AC.sr ?_
 refine AO.op rfl (AOp.ieql rfl rfl lb rfl rfl ?_)
 refine AO.mn 1 rfl ?_
 refine AC.cond rfl (fun q3 => ?_) (fun q3 => ?_)
 ·replace h0 := cT h0 q3
  refine AC.seq ?_
  refine AC.room ?_
  obtain ⟨y4, q5, h0⟩ := bind_elim h0
  refine AC.drawS [0, 1, 2, 3, 4] [2] [5, 6, 7] (fun L => [.fix 27 [.d (di .i64 a0.Kind), .d (di .i64 a0.Layout), .d (di .i64 a0.SRID), .d (eS1 a0.Flat), .d (eS2 a0.Ends), .d (eS3 a0.Endss), .d (eS0 a0.Kids)], bif L 2 then .fix 124 [.d (di .i64 y4.geom0.layout), .d (di .i64 y4.geom0.stride), .d (eS1 y4.geom0.flatCoords), .d (di .i64 y4.geom0.srid)] else .dead]) [(2, SV.noO2 1 2)] mixed (by kernel_rfl) (fun L L' h => by simp only [h 2 (by decide)]) rfl ?_
  refine AS.op [3] [] [2] [] rfl rfl rfl (by kernel_rfl) (by kernel_rfl) rfl rfl (fun _ _ _ h => AOp.move rfl rfl lb rfl h) (by kernel_rfl) ?_
  refine AS.op [4] [] [2] [] rfl rfl rfl (by kernel_rfl) (by kernel_rfl) rfl rfl (fun _ _ _ h => AOp.move rfl rfl lb rfl h) (by kernel_rfl) ?_
  refine AS.mid [17, 18] [] [2] [] rfl rfl rfl rfl (by kernel_rfl) (by kernel_rfl) rfl rfl (fun _ _ _ h => AOp.callA rfl rfl lb rfl rfl (wa_NewPointFlat a0.Layout y1 y4 q5) (AO.sink 1 2 rfl rfl rfl (.cons rfl (.cons (noO2_cond rfl rfl) .nil)) rfl h)) (by kernel_rfl) rfl ?_
  refine AS.op [1] [] [] [2] rfl rfl rfl (by kernel_rfl) (by kernel_rfl) rfl rfl (fun _ _ _ h => AOp.fieldAddr rfl rfl lb rfl fo27_2 h) (by kernel_rfl) ?_
  refine AS.op [20] [] [] [2] rfl rfl rfl (by kernel_rfl) (by kernel_rfl) rfl rfl (fun _ _ _ h => AOp.load1 rfl rfl lb rfl agg3 rfl rfl h) (by kernel_rfl) ?_
  refine AS.done ?_
  refine AO.objs (obs' := [.fix 27 [.d (di .i64 a0.Kind), .d (di .i64 a0.Layout), .d (di .i64 a0.SRID), .d (eS1 a0.Flat), .d (eS2 a0.Ends), .d (eS3 a0.Endss), .d (eS0 a0.Kids)], .fix 124 [.d (di .i64 y4.geom0.layout), .d (di .i64 y4.geom0.stride), .d (eS1 y4.geom0.flatCoords), .d (di .i64 y4.geom0.srid)]]) rfl ?_
  refine AO.op rfl (AOp.inl [2] (by kernel_rfl) Tryz.func31 rfl Tryz.ntmps31 rfl rfl lb rfl (leb rfl) rfl ?_)
  intro fr6
  refine AC.smn 1 rfl ?_
  refine AC.sm 2 rfl ?_
  refine AO.op rfl (AOp.nilCheck rfl rfl lb rfl rfl ?_)
  refine AO.op rfl (AOp.fieldAddr rfl rfl lb rfl fo124_0 ?_)
  refine AO.op rfl (AOp.fieldAddr rfl rfl lb rfl fo122_3 ?_)
  refine AO.op rfl (AOp.store rfl rfl rfl rfl size3 rfl rfl rfl (leb rfl) ?_)
  refine AO.nS ?_
  refine AC.smn 2 rfl ?_
  refine AC.ret ?_
  refine inlret (ob' := [.fix 27 [.d (di .i64 a0.Kind), .d (di .i64 a0.Layout), .d (di .i64 a0.SRID), .d (eS1 a0.Flat), .d (eS2 a0.Ends), .d (eS3 a0.Endss), .d (eS0 a0.Kids)], .fix 124 [.d (di .i64 y4.geom0.layout), .d (di .i64 y4.geom0.stride), .d (eS1 y4.geom0.flatCoords), .d (di .i64 a0.SRID)], .dead]) (e' := [(2, .d (.v (.nilIface)))]) (r := .ptr 1 0) rfl rfl rfl ?_
  change AO _ _ _ _ _
  refine AO.op rfl (AOp.makeIfc rfl rfl lb rfl conc67 ?_)
  refine AO.mv 1 rfl ?_
  refine AO.nil (?_ : AC _ _ _ _)
  refine AC.ret ?_
  change RetQ _ _ _ .ret _
  obtain rfl := Option.some.inj h0
  refine retq rfl rfl
 replace h0 := cF h0 q3
 refine AC.sr ?_
 refine AO.op rfl (AOp.ieql rfl rfl lb rfl rfl ?_)
 refine AO.mn 1 rfl ?_
 refine AC.cond rfl (fun q7 => ?_) (fun q7 => ?_)
 ·replace h0 := cT h0 q7
  refine AC.seq ?_
  refine AC.room ?_
  obtain ⟨y8, q9, h0⟩ := bind_elim h0
  refine AC.drawS [0, 1, 2, 3, 4] [2] [5, 6, 7] (fun L => [.fix 27 [.d (di .i64 a0.Kind), .d (di .i64 a0.Layout), .d (di .i64 a0.SRID), .d (eS1 a0.Flat), .d (eS2 a0.Ends), .d (eS3 a0.Endss), .d (eS0 a0.Kids)], bif L 2 then .fix 131 [.d (di .i64 y8.geom1.geom0.layout), .d (di .i64 y8.geom1.geom0.stride), .d (eS1 y8.geom1.geom0.flatCoords), .d (di .i64 y8.geom1.geom0.srid)] else .dead]) [(2, SV.noO2 1 2)] mixed (by kernel_rfl) (fun L L' h => by simp only [h 2 (by decide)]) rfl ?_
  refine AS.op [3] [] [2] [] rfl rfl rfl (by kernel_rfl) (by kernel_rfl) rfl rfl (fun _ _ _ h => AOp.move rfl rfl lb rfl h) (by kernel_rfl) ?_
  refine AS.op [4] [] [2] [] rfl rfl rfl (by kernel_rfl) (by kernel_rfl) rfl rfl (fun _ _ _ h => AOp.move rfl rfl lb rfl h) (by kernel_rfl) ?_
  refine AS.mid [26, 27] [] [2] [] rfl rfl rfl rfl (by kernel_rfl) (by kernel_rfl) rfl rfl (fun _ _ _ h => AOp.callA rfl rfl lb rfl rfl (wa_NewLineStringFlat a0.Layout y1 y8 q9) (AO.sink 1 2 rfl rfl rfl (.cons rfl (.cons (noO2_cond rfl rfl) .nil)) rfl h)) (by kernel_rfl) rfl ?_
  refine AS.op [1] [] [] [2] rfl rfl rfl (by kernel_rfl) (by kernel_rfl) rfl rfl (fun _ _ _ h => AOp.fieldAddr rfl rfl lb rfl fo27_2 h) (by kernel_rfl) ?_
  refine AS.op [29] [] [] [2] rfl rfl rfl (by kernel_rfl) (by kernel_rfl) rfl rfl (fun _ _ _ h => AOp.load1 rfl rfl lb rfl agg3 rfl rfl h) (by kernel_rfl) ?_
  refine AS.done ?_
  refine AO.objs (obs' := [.fix 27 [.d (di .i64 a0.Kind), .d (di .i64 a0.Layout), .d (di .i64 a0.SRID), .d (eS1 a0.Flat), .d (eS2 a0.Ends), .d (eS3 a0.Endss), .d (eS0 a0.Kids)], .fix 131 [.d (di .i64 y8.geom1.geom0.layout), .d (di .i64 y8.geom1.geom0.stride), .d (eS1 y8.geom1.geom0.flatCoords), .d (di .i64 y8.geom1.geom0.srid)]]) rfl ?_
  refine AO.op rfl (AOp.inl [2] (by kernel_rfl) Tryz.func33 rfl Tryz.ntmps33 rfl rfl lb rfl (leb rfl) rfl ?_)
  intro fr10
  refine AC.smn 1 rfl ?_
  refine AC.sm 2 rfl ?_
  refine AO.op rfl (AOp.nilCheck rfl rfl lb rfl rfl ?_)
  refine AO.op rfl (AOp.fieldAddr rfl rfl lb rfl fo131_0 ?_)
  refine AO.op rfl (AOp.fieldAddr rfl rfl lb rfl fo129_0 ?_)
  refine AO.op rfl (AOp.fieldAddr rfl rfl lb rfl fo122_3 ?_)
  refine AO.op rfl (AOp.store rfl rfl rfl rfl size3 rfl rfl rfl (leb rfl) ?_)
  refine AO.nS ?_
  refine AC.smn 2 rfl ?_
  refine AC.ret ?_
  refine inlret (ob' := [.fix 27 [.d (di .i64 a0.Kind), .d (di .i64 a0.Layout), .d (di .i64 a0.SRID), .d (eS1 a0.Flat), .d (eS2 a0.Ends), .d (eS3 a0.Endss), .d (eS0 a0.Kids)], .fix 131 [.d (di .i64 y8.geom1.geom0.layout), .d (di .i64 y8.geom1.geom0.stride), .d (eS1 y8.geom1.geom0.flatCoords), .d (di .i64 a0.SRID)], .dead]) (e' := [(2, .d (.v (.nilIface)))]) (r := .ptr 1 0) rfl rfl rfl ?_
  change AO _ _ _ _ _
  refine AO.op rfl (AOp.makeIfc rfl rfl lb rfl conc70 ?_)
  refine AO.mv 1 rfl ?_
  refine AO.nil (?_ : AC _ _ _ _)
  refine AC.ret ?_
  change RetQ _ _ _ .ret _
  obtain rfl := Option.some.inj h0
  refine retq rfl rfl
 replace h0 := cF h0 q7
 refine AC.sr ?_
 refine AO.op rfl (AOp.ieql rfl rfl lb rfl rfl ?_)
 refine AO.mn 1 rfl ?_
 refine AC.cond rfl (fun q11 => ?_) (fun q11 => ?_)
 ·replace h0 := cT h0 q11
  refine AC.seq ?_
  refine AC.room ?_
  obtain ⟨y12, q13, h0⟩ := bind_elim h0
  refine AC.drawS [0, 1, 2, 3, 4] [2] [5, 6, 7] (fun L => [.fix 27 [.d (di .i64 a0.Kind), .d (di .i64 a0.Layout), .d (di .i64 a0.SRID), .d (eS1 a0.Flat), .d (eS2 a0.Ends), .d (eS3 a0.Endss), .d (eS0 a0.Kids)], bif L 2 then .fix 139 [.d (di .i64 y12.geom1.geom0.layout), .d (di .i64 y12.geom1.geom0.stride), .d (eS1 y12.geom1.geom0.flatCoords), .d (di .i64 y12.geom1.geom0.srid)] else .dead]) [(2, SV.noO2 1 2)] mixed (by kernel_rfl) (fun L L' h => by simp only [h 2 (by decide)]) rfl ?_
  refine AS.op [3] [] [2] [] rfl rfl rfl (by kernel_rfl) (by kernel_rfl) rfl rfl (fun _ _ _ h => AOp.move rfl rfl lb rfl h) (by kernel_rfl) ?_
  refine AS.op [4] [] [2] [] rfl rfl rfl (by kernel_rfl) (by kernel_rfl) rfl rfl (fun _ _ _ h => AOp.move rfl rfl lb rfl h) (by kernel_rfl) ?_
  refine AS.mid [35, 36] [] [2] [] rfl rfl rfl rfl (by kernel_rfl) (by kernel_rfl) rfl rfl (fun _ _ _ h => AOp.callA rfl rfl lb rfl rfl (wa_NewLinearRingFlat a0.Layout y1 y12 q13) (AO.sink 1 2 rfl rfl rfl (.cons rfl (.cons (noO2_cond rfl rfl) .nil)) rfl h)) (by kernel_rfl) rfl ?_
  refine AS.op [1] [] [] [2] rfl rfl rfl (by kernel_rfl) (by kernel_rfl) rfl rfl (fun _ _ _ h => AOp.fieldAddr rfl rfl lb rfl fo27_2 h) (by kernel_rfl) ?_
  refine AS.op [38] [] [] [2] rfl rfl rfl (by kernel_rfl) (by kernel_rfl) rfl rfl (fun _ _ _ h => AOp.load1 rfl rfl lb rfl agg3 rfl rfl h) (by kernel_rfl) ?_
  refine AS.done ?_
  refine AO.objs (obs' := [.fix 27 [.d (di .i64 a0.Kind), .d (di .i64 a0.Layout), .d (di .i64 a0.SRID), .d (eS1 a0.Flat), .d (eS2 a0.Ends), .d (eS3 a0.Endss), .d (eS0 a0.Kids)], .fix 139 [.d (di .i64 y12.geom1.geom0.layout), .d (di .i64 y12.geom1.geom0.stride), .d (eS1 y12.geom1.geom0.flatCoords), .d (di .i64 y12.geom1.geom0.srid)]]) rfl ?_
  refine AO.op rfl (AOp.inl [2] (by kernel_rfl) Tryz.func35 rfl Tryz.ntmps35 rfl rfl lb rfl (leb rfl) rfl ?_)
  intro fr14
  refine AC.smn 1 rfl ?_
  refine AC.sm 2 rfl ?_
  refine AO.op rfl (AOp.nilCheck rfl rfl lb rfl rfl ?_)
  refine AO.op rfl (AOp.fieldAddr rfl rfl lb rfl fo139_0 ?_)
  refine AO.op rfl (AOp.fieldAddr rfl rfl lb rfl fo129_0 ?_)
  refine AO.op rfl (AOp.fieldAddr rfl rfl lb rfl fo122_3 ?_)
  refine AO.op rfl (AOp.store rfl rfl rfl rfl size3 rfl rfl rfl (leb rfl) ?_)
  refine AO.nS ?_
  refine AC.smn 2 rfl ?_
  refine AC.ret ?_
  refine inlret (ob' := [.fix 27 [.d (di .i64 a0.Kind), .d (di .i64 a0.Layout), .d (di .i64 a0.SRID), .d (eS1 a0.Flat), .d (eS2 a0.Ends), .d (eS3 a0.Endss), .d (eS0 a0.Kids)], .fix 139 [.d (di .i64 y12.geom1.geom0.layout), .d (di .i64 y12.geom1.geom0.stride), .d (eS1 y12.geom1.geom0.flatCoords), .d (di .i64 a0.SRID)], .dead]) (e' := [(2, .d (.v (.nilIface)))]) (r := .ptr 1 0) rfl rfl rfl ?_
  change AO _ _ _ _ _
  refine AO.op rfl (AOp.makeIfc rfl rfl lb rfl conc73 ?_)
  refine AO.mv 1 rfl ?_
  refine AO.nil (?_ : AC _ _ _ _)
  refine AC.ret ?_
  change RetQ _ _ _ .ret _
  obtain rfl := Option.some.inj h0
  refine retq rfl rfl
 replace h0 := cF h0 q11
 refine AC.sr ?_
 refine AO.op rfl (AOp.ieql rfl rfl lb rfl rfl ?_)
 refine AO.mn 1 rfl ?_
 refine AC.cond rfl (fun q15 => ?_) (fun q15 => ?_)
 ·replace h0 := cT h0 q15
  refine AC.seq ?_
  refine AC.room ?_
  obtain ⟨y16, q17, h0⟩ := bind_elim h0
  obtain ⟨y18, q19, h0⟩ := bind_elim h0
  refine AC.drawS [0, 1, 2, 3, 4, 5, 6, 7] [5] [8, 9, 10] (fun L => [.fix 27 [.d (di .i64 a0.Kind), .d (di .i64 a0.Layout), .d (di .i64 a0.SRID), .d (eS1 a0.Flat), .d (eS2 a0.Ends), .d (eS3 a0.Endss), .d (eS0 a0.Kids)], bif L 5 then .fix 136 [.d (di .i64 y18.geom2.geom1.geom0.layout), .d (di .i64 y18.geom2.geom1.geom0.stride), .d (eS1 y18.geom2.geom1.geom0.flatCoords), .d (di .i64 y18.geom2.geom1.geom0.srid), .d (eS2 y18.geom2.ends)] else .dead]) [(5, SV.noO2 1 2)] mixed (by kernel_rfl) (fun L L' h => by simp only [h 5 (by decide)]) rfl ?_
  refine AS.op [3] [] [5] [] rfl rfl rfl (by kernel_rfl) (by kernel_rfl) rfl rfl (fun _ _ _ h => AOp.move rfl rfl lb rfl h) (by kernel_rfl) ?_
  refine AS.op [4] [] [5] [] rfl rfl rfl (by kernel_rfl) (by kernel_rfl) rfl rfl (fun _ _ _ h => AOp.move rfl rfl lb rfl h) (by kernel_rfl) ?_
  refine AS.op [1] [] [5] [] rfl rfl rfl (by kernel_rfl) (by kernel_rfl) rfl rfl (fun _ _ _ h => AOp.fieldAddr rfl rfl lb rfl fo27_4 h) (by kernel_rfl) ?_
  refine AS.op [46] [] [5] [] rfl rfl rfl (by kernel_rfl) (by kernel_rfl) rfl rfl (fun _ _ _ h => AOp.load1 rfl rfl lb rfl agg23 rfl rfl h) (by kernel_rfl) ?_
  refine AS.op [47] [] [5] [] rfl rfl rfl (by kernel_rfl) (by kernel_rfl) rfl rfl (fun _ _ _ h => AOp.callD rfl rfl lb rfl rfl (w_ints a0.Ends y16 q17) (by rintro _ rfl; exact h)) (by kernel_rfl) ?_
  refine AS.mid [44, 45, 48] [] [5] [] rfl rfl rfl rfl (by kernel_rfl) (by kernel_rfl) rfl rfl (fun _ _ _ h => AOp.callA rfl rfl lb rfl rfl (wa_NewPolygonFlat a0.Layout y1 y16 y18 q19) (AO.sink 1 2 rfl rfl rfl (.cons rfl (.cons (noO2_cond rfl rfl) .nil)) rfl h)) (by kernel_rfl) rfl ?_
  refine AS.op [1] [] [] [5] rfl rfl rfl (by kernel_rfl) (by kernel_rfl) rfl rfl (fun _ _ _ h => AOp.fieldAddr rfl rfl lb rfl fo27_2 h) (by kernel_rfl) ?_
  refine AS.op [50] [] [] [5] rfl rfl rfl (by kernel_rfl) (by kernel_rfl) rfl rfl (fun _ _ _ h => AOp.load1 rfl rfl lb rfl agg3 rfl rfl h) (by kernel_rfl) ?_
  refine AS.done ?_
  refine AO.objs (obs' := [.fix 27 [.d (di .i64 a0.Kind), .d (di .i64 a0.Layout), .d (di .i64 a0.SRID), .d (eS1 a0.Flat), .d (eS2 a0.Ends), .d (eS3 a0.Endss), .d (eS0 a0.Kids)], .fix 136 [.d (di .i64 y18.geom2.geom1.geom0.layout), .d (di .i64 y18.geom2.geom1.geom0.stride), .d (eS1 y18.geom2.geom1.geom0.flatCoords), .d (di .i64 y18.geom2.geom1.geom0.srid), .d (eS2 y18.geom2.ends)]]) rfl ?_
  refine AO.op rfl (AOp.inl [2] (by kernel_rfl) Tryz.func38 rfl Tryz.ntmps38 rfl rfl lb rfl (leb rfl) rfl ?_)
  intro fr20
  refine AC.smn 1 rfl ?_
  refine AC.sm 2 rfl ?_
  refine AO.op rfl (AOp.nilCheck rfl rfl lb rfl rfl ?_)
  refine AO.op rfl (AOp.fieldAddr rfl rfl lb rfl fo136_0 ?_)
  refine AO.op rfl (AOp.fieldAddr rfl rfl lb rfl fo134_0 ?_)
  refine AO.op rfl (AOp.fieldAddr rfl rfl lb rfl fo129_0 ?_)
  refine AO.op rfl (AOp.fieldAddr rfl rfl lb rfl fo122_3 ?_)
  refine AO.op rfl (AOp.store rfl rfl rfl rfl size3 rfl rfl rfl (leb rfl) ?_)
  refine AO.nS ?_
  refine AC.smn 2 rfl ?_
  refine AC.ret ?_
  refine inlret (ob' := [.fix 27 [.d (di .i64 a0.Kind), .d (di .i64 a0.Layout), .d (di .i64 a0.SRID), .d (eS1 a0.Flat), .d (eS2 a0.Ends), .d (eS3 a0.Endss), .d (eS0 a0.Kids)], .fix 136 [.d (di .i64 y18.geom2.geom1.geom0.layout), .d (di .i64 y18.geom2.geom1.geom0.stride), .d (eS1 y18.geom2.geom1.geom0.flatCoords), .d (di .i64 a0.SRID), .d (eS2 y18.geom2.ends)], .dead]) (e' := [(2, .d (.v (.nilIface)))]) (r := .ptr 1 0) rfl rfl rfl ?_
  change AO _ _ _ _ _
  refine AO.op rfl (AOp.makeIfc rfl rfl lb rfl conc76 ?_)
  refine AO.mv 1 rfl ?_
  refine AO.nil (?_ : AC _ _ _ _)
  refine AC.ret ?_
  change RetQ _ _ _ .ret _
  obtain rfl := Option.some.inj h0
  refine retq rfl rfl
 replace h0 := cF h0 q15
 refine AC.sr ?_
 refine AO.op rfl (AOp.ieql rfl rfl lb rfl rfl ?_)
 refine AO.mn 1 rfl ?_
 refine AC.cond rfl (fun q21 => ?_) (fun q21 => ?_)
 ·replace h0 := cT h0 q21
  refine AC.seq ?_
  refine AC.room ?_
  obtain ⟨y22, q23, h0⟩ := bind_elim h0
  obtain ⟨y24, q25, h0⟩ := bind_elim h0
  obtain ⟨y26, q27, h0⟩ := bind_elim h0
  refine AC.drawS [0, 1, 2, 3, 4, 5, 6, 7, 8, 9] [7] [10, 11, 12] (fun L => [.fix 27 [.d (di .i64 a0.Kind), .d (di .i64 a0.Layout), .d (di .i64 a0.SRID), .d (eS1 a0.Flat), .d (eS2 a0.Ends), .d (eS3 a0.Endss), .d (eS0 a0.Kids)], bif L 7 then .fix 141 [.d (di .i64 y26.geom2.geom1.geom0.layout), .d (di .i64 y26.geom2.geom1.geom0.stride), .d (eS1 y26.geom2.geom1.geom0.flatCoords), .d (di .i64 y26.geom2.geom1.geom0.srid), .d (eS2 y26.geom2.ends)] else .dead]) [(7, SV.noO2 1 2)] mixed (by kernel_rfl) (fun L L' h => by simp only [h 7 (by decide)]) rfl ?_
  refine AS.op [3] [] [7] [] rfl rfl rfl (by kernel_rfl) (by kernel_rfl) rfl rfl (fun _ _ _ h => AOp.move rfl rfl lb rfl h) (by kernel_rfl) ?_
  refine AS.op [4] [] [7] [] rfl rfl rfl (by kernel_rfl) (by kernel_rfl) rfl rfl (fun _ _ _ h => AOp.move rfl rfl lb rfl h) (by kernel_rfl) ?_
  refine AS.op [1] [] [7] [] rfl rfl rfl (by kernel_rfl) (by kernel_rfl) rfl rfl (fun _ _ _ h => AOp.fieldAddr rfl rfl lb rfl fo27_4 h) (by kernel_rfl) ?_
  refine AS.op [58] [] [7] [] rfl rfl rfl (by kernel_rfl) (by kernel_rfl) rfl rfl (fun _ _ _ h => AOp.load1 rfl rfl lb rfl agg23 rfl rfl h) (by kernel_rfl) ?_
  refine AS.op [59] [] [7] [] rfl rfl rfl (by kernel_rfl) (by kernel_rfl) rfl rfl (fun _ _ _ h => AOp.callD rfl rfl lb rfl rfl (w_ints a0.Ends y22 q23) (by rintro _ rfl; exact h)) (by kernel_rfl) ?_
  refine AS.op [60] [] [7] [] rfl rfl rfl (by kernel_rfl) (by kernel_rfl) rfl rfl (fun _ _ _ h => AOp.callD rfl rfl lb rfl rfl (w_NewMultiPointFlatOptionWithEnds y22 y24 q25) (by rintro _ rfl; exact h)) (by kernel_rfl) ?_
  refine AS.op [61] [] [7] [] rfl rfl rfl (by kernel_rfl) (by kernel_rfl) rfl rfl (fun _ _ _ h => AOp.buildSliceD rfl rfl lb el140 zero83 rfl (leb rfl) rfl rfl rfl rfl h) (by kernel_rfl) ?_
  refine AS.mid [56, 57, 62] [] [7] [] rfl rfl rfl rfl (by kernel_rfl) (by kernel_rfl) rfl rfl (fun _ _ _ h => AOp.callA rfl rfl lb rfl rfl (wa_NewMultiPointFlat F a0.Layout y1 [y24] y26 q27) (AO.sink 1 2 rfl rfl rfl (.cons rfl (.cons (noO2_cond rfl rfl) .nil)) rfl h)) (by kernel_rfl) rfl ?_
  refine AS.op [1] [] [] [7] rfl rfl rfl (by kernel_rfl) (by kernel_rfl) rfl rfl (fun _ _ _ h => AOp.fieldAddr rfl rfl lb rfl fo27_2 h) (by kernel_rfl) ?_
  refine AS.op [64] [] [] [7] rfl rfl rfl (by kernel_rfl) (by kernel_rfl) rfl rfl (fun _ _ _ h => AOp.load1 rfl rfl lb rfl agg3 rfl rfl h) (by kernel_rfl) ?_
  refine AS.done ?_
  refine AO.objs (obs' := [.fix 27 [.d (di .i64 a0.Kind), .d (di .i64 a0.Layout), .d (di .i64 a0.SRID), .d (eS1 a0.Flat), .d (eS2 a0.Ends), .d (eS3 a0.Endss), .d (eS0 a0.Kids)], .fix 141 [.d (di .i64 y26.geom2.geom1.geom0.layout), .d (di .i64 y26.geom2.geom1.geom0.stride), .d (eS1 y26.geom2.geom1.geom0.flatCoords), .d (di .i64 y26.geom2.geom1.geom0.srid), .d (eS2 y26.geom2.ends)]]) rfl ?_
  refine AO.op rfl (AOp.inl [2] (by kernel_rfl) Tryz.func41 rfl Tryz.ntmps41 rfl rfl lb rfl (leb rfl) rfl ?_)
  intro fr28
  refine AC.smn 1 rfl ?_
  refine AC.sm 2 rfl ?_
  refine AO.op rfl (AOp.nilCheck rfl rfl lb rfl rfl ?_)
  refine AO.op rfl (AOp.fieldAddr rfl rfl lb rfl fo141_0 ?_)
  refine AO.op rfl (AOp.fieldAddr rfl rfl lb rfl fo134_0 ?_)
  refine AO.op rfl (AOp.fieldAddr rfl rfl lb rfl fo129_0 ?_)
  refine AO.op rfl (AOp.fieldAddr rfl rfl lb rfl fo122_3 ?_)
  refine AO.op rfl (AOp.store rfl rfl rfl rfl size3 rfl rfl rfl (leb rfl) ?_)
  refine AO.nS ?_
  refine AC.smn 2 rfl ?_
  refine AC.ret ?_
  refine inlret (ob' := [.fix 27 [.d (di .i64 a0.Kind), .d (di .i64 a0.Layout), .d (di .i64 a0.SRID), .d (eS1 a0.Flat), .d (eS2 a0.Ends), .d (eS3 a0.Endss), .d (eS0 a0.Kids)], .fix 141 [.d (di .i64 y26.geom2.geom1.geom0.layout), .d (di .i64 y26.geom2.geom1.geom0.stride), .d (eS1 y26.geom2.geom1.geom0.flatCoords), .d (di .i64 a0.SRID), .d (eS2 y26.geom2.ends)], .dead]) (e' := [(2, .d (.v (.nilIface)))]) (r := .ptr 1 0) rfl rfl rfl ?_
  change AO _ _ _ _ _
  refine AO.op rfl (AOp.makeIfc rfl rfl lb rfl conc80 ?_)
  refine AO.mv 1 rfl ?_
  refine AO.nil (?_ : AC _ _ _ _)
  refine AC.ret ?_
  change RetQ _ _ _ .ret _
  obtain rfl := Option.some.inj h0
  refine retq rfl rfl
 replace h0 := cF h0 q21
 refine AC.sr ?_
 refine AO.op rfl (AOp.ieql rfl rfl lb rfl rfl ?_)
 refine AO.mn 1 rfl ?_
 refine AC.cond rfl (fun q29 => ?_) (fun q29 => ?_)
 ·replace h0 := cT h0 q29
  refine AC.seq ?_
  refine AC.room ?_
  obtain ⟨y30, q31, h0⟩ := bind_elim h0
  obtain ⟨y32, q33, h0⟩ := bind_elim h0
  refine AC.drawS [0, 1, 2, 3, 4, 5, 6, 7] [5] [8, 9, 10] (fun L => [.fix 27 [.d (di .i64 a0.Kind), .d (di .i64 a0.Layout), .d (di .i64 a0.SRID), .d (eS1 a0.Flat), .d (eS2 a0.Ends), .d (eS3 a0.Endss), .d (eS0 a0.Kids)], bif L 5 then .fix 142 [.d (di .i64 y32.geom2.geom1.geom0.layout), .d (di .i64 y32.geom2.geom1.geom0.stride), .d (eS1 y32.geom2.geom1.geom0.flatCoords), .d (di .i64 y32.geom2.geom1.geom0.srid), .d (eS2 y32.geom2.ends)] else .dead]) [(5, SV.noO2 1 2)] mixed (by kernel_rfl) (fun L L' h => by simp only [h 5 (by decide)]) rfl ?_
  refine AS.op [3] [] [5] [] rfl rfl rfl (by kernel_rfl) (by kernel_rfl) rfl rfl (fun _ _ _ h => AOp.move rfl rfl lb rfl h) (by kernel_rfl) ?_
  refine AS.op [4] [] [5] [] rfl rfl rfl (by kernel_rfl) (by kernel_rfl) rfl rfl (fun _ _ _ h => AOp.move rfl rfl lb rfl h) (by kernel_rfl) ?_
  refine AS.op [1] [] [5] [] rfl rfl rfl (by kernel_rfl) (by kernel_rfl) rfl rfl (fun _ _ _ h => AOp.fieldAddr rfl rfl lb rfl fo27_4 h) (by kernel_rfl) ?_
  refine AS.op [72] [] [5] [] rfl rfl rfl (by kernel_rfl) (by kernel_rfl) rfl rfl (fun _ _ _ h => AOp.load1 rfl rfl lb rfl agg23 rfl rfl h) (by kernel_rfl) ?_
  refine AS.op [73] [] [5] [] rfl rfl rfl (by kernel_rfl) (by kernel_rfl) rfl rfl (fun _ _ _ h => AOp.callD rfl rfl lb rfl rfl (w_ints a0.Ends y30 q31) (by rintro _ rfl; exact h)) (by kernel_rfl) ?_
  refine AS.mid [70, 71, 74] [] [5] [] rfl rfl rfl rfl (by kernel_rfl) (by kernel_rfl) rfl rfl (fun _ _ _ h => AOp.callA rfl rfl lb rfl rfl (wa_NewMultiLineStringFlat a0.Layout y1 y30 y32 q33) (AO.sink 1 2 rfl rfl rfl (.cons rfl (.cons (noO2_cond rfl rfl) .nil)) rfl h)) (by kernel_rfl) rfl ?_
  refine AS.op [1] [] [] [5] rfl rfl rfl (by kernel_rfl) (by kernel_rfl) rfl rfl (fun _ _ _ h => AOp.fieldAddr rfl rfl lb rfl fo27_2 h) (by kernel_rfl) ?_
  refine AS.op [76] [] [] [5] rfl rfl rfl (by kernel_rfl) (by kernel_rfl) rfl rfl (fun _ _ _ h => AOp.load1 rfl rfl lb rfl agg3 rfl rfl h) (by kernel_rfl) ?_
  refine AS.done ?_
  refine AO.objs (obs' := [.fix 27 [.d (di .i64 a0.Kind), .d (di .i64 a0.Layout), .d (di .i64 a0.SRID), .d (eS1 a0.Flat), .d (eS2 a0.Ends), .d (eS3 a0.Endss), .d (eS0 a0.Kids)], .fix 142 [.d (di .i64 y32.geom2.geom1.geom0.layout), .d (di .i64 y32.geom2.geom1.geom0.stride), .d (eS1 y32.geom2.geom1.geom0.flatCoords), .d (di .i64 y32.geom2.geom1.geom0.srid), .d (eS2 y32.geom2.ends)]]) rfl ?_
  refine AO.op rfl (AOp.inl [2] (by kernel_rfl) Tryz.func43 rfl Tryz.ntmps43 rfl rfl lb rfl (leb rfl) rfl ?_)
  intro fr34
  refine AC.smn 1 rfl ?_
  refine AC.sm 2 rfl ?_
  refine AO.op rfl (AOp.nilCheck rfl rfl lb rfl rfl ?_)
  refine AO.op rfl (AOp.fieldAddr rfl rfl lb rfl fo142_0 ?_)
  refine AO.op rfl (AOp.fieldAddr rfl rfl lb rfl fo134_0 ?_)
  refine AO.op rfl (AOp.fieldAddr rfl rfl lb rfl fo129_0 ?_)
  refine AO.op rfl (AOp.fieldAddr rfl rfl lb rfl fo122_3 ?_)
  refine AO.op rfl (AOp.store rfl rfl rfl rfl size3 rfl rfl rfl (leb rfl) ?_)
  refine AO.nS ?_
  refine AC.smn 2 rfl ?_
  refine AC.ret ?_
  refine inlret (ob' := [.fix 27 [.d (di .i64 a0.Kind), .d (di .i64 a0.Layout), .d (di .i64 a0.SRID), .d (eS1 a0.Flat), .d (eS2 a0.Ends), .d (eS3 a0.Endss), .d (eS0 a0.Kids)], .fix 142 [.d (di .i64 y32.geom2.geom1.geom0.layout), .d (di .i64 y32.geom2.geom1.geom0.stride), .d (eS1 y32.geom2.geom1.geom0.flatCoords), .d (di .i64 a0.SRID), .d (eS2 y32.geom2.ends)], .dead]) (e' := [(2, .d (.v (.nilIface)))]) (r := .ptr 1 0) rfl rfl rfl ?_
  change AO _ _ _ _ _
  refine AO.op rfl (AOp.makeIfc rfl rfl lb rfl conc86 ?_)
  refine AO.mv 1 rfl ?_
  refine AO.nil (?_ : AC _ _ _ _)
  refine AC.ret ?_
  change RetQ _ _ _ .ret _
  obtain rfl := Option.some.inj h0
  refine retq rfl rfl
 replace h0 := cF h0 q29
 refine AC.sr ?_
 refine AO.op rfl (AOp.ieql rfl rfl lb rfl rfl ?_)
 refine AO.mn 1 rfl ?_
 refine AC.cond rfl (fun q35 => ?_) (fun q35 => ?_)
 ·replace h0 := cT h0 q35
  refine AC.seq ?_
  refine AC.room ?_
  obtain ⟨y36, q37, h0⟩ := bind_elim h0
  obtain ⟨y38, q39, h0⟩ := bind_elim h0
  refine AC.drawS [0, 1, 2, 3, 4, 5, 6, 7] [5] [8, 9, 10] (fun L => [.fix 27 [.d (di .i64 a0.Kind), .d (di .i64 a0.Layout), .d (di .i64 a0.SRID), .d (eS1 a0.Flat), .d (eS2 a0.Ends), .d (eS3 a0.Endss), .d (eS0 a0.Kids)], bif L 5 then .fix 146 [.d (di .i64 y38.geom3.geom1.geom0.layout), .d (di .i64 y38.geom3.geom1.geom0.stride), .d (eS1 y38.geom3.geom1.geom0.flatCoords), .d (di .i64 y38.geom3.geom1.geom0.srid), .d (eS3 y38.geom3.endss)] else .dead]) [(5, SV.noO2 1 2)] mixed (by kernel_rfl) (fun L L' h => by simp only [h 5 (by decide)]) rfl ?_
  refine AS.op [3] [] [5] [] rfl rfl rfl (by kernel_rfl) (by kernel_rfl) rfl rfl (fun _ _ _ h => AOp.move rfl rfl lb rfl h) (by kernel_rfl) ?_
  refine AS.op [4] [] [5] [] rfl rfl rfl (by kernel_rfl) (by kernel_rfl) rfl rfl (fun _ _ _ h => AOp.move rfl rfl lb rfl h) (by kernel_rfl) ?_
  refine AS.op [1] [] [5] [] rfl rfl rfl (by kernel_rfl) (by kernel_rfl) rfl rfl (fun _ _ _ h => AOp.fieldAddr rfl rfl lb rfl fo27_5 h) (by kernel_rfl) ?_
  refine AS.op [84] [] [5] [] rfl rfl rfl (by kernel_rfl) (by kernel_rfl) rfl rfl (fun _ _ _ h => AOp.load1 rfl rfl lb rfl agg24 rfl rfl h) (by kernel_rfl) ?_
  refine AS.op [85] [] [5] [] rfl rfl rfl (by kernel_rfl) (by kernel_rfl) rfl rfl (fun _ _ _ h => AOp.callD rfl rfl lb rfl rfl (w_intss F a0.Endss y36 q37) (by rintro _ rfl; exact h)) (by kernel_rfl) ?_
  refine AS.mid [82, 83, 86] [] [5] [] rfl rfl rfl rfl (by kernel_rfl) (by kernel_rfl) rfl rfl (fun _ _ _ h => AOp.callA rfl rfl lb rfl rfl (wa_NewMultiPolygonFlat a0.Layout y1 y36 y38 q39) (AO.sink 1 2 rfl rfl rfl (.cons rfl (.cons (noO2_cond rfl rfl) .nil)) rfl h)) (by kernel_rfl) rfl ?_
  refine AS.op [1] [] [] [5] rfl rfl rfl (by kernel_rfl) (by kernel_rfl) rfl rfl (fun _ _ _ h => AOp.fieldAddr rfl rfl lb rfl fo27_2 h) (by kernel_rfl) ?_
  refine AS.op [88] [] [] [5] rfl rfl rfl (by kernel_rfl) (by kernel_rfl) rfl rfl (fun _ _ _ h => AOp.load1 rfl rfl lb rfl agg3 rfl rfl h) (by kernel_rfl) ?_
  refine AS.done ?_
  refine AO.objs (obs' := [.fix 27 [.d (di .i64 a0.Kind), .d (di .i64 a0.Layout), .d (di .i64 a0.SRID), .d (eS1 a0.Flat), .d (eS2 a0.Ends), .d (eS3 a0.Endss), .d (eS0 a0.Kids)], .fix 146 [.d (di .i64 y38.geom3.geom1.geom0.layout), .d (di .i64 y38.geom3.geom1.geom0.stride), .d (eS1 y38.geom3.geom1.geom0.flatCoords), .d (di .i64 y38.geom3.geom1.geom0.srid), .d (eS3 y38.geom3.endss)]]) rfl ?_
  refine AO.op rfl (AOp.inl [2] (by kernel_rfl) Tryz.func46 rfl Tryz.ntmps46 rfl rfl lb rfl (leb rfl) rfl ?_)
  intro fr40
  refine AC.smn 1 rfl ?_
  refine AC.sm 2 rfl ?_
  refine AO.op rfl (AOp.nilCheck rfl rfl lb rfl rfl ?_)
  refine AO.op rfl (AOp.fieldAddr rfl rfl lb rfl fo146_0 ?_)
  refine AO.op rfl (AOp.fieldAddr rfl rfl lb rfl fo144_0 ?_)
  refine AO.op rfl (AOp.fieldAddr rfl rfl lb rfl fo129_0 ?_)
  refine AO.op rfl (AOp.fieldAddr rfl rfl lb rfl fo122_3 ?_)
  refine AO.op rfl (AOp.store rfl rfl rfl rfl size3 rfl rfl rfl (leb rfl) ?_)
  refine AO.nS ?_
  refine AC.smn 2 rfl ?_
  refine AC.ret ?_
  refine inlret (ob' := [.fix 27 [.d (di .i64 a0.Kind), .d (di .i64 a0.Layout), .d (di .i64 a0.SRID), .d (eS1 a0.Flat), .d (eS2 a0.Ends), .d (eS3 a0.Endss), .d (eS0 a0.Kids)], .fix 146 [.d (di .i64 y38.geom3.geom1.geom0.layout), .d (di .i64 y38.geom3.geom1.geom0.stride), .d (eS1 y38.geom3.geom1.geom0.flatCoords), .d (di .i64 a0.SRID), .d (eS3 y38.geom3.endss)], .dead]) (e' := [(2, .d (.v (.nilIface)))]) (r := .ptr 1 0) rfl rfl rfl ?_
  change AO _ _ _ _ _
  refine AO.op rfl (AOp.makeIfc rfl rfl lb rfl conc89 ?_)
  refine AO.mv 1 rfl ?_
  refine AO.nil (?_ : AC _ _ _ _)
  refine AC.ret ?_
  change RetQ _ _ _ .ret _
  obtain rfl := Option.some.inj h0
  refine retq rfl rfl
 replace h0 := cF h0 q35
 refine AC.sr ?_
 refine AO.op rfl (AOp.ieql rfl rfl lb rfl rfl ?_)
 refine AO.mn 1 rfl ?_
 refine AC.cond rfl (fun q41 => ?_) (fun q41 => ?_)
 ·replace h0 := cT h0 q41
  refine AC.seq ?_
  refine AC.room ?_
  obtain ⟨y42, q43, h0⟩ := bind_elim h0
  refine AC.drawS [0, 1, 2] [0] [3, 4] (fun L => [.fix 27 [.d (di .i64 a0.Kind), .d (di .i64 a0.Layout), .d (di .i64 a0.SRID), .d (eS1 a0.Flat), .d (eS2 a0.Ends), .d (eS3 a0.Endss), .d (eS0 a0.Kids)], bif L 0 then .fix 149 [.d (di .i64 (0 : Int)), .d (.v (.slice none 0 0)), .d (di .i64 (0 : Int))] else .dead]) [(0, SV.noO2 1 2)] mixed (by kernel_rfl) (fun L L' h => by simp only [h 0 (by decide)]) rfl ?_
  refine AS.mid [] [] [0] [] rfl rfl rfl rfl (by kernel_rfl) (by kernel_rfl) rfl rfl (fun _ _ _ h => AOp.callA rfl rfl lb rfl rfl (wa_NewGeometryCollection  y42 q43) (AO.sink 1 2 rfl rfl rfl (.cons rfl (.cons (noO2_cond rfl rfl) .nil)) rfl h)) (by kernel_rfl) rfl ?_
  refine AS.op [1] [] [] [0] rfl rfl rfl (by kernel_rfl) (by kernel_rfl) rfl rfl (fun _ _ _ h => AOp.fieldAddr rfl rfl lb rfl fo27_2 h) (by kernel_rfl) ?_
  refine AS.op [95] [] [] [0] rfl rfl rfl (by kernel_rfl) (by kernel_rfl) rfl rfl (fun _ _ _ h => AOp.load1 rfl rfl lb rfl agg3 rfl rfl h) (by kernel_rfl) ?_
  refine AS.done ?_
  refine AO.objs (obs' := [.fix 27 [.d (di .i64 a0.Kind), .d (di .i64 a0.Layout), .d (di .i64 a0.SRID), .d (eS1 a0.Flat), .d (eS2 a0.Ends), .d (eS3 a0.Endss), .d (eS0 a0.Kids)], .fix 149 [.d (di .i64 (0 : Int)), .d (.v (.slice none 0 0)), .d (di .i64 (0 : Int))]]) rfl ?_
  refine AO.op rfl (AOp.inl [1, 3] (by kernel_rfl) Tryz.func48 rfl Tryz.ntmps48 rfl rfl lb rfl (leb rfl) rfl ?_)
  intro fr44
  refine AC.smn 1 rfl ?_
  refine AC.sm 2 rfl ?_
  refine AO.op rfl (AOp.nilCheck rfl rfl lb rfl rfl ?_)
  refine AO.op rfl (AOp.fieldAddr rfl rfl lb rfl fo149_2 ?_)
  refine AO.op rfl (AOp.store rfl rfl rfl rfl size3 rfl rfl rfl (leb rfl) ?_)
  refine AO.nS ?_
  refine AC.smn 2 rfl ?_
  refine AC.ret ?_
  refine inlret (ob' := [.fix 27 [.d (di .i64 a0.Kind), .d (di .i64 a0.Layout), .d (di .i64 a0.SRID), .d (eS1 a0.Flat), .d (eS2 a0.Ends), .d (eS3 a0.Endss), .d (eS0 a0.Kids)], .fix 149 [.d (di .i64 (0 : Int)), .d (.v (.slice none 0 0)), .d (di .i64 a0.SRID)], .dead]) (e' := [(1, .ptr 0 0), (3, .d (di .i64 a0.Layout))]) (r := .ptr 1 0) rfl rfl rfl ?_
  change AO _ _ _ _ _
  refine AO.mv 1 rfl ?_
  refine AO.nil (?_ : AC _ _ _ _)
  refine AC.seq ?_
  refine AC.sr ?_
  refine AO.op rfl (AOp.fieldAddr rfl rfl lb rfl fo27_6 ?_)
  refine AO.op rfl (AOp.load1 rfl rfl lb rfl agg25 rfl rfl ?_)
  refine AO.op rfl (AOp.lenDs (n := a0.Kids.length) (cells := (List.flatMap c0_TImpl_Geom a0.Kids)) rfl rfl lb rfl el25 (by decide) (lenN _ 7 c0_TImpl_Geom_len _) ?_)
  refine AO.mn 1 rfl ?_
  refine AC.adoptO 1 1 48 1 rfl rfl ?_
  obtain ⟨o45, l46, h0⟩ := bind_elim h0
  refine AC.joinE (V := (List IfcV)) [3, 5] [] 4 (fun g47 => []) (fun g47 => [.fix 27 [.d (di .i64 a0.Kind), .d (di .i64 a0.Layout), .d (di .i64 a0.SRID), .d (eS1 a0.Flat), .d (eS2 a0.Ends), .d (eS3 a0.Endss), .d (eS0 a0.Kids)], .fix 149 [.d (di .i64 (0 : Int)), .own 3, .d (di .i64 a0.SRID)], .dead, .grow 48 1 (List.map keS5 g47)]) (fun g47 => (p_geometry_k1 a0 F) g47 = some r0) rfl ?_ ?_
  ·refine AC.block ?_
   refine AC.loopP (V := (Int × (List IfcV))) (p_geometry_l5 a0 Rec_) o45 [3, 5, 99, 100] [101] 4 (fun g112 => [(101, .d (di .i64 g112.1))]) (fun g112 => [.fix 27 [.d (di .i64 a0.Kind), .d (di .i64 a0.Layout), .d (di .i64 a0.SRID), .d (eS1 a0.Flat), .d (eS2 a0.Ends), .d (eS3 a0.Endss), .d (eS0 a0.Kids)], .fix 149 [.d (di .i64 (0 : Int)), .own 3, .d (di .i64 a0.SRID)], .dead, .grow 48 1 (List.map keS5 g112.2)]) F ((0 : Int), []) l46 rfl rfl (LeL.refl _) rfl rfl ?_
   intro n114 g112 h1
   unfold p_geometry_l5 at h1
   refine AC.sr ?_
   refine AO.op rfl (AOp.ilss rfl rfl lb rfl rfl ?_)
   refine AO.nS ?_
   refine AC.seq ?_
   refine AC.cond rfl (fun q115 => ?_) (fun q115 => ?_)
   ·replace h1 := cT h1 q115
    refine AC.skip ?_
    change AC _ _ _ _
    refine AC.seq ?_
    refine AC.block ?_
    refine AC.sr ?_
    obtain ⟨x116, q117, h1⟩ := idx_elim h1
    refine AO.op rfl (AOp.indexDs (cells := (List.flatMap c0_TImpl_Geom a0.Kids)) rfl rfl lb rfl rfl el25 (by decide) q117.1 (ltN 7 c0_TImpl_Geom_len (by decide) q117.2) ?_)
    refine AO.op rfl (AOp.loadEpN rfl rfl lb rfl agg27 size27 (leN 7 c0_TImpl_Geom_len q117.2) ((atN 7 c0_TImpl_Geom_len q117.2).trans (c0_TImpl_Geom_eq x116)) ?_)
    refine AO.op rfl (AOp.alloc rfl rfl lb zero27 rfl ?_)
    refine AO.op rfl (AOp.store rfl rfl rfl rfl size27 rfl rfl rfl (leb rfl) ?_)
    refine AO.nS ?_
    refine AC.region ?_
    refine AO.mv 1 rfl ?_
    refine AO.op rfl (AOp.loadN rfl rfl lb rfl agg27 size27 rfl (leb rfl) rfl ?_)
    obtain ⟨y118, q119, h1⟩ := bind_elim h1
    refine AO.op rfl (AOp.callD rfl rfl lb rfl rfl (hR x116 y118 q119) ?_)
    rintro _ rfl
    refine AO.op rfl (AOp.buildSliceD rfl rfl lb el147 zero48 rfl (leb rfl) rfl rfl rfl rfl ?_)
    refine AO.op rfl (AOp.inl [3, 5, 99, 100, 101] (by kernel_rfl) Tryz.func49 rfl Tryz.ntmps49 rfl rfl lb rfl (leb rfl) rfl ?_)
    intro fr120
    refine AC.sm 1 rfl ?_
    refine AO.objs (obs' := [.fix 27 [.d (di .i64 a0.Kind), .d (di .i64 a0.Layout), .d (di .i64 a0.SRID), .d (eS1 a0.Flat), .d (eS2 a0.Ends), .d (eS3 a0.Endss), .d (eS0 a0.Kids)], .fix 149 [.d (di .i64 (0 : Int)), .own 3, .d (di .i64 a0.SRID)], .dead, .grow 48 1 (List.map keS5 g112.2), .fix 27 [.d (di .i64 x116.Kind), .d (di .i64 x116.Layout), .d (di .i64 x116.SRID), .d (eS1 x116.Flat), .d (eS2 x116.Ends), .d (eS3 x116.Endss), .d (eS0 x116.Kids)], .frame fr120 [(3, .d (di .i64 a0.Layout)), (5, .ptr 1 0), (99, .d (eS0 a0.Kids)), (100, .d (di .i64 ((a0.Kids.length : Nat) : Int))), (101, .d (di .i64 g112.1))]]) rfl ?_
    refine AO.nS ?_
    refine AC.seq ?_
    refine AC.sm 2 rfl ?_
    refine AO.op rfl (AOp.inl [0] (by kernel_rfl) Tryz.func76 rfl Tryz.ntmps76 rfl rfl lb rfl (leb rfl) rfl ?_)
    intro fr121
    refine AC.sm 1 rfl ?_
    refine AO.objs (obs' := [.fix 27 [.d (di .i64 a0.Kind), .d (di .i64 a0.Layout), .d (di .i64 a0.SRID), .d (eS1 a0.Flat), .d (eS2 a0.Ends), .d (eS3 a0.Endss), .d (eS0 a0.Kids)], .fix 149 [.d (di .i64 (0 : Int)), .own 3, .d (di .i64 a0.SRID)], .dead, .grow 48 1 (List.map keS5 g112.2), .fix 27 [.d (di .i64 x116.Kind), .d (di .i64 x116.Layout), .d (di .i64 x116.SRID), .d (eS1 x116.Flat), .d (eS2 x116.Ends), .d (eS3 x116.Endss), .d (eS0 x116.Kids)], .frame fr120 [(3, .d (di .i64 a0.Layout)), (5, .ptr 1 0), (99, .d (eS0 a0.Kids)), (100, .d (di .i64 ((a0.Kids.length : Nat) : Int))), (101, .d (di .i64 g112.1))], .frame fr121 [(0, .ptr 1 0)]]) rfl ?_
    refine AO.nS ?_
    refine AC.seq ?_
    refine AC.sm 1 rfl ?_
    refine AO.op rfl (AOp.nilCheck rfl rfl lb rfl rfl ?_)
    refine AO.op rfl (AOp.fieldAddr rfl rfl lb rfl fo149_0 ?_)
    refine AO.op rfl (AOp.load1 rfl rfl lb rfl agg65 rfl rfl ?_)
    refine AO.op rfl (AOp.ineq rfl rfl lb rfl rfl ?_)
    refine AO.nS ?_
    refine AC.cond rfl (fun q122 => ?_) (fun q122 => ?_)
    ·replace h1 := cT h1 q122
     cases h1
    replace h1 := cF h1 q122
    refine AC.skip ?_
    change AC _ _ _ _
    refine AC.sm 2 rfl ?_
    refine AO.op rfl (AOp.nilCheck rfl rfl lb rfl rfl ?_)
    refine AO.op rfl (AOp.fieldAddr rfl rfl lb rfl fo149_1 ?_)
    refine AO.op rfl (AOp.load1 rfl rfl lb rfl agg147 rfl rfl ?_)
    refine AO.mv 1 rfl ?_
    refine AO.subO 1 rfl (.cons (SVLe.refl _) (.cons (SVLe.any _) (.cons (SVLe.refl _) .nil))) ?_
    obtain ⟨q123, h1⟩ := need_elim h1
    refine AO.op rfl (AOp.appendOwn' (p := 3) (n := g112.2.length) (m := [y118].length) (news := (List.map keS5 [y118])) rfl rfl lb rfl rfl el147 info48 rfl (by decide) rfl (len1 _ _) (len1 _ _) (one1 _ (fun _ => rfl) _) q123 (by decide) rfl rfl (cat1 _ _ _) ?_)
    refine AO.op rfl (AOp.nilCheck rfl rfl lb rfl rfl ?_)
    refine AO.op rfl (AOp.fieldAddr rfl rfl lb rfl fo149_1 ?_)
    refine AO.op rfl (AOp.storeOwn rfl rfl rfl rfl rfl rfl size147 rfl rfl (leb rfl) ?_)
    refine AO.nS ?_
    refine AC.smn 1 rfl ?_
    refine AC.ret ?_
    refine inlret (ob' := [.fix 27 [.d (di .i64 a0.Kind), .d (di .i64 a0.Layout), .d (di .i64 a0.SRID), .d (eS1 a0.Flat), .d (eS2 a0.Ends), .d (eS3 a0.Endss), .d (eS0 a0.Kids)], .fix 149 [.d (di .i64 (0 : Int)), .own 3, .d (di .i64 a0.SRID)], .dead, .grow 48 1 (List.map keS5 (g112.2 ++ [y118])), .fix 27 [.d (di .i64 x116.Kind), .d (di .i64 x116.Layout), .d (di .i64 x116.SRID), .d (eS1 x116.Flat), .d (eS2 x116.Ends), .d (eS3 x116.Endss), .d (eS0 x116.Kids)], .frame fr120 [(3, .d (di .i64 a0.Layout)), (5, .ptr 1 0), (99, .d (eS0 a0.Kids)), (100, .d (di .i64 ((a0.Kids.length : Nat) : Int))), (101, .d (di .i64 g112.1))], .dead]) (e' := [(0, .ptr 1 0)]) (r := .d (.v (.nilIface))) rfl rfl rfl ?_
    change AO _ _ _ _ _
    refine AO.mv 1 rfl ?_
    refine AO.objs (obs' := [.fix 27 [.d (di .i64 a0.Kind), .d (di .i64 a0.Layout), .d (di .i64 a0.SRID), .d (eS1 a0.Flat), .d (eS2 a0.Ends), .d (eS3 a0.Endss), .d (eS0 a0.Kids)], .fix 149 [.d (di .i64 (0 : Int)), .own 3, .d (di .i64 a0.SRID)], .dead, .grow 48 1 (List.map keS5 (g112.2 ++ [y118])), .fix 27 [.d (di .i64 x116.Kind), .d (di .i64 x116.Layout), .d (di .i64 x116.SRID), .d (eS1 x116.Flat), .d (eS2 x116.Ends), .d (eS3 x116.Endss), .d (eS0 x116.Kids)], .frame fr120 [(3, .d (di .i64 a0.Layout)), (5, .ptr 1 0), (99, .d (eS0 a0.Kids)), (100, .d (di .i64 ((a0.Kids.length : Nat) : Int))), (101, .d (di .i64 g112.1))], .dead]) rfl ?_
    refine AO.nS ?_
    refine AC.sm 1 rfl ?_
    refine AO.op rfl (AOp.nilNeq rfl rfl lb rfl imeth44 ?_)
    refine AO.nS ?_
    refine AC.condF rfl rfl ?_
    refine AC.skip ?_
    change AC _ _ _ _
    refine AC.smn 2 rfl ?_
    refine AC.ret ?_
    refine inlret (ob' := [.fix 27 [.d (di .i64 a0.Kind), .d (di .i64 a0.Layout), .d (di .i64 a0.SRID), .d (eS1 a0.Flat), .d (eS2 a0.Ends), .d (eS3 a0.Endss), .d (eS0 a0.Kids)], .fix 149 [.d (di .i64 (0 : Int)), .own 3, .d (di .i64 a0.SRID)], .dead, .grow 48 1 (List.map keS5 (g112.2 ++ [y118])), .fix 27 [.d (di .i64 x116.Kind), .d (di .i64 x116.Layout), .d (di .i64 x116.SRID), .d (eS1 x116.Flat), .d (eS2 x116.Ends), .d (eS3 x116.Endss), .d (eS0 x116.Kids)], .dead, .dead]) (e' := [(3, .d (di .i64 a0.Layout)), (5, .ptr 1 0), (99, .d (eS0 a0.Kids)), (100, .d (di .i64 ((a0.Kids.length : Nat) : Int))), (101, .d (di .i64 g112.1))]) (r := .ptr 1 0) rfl rfl rfl ?_
    change AO _ _ _ _ _
    refine AO.objs (obs' := [.fix 27 [.d (di .i64 a0.Kind), .d (di .i64 a0.Layout), .d (di .i64 a0.SRID), .d (eS1 a0.Flat), .d (eS2 a0.Ends), .d (eS3 a0.Endss), .d (eS0 a0.Kids)], .fix 149 [.d (di .i64 (0 : Int)), .own 3, .d (di .i64 a0.SRID)], .dead, .grow 48 1 (List.map keS5 (g112.2 ++ [y118])), .fix 27 [.d (di .i64 x116.Kind), .d (di .i64 x116.Layout), .d (di .i64 x116.SRID), .d (eS1 x116.Flat), .d (eS2 x116.Ends), .d (eS3 x116.Endss), .d (eS0 x116.Kids)], .dead, .dead]) rfl ?_
    refine AO.nil (?_ : AC _ _ _ _)
    refine AC.region ?_
    obtain ⟨q124, h1⟩ := need_elim h1
    refine AO.op rfl (AOp.iadd rfl rfl lb rfl rfl rfl q124.1 q124.2 ?_)
    refine AO.mv 1 rfl ?_
    refine AO.nil ?_
    exact ⟨((g112.1 + (1 : Int)), (g112.2 ++ [y118])), _, rfl, (LeL.refl _), rfl, rfl, h1⟩
   replace h1 := cF h1 q115
   refine AC.exit ?_
   obtain rfl := Option.some.inj h1
   exact ⟨g112.2, _, rfl, (LeL.refl _), rfl, rfl, aftL h0⟩
  intro g47 h0
  unfold p_geometry_k1 at h0
  change AC _ _ _ _
  refine AC.sm 2 rfl ?_
  refine AO.op rfl (AOp.inl [] (by kernel_rfl) Tryz.func50 rfl Tryz.ntmps50 rfl rfl lb rfl (leb rfl) rfl ?_)
  intro fr48
  refine AC.smn 1 rfl ?_
  refine AC.seq ?_
  refine AC.sm 2 rfl ?_
  refine AO.op rfl (AOp.inl [0] (by kernel_rfl) Tryz.func77 rfl Tryz.ntmps77 rfl rfl lb rfl (leb rfl) rfl ?_)
  intro fr49
  refine AC.sm 1 rfl ?_
  refine AO.objs (obs' := [.fix 27 [.d (di .i64 a0.Kind), .d (di .i64 a0.Layout), .d (di .i64 a0.SRID), .d (eS1 a0.Flat), .d (eS2 a0.Ends), .d (eS3 a0.Endss), .d (eS0 a0.Kids)], .fix 149 [.d (di .i64 (0 : Int)), .own 3, .d (di .i64 a0.SRID)], .dead, .grow 48 1 (List.map keS5 g47), .frame fr48 [], .frame fr49 [(0, .ptr 1 0)]]) rfl ?_
  refine AO.nS ?_
  refine AC.seq ?_
  refine AC.sm 2 rfl ?_
  refine AO.op rfl (AOp.inl [0, 1] (by kernel_rfl) Tryz.func85 rfl Tryz.ntmps85 rfl rfl lb rfl (leb rfl) rfl ?_)
  intro fr50
  refine AC.sm 1 rfl ?_
  refine AO.objs (obs' := [.fix 27 [.d (di .i64 a0.Kind), .d (di .i64 a0.Layout), .d (di .i64 a0.SRID), .d (eS1 a0.Flat), .d (eS2 a0.Ends), .d (eS3 a0.Endss), .d (eS0 a0.Kids)], .fix 149 [.d (di .i64 (0 : Int)), .own 3, .d (di .i64 a0.SRID)], .dead, .grow 48 1 (List.map keS5 g47), .frame fr48 [], .frame fr49 [(0, .ptr 1 0)], .frame fr50 [(0, .ptr 1 0), (1, .d (di .i64 a0.Layout))]]) rfl ?_
  refine AO.nS ?_
  refine AC.joinP (V := Unit) [] [] 7 (fun g51 => []) (fun g51 => [.fix 27 [.d (di .i64 a0.Kind), .d (di .i64 a0.Layout), .d (di .i64 a0.SRID), .d (eS1 a0.Flat), .d (eS2 a0.Ends), .d (eS3 a0.Endss), .d (eS0 a0.Kids)], .fix 149 [.d (di .i64 (0 : Int)), .own 3, .d (di .i64 a0.SRID)], .dead, .grow 48 1 (List.map keS5 g47), .frame fr48 [], .frame fr49 [(0, .ptr 1 0)], .frame fr50 [(0, .ptr 1 0), (1, .d (di .i64 a0.Layout))]]) (fun g51 => (p_geometry_k2 a0 g47) g51 = some r0) rfl ?_ ?_
  ·refine AC.sm 1 rfl ?_
   refine AO.op rfl (AOp.ineq rfl rfl lb rfl rfl ?_)
   refine AO.nS ?_
   refine AC.cond rfl (fun q52 => ?_) (fun q52 => ?_)
   ·replace h0 := cT h0 q52
    refine AC.sm 1 rfl ?_
    refine AO.op rfl (AOp.nilCheck rfl rfl lb rfl rfl ?_)
    refine AO.op rfl (AOp.fieldAddr rfl rfl lb rfl fo149_1 ?_)
    refine AO.op rfl (AOp.load1 rfl rfl lb rfl agg147 rfl rfl ?_)
    refine AO.op rfl (AOp.lenOwn (cells := (List.map keS5 g47)) (n := g47.length) rfl rfl lb rfl el147 rfl (by decide) (len1 _ _) ?_)
    refine AO.mn 1 rfl ?_
    obtain ⟨o53, l54, h0⟩ := bind_elim h0
    refine AC.joinE (V := Unit) [] [] 7 (fun g55 => []) (fun g55 => [.fix 27 [.d (di .i64 a0.Kind), .d (di .i64 a0.Layout), .d (di .i64 a0.SRID), .d (eS1 a0.Flat), .d (eS2 a0.Ends), .d (eS3 a0.Endss), .d (eS0 a0.Kids)], .fix 149 [.d (di .i64 (0 : Int)), .own 3, .d (di .i64 a0.SRID)], .dead, .grow 48 1 (List.map keS5 g47), .frame fr48 [], .frame fr49 [(0, .ptr 1 0)], .frame fr50 [(0, .ptr 1 0), (1, .d (di .i64 a0.Layout))]]) (fun g55 => (p_geometry_k3 a0 g47) g55 = some r0) rfl ?_ ?_
    ·refine AC.block ?_
     refine AC.loopP (V := Int) (p_geometry_l4 a0 F g47) o53 [1, 13, 14] [15] 7 (fun g56 => [(15, .d (di .i64 g56))]) (fun g56 => [.fix 27 [.d (di .i64 a0.Kind), .d (di .i64 a0.Layout), .d (di .i64 a0.SRID), .d (eS1 a0.Flat), .d (eS2 a0.Ends), .d (eS3 a0.Endss), .d (eS0 a0.Kids)], .fix 149 [.d (di .i64 (0 : Int)), .own 3, .d (di .i64 a0.SRID)], .dead, .grow 48 1 (List.map keS5 g47), .frame fr48 [], .frame fr49 [(0, .ptr 1 0)], .frame fr50 [(0, .ptr 1 0), (1, .d (di .i64 a0.Layout))]]) F (0 : Int) l54 rfl rfl (LeL.refl _) rfl rfl ?_
     intro n58 g56 h1
     unfold p_geometry_l4 at h1
     refine AC.sr ?_
     refine AO.op rfl (AOp.ilss rfl rfl lb rfl rfl ?_)
     refine AO.nS ?_
     refine AC.seq ?_
     refine AC.cond rfl (fun q59 => ?_) (fun q59 => ?_)
     ·replace h1 := cT h1 q59
      refine AC.skip ?_
      change AC _ _ _ _
      refine AC.seq ?_
      refine AC.block ?_
      refine AC.sr ?_
      obtain ⟨q60, h1⟩ := need_elim h1
      refine AO.op rfl (AOp.indexOwn (cells := (List.map keS5 g47)) (n := g47.length) rfl rfl lb rfl rfl el147 rfl (by decide) (len1 _ _) q60.1 q60.2 ?_)
      obtain ⟨x61, q62, h1⟩ := idx_elim h1
      refine AO.op rfl (AOp.loadO1 rfl rfl lb rfl agg48 rfl (at1 q62.2) ?_)
      refine AO.mn 1 rfl ?_
      refine AC.sm 1 rfl ?_
      refine AO.dec (decide (x61.dt = 67)) (fun q63 => ?_) (fun q63 => ?_)
      ·replace h1 := cT h1 q63
       obtain ⟨y64, q65, h1⟩ := bind_elim h1
       refine AO.sub 19 rfl (eIfc_le q63 q65) ?_
       obtain ⟨y66, q67, h1⟩ := bind_elim h1
       refine AO.op rfl (AOp.callE ((EntersS.meth (by kernel_rfl) rfl rfl rfl meth67_Layout rfl rfl).le (.cons (SVLe.epPt (n := 4) rfl) .nil)) rfl lb rfl rfl (w_geom0_Layout y64.geom0 y66 q67) ?_)
       rintro _ rfl
       refine AO.mn 1 rfl ?_
       refine AC.sm 2 rfl ?_
       refine AO.op rfl (AOp.ineq rfl rfl lb rfl rfl ?_)
       refine AO.nS ?_
       refine AC.cond rfl (fun q68 => ?_) (fun q68 => ?_)
       ·replace h1 := cT h1 q68
        cases h1
       replace h1 := cF h1 q68
       refine AC.skip ?_
       change AC _ _ _ _
       refine AC.region ?_
       obtain ⟨q69, h1⟩ := need_elim h1
       refine AO.op rfl (AOp.iadd rfl rfl lb rfl rfl rfl q69.1 q69.2 ?_)
       refine AO.mv 1 rfl ?_
       refine AO.nil ?_
       exact ⟨(g56 + (1 : Int)), _, rfl, (LeL.refl _), rfl, rfl, h1⟩
      replace h1 := cF h1 q63
      refine AO.dec (decide (x61.dt = 70)) (fun q70 => ?_) (fun q70 => ?_)
      ·replace h1 := cT h1 q70
       obtain ⟨y71, q72, h1⟩ := bind_elim h1
       refine AO.sub 19 rfl (eIfc_le q70 q72) ?_
       obtain ⟨y73, q74, h1⟩ := bind_elim h1
       refine AO.op rfl (AOp.callE ((EntersS.meth (by kernel_rfl) rfl rfl rfl meth70_Layout rfl rfl).le (.cons (SVLe.epPt (n := 4) rfl) .nil)) rfl lb rfl rfl (w_geom0_Layout y71.geom1.geom0 y73 q74) ?_)
       rintro _ rfl
       refine AO.mn 1 rfl ?_
       refine AC.sm 2 rfl ?_
       refine AO.op rfl (AOp.ineq rfl rfl lb rfl rfl ?_)
       refine AO.nS ?_
       refine AC.cond rfl (fun q75 => ?_) (fun q75 => ?_)
       ·replace h1 := cT h1 q75
        cases h1
       replace h1 := cF h1 q75
       refine AC.skip ?_
       change AC _ _ _ _
       refine AC.region ?_
       obtain ⟨q76, h1⟩ := need_elim h1
       refine AO.op rfl (AOp.iadd rfl rfl lb rfl rfl rfl q76.1 q76.2 ?_)
       refine AO.mv 1 rfl ?_
       refine AO.nil ?_
       exact ⟨(g56 + (1 : Int)), _, rfl, (LeL.refl _), rfl, rfl, h1⟩
      replace h1 := cF h1 q70
      refine AO.dec (decide (x61.dt = 76)) (fun q77 => ?_) (fun q77 => ?_)
      ·replace h1 := cT h1 q77
       obtain ⟨y78, q79, h1⟩ := bind_elim h1
       refine AO.sub 19 rfl (eIfc_le q77 q79) ?_
       obtain ⟨y80, q81, h1⟩ := bind_elim h1
       refine AO.op rfl (AOp.callE ((EntersS.meth (by kernel_rfl) rfl rfl rfl meth76_Layout rfl rfl).le (.cons (SVLe.epPt (n := 4) rfl) .nil)) rfl lb rfl rfl (w_geom0_Layout y78.geom2.geom1.geom0 y80 q81) ?_)
       rintro _ rfl
       refine AO.mn 1 rfl ?_
       refine AC.sm 2 rfl ?_
       refine AO.op rfl (AOp.ineq rfl rfl lb rfl rfl ?_)
       refine AO.nS ?_
       refine AC.cond rfl (fun q82 => ?_) (fun q82 => ?_)
       ·replace h1 := cT h1 q82
        cases h1
       replace h1 := cF h1 q82
       refine AC.skip ?_
       change AC _ _ _ _
       refine AC.region ?_
       obtain ⟨q83, h1⟩ := need_elim h1
       refine AO.op rfl (AOp.iadd rfl rfl lb rfl rfl rfl q83.1 q83.2 ?_)
       refine AO.mv 1 rfl ?_
       refine AO.nil ?_
       exact ⟨(g56 + (1 : Int)), _, rfl, (LeL.refl _), rfl, rfl, h1⟩
      replace h1 := cF h1 q77
      refine AO.dec (decide (x61.dt = 80)) (fun q84 => ?_) (fun q84 => ?_)
      ·replace h1 := cT h1 q84
       obtain ⟨y85, q86, h1⟩ := bind_elim h1
       refine AO.sub 19 rfl (eIfc_le q84 q86) ?_
       obtain ⟨y87, q88, h1⟩ := bind_elim h1
       refine AO.op rfl (AOp.callE ((EntersS.meth (by kernel_rfl) rfl rfl rfl meth80_Layout rfl rfl).le (.cons (SVLe.epPt (n := 4) rfl) .nil)) rfl lb rfl rfl (w_geom0_Layout y85.geom2.geom1.geom0 y87 q88) ?_)
       rintro _ rfl
       refine AO.mn 1 rfl ?_
       refine AC.sm 2 rfl ?_
       refine AO.op rfl (AOp.ineq rfl rfl lb rfl rfl ?_)
       refine AO.nS ?_
       refine AC.cond rfl (fun q89 => ?_) (fun q89 => ?_)
       ·replace h1 := cT h1 q89
        cases h1
       replace h1 := cF h1 q89
       refine AC.skip ?_
       change AC _ _ _ _
       refine AC.region ?_
       obtain ⟨q90, h1⟩ := need_elim h1
       refine AO.op rfl (AOp.iadd rfl rfl lb rfl rfl rfl q90.1 q90.2 ?_)
       refine AO.mv 1 rfl ?_
       refine AO.nil ?_
       exact ⟨(g56 + (1 : Int)), _, rfl, (LeL.refl _), rfl, rfl, h1⟩
      replace h1 := cF h1 q84
      refine AO.dec (decide (x61.dt = 86)) (fun q91 => ?_) (fun q91 => ?_)
      ·replace h1 := cT h1 q91
       obtain ⟨y92, q93, h1⟩ := bind_elim h1
       refine AO.sub 19 rfl (eIfc_le q91 q93) ?_
       obtain ⟨y94, q95, h1⟩ := bind_elim h1
       refine AO.op rfl (AOp.callE ((EntersS.meth (by kernel_rfl) rfl rfl rfl meth86_Layout rfl rfl).le (.cons (SVLe.epPt (n := 4) rfl) .nil)) rfl lb rfl rfl (w_geom0_Layout y92.geom2.geom1.geom0 y94 q95) ?_)
       rintro _ rfl
       refine AO.mn 1 rfl ?_
       refine AC.sm 2 rfl ?_
       refine AO.op rfl (AOp.ineq rfl rfl lb rfl rfl ?_)
       refine AO.nS ?_
       refine AC.cond rfl (fun q96 => ?_) (fun q96 => ?_)
       ·replace h1 := cT h1 q96
        cases h1
       replace h1 := cF h1 q96
       refine AC.skip ?_
       change AC _ _ _ _
       refine AC.region ?_
       obtain ⟨q97, h1⟩ := need_elim h1
       refine AO.op rfl (AOp.iadd rfl rfl lb rfl rfl rfl q97.1 q97.2 ?_)
       refine AO.mv 1 rfl ?_
       refine AO.nil ?_
       exact ⟨(g56 + (1 : Int)), _, rfl, (LeL.refl _), rfl, rfl, h1⟩
      replace h1 := cF h1 q91
      refine AO.dec (decide (x61.dt = 89)) (fun q98 => ?_) (fun q98 => ?_)
      ·replace h1 := cT h1 q98
       obtain ⟨y99, q100, h1⟩ := bind_elim h1
       refine AO.sub 19 rfl (eIfc_le q98 q100) ?_
       obtain ⟨y101, q102, h1⟩ := bind_elim h1
       refine AO.op rfl (AOp.callE ((EntersS.meth (by kernel_rfl) rfl rfl rfl meth89_Layout rfl rfl).le (.cons (SVLe.epPt (n := 4) rfl) .nil)) rfl lb rfl rfl (w_geom0_Layout y99.geom3.geom1.geom0 y101 q102) ?_)
       rintro _ rfl
       refine AO.mn 1 rfl ?_
       refine AC.sm 2 rfl ?_
       refine AO.op rfl (AOp.ineq rfl rfl lb rfl rfl ?_)
       refine AO.nS ?_
       refine AC.cond rfl (fun q103 => ?_) (fun q103 => ?_)
       ·replace h1 := cT h1 q103
        cases h1
       replace h1 := cF h1 q103
       refine AC.skip ?_
       change AC _ _ _ _
       refine AC.region ?_
       obtain ⟨q104, h1⟩ := need_elim h1
       refine AO.op rfl (AOp.iadd rfl rfl lb rfl rfl rfl q104.1 q104.2 ?_)
       refine AO.mv 1 rfl ?_
       refine AO.nil ?_
       exact ⟨(g56 + (1 : Int)), _, rfl, (LeL.refl _), rfl, rfl, h1⟩
      replace h1 := cF h1 q98
      refine AO.dec (decide (x61.dt = 93)) (fun q105 => ?_) (fun q105 => ?_)
      ·replace h1 := cT h1 q105
       obtain ⟨y106, q107, h1⟩ := bind_elim h1
       refine AO.sub 19 rfl (eIfc_le q105 q107) ?_
       obtain ⟨y108, q109, h1⟩ := bind_elim h1
       refine AO.op rfl (AOp.callE (EntersS.meth (by kernel_rfl) rfl rfl rfl meth93_Layout rfl rfl) rfl lb rfl rfl (w_GeometryCollection_Layout F y106 y108 q109) ?_)
       rintro _ rfl
       refine AO.mn 1 rfl ?_
       refine AC.sm 2 rfl ?_
       refine AO.op rfl (AOp.ineq rfl rfl lb rfl rfl ?_)
       refine AO.nS ?_
       refine AC.cond rfl (fun q110 => ?_) (fun q110 => ?_)
       ·replace h1 := cT h1 q110
        cases h1
       replace h1 := cF h1 q110
       refine AC.skip ?_
       change AC _ _ _ _
       refine AC.region ?_
       obtain ⟨q111, h1⟩ := need_elim h1
       refine AO.op rfl (AOp.iadd rfl rfl lb rfl rfl rfl q111.1 q111.2 ?_)
       refine AO.mv 1 rfl ?_
       refine AO.nil ?_
       exact ⟨(g56 + (1 : Int)), _, rfl, (LeL.refl _), rfl, rfl, h1⟩
      replace h1 := cF h1 q105
      cases h1
     replace h1 := cF h1 q59
     refine AC.exit ?_
     obtain rfl := Option.some.inj h1
     exact ⟨(), _, rfl, (LeL.refl _), rfl, rfl, aftL h0⟩
    intro g55 h0
    unfold p_geometry_k3 at h0
    exact ⟨(), _, rfl, (LeL.refl _), rfl, rfl, h0⟩
   replace h0 := cF h0 q52
   refine AC.skip ?_
   exact ⟨(), _, rfl, (LeL.refl _), rfl, rfl, h0⟩
  intro g51 h0
  unfold p_geometry_k2 at h0
  refine AC.smn 1 rfl ?_
  refine AC.ret ?_
  refine inlret (ob' := [.fix 27 [.d (di .i64 a0.Kind), .d (di .i64 a0.Layout), .d (di .i64 a0.SRID), .d (eS1 a0.Flat), .d (eS2 a0.Ends), .d (eS3 a0.Endss), .d (eS0 a0.Kids)], .fix 149 [.d (di .i64 (0 : Int)), .own 3, .d (di .i64 a0.SRID)], .dead, .grow 48 1 (List.map keS5 g47), .frame fr48 [], .frame fr49 [(0, .ptr 1 0)], .dead]) (e' := [(0, .ptr 1 0), (1, .d (di .i64 a0.Layout))]) (r := .d (.v (.nilIface))) rfl rfl rfl ?_
  change AO _ _ _ _ _
  refine AO.mv 1 rfl ?_
  refine AO.objs (obs' := [.fix 27 [.d (di .i64 a0.Kind), .d (di .i64 a0.Layout), .d (di .i64 a0.SRID), .d (eS1 a0.Flat), .d (eS2 a0.Ends), .d (eS3 a0.Endss), .d (eS0 a0.Kids)], .fix 149 [.d (di .i64 (0 : Int)), .own 3, .d (di .i64 a0.SRID)], .dead, .grow 48 1 (List.map keS5 g47), .frame fr48 [], .frame fr49 [(0, .ptr 1 0)], .dead]) rfl ?_
  refine AO.nS ?_
  refine AC.sm 1 rfl ?_
  refine AO.op rfl (AOp.nilNeq rfl rfl lb rfl imeth44 ?_)
  refine AO.nS ?_
  refine AC.condF rfl rfl ?_
  refine AC.skip ?_
  change AC _ _ _ _
  refine AC.sm 2 rfl ?_
  refine AO.op rfl (AOp.nilCheck rfl rfl lb rfl rfl ?_)
  refine AO.op rfl (AOp.fieldAddr rfl rfl lb rfl fo149_0 ?_)
  refine AO.op rfl (AOp.store rfl rfl rfl rfl size65 rfl rfl rfl (leb rfl) ?_)
  refine AO.nS ?_
  refine AC.smn 1 rfl ?_
  refine AC.ret ?_
  refine inlret (ob' := [.fix 27 [.d (di .i64 a0.Kind), .d (di .i64 a0.Layout), .d (di .i64 a0.SRID), .d (eS1 a0.Flat), .d (eS2 a0.Ends), .d (eS3 a0.Endss), .d (eS0 a0.Kids)], .fix 149 [.d (di .i64 a0.Layout), .own 3, .d (di .i64 a0.SRID)], .dead, .grow 48 1 (List.map keS5 g47), .frame fr48 [], .dead, .dead]) (e' := [(0, .ptr 1 0)]) (r := .d (.v (.nilIface))) rfl rfl rfl ?_
  change AO _ _ _ _ _
  refine AO.mv 1 rfl ?_
  refine AO.objs (obs' := [.fix 27 [.d (di .i64 a0.Kind), .d (di .i64 a0.Layout), .d (di .i64 a0.SRID), .d (eS1 a0.Flat), .d (eS2 a0.Ends), .d (eS3 a0.Endss), .d (eS0 a0.Kids)], .fix 149 [.d (di .i64 a0.Layout), .own 3, .d (di .i64 a0.SRID)], .dead, .grow 48 1 (List.map keS5 g47), .frame fr48 [], .dead, .dead]) rfl ?_
  refine AO.nS ?_
  refine AC.sm 1 rfl ?_
  refine AO.op rfl (AOp.nilNeq rfl rfl lb rfl imeth44 ?_)
  refine AO.nS ?_
  refine AC.condF rfl rfl ?_
  refine AC.skip ?_
  change AC _ _ _ _
  refine AC.smn 2 rfl ?_
  refine AC.ret ?_
  refine inlret (ob' := [.fix 27 [.d (di .i64 a0.Kind), .d (di .i64 a0.Layout), .d (di .i64 a0.SRID), .d (eS1 a0.Flat), .d (eS2 a0.Ends), .d (eS3 a0.Endss), .d (eS0 a0.Kids)], .fix 149 [.d (di .i64 a0.Layout), .own 3, .d (di .i64 a0.SRID)], .dead, .grow 48 1 (List.map keS5 g47), .dead, .dead, .dead]) (e' := []) (r := .ptr 1 0) rfl rfl rfl ?_
  change AO _ _ _ _ _
  refine AO.op rfl (AOp.makeIfc rfl rfl lb rfl conc93 ?_)
  refine AO.mv 1 rfl ?_
  refine AO.objs (obs' := [.fix 27 [.d (di .i64 a0.Kind), .d (di .i64 a0.Layout), .d (di .i64 a0.SRID), .d (eS1 a0.Flat), .d (eS2 a0.Ends), .d (eS3 a0.Endss), .d (eS0 a0.Kids)], .fix 149 [.d (di .i64 a0.Layout), .own 3, .d (di .i64 a0.SRID)], .dead, .grow 48 1 (List.map keS5 g47), .dead, .dead, .dead]) rfl ?_
  refine AO.nS ?_
  refine AC.ret ?_
  change RetQ _ _ _ .ret _
  obtain rfl := Option.some.inj h0
  refine retq rfl rfl
 replace h0 := cF h0 q41
 refine AC.skip ?_
 change AC _ _ _ _
 refine AC.region ?_
 cases h0
theorem w_geometry : ∀ (F : Nat) (a0 : TImpl_Geom) (r0 : IfcV), p_geometry F a0 = some r0 → FnD Tryz.prog 19 [e_TImpl_Geom a0] (fun r => r = eIfc r0)
 | 0, _, _, h => by cases h
 | F + 1, a0, r0, h => w_geometry_b _ (fun a0 r0 h => w_geometry F a0 r0 h) F a0 r0 h

set_option maxRecDepth 100000 in
theorem wc_DoorOrder : FnD Tryz.prog 20 [dbool true] (fun r => r = .ifc 99 (.ag [])) := by
 refine FnD.of (by kernel_rfl) Tryz.func20 rfl Tryz.ntmps20 rfl (leb rfl) fun W ok => ?_
 refine AC.smn 1 rfl ?_
 refine AC.seq ?_
 refine AC.smn 1 rfl ?_
 refine AC.condT rfl rfl ?_
 refine AC.sr ?_
 refine AO.op rfl (AOp.loadG0 rfl rfl lb agg99 size99 ?_)
 refine AO.op rfl (AOp.makeIfc rfl rfl lb rfl conc99 ?_)
 refine AO.mn 1 rfl ?_
 refine AC.ret ?_
 change RetQ _ _ _ .ret _
 refine retq rfl rfl

set_option maxRecDepth 100000 in
theorem wc_DoorOrder_20 : FnD Tryz.prog 20 [dbool false] (fun r => r = .ifc 100 (.ag [])) := by
 refine FnD.of (by kernel_rfl) Tryz.func20 rfl Tryz.ntmps20 rfl (leb rfl) fun W ok => ?_
 refine AC.smn 1 rfl ?_
 refine AC.seq ?_
 refine AC.smn 1 rfl ?_
 refine AC.condF rfl rfl ?_
 refine AC.skip ?_
 change AC _ _ _ _
 refine AC.sr ?_
 refine AO.op rfl (AOp.loadG0 rfl rfl lb agg100 size100 ?_)
 refine AO.op rfl (AOp.makeIfc rfl rfl lb rfl conc100 ?_)
 refine AO.mn 1 rfl ?_
 refine AC.ret ?_
 change RetQ _ _ _ .ret _
 refine retq rfl rfl

theorem wb_DoorOrder (b : Bool) : FnD Tryz.prog 20 [dbool b] (fun r => r = .ifc (bif b then 99 else 100) (.ag [])) := by
 cases b
 ·exact wc_DoorOrder_20
 ·exact wc_DoorOrder

def RH_WriteByte : (Int × (List Int)) → SV → List Ob → Prop
 | z => fun r post => r = .d (.v (.nilIface)) ∧ post = [.fix 108 [.own 1, .d (di .i64 (0 : Int)), .d (di .i8 z.1)], .grow 5 1 (List.map keS6 z.2)]
set_option maxRecDepth 100000 in
set_option maxHeartbeats 4000000 in
theorem wh_WriteByte (a0 : Int) (b0 : Int) (b1 : (List Int)) (r0 : (Int × (List Int))) (h0 : p_WriteByte a0 b0 b1 = some r0) : FnH Tryz.prog 56 [.ifc 61 (.ptr 0 0), .d (di .u8 a0)] [.fix 108 [.own 1, .d (di .i64 (0 : Int)), .d (di .i8 b0)], .grow 5 1 (List.map keS6 b1)] [0] (RH_WriteByte r0) := by
 refine FnH.of (by kernel_rfl) Tryz.func56 rfl Tryz.ntmps56 rfl (leb rfl) fun W ok may pv => ?_
 unfold p_WriteByte at h0
 refine AC.smn 1 rfl ?_
 refine AC.sr ?_
 refine AO.op rfl (AOp.alloc rfl rfl lb zero153 rfl ?_)
 refine AO.nS ?_
 refine AC.sm 1 rfl ?_
 refine AO.op rfl (AOp.indexArrO rfl rfl lb rfl rfl ar153 (by decide) (by decide) (show _ = 0 by first | rfl | decide) ?_)
 refine AO.op rfl (AOp.store rfl rfl rfl rfl size5 rfl rfl rfl (leb rfl) ?_)
 refine AO.nS ?_
 refine AC.seq ?_
 refine AC.drawC 5 mixed (by kernel_rfl) rfl ?_
 refine AD.op [0] rfl (by kernel_rfl) rfl rfl (fun _ _ h => AOp.move rfl rfl lb rfl h) ?_
 refine AD.op [5] rfl (by kernel_rfl) rfl rfl (fun _ _ h => AOp.sliceArr rfl rfl lb rfl ar153 ⟨_, _, rfl⟩ h) ?_
 refine AD.op [11] rfl (by kernel_rfl) rfl rfl (fun _ _ h => AOp.makeMeth rfl rfl lb rfl h) ?_
 refine AD.op [13] rfl (by kernel_rfl) rfl rfl (fun _ _ h => AOp.nilMeth rfl rfl lb rfl rfl nilm61_Write h) ?_
 refine AD.op [11] rfl (by kernel_rfl) rfl rfl (fun _ _ h => AOp.move rfl rfl lb rfl h) ?_
 refine AD.done ?_
 refine AO.subF 2 [0] rfl rfl ?_
 obtain ⟨q1, h0⟩ := need_elim h0
 obtain ⟨q2, h0⟩ := need_elim h0
 refine AO.op rfl (AOp.callW' (p := 0) (q := 1) (m := b1.length) (n := [a0].length) (bs := (List.map keS6 b1)) (cs := (List.map keS6 [a0])) (EntersS.meth (by kernel_rfl) rfl rfl rfl meth61_Write rfl rfl) bufW rfl lb rfl rfl (src_arr (f := keS6) rfl q1) rfl (isV_map (fun _ => rfl) _) rfl (one_map (fun _ => rfl) _) rfl (len1 _ _) rfl q2 (allNo (.cons rfl (.cons rfl (.cons rfl (.cons rfl .nil))))) rfl (cat1 _ _ _) ?_)
 refine AO.nil ?_
 change AD _ _ _ _ _
 refine AD.op [16] rfl (by kernel_rfl) rfl rfl (fun _ _ h => AOp.move rfl rfl lb rfl h) ?_
 first | refine AD.op [10] rfl (by kernel_rfl) rfl rfl (fun _ _ h => AOp.extractD rfl rfl lb rfl rfl h) ?_ | refine AD.op [10] rfl (by kernel_rfl) rfl rfl (fun _ _ h => AOp.extract rfl rfl lb rfl rfl h) ?_
 first | refine AD.op [10] rfl (by kernel_rfl) rfl rfl (fun _ _ h => AOp.extractD rfl rfl lb rfl rfl h) ?_ | refine AD.op [10] rfl (by kernel_rfl) rfl rfl (fun _ _ h => AOp.extract rfl rfl lb rfl rfl h) ?_
 refine AD.op [17] rfl (by kernel_rfl) rfl rfl (fun _ _ h => AOp.assign rfl rfl lb rfl h) ?_
 refine AD.op [18] rfl (by kernel_rfl) rfl rfl (fun _ _ h => AOp.assign rfl rfl lb rfl h) ?_
 refine AD.done ?_
 refine AO.nS ?_
 refine AC.smn 2 rfl ?_
 obtain rfl := Option.some.inj h0
 refine AC.ret ?_
 change RetH _ _ _ _ _ _ .ret _
 refine reth (post := [.fix 108 [.own 1, .d (di .i64 (0 : Int)), .d (di .i8 (0 : Int))], .grow 5 1 (List.map keS6 (b1 ++ [a0]))]) rfl rfl rfl rfl rfl ?_
 exact ⟨rfl, rfl⟩

set_option maxRecDepth 100000 in
set_option maxHeartbeats 4000000 in
theorem w_geom0_SRID (a0 : TGeom_geom0) (r0 : Int) (h0 : p_geom0_SRID a0 = some r0) : FnD Tryz.prog 119 [.pt (c_TGeom_geom0 a0)] (fun r => r = di .i64 r0) := by
 refine FnD.of (by kernel_rfl) Tryz.func119 rfl Tryz.ntmps119 rfl (leb rfl) fun W ok => ?_
 unfold p_geom0_SRID at h0
 refine AC.smn 1 rfl ?_
 refine AC.sm 1 rfl ?_
 refine AO.op rfl (AOp.nilCheck rfl rfl lb rfl rfl ?_)
 refine AO.op rfl (AOp.fieldAddrPt rfl rfl lb rfl fo122_3 ?_)
 refine AO.op rfl (AOp.loadEp rfl rfl lb rfl agg3 rfl ?_)
 refine AO.mn 1 rfl ?_
 refine AC.ret ?_
 change RetQ _ _ _ .ret _
 obtain rfl := Option.some.inj h0
 refine retq rfl rfl

def RH_WriteUInt32 : (Int × (List Int)) → SV → List Ob → Prop
 | z => fun r post => r = .d (.v (.nilIface)) ∧ post = [.fix 108 [.own 1, .d (di .i64 (0 : Int)), .d (di .i8 z.1)], .grow 5 1 (List.map keS6 z.2)]
end Go.Proofs.YtbinnbmpedmabaaGreat.Wk
