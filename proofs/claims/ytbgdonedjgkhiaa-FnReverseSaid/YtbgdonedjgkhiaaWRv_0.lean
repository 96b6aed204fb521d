/- Proved: functions of the program compute what the printed functions say, wherever these say something. -/
import Derived.Test.YtbgdonedjgkhiaaPRv
import Derived.Test.YtbgdonedjgkhiaaLibB
import Derived.Test.YtbgdonedjgkhiaaProg
namespace Go.Proofs.Ytbgdonedjgkhiaa.Wk
open Go.Vm
set_option linter.unusedVariables false
set_option linter.unusedSimpArgs false
theorem agg22 : aggT Try.prog 22 = some false := by kernel_rfl
theorem agg23 : aggT Try.prog 23 = some false := by kernel_rfl
theorem agg24 : aggT Try.prog 24 = some false := by kernel_rfl
theorem agg25 : aggT Try.prog 25 = some false := by kernel_rfl
theorem agg27 : aggT Try.prog 27 = some true := by kernel_rfl
theorem agg3 : aggT Try.prog 3 = some false := by kernel_rfl
theorem agg32 : aggT Try.prog 32 = some false := by kernel_rfl
theorem agg63 : aggT Try.prog 63 = some false := by kernel_rfl
theorem agg78 : aggT Try.prog 78 = some false := by kernel_rfl
theorem conc49 : concT Try.prog 49 = true := by kernel_rfl
theorem conc51 : concT Try.prog 51 = true := by kernel_rfl
theorem conc52 : concT Try.prog 52 = true := by kernel_rfl
theorem conc53 : concT Try.prog 53 = true := by kernel_rfl
theorem conc67 : concT Try.prog 67 = true := by kernel_rfl
theorem conc70 : concT Try.prog 70 = true := by kernel_rfl
theorem el117 : elemT Try.prog 117 = some (78, 1) := by kernel_rfl
theorem el22 : elemT Try.prog 22 = some (32, 1) := by kernel_rfl
theorem el23 : elemT Try.prog 23 = some (3, 1) := by kernel_rfl
theorem el24 : elemT Try.prog 24 = some (23, 1) := by kernel_rfl
theorem el25 : elemT Try.prog 25 = some (27, 7) := by kernel_rfl
theorem fo101_0 : fieldOff Try.prog 101 0 = some 0 := by kernel_rfl
theorem fo101_1 : fieldOff Try.prog 101 1 = some 4 := by kernel_rfl
theorem fo103_0 : fieldOff Try.prog 103 0 = some 0 := by kernel_rfl
theorem fo115_0 : fieldOff Try.prog 115 0 = some 0 := by kernel_rfl
theorem fo116_0 : fieldOff Try.prog 116 0 = some 0 := by kernel_rfl
theorem fo27_0 : fieldOff Try.prog 27 0 = some 0 := by kernel_rfl
theorem fo27_1 : fieldOff Try.prog 27 1 = some 1 := by kernel_rfl
theorem fo27_2 : fieldOff Try.prog 27 2 = some 2 := by kernel_rfl
theorem fo27_3 : fieldOff Try.prog 27 3 = some 3 := by kernel_rfl
theorem fo27_4 : fieldOff Try.prog 27 4 = some 4 := by kernel_rfl
theorem fo27_5 : fieldOff Try.prog 27 5 = some 5 := by kernel_rfl
theorem fo27_6 : fieldOff Try.prog 27 6 = some 6 := by kernel_rfl
theorem fo91_0 : fieldOff Try.prog 91 0 = some 0 := by kernel_rfl
theorem fo91_1 : fieldOff Try.prog 91 1 = some 1 := by kernel_rfl
theorem fo91_2 : fieldOff Try.prog 91 2 = some 2 := by kernel_rfl
theorem fo91_3 : fieldOff Try.prog 91 3 = some 3 := by kernel_rfl
theorem fo93_0 : fieldOff Try.prog 93 0 = some 0 := by kernel_rfl
theorem fo95_0 : fieldOff Try.prog 95 0 = some 0 := by kernel_rfl
theorem fo95_1 : fieldOff Try.prog 95 1 = some 4 := by kernel_rfl
theorem fo97_0 : fieldOff Try.prog 97 0 = some 0 := by kernel_rfl
theorem fo98_0 : fieldOff Try.prog 98 0 = some 0 := by kernel_rfl
theorem fo99_0 : fieldOff Try.prog 99 0 = some 0 := by kernel_rfl
theorem idle31 (vs : Array Value) (w : World) (h : vs.size = 2) : CallsD Try.prog 31 vs .returning w fun e u' w' => e = .returned (.tuple #[]) ∧ u' = .returning ∧ w' = w := by
 obtain ⟨x0, x1, rfl⟩ : ∃ x0 x1, vs = #[x0, x1] := by
  obtain ⟨l⟩ := vs
  match l, h with
  | [x0, x1], _ => exact ⟨x0, x1, rfl⟩
 refine callsD_of_wpS Try.func31 rfl fun c₀ cs hu => ?_
 apply wpS_seq
 apply wpS_region
 simp [wpOpsS, go_sem, recoverD, hu, Try.ntmps31, Exit.thenS]
 refine wpS_cond (t := false) (by simp [Act.eval, Array.replicate]) ?_
 simp only [Bool.false_eq_true, if_false]
 refine wpS_of_wp (wp_skip ?_)
 cases c₀
 simp_all [bodyPostS, results, Try.results31]
theorem info23 : (Try.prog.info? 23).map (fun i => (i.zero, i.size, i.bytes)) = some (some (.slice none 0 0), 1, 24) := by kernel_rfl
theorem info3 : (Try.prog.info? 3).map (fun i => (i.zero, i.size, i.bytes)) = some (some (.int .i64 0), 1, 8) := by kernel_rfl
theorem info32 : (Try.prog.info? 32).map (fun i => (i.zero, i.size, i.bytes)) = some (some (.float .f64 0), 1, 8) := by kernel_rfl
theorem meth49_Ends : methT Try.prog 49 "Ends" = some (85, some 0) := by kernel_rfl
theorem meth49_Endss : methT Try.prog 49 "Endss" = some (86, some 0) := by kernel_rfl
theorem meth49_FlatCoords : methT Try.prog 49 "FlatCoords" = some (87, some 0) := by kernel_rfl
theorem meth49_Layout : methT Try.prog 49 "Layout" = some (88, some 0) := by kernel_rfl
theorem meth49_Reverse : methT Try.prog 49 "Reverse" = some (89, some 0) := by kernel_rfl
theorem meth49_SRID : methT Try.prog 49 "SRID" = some (90, some 0) := by kernel_rfl
theorem meth51_Ends : methT Try.prog 51 "Ends" = some (85, some 0) := by kernel_rfl
theorem meth51_Endss : methT Try.prog 51 "Endss" = some (86, some 0) := by kernel_rfl
theorem meth51_FlatCoords : methT Try.prog 51 "FlatCoords" = some (87, some 0) := by kernel_rfl
theorem meth51_Layout : methT Try.prog 51 "Layout" = some (88, some 0) := by kernel_rfl
theorem meth51_Reverse : methT Try.prog 51 "Reverse" = some (89, some 0) := by kernel_rfl
theorem meth51_SRID : methT Try.prog 51 "SRID" = some (90, some 0) := by kernel_rfl
theorem meth52_Ends : methT Try.prog 52 "Ends" = some (85, some 0) := by kernel_rfl
theorem meth52_Endss : methT Try.prog 52 "Endss" = some (86, some 0) := by kernel_rfl
theorem meth52_FlatCoords : methT Try.prog 52 "FlatCoords" = some (87, some 0) := by kernel_rfl
theorem meth52_Layout : methT Try.prog 52 "Layout" = some (88, some 0) := by kernel_rfl
theorem meth52_Reverse : methT Try.prog 52 "Reverse" = some (89, some 0) := by kernel_rfl
theorem meth52_SRID : methT Try.prog 52 "SRID" = some (90, some 0) := by kernel_rfl
theorem meth53_Ends : methT Try.prog 53 "Ends" = some (94, some 0) := by kernel_rfl
theorem meth53_Endss : methT Try.prog 53 "Endss" = some (95, some 0) := by kernel_rfl
theorem meth53_FlatCoords : methT Try.prog 53 "FlatCoords" = some (87, some 0) := by kernel_rfl
theorem meth53_Layout : methT Try.prog 53 "Layout" = some (88, some 0) := by kernel_rfl
theorem meth53_Reverse : methT Try.prog 53 "Reverse" = some (96, some 0) := by kernel_rfl
theorem meth53_SRID : methT Try.prog 53 "SRID" = some (90, some 0) := by kernel_rfl
theorem meth67_Ends : methT Try.prog 67 "Ends" = some (94, some 0) := by kernel_rfl
theorem meth67_Endss : methT Try.prog 67 "Endss" = some (86, some 0) := by kernel_rfl
theorem meth67_FlatCoords : methT Try.prog 67 "FlatCoords" = some (87, some 0) := by kernel_rfl
theorem meth67_Layout : methT Try.prog 67 "Layout" = some (88, some 0) := by kernel_rfl
theorem meth67_Reverse : methT Try.prog 67 "Reverse" = some (109, some 0) := by kernel_rfl
theorem meth67_SRID : methT Try.prog 67 "SRID" = some (90, some 0) := by kernel_rfl
theorem meth70_Ends : methT Try.prog 70 "Ends" = some (94, some 0) := by kernel_rfl
theorem meth70_Endss : methT Try.prog 70 "Endss" = some (86, some 0) := by kernel_rfl
theorem meth70_FlatCoords : methT Try.prog 70 "FlatCoords" = some (87, some 0) := by kernel_rfl
theorem meth70_Layout : methT Try.prog 70 "Layout" = some (88, some 0) := by kernel_rfl
theorem meth70_Reverse : methT Try.prog 70 "Reverse" = some (109, some 0) := by kernel_rfl
theorem meth70_SRID : methT Try.prog 70 "SRID" = some (90, some 0) := by kernel_rfl
theorem mixed : Try.prog.follows .mixedOrders = true := by kernel_rfl
theorem pass49_49 : passT Try.prog 49 49 = some true := by kernel_rfl
theorem pass49_55 : passT Try.prog 49 55 = some true := by kernel_rfl
theorem pass49_64 : passT Try.prog 49 64 = some false := by kernel_rfl
theorem pass49_67 : passT Try.prog 49 67 = some false := by kernel_rfl
theorem pass49_70 : passT Try.prog 49 70 = some false := by kernel_rfl
theorem pass51_49 : passT Try.prog 51 49 = some false := by kernel_rfl
theorem pass51_51 : passT Try.prog 51 51 = some true := by kernel_rfl
theorem pass51_55 : passT Try.prog 51 55 = some true := by kernel_rfl
theorem pass51_64 : passT Try.prog 51 64 = some false := by kernel_rfl
theorem pass51_67 : passT Try.prog 51 67 = some false := by kernel_rfl
theorem pass51_70 : passT Try.prog 51 70 = some false := by kernel_rfl
theorem pass52_49 : passT Try.prog 52 49 = some false := by kernel_rfl
theorem pass52_51 : passT Try.prog 52 51 = some false := by kernel_rfl
theorem pass52_52 : passT Try.prog 52 52 = some true := by kernel_rfl
theorem pass52_55 : passT Try.prog 52 55 = some true := by kernel_rfl
theorem pass52_64 : passT Try.prog 52 64 = some false := by kernel_rfl
theorem pass52_67 : passT Try.prog 52 67 = some false := by kernel_rfl
theorem pass52_70 : passT Try.prog 52 70 = some false := by kernel_rfl
theorem pass53_49 : passT Try.prog 53 49 = some false := by kernel_rfl
theorem pass53_51 : passT Try.prog 53 51 = some false := by kernel_rfl
theorem pass53_52 : passT Try.prog 53 52 = some false := by kernel_rfl
theorem pass53_53 : passT Try.prog 53 53 = some true := by kernel_rfl
theorem pass53_55 : passT Try.prog 53 55 = some true := by kernel_rfl
theorem pass53_64 : passT Try.prog 53 64 = some false := by kernel_rfl
theorem pass53_67 : passT Try.prog 53 67 = some false := by kernel_rfl
theorem pass53_70 : passT Try.prog 53 70 = some false := by kernel_rfl
theorem pass67_55 : passT Try.prog 67 55 = some true := by kernel_rfl
theorem pass67_64 : passT Try.prog 67 64 = some false := by kernel_rfl
theorem pass67_67 : passT Try.prog 67 67 = some true := by kernel_rfl
theorem pass70_55 : passT Try.prog 70 55 = some true := by kernel_rfl
theorem pass70_64 : passT Try.prog 70 64 = some false := by kernel_rfl
theorem pass70_67 : passT Try.prog 70 67 = some false := by kernel_rfl
theorem pass70_70 : passT Try.prog 70 70 = some true := by kernel_rfl
def pl27 : Nat → Option (Nat × Nat) := fun i => ([(0, 1), (1, 1), (2, 1), (3, 1), (4, 1), (5, 1), (6, 1)] : List (Nat × Nat))[i]?
theorem places27 : placesT Try.prog 27 = some pl27 := by kernel_rfl
theorem size22 : sizeT Try.prog 22 = some 1 := by kernel_rfl
theorem size23 : sizeT Try.prog 23 = some 1 := by kernel_rfl
theorem size24 : sizeT Try.prog 24 = some 1 := by kernel_rfl
theorem size27 : sizeT Try.prog 27 = some 7 := by kernel_rfl
theorem size3 : sizeT Try.prog 3 = some 1 := by kernel_rfl
theorem size32 : sizeT Try.prog 32 = some 1 := by kernel_rfl
theorem size4 : sizeT Try.prog 4 = some 1 := by kernel_rfl
theorem size63 : sizeT Try.prog 63 = some 1 := by kernel_rfl
theorem zero103 : (Try.prog.info? 103).map (·.zero) = some (some (.agg #[.int .i64 0, .int .i64 0, .slice none 0 0, .int .i64 0, .slice none 0 0])) := by kernel_rfl
theorem zero115 : (Try.prog.info? 115).map (·.zero) = some (some (.agg #[.int .i64 0, .int .i64 0, .slice none 0 0, .int .i64 0])) := by kernel_rfl
theorem zero116 : (Try.prog.info? 116).map (·.zero) = some (some (.agg #[.int .i64 0, .int .i64 0, .slice none 0 0, .int .i64 0])) := by kernel_rfl
theorem zero23 : (Try.prog.info? 23).map (·.zero) = some (some (.slice none 0 0)) := by kernel_rfl
theorem zero27 : (Try.prog.info? 27).map (·.zero) = some (some (.agg #[.int .i64 0, .int .i64 0, .int .i64 0, .slice none 0 0, .slice none 0 0, .slice none 0 0, .slice none 0 0])) := by kernel_rfl
theorem zero3 : (Try.prog.info? 3).map (·.zero) = some (some (.int .i64 0)) := by kernel_rfl
theorem zero4 : (Try.prog.info? 4).map (·.zero) = some (some (.bool false)) := by kernel_rfl
theorem zero49 : (Try.prog.info? 49).map (·.zero) = some (some (.pointer none)) := by kernel_rfl
theorem zero51 : (Try.prog.info? 51).map (·.zero) = some (some (.pointer none)) := by kernel_rfl
theorem zero52 : (Try.prog.info? 52).map (·.zero) = some (some (.pointer none)) := by kernel_rfl
theorem zero64 : (Try.prog.info? 64).map (·.zero) = some (some (.pointer none)) := by kernel_rfl
theorem zero67 : (Try.prog.info? 67).map (·.zero) = some (some (.pointer none)) := by kernel_rfl
theorem zero70 : (Try.prog.info? 70).map (·.zero) = some (some (.pointer none)) := by kernel_rfl
theorem zero78 : (Try.prog.info? 78).map (·.zero) = some (some (.nilFunc)) := by kernel_rfl
theorem zero97 : (Try.prog.info? 97).map (·.zero) = some (some (.agg #[.int .i64 0, .int .i64 0, .slice none 0 0, .int .i64 0, .slice none 0 0])) := by kernel_rfl
theorem zero98 : (Try.prog.info? 98).map (·.zero) = some (some (.agg #[.int .i64 0, .int .i64 0, .slice none 0 0, .int .i64 0, .slice none 0 0])) := by kernel_rfl
theorem zero99 : (Try.prog.info? 99).map (·.zero) = some (some (.agg #[.int .i64 0, .int .i64 0, .slice none 0 0, .int .i64 0, .slice none 0 0])) := by kernel_rfl
set_option maxRecDepth 100000 in
set_option maxHeartbeats 4000000 in
/-- pub-orthodrome/laws.zzFits3 -/
theorem w_zzFits3 (F : Nat) (a0 : (List (List Int))) (r0 : Bool) (h0 : p_zzFits3 F a0 = some r0) : FnD Try.prog 17 [eS3 a0] (fun r => r = dbool r0) := by
 refine FnD.of (by kernel_rfl) Try.func17 rfl Try.ntmps17 rfl (leb rfl) fun W ok => ?_
 unfold p_zzFits3 at h0
 refine AC.seq ?_
 refine AC.region ?_
 refine AO.op rfl (AOp.assign rfl rfl (ltb rfl) rfl ?_)
 refine AO.nil ?_
 change AC _ _ _ _
 refine AC.seq ?_
 refine AC.seq ?_
 refine AC.region ?_
 refine AO.op rfl (AOp.move rfl rfl (ltb rfl) rfl ?_)
 refine AO.op rfl (AOp.lenDs (n := a0.length) (cells := (List.map keS3 a0)) rfl rfl (ltb rfl) rfl el24 (by decide) (len1 _ _) ?_)
 refine AO.op rfl (AOp.igtr rfl rfl (ltb rfl) rfl rfl ?_)
 refine AO.nil ?_
 change AC _ _ _ _
 refine AC.cond rfl (fun q1 => ?_) (fun q1 => ?_)
 ·replace h0 := cT h0 q1
  refine AC.seq ?_
  refine AC.region ?_
  refine AO.op rfl (AOp.assign rfl rfl (ltb rfl) rfl ?_)
  refine AO.nil ?_
  change AC _ _ _ _
  refine AC.ret ?_
  change RetQ _ _ _ .ret _
  obtain rfl := Option.some.inj h0
  refine retq rfl rfl
 replace h0 := cF h0 q1
 refine AC.skip ?_
 change AC _ _ _ _
 refine AC.seq ?_
 refine AC.seq ?_
 refine AC.region ?_
 refine AO.op rfl (AOp.move rfl rfl (ltb rfl) rfl ?_)
 refine AO.op rfl (AOp.lenDs (n := a0.length) (cells := (List.map keS3 a0)) rfl rfl (ltb rfl) rfl el24 (by decide) (len1 _ _) ?_)
 refine AO.op rfl (AOp.move rfl rfl (ltb rfl) rfl ?_)
 refine AO.nil ?_
 change AC _ _ _ _
 obtain ⟨o2, l3, h0⟩ := bind_elim h0
 refine AC.joinE (V := Unit) [] [] 0 (fun g4 => []) (fun g4 => []) (fun g4 => p_zzFits3_k1 g4 = some r0) rfl ?_ ?_
 ·refine AC.block ?_
  refine AC.loopP (V := Int) (p_zzFits3_l2 a0) o2 [8, 9] [10] 0 (fun g5 => [(10, .d (di .i64 g5))]) (fun g5 => []) F (0 : Int) l3 rfl rfl (LeL.refl _) rfl rfl ?_
  intro n7 g5 h1
  unfold p_zzFits3_l2 at h1
  refine AC.seq ?_
  refine AC.region ?_
  refine AO.op rfl (AOp.ilss rfl rfl (ltb rfl) rfl rfl ?_)
  refine AO.nil ?_
  change AC _ _ _ _
  refine AC.seq ?_
  refine AC.cond rfl (fun q8 => ?_) (fun q8 => ?_)
  ·replace h1 := cT h1 q8
   refine AC.skip ?_
   change AC _ _ _ _
   refine AC.seq ?_
   refine AC.block ?_
   refine AC.seq ?_
   refine AC.region ?_
   obtain ⟨x9, q10, h1⟩ := idx_elim h1
   refine AO.op rfl (AOp.indexDs (cells := (List.map keS3 a0)) rfl rfl (ltb rfl) rfl rfl el24 (by decide) q10.1 (lt1 q10.2) ?_)
   refine AO.op rfl (AOp.loadEp rfl rfl (ltb rfl) rfl agg23 (at1 q10.2) ?_)
   refine AO.op rfl (AOp.assign rfl rfl (ltb rfl) rfl ?_)
   refine AO.nil ?_
   change AC _ _ _ _
   refine AC.seq ?_
   refine AC.region ?_
   refine AO.op rfl (AOp.move rfl rfl (ltb rfl) rfl ?_)
   refine AO.op rfl (AOp.lenDs (n := x9.length) (cells := (List.map keS2 x9)) rfl rfl (ltb rfl) rfl el23 (by decide) (len1 _ _) ?_)
   refine AO.op rfl (AOp.igtr rfl rfl (ltb rfl) rfl rfl ?_)
   refine AO.nil ?_
   change AC _ _ _ _
   refine AC.cond rfl (fun q11 => ?_) (fun q11 => ?_)
   ·replace h1 := cT h1 q11
    refine AC.seq ?_
    refine AC.region ?_
    refine AO.op rfl (AOp.assign rfl rfl (ltb rfl) rfl ?_)
    refine AO.nil ?_
    change AC _ _ _ _
    refine AC.ret ?_
    change RetQ _ _ _ .ret _
    obtain rfl := Option.some.inj h1
    replace h0 := aftR h0
    obtain rfl := Option.some.inj h0
    refine retq rfl rfl
   replace h1 := cF h1 q11
   refine AC.skip ?_
   change AC _ _ _ _
   refine AC.region ?_
   obtain ⟨q12, h1⟩ := need_elim h1
   refine AO.op rfl (AOp.iadd rfl rfl (ltb rfl) rfl rfl rfl q12.1 q12.2 ?_)
   refine AO.op rfl (AOp.move rfl rfl (ltb rfl) rfl ?_)
   refine AO.nil ?_
   exact ⟨(g5 + (1 : Int)), _, rfl, (LeL.refl _), rfl, rfl, h1⟩
  replace h1 := cF h1 q8
  refine AC.exit ?_
  obtain rfl := Option.some.inj h1
  exact ⟨(), _, rfl, (LeL.refl _), rfl, rfl, aftL h0⟩
 intro g4 h0
 unfold p_zzFits3_k1 at h0
 change AC _ _ _ _
 refine AC.seq ?_
 refine AC.region ?_
 refine AO.op rfl (AOp.assign rfl rfl (ltb rfl) rfl ?_)
 refine AO.nil ?_
 change AC _ _ _ _
 refine AC.ret ?_
 change RetQ _ _ _ .ret _
 obtain rfl := Option.some.inj h0
 refine retq rfl rfl

set_option maxRecDepth 100000 in
set_option maxHeartbeats 4000000 in
/-- pub-orthodrome/laws.zzFits2 -/
theorem w_zzFits2 (F : Nat) (a0 : TImpl_Geom) (r0 : Bool) (h0 : p_zzFits2 F a0 = some r0) : FnD Try.prog 6 [e_TImpl_Geom a0] (fun r => r = dbool r0) := by
 refine FnD.of (by kernel_rfl) Try.func6 rfl Try.ntmps6 rfl (leb rfl) fun W ok => ?_
 unfold p_zzFits2 at h0
 refine AC.seq ?_
 refine AC.region ?_
 refine AO.op rfl (AOp.box rfl rfl (ltb rfl) rfl rfl ?_)
 refine AO.op rfl (AOp.assign rfl rfl (ltb rfl) rfl ?_)
 refine AO.nil ?_
 change AC _ _ _ _
 refine AC.seq ?_
 refine AC.seq ?_
 refine AC.region ?_
 refine AO.op rfl (AOp.fieldAddr rfl rfl (ltb rfl) rfl fo27_3 ?_)
 refine AO.op rfl (AOp.load1 rfl rfl (ltb rfl) rfl agg22 rfl rfl ?_)
 refine AO.op rfl (AOp.lenDs (n := a0.Flat.length) (cells := (List.map keS1 a0.Flat)) rfl rfl (ltb rfl) rfl el22 (by decide) (len1 _ _) ?_)
 refine AO.op rfl (AOp.igtr rfl rfl (ltb rfl) rfl rfl ?_)
 refine AO.nil ?_
 change AC _ _ _ _
 refine AC.cond rfl (fun q1 => ?_) (fun q1 => ?_)
 ·replace h0 := cT h0 q1
  refine AC.seq ?_
  refine AC.region ?_
  refine AO.op rfl (AOp.assign rfl rfl (ltb rfl) rfl ?_)
  refine AO.nil ?_
  change AC _ _ _ _
  refine AC.ret ?_
  change RetQ _ _ _ .ret _
  obtain rfl := Option.some.inj h0
  refine retq rfl rfl
 replace h0 := cF h0 q1
 refine AC.skip ?_
 change AC _ _ _ _
 refine AC.seq ?_
 refine AC.seq ?_
 refine AC.region ?_
 refine AO.op rfl (AOp.fieldAddr rfl rfl (ltb rfl) rfl fo27_4 ?_)
 refine AO.op rfl (AOp.load1 rfl rfl (ltb rfl) rfl agg23 rfl rfl ?_)
 refine AO.op rfl (AOp.lenDs (n := a0.Ends.length) (cells := (List.map keS2 a0.Ends)) rfl rfl (ltb rfl) rfl el23 (by decide) (len1 _ _) ?_)
 refine AO.op rfl (AOp.igtr rfl rfl (ltb rfl) rfl rfl ?_)
 refine AO.nil ?_
 change AC _ _ _ _
 refine AC.cond rfl (fun q2 => ?_) (fun q2 => ?_)
 ·replace h0 := cT h0 q2
  refine AC.seq ?_
  refine AC.region ?_
  refine AO.op rfl (AOp.assign rfl rfl (ltb rfl) rfl ?_)
  refine AO.nil ?_
  change AC _ _ _ _
  refine AC.ret ?_
  change RetQ _ _ _ .ret _
  obtain rfl := Option.some.inj h0
  refine retq rfl rfl
 replace h0 := cF h0 q2
 refine AC.skip ?_
 change AC _ _ _ _
 refine AC.seq ?_
 refine AC.seq ?_
 refine AC.region ?_
 refine AO.op rfl (AOp.fieldAddr rfl rfl (ltb rfl) rfl fo27_5 ?_)
 refine AO.op rfl (AOp.load1 rfl rfl (ltb rfl) rfl agg24 rfl rfl ?_)
 obtain ⟨y3, q4, h0⟩ := bind_elim h0
 refine AO.op rfl (AOp.callD rfl rfl (ltb rfl) rfl rfl (w_zzFits3 F a0.Endss y3 q4) ?_)
 rintro _ rfl
 refine AO.op rfl (AOp.bnot rfl rfl (ltb rfl) rfl ?_)
 refine AO.nil ?_
 change AC _ _ _ _
 refine AC.cond rfl (fun q5 => ?_) (fun q5 => ?_)
 ·replace h0 := cT h0 q5
  refine AC.seq ?_
  refine AC.region ?_
  refine AO.op rfl (AOp.assign rfl rfl (ltb rfl) rfl ?_)
  refine AO.nil ?_
  change AC _ _ _ _
  refine AC.ret ?_
  change RetQ _ _ _ .ret _
  obtain rfl := Option.some.inj h0
  refine retq rfl rfl
 replace h0 := cF h0 q5
 refine AC.skip ?_
 change AC _ _ _ _
 refine AC.seq ?_
 refine AC.seq ?_
 refine AC.region ?_
 refine AO.op rfl (AOp.fieldAddr rfl rfl (ltb rfl) rfl fo27_6 ?_)
 refine AO.op rfl (AOp.load1 rfl rfl (ltb rfl) rfl agg25 rfl rfl ?_)
 refine AO.op rfl (AOp.lenDs (n := a0.Kids.length) (cells := (List.flatMap c0_TImpl_Geom a0.Kids)) rfl rfl (ltb rfl) rfl el25 (by decide) (lenN _ 7 c0_TImpl_Geom_len _) ?_)
 refine AO.op rfl (AOp.igtr rfl rfl (ltb rfl) rfl rfl ?_)
 refine AO.nil ?_
 change AC _ _ _ _
 refine AC.cond rfl (fun q6 => ?_) (fun q6 => ?_)
 ·replace h0 := cT h0 q6
  refine AC.seq ?_
  refine AC.region ?_
  refine AO.op rfl (AOp.assign rfl rfl (ltb rfl) rfl ?_)
  refine AO.nil ?_
  change AC _ _ _ _
  refine AC.ret ?_
  change RetQ _ _ _ .ret _
  obtain rfl := Option.some.inj h0
  refine retq rfl rfl
 replace h0 := cF h0 q6
 refine AC.skip ?_
 change AC _ _ _ _
 refine AC.seq ?_
 refine AC.region ?_
 refine AO.op rfl (AOp.assign rfl rfl (ltb rfl) rfl ?_)
 refine AO.nil ?_
 change AC _ _ _ _
 refine AC.ret ?_
 change RetQ _ _ _ .ret _
 obtain rfl := Option.some.inj h0
 refine retq rfl rfl

set_option maxRecDepth 100000 in
set_option maxHeartbeats 4000000 in
/-- pub-orthodrome/spec.Weight -/
theorem w_Weight_b (Rec_ : TImpl_Geom → Int → Option Int) (hR : ∀ (a0 : TImpl_Geom) (a1 : Int) (r0 : Int), Rec_ a0 a1 = some r0 → FnD Try.prog 35 [e_TImpl_Geom a0, di .i64 a1] (fun r => r = di .i64 r0)) (F : Nat) (a0 : TImpl_Geom) (a1 : Int) (r0 : Int) (h0 : p_Weight_b Rec_ F a0 a1 = some r0) : FnD Try.prog 35 [e_TImpl_Geom a0, di .i64 a1] (fun r => r = di .i64 r0) := by
 refine FnD.of (by kernel_rfl) Try.func35 rfl Try.ntmps35 rfl (leb rfl) fun W ok => ?_
 unfold p_Weight_b at h0
 refine AC.seq ?_
 refine AC.region ?_
 refine AO.op rfl (AOp.box rfl rfl (ltb rfl) rfl rfl ?_)
 refine AO.op rfl (AOp.assign rfl rfl (ltb rfl) rfl ?_)
 refine AO.nil ?_
 change AC _ _ _ _
 refine AC.seq ?_
 refine AC.region ?_
 refine AO.op rfl (AOp.fieldAddr rfl rfl (ltb rfl) rfl fo27_3 ?_)
 refine AO.op rfl (AOp.load1 rfl rfl (ltb rfl) rfl agg22 rfl rfl ?_)
 refine AO.op rfl (AOp.lenDs (n := a0.Flat.length) (cells := (List.map keS1 a0.Flat)) rfl rfl (ltb rfl) rfl el22 (by decide) (len1 _ _) ?_)
 refine AO.op rfl (AOp.iwAdd rfl rfl (ltb rfl) rfl rfl ?_)
 refine AO.op rfl (AOp.fieldAddr rfl rfl (ltb rfl) rfl fo27_4 ?_)
 refine AO.op rfl (AOp.load1 rfl rfl (ltb rfl) rfl agg23 rfl rfl ?_)
 refine AO.op rfl (AOp.lenDs (n := a0.Ends.length) (cells := (List.map keS2 a0.Ends)) rfl rfl (ltb rfl) rfl el23 (by decide) (len1 _ _) ?_)
 refine AO.op rfl (AOp.iwAdd rfl rfl (ltb rfl) rfl rfl ?_)
 refine AO.op rfl (AOp.assign rfl rfl (ltb rfl) rfl ?_)
 refine AO.nil ?_
 change AC _ _ _ _
 refine AC.seq ?_
 refine AC.seq ?_
 refine AC.region ?_
 refine AO.op rfl (AOp.fieldAddr rfl rfl (ltb rfl) rfl fo27_5 ?_)
 refine AO.op rfl (AOp.load1 rfl rfl (ltb rfl) rfl agg24 rfl rfl ?_)
 refine AO.op rfl (AOp.lenDs (n := a0.Endss.length) (cells := (List.map keS3 a0.Endss)) rfl rfl (ltb rfl) rfl el24 (by decide) (len1 _ _) ?_)
 refine AO.op rfl (AOp.move rfl rfl (ltb rfl) rfl ?_)
 refine AO.nil ?_
 change AC _ _ _ _
 obtain ⟨o1, l2, h0⟩ := bind_elim h0
 refine AC.joinE (V := Int) [1, 2] [5] 1 (fun g3 => [(5, .d (di .i64 g3))]) (fun g3 => [.fix 27 [.d (di .i64 a0.Kind), .d (di .i64 a0.Layout), .d (di .i64 a0.SRID), .d (eS1 a0.Flat), .d (eS2 a0.Ends), .d (eS3 a0.Endss), .d (eS0 a0.Kids)]]) (fun g3 => (p_Weight_k1 a0 a1 F Rec_) g3 = some r0) rfl ?_ ?_
 ·refine AC.block ?_
  refine AC.loopP (V := (Int × Int)) (p_Weight_l4 a0) o1 [1, 2, 19, 20] [5, 21] 1 (fun g17 => [(5, .d (di .i64 g17.1)), (21, .d (di .i64 g17.2))]) (fun g17 => [.fix 27 [.d (di .i64 a0.Kind), .d (di .i64 a0.Layout), .d (di .i64 a0.SRID), .d (eS1 a0.Flat), .d (eS2 a0.Ends), .d (eS3 a0.Endss), .d (eS0 a0.Kids)]]) F ((IntKind.i64.wrap ((IntKind.i64.wrap ((1 : Int) + ((a0.Flat.length : Nat) : Int))) + ((a0.Ends.length : Nat) : Int))), (0 : Int)) l2 rfl rfl (LeL.refl _) rfl rfl ?_
  intro n19 g17 h1
  unfold p_Weight_l4 at h1
  refine AC.seq ?_
  refine AC.region ?_
  refine AO.op rfl (AOp.ilss rfl rfl (ltb rfl) rfl rfl ?_)
  refine AO.nil ?_
  change AC _ _ _ _
  refine AC.seq ?_
  refine AC.cond rfl (fun q20 => ?_) (fun q20 => ?_)
  ·replace h1 := cT h1 q20
   refine AC.skip ?_
   change AC _ _ _ _
   refine AC.seq ?_
   refine AC.block ?_
   refine AC.seq ?_
   refine AC.region ?_
   obtain ⟨x21, q22, h1⟩ := idx_elim h1
   refine AO.op rfl (AOp.indexDs (cells := (List.map keS3 a0.Endss)) rfl rfl (ltb rfl) rfl rfl el24 (by decide) q22.1 (lt1 q22.2) ?_)
   refine AO.op rfl (AOp.loadEp rfl rfl (ltb rfl) rfl agg23 (at1 q22.2) ?_)
   refine AO.op rfl (AOp.assign rfl rfl (ltb rfl) rfl ?_)
   refine AO.nil ?_
   change AC _ _ _ _
   refine AC.region ?_
   refine AO.op rfl (AOp.move rfl rfl (ltb rfl) rfl ?_)
   refine AO.op rfl (AOp.move rfl rfl (ltb rfl) rfl ?_)
   refine AO.op rfl (AOp.lenDs (n := x21.length) (cells := (List.map keS2 x21)) rfl rfl (ltb rfl) rfl el23 (by decide) (len1 _ _) ?_)
   refine AO.op rfl (AOp.iwAdd rfl rfl (ltb rfl) rfl rfl ?_)
   refine AO.op rfl (AOp.iwAdd rfl rfl (ltb rfl) rfl rfl ?_)
   refine AO.op rfl (AOp.assign rfl rfl (ltb rfl) rfl ?_)
   refine AO.nil ?_
   change AC _ _ _ _
   refine AC.region ?_
   obtain ⟨q23, h1⟩ := need_elim h1
   refine AO.op rfl (AOp.iadd rfl rfl (ltb rfl) rfl rfl rfl q23.1 q23.2 ?_)
   refine AO.op rfl (AOp.move rfl rfl (ltb rfl) rfl ?_)
   refine AO.nil ?_
   exact ⟨((IntKind.i64.wrap (g17.1 + (IntKind.i64.wrap ((1 : Int) + ((x21.length : Nat) : Int))))), (g17.2 + (1 : Int))), _, rfl, (LeL.refl _), rfl, rfl, h1⟩
  replace h1 := cF h1 q20
  refine AC.exit ?_
  obtain rfl := Option.some.inj h1
  exact ⟨g17.1, _, rfl, (LeL.refl _), rfl, rfl, aftL h0⟩
 intro g3 h0
 unfold p_Weight_k1 at h0
 change AC _ _ _ _
 refine AC.seq ?_
 refine AC.seq ?_
 refine AC.region ?_
 refine AO.op rfl (AOp.fieldAddr rfl rfl (ltb rfl) rfl fo27_6 ?_)
 refine AO.op rfl (AOp.load1 rfl rfl (ltb rfl) rfl agg25 rfl rfl ?_)
 refine AO.op rfl (AOp.lenDs (n := a0.Kids.length) (cells := (List.flatMap c0_TImpl_Geom a0.Kids)) rfl rfl (ltb rfl) rfl el25 (by decide) (lenN _ 7 c0_TImpl_Geom_len _) ?_)
 refine AO.op rfl (AOp.move rfl rfl (ltb rfl) rfl ?_)
 refine AO.nil ?_
 change AC _ _ _ _
 obtain ⟨o4, l5, h0⟩ := bind_elim h0
 refine AC.joinE (V := Int) [] [5] 1 (fun g6 => [(5, .d (di .i64 g6))]) (fun g6 => [.fix 27 [.d (di .i64 a0.Kind), .d (di .i64 a0.Layout), .d (di .i64 a0.SRID), .d (eS1 a0.Flat), .d (eS2 a0.Ends), .d (eS3 a0.Endss), .d (eS0 a0.Kids)]]) (fun g6 => p_Weight_k2 g6 = some r0) rfl ?_ ?_
 ·refine AC.block ?_
  refine AC.loopP (V := (Int × Int)) (p_Weight_l3 a0 a1 Rec_) o4 [1, 32, 33] [5, 34] 1 (fun g7 => [(5, .d (di .i64 g7.1)), (34, .d (di .i64 g7.2))]) (fun g7 => [.fix 27 [.d (di .i64 a0.Kind), .d (di .i64 a0.Layout), .d (di .i64 a0.SRID), .d (eS1 a0.Flat), .d (eS2 a0.Ends), .d (eS3 a0.Endss), .d (eS0 a0.Kids)]]) F (g3, (0 : Int)) l5 rfl rfl (LeL.refl _) rfl rfl ?_
  intro n9 g7 h1
  unfold p_Weight_l3 at h1
  refine AC.seq ?_
  refine AC.region ?_
  refine AO.op rfl (AOp.ilss rfl rfl (ltb rfl) rfl rfl ?_)
  refine AO.nil ?_
  change AC _ _ _ _
  refine AC.seq ?_
  refine AC.cond rfl (fun q10 => ?_) (fun q10 => ?_)
  ·replace h1 := cT h1 q10
   refine AC.skip ?_
   change AC _ _ _ _
   refine AC.seq ?_
   refine AC.block ?_
   refine AC.seq ?_
   refine AC.region ?_
   obtain ⟨x11, q12, h1⟩ := idx_elim h1
   refine AO.op rfl (AOp.indexDs (cells := (List.flatMap c0_TImpl_Geom a0.Kids)) rfl rfl (ltb rfl) rfl rfl el25 (by decide) q12.1 (ltN 7 c0_TImpl_Geom_len (by decide) q12.2) ?_)
   refine AO.op rfl (AOp.loadEpN rfl rfl (ltb rfl) rfl agg27 size27 (leN 7 c0_TImpl_Geom_len q12.2) ((atN 7 c0_TImpl_Geom_len q12.2).trans (c0_TImpl_Geom_eq x11)) ?_)
   refine AO.op rfl (AOp.alloc rfl rfl (ltb rfl) zero27 rfl ?_)
   refine AO.op rfl (AOp.store rfl rfl rfl rfl size27 rfl rfl rfl (leb rfl) ?_)
   refine AO.nil ?_
   change AC _ _ _ _
   refine AC.seq ?_
   refine AC.seq ?_
   refine AC.region ?_
   refine AO.op rfl (AOp.move rfl rfl (ltb rfl) rfl ?_)
   refine AO.op rfl (AOp.move rfl rfl (ltb rfl) rfl ?_)
   refine AO.op rfl (AOp.igtr rfl rfl (ltb rfl) rfl rfl ?_)
   refine AO.nil ?_
   change AC _ _ _ _
   refine AC.cond rfl (fun q13 => ?_) (fun q13 => ?_)
   ·replace h1 := cT h1 q13
    refine AC.seq ?_
    refine AC.region ?_
    refine AO.op rfl (AOp.move rfl rfl (ltb rfl) rfl ?_)
    refine AO.op rfl (AOp.assign rfl rfl (ltb rfl) rfl ?_)
    refine AO.nil ?_
    change AC _ _ _ _
    refine AC.ret ?_
    change RetQ _ _ _ .ret _
    obtain rfl := Option.some.inj h1
    replace h0 := aftR h0
    obtain rfl := Option.some.inj h0
    refine retq rfl rfl
   replace h1 := cF h1 q13
   refine AC.skip ?_
   change AC _ _ _ _
   refine AC.region ?_
   refine AO.op rfl (AOp.move rfl rfl (ltb rfl) rfl ?_)
   refine AO.op rfl (AOp.loadN rfl rfl (ltb rfl) rfl agg27 size27 rfl (leb rfl) rfl ?_)
   refine AO.op rfl (AOp.move rfl rfl (ltb rfl) rfl ?_)
   refine AO.op rfl (AOp.move rfl rfl (ltb rfl) rfl ?_)
   refine AO.op rfl (AOp.iwSub rfl rfl (ltb rfl) rfl rfl ?_)
   obtain ⟨y14, q15, h1⟩ := bind_elim h1
   refine AO.op rfl (AOp.callD rfl rfl (ltb rfl) rfl rfl (hR x11 (IntKind.i64.wrap (a1 - g7.1)) y14 q15) ?_)
   rintro _ rfl
   refine AO.op rfl (AOp.iwAdd rfl rfl (ltb rfl) rfl rfl ?_)
   refine AO.op rfl (AOp.assign rfl rfl (ltb rfl) rfl ?_)
   refine AO.nil ?_
   change AC _ _ _ _
   refine AC.region ?_
   obtain ⟨q16, h1⟩ := need_elim h1
   refine AO.op rfl (AOp.iadd rfl rfl (ltb rfl) rfl rfl rfl q16.1 q16.2 ?_)
   refine AO.op rfl (AOp.move rfl rfl (ltb rfl) rfl ?_)
   refine AO.nil ?_
   exact ⟨((IntKind.i64.wrap (g7.1 + y14)), (g7.2 + (1 : Int))), _, rfl, (LeL.refl _), rfl, rfl, h1⟩
  replace h1 := cF h1 q10
  refine AC.exit ?_
  obtain rfl := Option.some.inj h1
  exact ⟨g7.1, _, rfl, (LeL.refl _), rfl, rfl, aftL h0⟩
 intro g6 h0
 unfold p_Weight_k2 at h0
 change AC _ _ _ _
 refine AC.seq ?_
 refine AC.region ?_
 refine AO.op rfl (AOp.move rfl rfl (ltb rfl) rfl ?_)
 refine AO.op rfl (AOp.assign rfl rfl (ltb rfl) rfl ?_)
 refine AO.nil ?_
 change AC _ _ _ _
 refine AC.ret ?_
 change RetQ _ _ _ .ret _
 obtain rfl := Option.some.inj h0
 refine retq rfl rfl
theorem w_Weight : ∀ (F : Nat) (a0 : TImpl_Geom) (a1 : Int) (r0 : Int), p_Weight F a0 a1 = some r0 → FnD Try.prog 35 [e_TImpl_Geom a0, di .i64 a1] (fun r => r = di .i64 r0)
 | 0, _, _, _, h => by cases h
 | F + 1, a0, a1, r0, h => w_Weight_b _ (fun a0 a1 r0 h => w_Weight F a0 a1 r0 h) F a0 a1 r0 h

set_option maxRecDepth 100000 in
set_option maxHeartbeats 4000000 in
/-- pub-orthodrome/laws.gLayouts -/
theorem w_gLayouts_b (Rec_ : TImpl_Geom → Int → Option Bool) (hR : ∀ (a0 : TImpl_Geom) (a1 : Int) (r0 : Bool), Rec_ a0 a1 = some r0 → FnD Try.prog 36 [e_TImpl_Geom a0, di .i64 a1] (fun r => r = dbool r0)) (F : Nat) (a0 : TImpl_Geom) (a1 : Int) (r0 : Bool) (h0 : p_gLayouts_b Rec_ F a0 a1 = some r0) : FnD Try.prog 36 [e_TImpl_Geom a0, di .i64 a1] (fun r => r = dbool r0) := by
 refine FnD.of (by kernel_rfl) Try.func36 rfl Try.ntmps36 rfl (leb rfl) fun W ok => ?_
 unfold p_gLayouts_b at h0
 refine AC.seq ?_
 refine AC.region ?_
 refine AO.op rfl (AOp.box rfl rfl (ltb rfl) rfl rfl ?_)
 refine AO.op rfl (AOp.assign rfl rfl (ltb rfl) rfl ?_)
 refine AO.nil ?_
 change AC _ _ _ _
 refine AC.seq ?_
 refine AC.seq ?_
 refine AC.region ?_
 refine AO.op rfl (AOp.fieldAddr rfl rfl (ltb rfl) rfl fo27_6 ?_)
 refine AO.op rfl (AOp.load1 rfl rfl (ltb rfl) rfl agg25 rfl rfl ?_)
 refine AO.op rfl (AOp.lenDs (n := a0.Kids.length) (cells := (List.flatMap c0_TImpl_Geom a0.Kids)) rfl rfl (ltb rfl) rfl el25 (by decide) (lenN _ 7 c0_TImpl_Geom_len _) ?_)
 refine AO.op rfl (AOp.move rfl rfl (ltb rfl) rfl ?_)
 refine AO.nil ?_
 change AC _ _ _ _
 obtain ⟨o1, l2, h0⟩ := bind_elim h0
 refine AC.joinE (V := Unit) [1, 2] [] 1 (fun g3 => []) (fun g3 => [.fix 27 [.d (di .i64 a0.Kind), .d (di .i64 a0.Layout), .d (di .i64 a0.SRID), .d (eS1 a0.Flat), .d (eS2 a0.Ends), .d (eS3 a0.Endss), .d (eS0 a0.Kids)]]) (fun g3 => (p_gLayouts_k1 a0 a1) g3 = some r0) rfl ?_ ?_
 ·refine AC.block ?_
  refine AC.loopP (V := Int) (p_gLayouts_l2 a0 a1 Rec_) o1 [1, 2, 8, 9] [10] 1 (fun g7 => [(10, .d (di .i64 g7))]) (fun g7 => [.fix 27 [.d (di .i64 a0.Kind), .d (di .i64 a0.Layout), .d (di .i64 a0.SRID), .d (eS1 a0.Flat), .d (eS2 a0.Ends), .d (eS3 a0.Endss), .d (eS0 a0.Kids)]]) F (0 : Int) l2 rfl rfl (LeL.refl _) rfl rfl ?_
  intro n9 g7 h1
  unfold p_gLayouts_l2 at h1
  refine AC.seq ?_
  refine AC.region ?_
  refine AO.op rfl (AOp.ilss rfl rfl (ltb rfl) rfl rfl ?_)
  refine AO.nil ?_
  change AC _ _ _ _
  refine AC.seq ?_
  refine AC.cond rfl (fun q10 => ?_) (fun q10 => ?_)
  ·replace h1 := cT h1 q10
   refine AC.skip ?_
   change AC _ _ _ _
   refine AC.seq ?_
   refine AC.block ?_
   refine AC.seq ?_
   refine AC.region ?_
   obtain ⟨x11, q12, h1⟩ := idx_elim h1
   refine AO.op rfl (AOp.indexDs (cells := (List.flatMap c0_TImpl_Geom a0.Kids)) rfl rfl (ltb rfl) rfl rfl el25 (by decide) q12.1 (ltN 7 c0_TImpl_Geom_len (by decide) q12.2) ?_)
   refine AO.op rfl (AOp.loadEpN rfl rfl (ltb rfl) rfl agg27 size27 (leN 7 c0_TImpl_Geom_len q12.2) ((atN 7 c0_TImpl_Geom_len q12.2).trans (c0_TImpl_Geom_eq x11)) ?_)
   refine AO.op rfl (AOp.alloc rfl rfl (ltb rfl) zero27 rfl ?_)
   refine AO.op rfl (AOp.store rfl rfl rfl rfl size27 rfl rfl rfl (leb rfl) ?_)
   refine AO.nil ?_
   change AC _ _ _ _
   refine AC.seq ?_
   refine AC.region ?_
   refine AO.op rfl (AOp.loadN rfl rfl (ltb rfl) rfl agg27 size27 rfl (leb rfl) rfl ?_)
   refine AO.op rfl (AOp.move rfl rfl (ltb rfl) rfl ?_)
   obtain ⟨y13, q14, h1⟩ := bind_elim h1
   refine AO.op rfl (AOp.callD rfl rfl (ltb rfl) rfl rfl (hR x11 a1 y13 q14) ?_)
   rintro _ rfl
   refine AO.op rfl (AOp.bnot rfl rfl (ltb rfl) rfl ?_)
   refine AO.nil ?_
   change AC _ _ _ _
   refine AC.cond rfl (fun q15 => ?_) (fun q15 => ?_)
   ·replace h1 := cT h1 q15
    refine AC.seq ?_
    refine AC.region ?_
    refine AO.op rfl (AOp.assign rfl rfl (ltb rfl) rfl ?_)
    refine AO.nil ?_
    change AC _ _ _ _
    refine AC.ret ?_
    change RetQ _ _ _ .ret _
    obtain rfl := Option.some.inj h1
    replace h0 := aftR h0
    obtain rfl := Option.some.inj h0
    refine retq rfl rfl
   replace h1 := cF h1 q15
   refine AC.skip ?_
   change AC _ _ _ _
   refine AC.region ?_
   obtain ⟨q16, h1⟩ := need_elim h1
   refine AO.op rfl (AOp.iadd rfl rfl (ltb rfl) rfl rfl rfl q16.1 q16.2 ?_)
   refine AO.op rfl (AOp.move rfl rfl (ltb rfl) rfl ?_)
   refine AO.nil ?_
   exact ⟨(g7 + (1 : Int)), _, rfl, (LeL.refl _), rfl, rfl, h1⟩
  replace h1 := cF h1 q10
  refine AC.exit ?_
  obtain rfl := Option.some.inj h1
  exact ⟨(), _, rfl, (LeL.refl _), rfl, rfl, aftL h0⟩
 intro g3 h0
 unfold p_gLayouts_k1 at h0
 change AC _ _ _ _
 refine AC.seq ?_
 refine AC.region ?_
 refine AO.op rfl (AOp.fieldAddr rfl rfl (ltb rfl) rfl fo27_1 ?_)
 refine AO.op rfl (AOp.load1 rfl rfl (ltb rfl) rfl agg3 rfl rfl ?_)
 refine AO.op rfl (AOp.move rfl rfl (ltb rfl) rfl ?_)
 refine AO.op rfl (AOp.ileq rfl rfl (ltb rfl) rfl rfl ?_)
 refine AO.op rfl (AOp.move rfl rfl (ltb rfl) rfl ?_)
 refine AO.dec (decide (a0.Layout ≤ a1)) (fun q4 => ?_) (fun q4 => ?_)
 ·replace h0 := cT h0 q4
  refine AO.guardY rfl rfl rfl q4 (AOp.fieldAddr rfl rfl (ltb rfl) rfl fo27_1 ?_)
  refine AO.guardY rfl rfl rfl q4 (AOp.load1 rfl rfl (ltb rfl) rfl agg3 rfl rfl ?_)
  refine AO.guardY rfl rfl rfl q4 (AOp.igeq rfl rfl (ltb rfl) rfl rfl ?_)
  refine AO.guardY rfl rfl rfl q4 (AOp.move rfl rfl (ltb rfl) rfl ?_)
  refine AO.dec (decide ((1 : Int) ≤ a0.Layout)) (fun q5 => ?_) (fun q5 => ?_)
  ·replace h0 := cT h0 q5
   refine AO.guardN rfl rfl rfl (ltb rfl) rfl q5 ?_
   refine AO.guardN rfl rfl rfl (ltb rfl) rfl q5 ?_
   refine AO.guardN rfl rfl rfl (ltb rfl) rfl q5 ?_
   refine AO.guardN rfl rfl rfl (ltb rfl) rfl q5 ?_
   refine AO.guardU rfl rfl rfl (ltb rfl) rfl ?_
   refine AO.guardU rfl rfl rfl (ltb rfl) rfl ?_
   refine AO.guardU rfl rfl rfl (ltb rfl) rfl ?_
   refine AO.guardN rfl rfl rfl (ltb rfl) rfl q5 ?_
   refine AO.guardY rfl rfl rfl q4 (AOp.pick rfl rfl (ltb rfl) rfl q5 rfl ?_)
   refine AO.op rfl (AOp.pick rfl rfl (ltb rfl) rfl q4 rfl ?_)
   refine AO.op rfl (AOp.assign rfl rfl (ltb rfl) rfl ?_)
   refine AO.nil ?_
   change AC _ _ _ _
   refine AC.ret ?_
   change RetQ _ _ _ .ret _
   obtain rfl := Option.some.inj h0
   refine retq rfl rfl
  replace h0 := cF h0 q5
  refine AO.guardY rfl rfl rfl q5 (AOp.fieldAddr rfl rfl (ltb rfl) rfl fo27_0 ?_)
  refine AO.guardY rfl rfl rfl q5 (AOp.load1 rfl rfl (ltb rfl) rfl agg3 rfl rfl ?_)
  refine AO.guardY rfl rfl rfl q5 (AOp.ieql rfl rfl (ltb rfl) rfl rfl ?_)
  refine AO.guardY rfl rfl rfl q5 (AOp.move rfl rfl (ltb rfl) rfl ?_)
  refine AO.dec (decide (a0.Kind = (7 : Int))) (fun q6 => ?_) (fun q6 => ?_)
  ·replace h0 := cT h0 q6
   refine AO.guardY rfl rfl rfl q6 (AOp.fieldAddr rfl rfl (ltb rfl) rfl fo27_1 ?_)
   refine AO.guardY rfl rfl rfl q6 (AOp.load1 rfl rfl (ltb rfl) rfl agg3 rfl rfl ?_)
   refine AO.guardY rfl rfl rfl q6 (AOp.igeq rfl rfl (ltb rfl) rfl rfl ?_)
   refine AO.guardY rfl rfl rfl q5 (AOp.pick rfl rfl (ltb rfl) rfl q6 rfl ?_)
   refine AO.guardY rfl rfl rfl q4 (AOp.pickN rfl rfl (ltb rfl) rfl q5 rfl ?_)
   refine AO.op rfl (AOp.pick rfl rfl (ltb rfl) rfl q4 rfl ?_)
   refine AO.op rfl (AOp.assign rfl rfl (ltb rfl) rfl ?_)
   refine AO.nil ?_
   change AC _ _ _ _
   refine AC.ret ?_
   change RetQ _ _ _ .ret _
   obtain rfl := Option.some.inj h0
   refine retq rfl rfl
  replace h0 := cF h0 q6
  refine AO.guardN rfl rfl rfl (ltb rfl) rfl q6 ?_
  refine AO.guardN rfl rfl rfl (ltb rfl) rfl q6 ?_
  refine AO.guardN rfl rfl rfl (ltb rfl) rfl q6 ?_
  refine AO.guardY rfl rfl rfl q5 (AOp.pickN rfl rfl (ltb rfl) rfl q6 rfl ?_)
  refine AO.guardY rfl rfl rfl q4 (AOp.pickN rfl rfl (ltb rfl) rfl q5 rfl ?_)
  refine AO.op rfl (AOp.pick rfl rfl (ltb rfl) rfl q4 rfl ?_)
  refine AO.op rfl (AOp.assign rfl rfl (ltb rfl) rfl ?_)
  refine AO.nil ?_
  change AC _ _ _ _
  refine AC.ret ?_
  change RetQ _ _ _ .ret _
  obtain rfl := Option.some.inj h0
  refine retq rfl rfl
 replace h0 := cF h0 q4
 refine AO.guardN rfl rfl rfl (ltb rfl) rfl q4 ?_
 refine AO.guardN rfl rfl rfl (ltb rfl) rfl q4 ?_
 refine AO.guardN rfl rfl rfl (ltb rfl) rfl q4 ?_
 refine AO.guardN rfl rfl rfl (ltb rfl) rfl q4 ?_
 refine AO.guardU rfl rfl rfl (ltb rfl) rfl ?_
 refine AO.guardU rfl rfl rfl (ltb rfl) rfl ?_
 refine AO.guardU rfl rfl rfl (ltb rfl) rfl ?_
 refine AO.guardU rfl rfl rfl (ltb rfl) rfl ?_
 refine AO.guardU rfl rfl rfl (ltb rfl) rfl ?_
 refine AO.guardU rfl rfl rfl (ltb rfl) rfl ?_
 refine AO.guardU rfl rfl rfl (ltb rfl) rfl ?_
 refine AO.guardU rfl rfl rfl (ltb rfl) rfl ?_
 refine AO.guardN rfl rfl rfl (ltb rfl) rfl q4 ?_
 refine AO.op rfl (AOp.pickN rfl rfl (ltb rfl) rfl q4 rfl ?_)
 refine AO.op rfl (AOp.assign rfl rfl (ltb rfl) rfl ?_)
 refine AO.nil ?_
 change AC _ _ _ _
 refine AC.ret ?_
 change RetQ _ _ _ .ret _
 obtain rfl := Option.some.inj h0
 refine retq rfl rfl
theorem w_gLayouts : ∀ (F : Nat) (a0 : TImpl_Geom) (a1 : Int) (r0 : Bool), p_gLayouts F a0 a1 = some r0 → FnD Try.prog 36 [e_TImpl_Geom a0, di .i64 a1] (fun r => r = dbool r0)
 | 0, _, _, _, h => by cases h
 | F + 1, a0, a1, r0, h => w_gLayouts_b _ (fun a0 a1 r0 h => w_gLayouts F a0 a1 r0 h) F a0 a1 r0 h

set_option maxRecDepth 100000 in
set_option maxHeartbeats 4000000 in
/-- pub-orthodrome/laws.gSmall -/
theorem w_gSmall (F : Nat) (a0 : (List TImpl_Geom)) (r0 : Bool) (h0 : p_gSmall F a0 = some r0) : FnD Try.prog 18 [eS0 a0] (fun r => r = dbool r0) := by
 refine FnD.of (by kernel_rfl) Try.func18 rfl Try.ntmps18 rfl (leb rfl) fun W ok => ?_
 unfold p_gSmall at h0
 refine AC.seq ?_
 refine AC.region ?_
 refine AO.op rfl (AOp.assign rfl rfl (ltb rfl) rfl ?_)
 refine AO.nil ?_
 change AC _ _ _ _
 refine AC.seq ?_
 refine AC.region ?_
 refine AO.op rfl (AOp.assign rfl rfl (ltb rfl) rfl ?_)
 refine AO.nil ?_
 change AC _ _ _ _
 refine AC.seq ?_
 refine AC.seq ?_
 refine AC.region ?_
 refine AO.op rfl (AOp.move rfl rfl (ltb rfl) rfl ?_)
 refine AO.op rfl (AOp.lenDs (n := a0.length) (cells := (List.flatMap c0_TImpl_Geom a0)) rfl rfl (ltb rfl) rfl el25 (by decide) (lenN _ 7 c0_TImpl_Geom_len _) ?_)
 refine AO.op rfl (AOp.move rfl rfl (ltb rfl) rfl ?_)
 refine AO.nil ?_
 change AC _ _ _ _
 obtain ⟨o1, l2, h0⟩ := bind_elim h0
 refine AC.joinE (V := Unit) [] [] 0 (fun g3 => []) (fun g3 => []) (fun g3 => p_gSmall_k1 g3 = some r0) rfl ?_ ?_
 ·refine AC.block ?_
  refine AC.loopP (V := (Int × Int)) (p_gSmall_l2 a0 F) o1 [6, 7] [3, 8] 0 (fun g4 => [(3, .d (di .i64 g4.1)), (8, .d (di .i64 g4.2))]) (fun g4 => []) F ((2000 : Int), (0 : Int)) l2 rfl rfl (LeL.refl _) rfl rfl ?_
  intro n6 g4 h1
  unfold p_gSmall_l2 at h1
  refine AC.seq ?_
  refine AC.region ?_
  refine AO.op rfl (AOp.ilss rfl rfl (ltb rfl) rfl rfl ?_)
  refine AO.nil ?_
  change AC _ _ _ _
  refine AC.seq ?_
  refine AC.cond rfl (fun q7 => ?_) (fun q7 => ?_)
  ·replace h1 := cT h1 q7
   refine AC.skip ?_
   change AC _ _ _ _
   refine AC.seq ?_
   refine AC.block ?_
   refine AC.seq ?_
   refine AC.region ?_
   obtain ⟨x8, q9, h1⟩ := idx_elim h1
   refine AO.op rfl (AOp.indexDs (cells := (List.flatMap c0_TImpl_Geom a0)) rfl rfl (ltb rfl) rfl rfl el25 (by decide) q9.1 (ltN 7 c0_TImpl_Geom_len (by decide) q9.2) ?_)
   refine AO.op rfl (AOp.loadEpN rfl rfl (ltb rfl) rfl agg27 size27 (leN 7 c0_TImpl_Geom_len q9.2) ((atN 7 c0_TImpl_Geom_len q9.2).trans (c0_TImpl_Geom_eq x8)) ?_)
   refine AO.op rfl (AOp.alloc rfl rfl (ltb rfl) zero27 rfl ?_)
   refine AO.op rfl (AOp.store rfl rfl rfl rfl size27 rfl rfl rfl (leb rfl) ?_)
   refine AO.nil ?_
   change AC _ _ _ _
   refine AC.seq ?_
   refine AC.region ?_
   refine AO.op rfl (AOp.move rfl rfl (ltb rfl) rfl ?_)
   refine AO.op rfl (AOp.loadN rfl rfl (ltb rfl) rfl agg27 size27 rfl (leb rfl) rfl ?_)
   refine AO.op rfl (AOp.move rfl rfl (ltb rfl) rfl ?_)
   obtain ⟨y10, q11, h1⟩ := bind_elim h1
   refine AO.op rfl (AOp.callD rfl rfl (ltb rfl) rfl rfl (w_Weight F x8 g4.1 y10 q11) ?_)
   rintro _ rfl
   refine AO.op rfl (AOp.iwSub rfl rfl (ltb rfl) rfl rfl ?_)
   refine AO.op rfl (AOp.assign rfl rfl (ltb rfl) rfl ?_)
   refine AO.nil ?_
   change AC _ _ _ _
   refine AC.seq ?_
   refine AC.region ?_
   refine AO.op rfl (AOp.move rfl rfl (ltb rfl) rfl ?_)
   refine AO.op rfl (AOp.ilss rfl rfl (ltb rfl) rfl rfl ?_)
   refine AO.op rfl (AOp.move rfl rfl (ltb rfl) rfl ?_)
   refine AO.dec (decide ((IntKind.i64.wrap (g4.1 - y10)) < (0 : Int))) (fun q12 => ?_) (fun q12 => ?_)
   ·replace h1 := cT h1 q12
    refine AO.guardN rfl rfl rfl (ltb rfl) rfl q12 ?_
    refine AO.guardN rfl rfl rfl (ltb rfl) rfl q12 ?_
    refine AO.guardN rfl rfl rfl (ltb rfl) rfl q12 ?_
    refine AO.op rfl (AOp.pick rfl rfl (ltb rfl) rfl q12 rfl ?_)
    refine AO.nil ?_
    change AC _ _ _ _
    refine AC.condT rfl rfl ?_
    refine AC.seq ?_
    refine AC.region ?_
    refine AO.op rfl (AOp.assign rfl rfl (ltb rfl) rfl ?_)
    refine AO.nil ?_
    change AC _ _ _ _
    refine AC.ret ?_
    change RetQ _ _ _ .ret _
    obtain rfl := Option.some.inj h1
    replace h0 := aftR h0
    obtain rfl := Option.some.inj h0
    refine retq rfl rfl
   replace h1 := cF h1 q12
   refine AO.guardY rfl rfl rfl q12 (AOp.loadN rfl rfl (ltb rfl) rfl agg27 size27 rfl (leb rfl) rfl ?_)
   obtain ⟨y13, q14, h1⟩ := bind_elim h1
   refine AO.guardY rfl rfl rfl q12 (AOp.callD rfl rfl (ltb rfl) rfl rfl (w_gLayouts F x8 (9 : Int) y13 q14) ?_)
   rintro _ rfl
   refine AO.guardY rfl rfl rfl q12 (AOp.bnot rfl rfl (ltb rfl) rfl ?_)
   refine AO.op rfl (AOp.pickN rfl rfl (ltb rfl) rfl q12 rfl ?_)
   refine AO.nil ?_
   change AC _ _ _ _
   refine AC.cond rfl (fun q15 => ?_) (fun q15 => ?_)
   ·replace h1 := cT h1 q15
    refine AC.seq ?_
    refine AC.region ?_
    refine AO.op rfl (AOp.assign rfl rfl (ltb rfl) rfl ?_)
    refine AO.nil ?_
    change AC _ _ _ _
    refine AC.ret ?_
    change RetQ _ _ _ .ret _
    obtain rfl := Option.some.inj h1
    replace h0 := aftR h0
    obtain rfl := Option.some.inj h0
    refine retq rfl rfl
   replace h1 := cF h1 q15
   refine AC.skip ?_
   change AC _ _ _ _
   refine AC.region ?_
   obtain ⟨q16, h1⟩ := need_elim h1
   refine AO.op rfl (AOp.iadd rfl rfl (ltb rfl) rfl rfl rfl q16.1 q16.2 ?_)
   refine AO.op rfl (AOp.move rfl rfl (ltb rfl) rfl ?_)
   refine AO.nil ?_
   exact ⟨((IntKind.i64.wrap (g4.1 - y10)), (g4.2 + (1 : Int))), _, rfl, (LeL.refl _), rfl, rfl, h1⟩
  replace h1 := cF h1 q7
  refine AC.exit ?_
  obtain rfl := Option.some.inj h1
  exact ⟨(), _, rfl, (LeL.refl _), rfl, rfl, aftL h0⟩
 intro g3 h0
 unfold p_gSmall_k1 at h0
 change AC _ _ _ _
 refine AC.seq ?_
 refine AC.region ?_
 refine AO.op rfl (AOp.assign rfl rfl (ltb rfl) rfl ?_)
 refine AO.nil ?_
 change AC _ _ _ _
 refine AC.ret ?_
 change RetQ _ _ _ .ret _
 obtain rfl := Option.some.inj h0
 refine retq rfl rfl

set_option maxRecDepth 100000 in
set_option maxHeartbeats 4000000 in
/-- pub-orthodrome/spec.Stride -/
theorem w_Stride (a0 : Int) (r0 : Int) (h0 : p_Stride a0 = some r0) : FnD Try.prog 34 [di .i64 a0] (fun r => r = di .i64 r0) := by
 refine FnD.of (by kernel_rfl) Try.func34 rfl Try.ntmps34 rfl (leb rfl) fun W ok => ?_
 unfold p_Stride at h0
 refine AC.seq ?_
 refine AC.region ?_
 refine AO.op rfl (AOp.assign rfl rfl (ltb rfl) rfl ?_)
 refine AO.nil ?_
 change AC _ _ _ _
 refine AC.seq ?_
 refine AC.block ?_
 refine AC.seq ?_
 refine AC.region ?_
 refine AO.op rfl (AOp.move rfl rfl (ltb rfl) rfl ?_)
 refine AO.op rfl (AOp.ilss rfl rfl (ltb rfl) rfl rfl ?_)
 refine AO.op rfl (AOp.assign rfl rfl (ltb rfl) rfl ?_)
 refine AO.nil ?_
 change AC _ _ _ _
 refine AC.cond rfl (fun q1 => ?_) (fun q1 => ?_)
 ·replace h0 := cT h0 q1
  refine AC.seq ?_
  refine AC.region ?_
  refine AO.op rfl (AOp.assign rfl rfl (ltb rfl) rfl ?_)
  refine AO.nil ?_
  change AC _ _ _ _
  refine AC.ret ?_
  change RetQ _ _ _ .ret _
  obtain rfl := Option.some.inj h0
  refine retq rfl rfl
 replace h0 := cF h0 q1
 refine AC.seq ?_
 refine AC.region ?_
 refine AO.op rfl (AOp.move rfl rfl (ltb rfl) rfl ?_)
 refine AO.op rfl (AOp.ieql rfl rfl (ltb rfl) rfl rfl ?_)
 refine AO.op rfl (AOp.assign rfl rfl (ltb rfl) rfl ?_)
 refine AO.nil ?_
 change AC _ _ _ _
 refine AC.cond rfl (fun q2 => ?_) (fun q2 => ?_)
 ·replace h0 := cT h0 q2
  refine AC.seq ?_
  refine AC.region ?_
  refine AO.op rfl (AOp.assign rfl rfl (ltb rfl) rfl ?_)
  refine AO.nil ?_
  change AC _ _ _ _
  refine AC.ret ?_
  change RetQ _ _ _ .ret _
  obtain rfl := Option.some.inj h0
  refine retq rfl rfl
 replace h0 := cF h0 q2
 refine AC.seq ?_
 refine AC.region ?_
 refine AO.op rfl (AOp.move rfl rfl (ltb rfl) rfl ?_)
 refine AO.op rfl (AOp.ieql rfl rfl (ltb rfl) rfl rfl ?_)
 refine AO.op rfl (AOp.move rfl rfl (ltb rfl) rfl ?_)
 refine AO.dec (decide (a0 = (2 : Int))) (fun q3 => ?_) (fun q3 => ?_)
 ·replace h0 := cT h0 q3
  refine AO.guardN rfl rfl rfl (ltb rfl) rfl q3 ?_
  refine AO.guardN rfl rfl rfl (ltb rfl) rfl q3 ?_
  refine AO.op rfl (AOp.pick rfl rfl (ltb rfl) rfl q3 rfl ?_)
  refine AO.op rfl (AOp.assign rfl rfl (ltb rfl) rfl ?_)
  refine AO.nil ?_
  change AC _ _ _ _
  refine AC.condT rfl rfl ?_
  refine AC.seq ?_
  refine AC.region ?_
  refine AO.op rfl (AOp.assign rfl rfl (ltb rfl) rfl ?_)
  refine AO.nil ?_
  change AC _ _ _ _
  refine AC.ret ?_
  change RetQ _ _ _ .ret _
  obtain rfl := Option.some.inj h0
  refine retq rfl rfl
 replace h0 := cF h0 q3
 refine AO.guardY rfl rfl rfl q3 (AOp.move rfl rfl (ltb rfl) rfl ?_)
 refine AO.guardY rfl rfl rfl q3 (AOp.ieql rfl rfl (ltb rfl) rfl rfl ?_)
 refine AO.op rfl (AOp.pickN rfl rfl (ltb rfl) rfl q3 rfl ?_)
 refine AO.op rfl (AOp.assign rfl rfl (ltb rfl) rfl ?_)
 refine AO.nil ?_
 change AC _ _ _ _
 refine AC.cond rfl (fun q4 => ?_) (fun q4 => ?_)
 ·replace h0 := cT h0 q4
  refine AC.seq ?_
  refine AC.region ?_
  refine AO.op rfl (AOp.assign rfl rfl (ltb rfl) rfl ?_)
  refine AO.nil ?_
  change AC _ _ _ _
  refine AC.ret ?_
  change RetQ _ _ _ .ret _
  obtain rfl := Option.some.inj h0
  refine retq rfl rfl
 replace h0 := cF h0 q4
 refine AC.skip ?_
 change AC _ _ _ _
 refine AC.seq ?_
 refine AC.region ?_
 refine AO.op rfl (AOp.move rfl rfl (ltb rfl) rfl ?_)
 refine AO.op rfl (AOp.assign rfl rfl (ltb rfl) rfl ?_)
 refine AO.nil ?_
 change AC _ _ _ _
 refine AC.ret ?_
 change RetQ _ _ _ .ret _
 obtain rfl := Option.some.inj h0
 refine retq rfl rfl

set_option maxRecDepth 100000 in
set_option maxHeartbeats 4000000 in
/-- pub-orthodrome/spec.Cover -/
theorem w_Cover (a0 : Int) (a1 : Int) (r0 : Int) (h0 : p_Cover a0 a1 = some r0) : FnD Try.prog 62 [di .i64 a0, di .i64 a1] (fun r => r = di .i64 r0) := by
 refine FnD.of (by kernel_rfl) Try.func62 rfl Try.ntmps62 rfl (leb rfl) fun W ok => ?_
 unfold p_Cover at h0
 refine AC.seq ?_
 refine AC.region ?_
 refine AO.op rfl (AOp.assign rfl rfl (ltb rfl) rfl ?_)
 refine AO.nil ?_
 change AC _ _ _ _
 refine AC.seq ?_
 refine AC.seq ?_
 refine AC.region ?_
 refine AO.op rfl (AOp.move rfl rfl (ltb rfl) rfl ?_)
 refine AO.op rfl (AOp.ieql rfl rfl (ltb rfl) rfl rfl ?_)
 refine AO.op rfl (AOp.move rfl rfl (ltb rfl) rfl ?_)
 refine AO.dec (decide (a0 = (2 : Int))) (fun q1 => ?_) (fun q1 => ?_)
 ·replace h0 := cT h0 q1
  refine AO.guardY rfl rfl rfl q1 (AOp.move rfl rfl (ltb rfl) rfl ?_)
  refine AO.guardY rfl rfl rfl q1 (AOp.ieql rfl rfl (ltb rfl) rfl rfl ?_)
  refine AO.op rfl (AOp.pick rfl rfl (ltb rfl) rfl q1 rfl ?_)
  refine AO.op rfl (AOp.move rfl rfl (ltb rfl) rfl ?_)
  refine AO.dec (decide (a1 = (3 : Int))) (fun q2 => ?_) (fun q2 => ?_)
  ·replace h0 := cT h0 q2
   refine AO.guardN rfl rfl rfl (ltb rfl) rfl q2 ?_
   refine AO.guardN rfl rfl rfl (ltb rfl) rfl q2 ?_
   refine AO.guardN rfl rfl rfl (ltb rfl) rfl q2 ?_
   refine AO.guardU rfl rfl rfl (ltb rfl) rfl ?_
   refine AO.guardU rfl rfl rfl (ltb rfl) rfl ?_
   refine AO.guardN rfl rfl rfl (ltb rfl) rfl q2 ?_
   refine AO.op rfl (AOp.pick rfl rfl (ltb rfl) rfl q2 rfl ?_)
   refine AO.nil ?_
   change AC _ _ _ _
   refine AC.condT rfl rfl ?_
   refine AC.seq ?_
   refine AC.region ?_
   refine AO.op rfl (AOp.assign rfl rfl (ltb rfl) rfl ?_)
   refine AO.nil ?_
   change AC _ _ _ _
   refine AC.ret ?_
   change RetQ _ _ _ .ret _
   obtain rfl := Option.some.inj h0
   refine retq rfl rfl
  replace h0 := cF h0 q2
  refine AO.guardY rfl rfl rfl q2 (AOp.move rfl rfl (ltb rfl) rfl ?_)
  refine AO.guardY rfl rfl rfl q2 (AOp.ieql rfl rfl (ltb rfl) rfl rfl ?_)
  refine AO.guardY rfl rfl rfl q2 (AOp.move rfl rfl (ltb rfl) rfl ?_)
  refine AO.dec (decide (a0 = (3 : Int))) (fun q3 => ?_) (fun q3 => ?_)
  ·replace h0 := cT h0 q3
   refine AO.guardY rfl rfl rfl q3 (AOp.move rfl rfl (ltb rfl) rfl ?_)
   refine AO.guardY rfl rfl rfl q3 (AOp.ieql rfl rfl (ltb rfl) rfl rfl ?_)
   refine AO.guardY rfl rfl rfl q2 (AOp.pick rfl rfl (ltb rfl) rfl q3 rfl ?_)
   refine AO.op rfl (AOp.pickN rfl rfl (ltb rfl) rfl q2 rfl ?_)
   refine AO.nil ?_
   change AC _ _ _ _
   refine AC.cond rfl (fun q4 => ?_) (fun q4 => ?_)
   ·replace h0 := cT h0 q4
    refine AC.seq ?_
    refine AC.region ?_
    refine AO.op rfl (AOp.assign rfl rfl (ltb rfl) rfl ?_)
    refine AO.nil ?_
    change AC _ _ _ _
    refine AC.ret ?_
    change RetQ _ _ _ .ret _
    obtain rfl := Option.some.inj h0
    refine retq rfl rfl
   replace h0 := cF h0 q4
   refine AC.skip ?_
   change AC _ _ _ _
   refine AC.seq ?_
   refine AC.region ?_
   refine AO.op rfl (AOp.move rfl rfl (ltb rfl) rfl ?_)
   refine AO.op rfl (AOp.move rfl rfl (ltb rfl) rfl ?_)
   refine AO.op rfl (AOp.imax rfl rfl (ltb rfl) rfl rfl ?_)
   refine AO.op rfl (AOp.assign rfl rfl (ltb rfl) rfl ?_)
   refine AO.nil ?_
   change AC _ _ _ _
   refine AC.ret ?_
   change RetQ _ _ _ .ret _
   obtain rfl := Option.some.inj h0
   refine retq rfl rfl
  replace h0 := cF h0 q3
  refine AO.guardN rfl rfl rfl (ltb rfl) rfl q3 ?_
  refine AO.guardN rfl rfl rfl (ltb rfl) rfl q3 ?_
  refine AO.guardY rfl rfl rfl q2 (AOp.pickN rfl rfl (ltb rfl) rfl q3 rfl ?_)
  refine AO.op rfl (AOp.pickN rfl rfl (ltb rfl) rfl q2 rfl ?_)
  refine AO.nil ?_
  change AC _ _ _ _
  refine AC.condF rfl rfl ?_
  refine AC.skip ?_
  change AC _ _ _ _
  refine AC.seq ?_
  refine AC.region ?_
  refine AO.op rfl (AOp.move rfl rfl (ltb rfl) rfl ?_)
  refine AO.op rfl (AOp.move rfl rfl (ltb rfl) rfl ?_)
  refine AO.op rfl (AOp.imax rfl rfl (ltb rfl) rfl rfl ?_)
  refine AO.op rfl (AOp.assign rfl rfl (ltb rfl) rfl ?_)
  refine AO.nil ?_
  change AC _ _ _ _
  refine AC.ret ?_
  change RetQ _ _ _ .ret _
  obtain rfl := Option.some.inj h0
  refine retq rfl rfl
 replace h0 := cF h0 q1
 refine AO.guardN rfl rfl rfl (ltb rfl) rfl q1 ?_
 refine AO.guardN rfl rfl rfl (ltb rfl) rfl q1 ?_
 refine AO.op rfl (AOp.pickN rfl rfl (ltb rfl) rfl q1 rfl ?_)
 refine AO.op rfl (AOp.move rfl rfl (ltb rfl) rfl ?_)
 refine AO.guardY rfl rfl rfl rfl (AOp.move rfl rfl (ltb rfl) rfl ?_)
 refine AO.guardY rfl rfl rfl rfl (AOp.ieql rfl rfl (ltb rfl) rfl rfl ?_)
 refine AO.guardY rfl rfl rfl rfl (AOp.move rfl rfl (ltb rfl) rfl ?_)
 refine AO.dec (decide (a0 = (3 : Int))) (fun q5 => ?_) (fun q5 => ?_)
 ·replace h0 := cT h0 q5
  refine AO.guardY rfl rfl rfl q5 (AOp.move rfl rfl (ltb rfl) rfl ?_)
  refine AO.guardY rfl rfl rfl q5 (AOp.ieql rfl rfl (ltb rfl) rfl rfl ?_)
  refine AO.guardY rfl rfl rfl rfl (AOp.pick rfl rfl (ltb rfl) rfl q5 rfl ?_)
  refine AO.op rfl (AOp.pickN rfl rfl (ltb rfl) rfl rfl rfl ?_)
  refine AO.nil ?_
  change AC _ _ _ _
  refine AC.cond rfl (fun q6 => ?_) (fun q6 => ?_)
  ·replace h0 := cT h0 q6
   refine AC.seq ?_
   refine AC.region ?_
   refine AO.op rfl (AOp.assign rfl rfl (ltb rfl) rfl ?_)
   refine AO.nil ?_
   change AC _ _ _ _
   refine AC.ret ?_
   change RetQ _ _ _ .ret _
   obtain rfl := Option.some.inj h0
   refine retq rfl rfl
  replace h0 := cF h0 q6
  refine AC.skip ?_
  change AC _ _ _ _
  refine AC.seq ?_
  refine AC.region ?_
  refine AO.op rfl (AOp.move rfl rfl (ltb rfl) rfl ?_)
  refine AO.op rfl (AOp.move rfl rfl (ltb rfl) rfl ?_)
  refine AO.op rfl (AOp.imax rfl rfl (ltb rfl) rfl rfl ?_)
  refine AO.op rfl (AOp.assign rfl rfl (ltb rfl) rfl ?_)
  refine AO.nil ?_
  change AC _ _ _ _
  refine AC.ret ?_
  change RetQ _ _ _ .ret _
  obtain rfl := Option.some.inj h0
  refine retq rfl rfl
 replace h0 := cF h0 q5
 refine AO.guardN rfl rfl rfl (ltb rfl) rfl q5 ?_
 refine AO.guardN rfl rfl rfl (ltb rfl) rfl q5 ?_
 refine AO.guardY rfl rfl rfl rfl (AOp.pickN rfl rfl (ltb rfl) rfl q5 rfl ?_)
 refine AO.op rfl (AOp.pickN rfl rfl (ltb rfl) rfl rfl rfl ?_)
 refine AO.nil ?_
 change AC _ _ _ _
 refine AC.condF rfl rfl ?_
 refine AC.skip ?_
 change AC _ _ _ _
 refine AC.seq ?_
 refine AC.region ?_
 refine AO.op rfl (AOp.move rfl rfl (ltb rfl) rfl ?_)
 refine AO.op rfl (AOp.move rfl rfl (ltb rfl) rfl ?_)
 refine AO.op rfl (AOp.imax rfl rfl (ltb rfl) rfl rfl ?_)
 refine AO.op rfl (AOp.assign rfl rfl (ltb rfl) rfl ?_)
 refine AO.nil ?_
 change AC _ _ _ _
 refine AC.ret ?_
 change RetQ _ _ _ .ret _
 obtain rfl := Option.some.inj h0
 refine retq rfl rfl

set_option maxRecDepth 100000 in
set_option maxHeartbeats 4000000 in
/-- pub-orthodrome/spec.LayoutOf -/
theorem w_LayoutOf_b (Rec_ : TImpl_Geom → Option Int) (hR : ∀ (a0 : TImpl_Geom) (r0 : Int), Rec_ a0 = some r0 → FnD Try.prog 37 [e_TImpl_Geom a0] (fun r => r = di .i64 r0)) (F : Nat) (a0 : TImpl_Geom) (r0 : Int) (h0 : p_LayoutOf_b Rec_ F a0 = some r0) : FnD Try.prog 37 [e_TImpl_Geom a0] (fun r => r = di .i64 r0) := by
 refine FnD.of (by kernel_rfl) Try.func37 rfl Try.ntmps37 rfl (leb rfl) fun W ok => ?_
 unfold p_LayoutOf_b at h0
 refine AC.seq ?_
 refine AC.region ?_
 refine AO.op rfl (AOp.box rfl rfl (ltb rfl) rfl rfl ?_)
 refine AO.op rfl (AOp.assign rfl rfl (ltb rfl) rfl ?_)
 refine AO.nil ?_
 change AC _ _ _ _
 refine AC.seq ?_
 refine AC.region ?_
 refine AO.op rfl (AOp.fieldAddr rfl rfl (ltb rfl) rfl fo27_1 ?_)
 refine AO.op rfl (AOp.load1 rfl rfl (ltb rfl) rfl agg3 rfl rfl ?_)
 refine AO.op rfl (AOp.assign rfl rfl (ltb rfl) rfl ?_)
 refine AO.nil ?_
 change AC _ _ _ _
 refine AC.seq ?_
 refine AC.joinP (V := Bool) [1, 3] [14] 1 (fun g1 => [(14, .d (dbool g1))]) (fun g1 => [.fix 27 [.d (di .i64 a0.Kind), .d (di .i64 a0.Layout), .d (di .i64 a0.SRID), .d (eS1 a0.Flat), .d (eS2 a0.Ends), .d (eS3 a0.Endss), .d (eS0 a0.Kids)]]) (fun g1 => (p_LayoutOf_k1 a0 F Rec_) g1 = some r0) rfl ?_ ?_
 ·refine AC.region ?_
  refine AO.op rfl (AOp.fieldAddr rfl rfl (ltb rfl) rfl fo27_0 ?_)
  refine AO.op rfl (AOp.load1 rfl rfl (ltb rfl) rfl agg3 rfl rfl ?_)
  refine AO.op rfl (AOp.ineq rfl rfl (ltb rfl) rfl rfl ?_)
  refine AO.op rfl (AOp.move rfl rfl (ltb rfl) rfl ?_)
  refine AO.dec (!decide (a0.Kind = (7 : Int))) (fun q17 => ?_) (fun q17 => ?_)
  ·replace h0 := cT h0 q17
   refine AO.guardN rfl rfl rfl (ltb rfl) rfl q17 ?_
   refine AO.guardN rfl rfl rfl (ltb rfl) rfl q17 ?_
   refine AO.op rfl (AOp.pick rfl rfl (ltb rfl) rfl q17 rfl ?_)
   refine AO.nil ?_
   exact ⟨true, _, rfl, (LeL.refl _), rfl, rfl, h0⟩
  replace h0 := cF h0 q17
  refine AO.guardY rfl rfl rfl q17 (AOp.move rfl rfl (ltb rfl) rfl ?_)
  refine AO.guardY rfl rfl rfl q17 (AOp.ineq rfl rfl (ltb rfl) rfl rfl ?_)
  refine AO.op rfl (AOp.pickN rfl rfl (ltb rfl) rfl q17 rfl ?_)
  refine AO.nil ?_
  exact ⟨(!decide (a0.Layout = (0 : Int))), _, rfl, (LeL.refl _), rfl, rfl, h0⟩
 intro g1 h0
 unfold p_LayoutOf_k1 at h0
 refine AC.cond rfl (fun q2 => ?_) (fun q2 => ?_)
 ·replace h0 := cT h0 q2
  refine AC.seq ?_
  refine AC.region ?_
  refine AO.op rfl (AOp.move rfl rfl (ltb rfl) rfl ?_)
  refine AO.op rfl (AOp.assign rfl rfl (ltb rfl) rfl ?_)
  refine AO.nil ?_
  change AC _ _ _ _
  refine AC.ret ?_
  change RetQ _ _ _ .ret _
  obtain rfl := Option.some.inj h0
  refine retq rfl rfl
 replace h0 := cF h0 q2
 refine AC.skip ?_
 change AC _ _ _ _
 refine AC.seq ?_
 refine AC.seq ?_
 refine AC.region ?_
 refine AO.op rfl (AOp.fieldAddr rfl rfl (ltb rfl) rfl fo27_6 ?_)
 refine AO.op rfl (AOp.load1 rfl rfl (ltb rfl) rfl agg25 rfl rfl ?_)
 refine AO.op rfl (AOp.lenDs (n := a0.Kids.length) (cells := (List.flatMap c0_TImpl_Geom a0.Kids)) rfl rfl (ltb rfl) rfl el25 (by decide) (lenN _ 7 c0_TImpl_Geom_len _) ?_)
 refine AO.op rfl (AOp.move rfl rfl (ltb rfl) rfl ?_)
 refine AO.nil ?_
 change AC _ _ _ _
 obtain ⟨o3, l4, h0⟩ := bind_elim h0
 refine AC.joinE (V := Int) [] [3] 1 (fun g5 => [(3, .d (di .i64 g5))]) (fun g5 => [.fix 27 [.d (di .i64 a0.Kind), .d (di .i64 a0.Layout), .d (di .i64 a0.SRID), .d (eS1 a0.Flat), .d (eS2 a0.Ends), .d (eS3 a0.Endss), .d (eS0 a0.Kids)]]) (fun g5 => p_LayoutOf_k2 g5 = some r0) rfl ?_ ?_
 ·refine AC.block ?_
  refine AC.loopP (V := (Int × Int)) (p_LayoutOf_l3 a0 Rec_) o3 [17, 18] [3, 19] 1 (fun g6 => [(3, .d (di .i64 g6.1)), (19, .d (di .i64 g6.2))]) (fun g6 => [.fix 27 [.d (di .i64 a0.Kind), .d (di .i64 a0.Layout), .d (di .i64 a0.SRID), .d (eS1 a0.Flat), .d (eS2 a0.Ends), .d (eS3 a0.Endss), .d (eS0 a0.Kids)]]) F (a0.Layout, (0 : Int)) l4 rfl rfl (LeL.refl _) rfl rfl ?_
  intro n8 g6 h1
  unfold p_LayoutOf_l3 at h1
  refine AC.seq ?_
  refine AC.region ?_
  refine AO.op rfl (AOp.ilss rfl rfl (ltb rfl) rfl rfl ?_)
  refine AO.nil ?_
  change AC _ _ _ _
  refine AC.seq ?_
  refine AC.cond rfl (fun q9 => ?_) (fun q9 => ?_)
  ·replace h1 := cT h1 q9
   refine AC.skip ?_
   change AC _ _ _ _
   refine AC.seq ?_
   refine AC.block ?_
   refine AC.seq ?_
   refine AC.region ?_
   obtain ⟨x10, q11, h1⟩ := idx_elim h1
   refine AO.op rfl (AOp.indexDs (cells := (List.flatMap c0_TImpl_Geom a0.Kids)) rfl rfl (ltb rfl) rfl rfl el25 (by decide) q11.1 (ltN 7 c0_TImpl_Geom_len (by decide) q11.2) ?_)
   refine AO.op rfl (AOp.loadEpN rfl rfl (ltb rfl) rfl agg27 size27 (leN 7 c0_TImpl_Geom_len q11.2) ((atN 7 c0_TImpl_Geom_len q11.2).trans (c0_TImpl_Geom_eq x10)) ?_)
   refine AO.op rfl (AOp.alloc rfl rfl (ltb rfl) zero27 rfl ?_)
   refine AO.op rfl (AOp.store rfl rfl rfl rfl size27 rfl rfl rfl (leb rfl) ?_)
   refine AO.nil ?_
   change AC _ _ _ _
   refine AC.region ?_
   refine AO.op rfl (AOp.move rfl rfl (ltb rfl) rfl ?_)
   refine AO.op rfl (AOp.loadN rfl rfl (ltb rfl) rfl agg27 size27 rfl (leb rfl) rfl ?_)
   obtain ⟨y12, q13, h1⟩ := bind_elim h1
   refine AO.op rfl (AOp.callD rfl rfl (ltb rfl) rfl rfl (hR x10 y12 q13) ?_)
   rintro _ rfl
   obtain ⟨y14, q15, h1⟩ := bind_elim h1
   refine AO.op rfl (AOp.callD rfl rfl (ltb rfl) rfl rfl (w_Cover g6.1 y12 y14 q15) ?_)
   rintro _ rfl
   refine AO.op rfl (AOp.assign rfl rfl (ltb rfl) rfl ?_)
   refine AO.nil ?_
   change AC _ _ _ _
   refine AC.region ?_
   obtain ⟨q16, h1⟩ := need_elim h1
   refine AO.op rfl (AOp.iadd rfl rfl (ltb rfl) rfl rfl rfl q16.1 q16.2 ?_)
   refine AO.op rfl (AOp.move rfl rfl (ltb rfl) rfl ?_)
   refine AO.nil ?_
   exact ⟨(y14, (g6.2 + (1 : Int))), _, rfl, (LeL.refl _), rfl, rfl, h1⟩
  replace h1 := cF h1 q9
  refine AC.exit ?_
  obtain rfl := Option.some.inj h1
  exact ⟨g6.1, _, rfl, (LeL.refl _), rfl, rfl, aftL h0⟩
 intro g5 h0
 unfold p_LayoutOf_k2 at h0
 change AC _ _ _ _
 refine AC.seq ?_
 refine AC.region ?_
 refine AO.op rfl (AOp.move rfl rfl (ltb rfl) rfl ?_)
 refine AO.op rfl (AOp.assign rfl rfl (ltb rfl) rfl ?_)
 refine AO.nil ?_
 change AC _ _ _ _
 refine AC.ret ?_
 change RetQ _ _ _ .ret _
 obtain rfl := Option.some.inj h0
 refine retq rfl rfl
theorem w_LayoutOf : ∀ (F : Nat) (a0 : TImpl_Geom) (r0 : Int), p_LayoutOf F a0 = some r0 → FnD Try.prog 37 [e_TImpl_Geom a0] (fun r => r = di .i64 r0)
 | 0, _, _, h => by cases h
 | F + 1, a0, r0, h => w_LayoutOf_b _ (fun a0 r0 h => w_LayoutOf F a0 r0 h) F a0 r0 h

set_option maxRecDepth 100000 in
set_option maxHeartbeats 4000000 in
/-- pub-orthodrome/spec.goodEnds -/
theorem w_goodEnds (F : Nat) (a0 : (List Int)) (a1 : Int) (a2 : Int) (a3 : Bool) (r0 : (Int × Bool)) (h0 : p_goodEnds F a0 a1 a2 a3 = some r0) : FnD Try.prog 38 [eS2 a0, di .i64 a1, di .i64 a2, dbool a3] (fun r => r = .tu [di .i64 r0.1, dbool r0.2]) := by
 refine FnD.of (by kernel_rfl) Try.func38 rfl Try.ntmps38 rfl (leb rfl) fun W ok => ?_
 unfold p_goodEnds at h0
 refine AC.seq ?_
 refine AC.region ?_
 refine AO.op rfl (AOp.assign rfl rfl (ltb rfl) rfl ?_)
 refine AO.op rfl (AOp.assign rfl rfl (ltb rfl) rfl ?_)
 refine AO.nil ?_
 change AC _ _ _ _
 refine AC.seq ?_
 refine AC.seq ?_
 refine AC.region ?_
 refine AO.op rfl (AOp.move rfl rfl (ltb rfl) rfl ?_)
 refine AO.op rfl (AOp.lenDs (n := a0.length) (cells := (List.map keS2 a0)) rfl rfl (ltb rfl) rfl el23 (by decide) (len1 _ _) ?_)
 refine AO.op rfl (AOp.move rfl rfl (ltb rfl) rfl ?_)
 refine AO.nil ?_
 change AC _ _ _ _
 obtain ⟨o1, l2, h0⟩ := bind_elim h0
 refine AC.joinE (V := Int) [] [1] 0 (fun g3 => [(1, .d (di .i64 g3))]) (fun g3 => []) (fun g3 => p_goodEnds_k1 g3 = some r0) rfl ?_ ?_
 ·refine AC.block ?_
  refine AC.loopP (V := (Int × Int)) (p_goodEnds_l2 a0 a2 a3) o1 [2, 3, 12, 13] [1, 14] 0 (fun g4 => [(1, .d (di .i64 g4.1)), (14, .d (di .i64 g4.2))]) (fun g4 => []) F (a1, (0 : Int)) l2 rfl rfl (LeL.refl _) rfl rfl ?_
  intro n6 g4 h1
  unfold p_goodEnds_l2 at h1
  refine AC.seq ?_
  refine AC.region ?_
  refine AO.op rfl (AOp.ilss rfl rfl (ltb rfl) rfl rfl ?_)
  refine AO.nil ?_
  change AC _ _ _ _
  refine AC.seq ?_
  refine AC.cond rfl (fun q7 => ?_) (fun q7 => ?_)
  ·replace h1 := cT h1 q7
   refine AC.skip ?_
   change AC _ _ _ _
   refine AC.seq ?_
   refine AC.block ?_
   refine AC.seq ?_
   refine AC.region ?_
   obtain ⟨x8, q9, h1⟩ := idx_elim h1
   refine AO.op rfl (AOp.indexDs (cells := (List.map keS2 a0)) rfl rfl (ltb rfl) rfl rfl el23 (by decide) q9.1 (lt1 q9.2) ?_)
   refine AO.op rfl (AOp.loadEp rfl rfl (ltb rfl) rfl agg3 (at1 q9.2) ?_)
   refine AO.op rfl (AOp.assign rfl rfl (ltb rfl) rfl ?_)
   refine AO.nil ?_
   change AC _ _ _ _
   refine AC.seq ?_
   refine AC.joinP (V := Bool) [1, 2, 3, 11, 12, 13, 14] [38] 0 (fun g10 => [(38, .d (dbool g10))]) (fun g10 => []) (fun g10 => (p_goodEnds_k3 g4 (iter (p_goodEnds_l2 a0 a2 a3) n6) x8) g10 = some o1) rfl ?_ ?_
   ·refine AC.region ?_
    refine AO.op rfl (AOp.move rfl rfl (ltb rfl) rfl ?_)
    refine AO.op rfl (AOp.move rfl rfl (ltb rfl) rfl ?_)
    refine AO.op rfl (AOp.ilss rfl rfl (ltb rfl) rfl rfl ?_)
    refine AO.op rfl (AOp.move rfl rfl (ltb rfl) rfl ?_)
    refine AO.dec (decide (x8 < g4.1)) (fun q13 => ?_) (fun q13 => ?_)
    ·replace h1 := cT h1 q13
     refine AO.guardN rfl rfl rfl (ltb rfl) rfl q13 ?_
     refine AO.guardN rfl rfl rfl (ltb rfl) rfl q13 ?_
     refine AO.guardN rfl rfl rfl (ltb rfl) rfl q13 ?_
     refine AO.guardN rfl rfl rfl (ltb rfl) rfl q13 ?_
     refine AO.guardN rfl rfl rfl (ltb rfl) rfl q13 ?_
     refine AO.guardN rfl rfl rfl (ltb rfl) rfl q13 ?_
     refine AO.op rfl (AOp.pick rfl rfl (ltb rfl) rfl q13 rfl ?_)
     refine AO.op rfl (AOp.move rfl rfl (ltb rfl) rfl ?_)
     refine AO.guardN rfl rfl rfl (ltb rfl) rfl rfl ?_
     refine AO.guardN rfl rfl rfl (ltb rfl) rfl rfl ?_
     refine AO.guardU rfl rfl rfl (ltb rfl) rfl ?_
     refine AO.guardU rfl rfl rfl (ltb rfl) rfl ?_
     refine AO.guardU rfl rfl rfl (ltb rfl) rfl ?_
     refine AO.guardU rfl rfl rfl (ltb rfl) rfl ?_
     refine AO.guardU rfl rfl rfl (ltb rfl) rfl ?_
     refine AO.guardN rfl rfl rfl (ltb rfl) rfl rfl ?_
     refine AO.op rfl (AOp.pick rfl rfl (ltb rfl) rfl rfl rfl ?_)
     refine AO.nil ?_
     exact ⟨true, _, rfl, (LeL.refl _), rfl, rfl, h1⟩
    replace h1 := cF h1 q13
    refine AO.guardY rfl rfl rfl q13 (AOp.move rfl rfl (ltb rfl) rfl ?_)
    refine AO.guardY rfl rfl rfl q13 (AOp.move rfl rfl (ltb rfl) rfl ?_)
    obtain ⟨q14, h1⟩ := need_elim h1
    refine AO.guardY rfl rfl rfl q13 (AOp.isub rfl rfl (ltb rfl) rfl rfl rfl q14.1 q14.2 ?_)
    refine AO.guardY rfl rfl rfl q13 (AOp.move rfl rfl (ltb rfl) rfl ?_)
    obtain ⟨q15, h1⟩ := need_elim h1
    refine AO.guardY rfl rfl rfl q13 (AOp.irem rfl rfl (ltb rfl) rfl rfl q15 rfl ?_)
    refine AO.guardY rfl rfl rfl q13 (AOp.ineq rfl rfl (ltb rfl) rfl rfl ?_)
    refine AO.op rfl (AOp.pickN rfl rfl (ltb rfl) rfl q13 rfl ?_)
    refine AO.op rfl (AOp.move rfl rfl (ltb rfl) rfl ?_)
    refine AO.dec (!decide ((Int.tmod (x8 - g4.1) a2) = (0 : Int))) (fun q16 => ?_) (fun q16 => ?_)
    ·replace h1 := cT h1 q16
     refine AO.guardN rfl rfl rfl (ltb rfl) rfl q16 ?_
     refine AO.guardN rfl rfl rfl (ltb rfl) rfl q16 ?_
     refine AO.guardU rfl rfl rfl (ltb rfl) rfl ?_
     refine AO.guardU rfl rfl rfl (ltb rfl) rfl ?_
     refine AO.guardU rfl rfl rfl (ltb rfl) rfl ?_
     refine AO.guardU rfl rfl rfl (ltb rfl) rfl ?_
     refine AO.guardU rfl rfl rfl (ltb rfl) rfl ?_
     refine AO.guardN rfl rfl rfl (ltb rfl) rfl q16 ?_
     refine AO.op rfl (AOp.pick rfl rfl (ltb rfl) rfl q16 rfl ?_)
     refine AO.nil ?_
     exact ⟨true, _, rfl, (LeL.refl _), rfl, rfl, h1⟩
    replace h1 := cF h1 q16
    refine AO.guardY rfl rfl rfl q16 (AOp.move rfl rfl (ltb rfl) rfl ?_)
    refine AO.guardY rfl rfl rfl q16 (AOp.move rfl rfl (ltb rfl) rfl ?_)
    refine AO.dec a3 (fun q17 => ?_) (fun q17 => ?_)
    ·replace h1 := cT h1 q17
     refine AO.guardY rfl rfl rfl q17 (AOp.move rfl rfl (ltb rfl) rfl ?_)
     refine AO.guardY rfl rfl rfl q17 (AOp.move rfl rfl (ltb rfl) rfl ?_)
     obtain ⟨q18, h1⟩ := need_elim h1
     refine AO.guardY rfl rfl rfl q17 (AOp.isub rfl rfl (ltb rfl) rfl rfl rfl q18.1 q18.2 ?_)
     refine AO.guardY rfl rfl rfl q17 (AOp.move rfl rfl (ltb rfl) rfl ?_)
     refine AO.guardY rfl rfl rfl q17 (AOp.igtr rfl rfl (ltb rfl) rfl rfl ?_)
     refine AO.guardY rfl rfl rfl q16 (AOp.pick rfl rfl (ltb rfl) rfl q17 rfl ?_)
     refine AO.op rfl (AOp.pickN rfl rfl (ltb rfl) rfl q16 rfl ?_)
     refine AO.nil ?_
     exact ⟨(decide (a2 < (x8 - g4.1))), _, rfl, (LeL.refl _), rfl, rfl, h1⟩
    replace h1 := cF h1 q17
    refine AO.guardN rfl rfl rfl (ltb rfl) rfl q17 ?_
    refine AO.guardN rfl rfl rfl (ltb rfl) rfl q17 ?_
    refine AO.guardN rfl rfl rfl (ltb rfl) rfl q17 ?_
    refine AO.guardN rfl rfl rfl (ltb rfl) rfl q17 ?_
    refine AO.guardN rfl rfl rfl (ltb rfl) rfl q17 ?_
    refine AO.guardY rfl rfl rfl q16 (AOp.pickN rfl rfl (ltb rfl) rfl q17 rfl ?_)
    refine AO.op rfl (AOp.pickN rfl rfl (ltb rfl) rfl q16 rfl ?_)
    refine AO.nil ?_
    exact ⟨false, _, rfl, (LeL.refl _), rfl, rfl, h1⟩
   intro g10 h1
   unfold p_goodEnds_k3 at h1
   refine AC.cond rfl (fun q11 => ?_) (fun q11 => ?_)
   ·replace h1 := cT h1 q11
    refine AC.seq ?_
    refine AC.region ?_
    refine AO.op rfl (AOp.move rfl rfl (ltb rfl) rfl ?_)
    refine AO.op rfl (AOp.assign rfl rfl (ltb rfl) rfl ?_)
    refine AO.op rfl (AOp.assign rfl rfl (ltb rfl) rfl ?_)
    refine AO.nil ?_
    change AC _ _ _ _
    refine AC.ret ?_
    change RetQ _ _ _ .ret _
    obtain rfl := Option.some.inj h1
    replace h0 := aftR h0
    obtain rfl := Option.some.inj h0
    refine retq rfl rfl
   replace h1 := cF h1 q11
   refine AC.skip ?_
   change AC _ _ _ _
   refine AC.region ?_
   refine AO.op rfl (AOp.move rfl rfl (ltb rfl) rfl ?_)
   refine AO.op rfl (AOp.assign rfl rfl (ltb rfl) rfl ?_)
   refine AO.nil ?_
   change AC _ _ _ _
   refine AC.region ?_
   obtain ⟨q12, h1⟩ := need_elim h1
   refine AO.op rfl (AOp.iadd rfl rfl (ltb rfl) rfl rfl rfl q12.1 q12.2 ?_)
   refine AO.op rfl (AOp.move rfl rfl (ltb rfl) rfl ?_)
   refine AO.nil ?_
   exact ⟨(x8, (g4.2 + (1 : Int))), _, rfl, (LeL.refl _), rfl, rfl, h1⟩
  replace h1 := cF h1 q7
  refine AC.exit ?_
  obtain rfl := Option.some.inj h1
  exact ⟨g4.1, _, rfl, (LeL.refl _), rfl, rfl, aftL h0⟩
 intro g3 h0
 unfold p_goodEnds_k1 at h0
 change AC _ _ _ _
 refine AC.seq ?_
 refine AC.region ?_
 refine AO.op rfl (AOp.move rfl rfl (ltb rfl) rfl ?_)
 refine AO.op rfl (AOp.assign rfl rfl (ltb rfl) rfl ?_)
 refine AO.op rfl (AOp.assign rfl rfl (ltb rfl) rfl ?_)
 refine AO.nil ?_
 change AC _ _ _ _
 refine AC.ret ?_
 change RetQ _ _ _ .ret _
 obtain rfl := Option.some.inj h0
 refine retq rfl rfl

set_option maxRecDepth 100000 in
set_option maxHeartbeats 4000000 in
/-- pub-orthodrome/spec.Good -/
theorem w_Good_b (Rec_ : TImpl_Geom → Option Bool) (hR : ∀ (a0 : TImpl_Geom) (r0 : Bool), Rec_ a0 = some r0 → FnD Try.prog 19 [e_TImpl_Geom a0] (fun r => r = dbool r0)) (F : Nat) (a0 : TImpl_Geom) (r0 : Bool) (h0 : p_Good_b Rec_ F a0 = some r0) : FnD Try.prog 19 [e_TImpl_Geom a0] (fun r => r = dbool r0) := by
 refine FnD.of (by kernel_rfl) Try.func19 rfl Try.ntmps19 rfl (leb rfl) fun W ok => ?_
 unfold p_Good_b at h0
 refine AC.seq ?_
 refine AC.region ?_
 refine AO.op rfl (AOp.box rfl rfl (ltb rfl) rfl rfl ?_)
 refine AO.op rfl (AOp.assign rfl rfl (ltb rfl) rfl ?_)
 refine AO.nil ?_
 change AC _ _ _ _
 refine AC.seq ?_
 refine AC.region ?_
 refine AO.op rfl (AOp.fieldAddr rfl rfl (ltb rfl) rfl fo27_1 ?_)
 refine AO.op rfl (AOp.load1 rfl rfl (ltb rfl) rfl agg3 rfl rfl ?_)
 obtain ⟨y1, q2, h0⟩ := bind_elim h0
 refine AO.op rfl (AOp.callD rfl rfl (ltb rfl) rfl rfl (w_Stride a0.Layout y1 q2) ?_)
 rintro _ rfl
 refine AO.op rfl (AOp.assign rfl rfl (ltb rfl) rfl ?_)
 refine AO.nil ?_
 change AC _ _ _ _
 refine AC.seq ?_
 refine AC.seq ?_
 refine AC.region ?_
 refine AO.op rfl (AOp.fieldAddr rfl rfl (ltb rfl) rfl fo27_0 ?_)
 refine AO.op rfl (AOp.load1 rfl rfl (ltb rfl) rfl agg3 rfl rfl ?_)
 refine AO.op rfl (AOp.ieql rfl rfl (ltb rfl) rfl rfl ?_)
 refine AO.nil ?_
 change AC _ _ _ _
 refine AC.cond rfl (fun q3 => ?_) (fun q3 => ?_)
 ·replace h0 := cT h0 q3
  refine AC.seq ?_
  refine AC.seq ?_
  refine AC.region ?_
  refine AO.op rfl (AOp.fieldAddr rfl rfl (ltb rfl) rfl fo27_6 ?_)
  refine AO.op rfl (AOp.load1 rfl rfl (ltb rfl) rfl agg25 rfl rfl ?_)
  refine AO.op rfl (AOp.lenDs (n := a0.Kids.length) (cells := (List.flatMap c0_TImpl_Geom a0.Kids)) rfl rfl (ltb rfl) rfl el25 (by decide) (lenN _ 7 c0_TImpl_Geom_len _) ?_)
  refine AO.op rfl (AOp.move rfl rfl (ltb rfl) rfl ?_)
  refine AO.nil ?_
  change AC _ _ _ _
  obtain ⟨o4, l5, h0⟩ := bind_elim h0
  refine AC.joinE (V := Unit) [1] [] 1 (fun g6 => []) (fun g6 => [.fix 27 [.d (di .i64 a0.Kind), .d (di .i64 a0.Layout), .d (di .i64 a0.SRID), .d (eS1 a0.Flat), .d (eS2 a0.Ends), .d (eS3 a0.Endss), .d (eS0 a0.Kids)]]) (fun g6 => (p_Good_k1 a0) g6 = some r0) rfl ?_ ?_
  ·refine AC.block ?_
   refine AC.loopP (V := Int) (p_Good_l3 a0 F Rec_) o4 [1, 20, 21] [22] 1 (fun g9 => [(22, .d (di .i64 g9))]) (fun g9 => [.fix 27 [.d (di .i64 a0.Kind), .d (di .i64 a0.Layout), .d (di .i64 a0.SRID), .d (eS1 a0.Flat), .d (eS2 a0.Ends), .d (eS3 a0.Endss), .d (eS0 a0.Kids)]]) F (0 : Int) l5 rfl rfl (LeL.refl _) rfl rfl ?_
   intro n11 g9 h1
   unfold p_Good_l3 at h1
   refine AC.seq ?_
   refine AC.region ?_
   refine AO.op rfl (AOp.ilss rfl rfl (ltb rfl) rfl rfl ?_)
   refine AO.nil ?_
   change AC _ _ _ _
   refine AC.seq ?_
   refine AC.cond rfl (fun q12 => ?_) (fun q12 => ?_)
   ·replace h1 := cT h1 q12
    refine AC.skip ?_
    change AC _ _ _ _
    refine AC.seq ?_
    refine AC.block ?_
    refine AC.seq ?_
    refine AC.region ?_
    obtain ⟨x13, q14, h1⟩ := idx_elim h1
    refine AO.op rfl (AOp.indexDs (cells := (List.flatMap c0_TImpl_Geom a0.Kids)) rfl rfl (ltb rfl) rfl rfl el25 (by decide) q14.1 (ltN 7 c0_TImpl_Geom_len (by decide) q14.2) ?_)
    refine AO.op rfl (AOp.loadEpN rfl rfl (ltb rfl) rfl agg27 size27 (leN 7 c0_TImpl_Geom_len q14.2) ((atN 7 c0_TImpl_Geom_len q14.2).trans (c0_TImpl_Geom_eq x13)) ?_)
    refine AO.op rfl (AOp.alloc rfl rfl (ltb rfl) zero27 rfl ?_)
    refine AO.op rfl (AOp.store rfl rfl rfl rfl size27 rfl rfl rfl (leb rfl) ?_)
    refine AO.nil ?_
    change AC _ _ _ _
    refine AC.seq ?_
    refine AC.draw 15 mixed (by kernel_rfl) ?_
    refine AD.op [5] rfl (by kernel_rfl) rfl rfl (fun _ _ h => AOp.loadN rfl rfl (ltb rfl) rfl agg27 size27 rfl (leb rfl) rfl h) ?_
    obtain ⟨y15, q16, h1⟩ := bind_elim h1
    refine AD.op [26] rfl (by kernel_rfl) rfl rfl (fun _ _ h => AOp.callD rfl rfl (ltb rfl) rfl rfl (hR x13 y15 q16) (by rintro _ rfl; exact h)) ?_
    refine AD.op [27] rfl (by kernel_rfl) rfl rfl (fun _ _ h => AOp.bnot rfl rfl (ltb rfl) rfl h) ?_
    refine AD.op [28] rfl (by kernel_rfl) rfl rfl (fun _ _ h => AOp.move rfl rfl (ltb rfl) rfl h) ?_
    refine AD.dec (!y15) (fun q17 => ?_) (fun q17 => ?_)
    ·replace h1 := cT h1 q17
     refine AD.opN rfl rfl rfl (ltb rfl) rfl q17 ?_
     refine AD.opN rfl rfl rfl (ltb rfl) rfl q17 ?_
     refine AD.opN rfl rfl rfl (ltb rfl) rfl q17 ?_
     refine AD.opN rfl rfl rfl (ltb rfl) rfl q17 ?_
     refine AD.opU rfl rfl rfl (ltb rfl) rfl ?_
     refine AD.opU rfl rfl rfl (ltb rfl) rfl ?_
     refine AD.opU rfl rfl rfl (ltb rfl) rfl ?_
     refine AD.opU rfl rfl rfl (ltb rfl) rfl ?_
     refine AD.opU rfl rfl rfl (ltb rfl) rfl ?_
     refine AD.opN rfl rfl rfl (ltb rfl) rfl q17 ?_
     refine AD.op [29, 39] rfl (by kernel_rfl) rfl rfl (fun _ _ h => AOp.pick rfl rfl (ltb rfl) rfl q17 rfl h) ?_
     refine AD.done ?_
     refine AO.nil ?_
     change AC _ _ _ _
     refine AC.condT rfl rfl ?_
     refine AC.seq ?_
     refine AC.region ?_
     refine AO.op rfl (AOp.assign rfl rfl (ltb rfl) rfl ?_)
     refine AO.nil ?_
     change AC _ _ _ _
     refine AC.ret ?_
     change RetQ _ _ _ .ret _
     obtain rfl := Option.some.inj h1
     replace h0 := aftR h0
     obtain rfl := Option.some.inj h0
     refine retq rfl rfl
    replace h1 := cF h1 q17
    refine AD.opY [1, 29] rfl rfl rfl q17 (by kernel_rfl) rfl rfl (fun _ _ h => AOp.fieldAddr rfl rfl (ltb rfl) rfl fo27_1 h) ?_
    refine AD.opY [29, 30] rfl rfl rfl q17 (by kernel_rfl) rfl rfl (fun _ _ h => AOp.load1 rfl rfl (ltb rfl) rfl agg3 rfl rfl h) ?_
    refine AD.opY [29, 31] rfl rfl rfl q17 (by kernel_rfl) rfl rfl (fun _ _ h => AOp.ineq rfl rfl (ltb rfl) rfl rfl h) ?_
    refine AD.opY [29, 32] rfl rfl rfl q17 (by kernel_rfl) rfl rfl (fun _ _ h => AOp.move rfl rfl (ltb rfl) rfl h) ?_
    refine AD.dec (!decide (a0.Layout = (0 : Int))) (fun q18 => ?_) (fun q18 => ?_)
    ·replace h1 := cT h1 q18
     refine AD.opY [5, 33] rfl rfl rfl q18 (by kernel_rfl) rfl rfl (fun _ _ h => AOp.loadN rfl rfl (ltb rfl) rfl agg27 size27 rfl (leb rfl) rfl h) ?_
     obtain ⟨y19, q20, h1⟩ := bind_elim h1
     refine AD.opY [33, 34] rfl rfl rfl q18 (by kernel_rfl) rfl rfl (fun _ _ h => AOp.callD rfl rfl (ltb rfl) rfl rfl (w_LayoutOf F x13 y19 q20) (by rintro _ rfl; exact h)) ?_
     refine AD.opY [1, 33] rfl rfl rfl q18 (by kernel_rfl) rfl rfl (fun _ _ h => AOp.fieldAddr rfl rfl (ltb rfl) rfl fo27_1 h) ?_
     refine AD.opY [33, 36] rfl rfl rfl q18 (by kernel_rfl) rfl rfl (fun _ _ h => AOp.load1 rfl rfl (ltb rfl) rfl agg3 rfl rfl h) ?_
     refine AD.opY [33, 35, 37] rfl rfl rfl q18 (by kernel_rfl) rfl rfl (fun _ _ h => AOp.ineq rfl rfl (ltb rfl) rfl rfl h) ?_
     refine AD.opY [29, 33, 38] rfl rfl rfl q17 (by kernel_rfl) rfl rfl (fun _ _ h => AOp.pick rfl rfl (ltb rfl) rfl q18 rfl h) ?_
     refine AD.op [29, 39] rfl (by kernel_rfl) rfl rfl (fun _ _ h => AOp.pickN rfl rfl (ltb rfl) rfl q17 rfl h) ?_
     refine AD.done ?_
     refine AO.nil ?_
     change AC _ _ _ _
     refine AC.cond rfl (fun q21 => ?_) (fun q21 => ?_)
     ·replace h1 := cT h1 q21
      refine AC.seq ?_
      refine AC.region ?_
      refine AO.op rfl (AOp.assign rfl rfl (ltb rfl) rfl ?_)
      refine AO.nil ?_
      change AC _ _ _ _
      refine AC.ret ?_
      change RetQ _ _ _ .ret _
      obtain rfl := Option.some.inj h1
      replace h0 := aftR h0
      obtain rfl := Option.some.inj h0
      refine retq rfl rfl
     replace h1 := cF h1 q21
     refine AC.skip ?_
     change AC _ _ _ _
     refine AC.region ?_
     obtain ⟨q22, h1⟩ := need_elim h1
     refine AO.op rfl (AOp.iadd rfl rfl (ltb rfl) rfl rfl rfl q22.1 q22.2 ?_)
     refine AO.op rfl (AOp.move rfl rfl (ltb rfl) rfl ?_)
     refine AO.nil ?_
     exact ⟨(g9 + (1 : Int)), _, rfl, (LeL.refl _), rfl, rfl, h1⟩
    replace h1 := cF h1 q18
    refine AD.opN rfl rfl rfl (ltb rfl) rfl q18 ?_
    refine AD.opN rfl rfl rfl (ltb rfl) rfl q18 ?_
    refine AD.opN rfl rfl rfl (ltb rfl) rfl q18 ?_
    refine AD.opN rfl rfl rfl (ltb rfl) rfl q18 ?_
    refine AD.opN rfl rfl rfl (ltb rfl) rfl q18 ?_
    refine AD.opY [29, 33, 38] rfl rfl rfl q17 (by kernel_rfl) rfl rfl (fun _ _ h => AOp.pickN rfl rfl (ltb rfl) rfl q18 rfl h) ?_
    refine AD.op [29, 39] rfl (by kernel_rfl) rfl rfl (fun _ _ h => AOp.pickN rfl rfl (ltb rfl) rfl q17 rfl h) ?_
    refine AD.done ?_
    refine AO.nil ?_
    change AC _ _ _ _
    refine AC.condF rfl rfl ?_
    refine AC.skip ?_
    change AC _ _ _ _
    refine AC.region ?_
    obtain ⟨q23, h1⟩ := need_elim h1
    refine AO.op rfl (AOp.iadd rfl rfl (ltb rfl) rfl rfl rfl q23.1 q23.2 ?_)
    refine AO.op rfl (AOp.move rfl rfl (ltb rfl) rfl ?_)
    refine AO.nil ?_
    exact ⟨(g9 + (1 : Int)), _, rfl, (LeL.refl _), rfl, rfl, h1⟩
   replace h1 := cF h1 q12
   refine AC.exit ?_
   obtain rfl := Option.some.inj h1
   exact ⟨(), _, rfl, (LeL.refl _), rfl, rfl, aftL h0⟩
  intro g6 h0
  unfold p_Good_k1 at h0
  change AC _ _ _ _
  refine AC.joinP (V := Bool) [] [2] 1 (fun g7 => [(2, .d (dbool g7))]) (fun g7 => [.fix 27 [.d (di .i64 a0.Kind), .d (di .i64 a0.Layout), .d (di .i64 a0.SRID), .d (eS1 a0.Flat), .d (eS2 a0.Ends), .d (eS3 a0.Endss), .d (eS0 a0.Kids)]]) (fun g7 => p_Good_k2 g7 = some r0) rfl ?_ ?_
  ·refine AC.region ?_
   refine AO.op rfl (AOp.fieldAddr rfl rfl (ltb rfl) rfl fo27_1 ?_)
   refine AO.op rfl (AOp.load1 rfl rfl (ltb rfl) rfl agg3 rfl rfl ?_)
   refine AO.op rfl (AOp.igeq rfl rfl (ltb rfl) rfl rfl ?_)
   refine AO.op rfl (AOp.move rfl rfl (ltb rfl) rfl ?_)
   refine AO.dec (decide ((0 : Int) ≤ a0.Layout)) (fun q8 => ?_) (fun q8 => ?_)
   ·replace h0 := cT h0 q8
    refine AO.guardY rfl rfl rfl q8 (AOp.fieldAddr rfl rfl (ltb rfl) rfl fo27_3 ?_)
    refine AO.guardY rfl rfl rfl q8 (AOp.load1 rfl rfl (ltb rfl) rfl agg22 rfl rfl ?_)
    refine AO.guardY rfl rfl rfl q8 (AOp.lenDs (n := a0.Flat.length) (cells := (List.map keS1 a0.Flat)) rfl rfl (ltb rfl) rfl el22 (by decide) (len1 _ _) ?_)
    refine AO.guardY rfl rfl rfl q8 (AOp.fieldAddr rfl rfl (ltb rfl) rfl fo27_4 ?_)
    refine AO.guardY rfl rfl rfl q8 (AOp.load1 rfl rfl (ltb rfl) rfl agg23 rfl rfl ?_)
    refine AO.guardY rfl rfl rfl q8 (AOp.lenDs (n := a0.Ends.length) (cells := (List.map keS2 a0.Ends)) rfl rfl (ltb rfl) rfl el23 (by decide) (len1 _ _) ?_)
    refine AO.guardY rfl rfl rfl q8 (AOp.iwAdd rfl rfl (ltb rfl) rfl rfl ?_)
    refine AO.guardY rfl rfl rfl q8 (AOp.fieldAddr rfl rfl (ltb rfl) rfl fo27_5 ?_)
    refine AO.guardY rfl rfl rfl q8 (AOp.load1 rfl rfl (ltb rfl) rfl agg24 rfl rfl ?_)
    refine AO.guardY rfl rfl rfl q8 (AOp.lenDs (n := a0.Endss.length) (cells := (List.map keS3 a0.Endss)) rfl rfl (ltb rfl) rfl el24 (by decide) (len1 _ _) ?_)
    refine AO.guardY rfl rfl rfl q8 (AOp.iwAdd rfl rfl (ltb rfl) rfl rfl ?_)
    refine AO.guardY rfl rfl rfl q8 (AOp.ieql rfl rfl (ltb rfl) rfl rfl ?_)
    refine AO.op rfl (AOp.pick rfl rfl (ltb rfl) rfl q8 rfl ?_)
    refine AO.op rfl (AOp.assign rfl rfl (ltb rfl) rfl ?_)
    refine AO.nil ?_
    exact ⟨(decide ((IntKind.i64.wrap ((IntKind.i64.wrap (((a0.Flat.length : Nat) : Int) + ((a0.Ends.length : Nat) : Int))) + ((a0.Endss.length : Nat) : Int))) = (0 : Int))), _, rfl, (LeL.refl _), rfl, rfl, h0⟩
   replace h0 := cF h0 q8
   refine AO.guardN rfl rfl rfl (ltb rfl) rfl q8 ?_
   refine AO.guardN rfl rfl rfl (ltb rfl) rfl q8 ?_
   refine AO.guardN rfl rfl rfl (ltb rfl) rfl q8 ?_
   refine AO.guardN rfl rfl rfl (ltb rfl) rfl q8 ?_
   refine AO.guardN rfl rfl rfl (ltb rfl) rfl q8 ?_
   refine AO.guardN rfl rfl rfl (ltb rfl) rfl q8 ?_
   refine AO.guardN rfl rfl rfl (ltb rfl) rfl q8 ?_
   refine AO.guardN rfl rfl rfl (ltb rfl) rfl q8 ?_
   refine AO.guardN rfl rfl rfl (ltb rfl) rfl q8 ?_
   refine AO.guardN rfl rfl rfl (ltb rfl) rfl q8 ?_
   refine AO.guardN rfl rfl rfl (ltb rfl) rfl q8 ?_
   refine AO.guardN rfl rfl rfl (ltb rfl) rfl q8 ?_
   refine AO.op rfl (AOp.pickN rfl rfl (ltb rfl) rfl q8 rfl ?_)
   refine AO.op rfl (AOp.assign rfl rfl (ltb rfl) rfl ?_)
   refine AO.nil ?_
   exact ⟨false, _, rfl, (LeL.refl _), rfl, rfl, h0⟩
  intro g7 h0
  unfold p_Good_k2 at h0
  refine AC.ret ?_
  change RetQ _ _ _ .ret _
  obtain rfl := Option.some.inj h0
  refine retq rfl rfl
 replace h0 := cF h0 q3
 refine AC.skip ?_
 change AC _ _ _ _
 refine AC.joinP (V := Unit) [1, 3] [] 1 (fun g24 => []) (fun g24 => [.fix 27 [.d (di .i64 a0.Kind), .d (di .i64 a0.Layout), .d (di .i64 a0.SRID), .d (eS1 a0.Flat), .d (eS2 a0.Ends), .d (eS3 a0.Endss), .d (eS0 a0.Kids)]]) (fun g24 => (p_Good_k4 a0 F y1) g24 = some r0) rfl ?_ ?_
 ·refine AC.seq ?_
  refine AC.region ?_
  refine AO.op rfl (AOp.move rfl rfl (ltb rfl) rfl ?_)
  refine AO.op rfl (AOp.ieql rfl rfl (ltb rfl) rfl rfl ?_)
  refine AO.op rfl (AOp.move rfl rfl (ltb rfl) rfl ?_)
  refine AO.dec (decide (y1 = (0 : Int))) (fun q54 => ?_) (fun q54 => ?_)
  ·replace h0 := cT h0 q54
   refine AO.guardN rfl rfl rfl (ltb rfl) rfl q54 ?_
   refine AO.guardN rfl rfl rfl (ltb rfl) rfl q54 ?_
   refine AO.guardN rfl rfl rfl (ltb rfl) rfl q54 ?_
   refine AO.guardN rfl rfl rfl (ltb rfl) rfl q54 ?_
   refine AO.guardN rfl rfl rfl (ltb rfl) rfl q54 ?_
   refine AO.guardN rfl rfl rfl (ltb rfl) rfl q54 ?_
   refine AO.op rfl (AOp.pick rfl rfl (ltb rfl) rfl q54 rfl ?_)
   refine AO.op rfl (AOp.move rfl rfl (ltb rfl) rfl ?_)
   refine AO.guardN rfl rfl rfl (ltb rfl) rfl rfl ?_
   refine AO.guardN rfl rfl rfl (ltb rfl) rfl rfl ?_
   refine AO.guardN rfl rfl rfl (ltb rfl) rfl rfl ?_
   refine AO.guardN rfl rfl rfl (ltb rfl) rfl rfl ?_
   refine AO.op rfl (AOp.pick rfl rfl (ltb rfl) rfl rfl rfl ?_)
   refine AO.op rfl (AOp.move rfl rfl (ltb rfl) rfl ?_)
   refine AO.guardN rfl rfl rfl (ltb rfl) rfl rfl ?_
   refine AO.guardN rfl rfl rfl (ltb rfl) rfl rfl ?_
   refine AO.guardN rfl rfl rfl (ltb rfl) rfl rfl ?_
   refine AO.guardN rfl rfl rfl (ltb rfl) rfl rfl ?_
   refine AO.guardN rfl rfl rfl (ltb rfl) rfl rfl ?_
   refine AO.guardU rfl rfl rfl (ltb rfl) rfl ?_
   refine AO.guardU rfl rfl rfl (ltb rfl) rfl ?_
   refine AO.guardU rfl rfl rfl (ltb rfl) rfl ?_
   refine AO.guardN rfl rfl rfl (ltb rfl) rfl rfl ?_
   refine AO.op rfl (AOp.pick rfl rfl (ltb rfl) rfl rfl rfl ?_)
   refine AO.nil ?_
   change AC _ _ _ _
   refine AC.condT rfl rfl ?_
   refine AC.seq ?_
   refine AC.region ?_
   refine AO.op rfl (AOp.assign rfl rfl (ltb rfl) rfl ?_)
   refine AO.nil ?_
   change AC _ _ _ _
   refine AC.ret ?_
   change RetQ _ _ _ .ret _
   obtain rfl := Option.some.inj h0
   refine retq rfl rfl
  replace h0 := cF h0 q54
  refine AO.guardY rfl rfl rfl q54 (AOp.fieldAddr rfl rfl (ltb rfl) rfl fo27_3 ?_)
  refine AO.guardY rfl rfl rfl q54 (AOp.load1 rfl rfl (ltb rfl) rfl agg22 rfl rfl ?_)
  refine AO.guardY rfl rfl rfl q54 (AOp.lenDs (n := a0.Flat.length) (cells := (List.map keS1 a0.Flat)) rfl rfl (ltb rfl) rfl el22 (by decide) (len1 _ _) ?_)
  refine AO.guardY rfl rfl rfl q54 (AOp.move rfl rfl (ltb rfl) rfl ?_)
  obtain ⟨q55, h0⟩ := need_elim h0
  refine AO.guardY rfl rfl rfl q54 (AOp.irem rfl rfl (ltb rfl) rfl rfl q55 rfl ?_)
  refine AO.guardY rfl rfl rfl q54 (AOp.ineq rfl rfl (ltb rfl) rfl rfl ?_)
  refine AO.op rfl (AOp.pickN rfl rfl (ltb rfl) rfl q54 rfl ?_)
  refine AO.op rfl (AOp.move rfl rfl (ltb rfl) rfl ?_)
  refine AO.dec (!decide ((Int.tmod ((a0.Flat.length : Nat) : Int) y1) = (0 : Int))) (fun q56 => ?_) (fun q56 => ?_)
  ·replace h0 := cT h0 q56
   refine AO.guardN rfl rfl rfl (ltb rfl) rfl q56 ?_
   refine AO.guardN rfl rfl rfl (ltb rfl) rfl q56 ?_
   refine AO.guardN rfl rfl rfl (ltb rfl) rfl q56 ?_
   refine AO.guardN rfl rfl rfl (ltb rfl) rfl q56 ?_
   refine AO.op rfl (AOp.pick rfl rfl (ltb rfl) rfl q56 rfl ?_)
   refine AO.op rfl (AOp.move rfl rfl (ltb rfl) rfl ?_)
   refine AO.guardN rfl rfl rfl (ltb rfl) rfl rfl ?_
   refine AO.guardN rfl rfl rfl (ltb rfl) rfl rfl ?_
   refine AO.guardN rfl rfl rfl (ltb rfl) rfl rfl ?_
   refine AO.guardN rfl rfl rfl (ltb rfl) rfl rfl ?_
   refine AO.guardN rfl rfl rfl (ltb rfl) rfl rfl ?_
   refine AO.guardU rfl rfl rfl (ltb rfl) rfl ?_
   refine AO.guardU rfl rfl rfl (ltb rfl) rfl ?_
   refine AO.guardU rfl rfl rfl (ltb rfl) rfl ?_
   refine AO.guardN rfl rfl rfl (ltb rfl) rfl rfl ?_
   refine AO.op rfl (AOp.pick rfl rfl (ltb rfl) rfl rfl rfl ?_)
   refine AO.nil ?_
   change AC _ _ _ _
   refine AC.condT rfl rfl ?_
   refine AC.seq ?_
   refine AC.region ?_
   refine AO.op rfl (AOp.assign rfl rfl (ltb rfl) rfl ?_)
   refine AO.nil ?_
   change AC _ _ _ _
   refine AC.ret ?_
   change RetQ _ _ _ .ret _
   obtain rfl := Option.some.inj h0
   refine retq rfl rfl
  replace h0 := cF h0 q56
  refine AO.guardY rfl rfl rfl q56 (AOp.fieldAddr rfl rfl (ltb rfl) rfl fo27_6 ?_)
  refine AO.guardY rfl rfl rfl q56 (AOp.load1 rfl rfl (ltb rfl) rfl agg25 rfl rfl ?_)
  refine AO.guardY rfl rfl rfl q56 (AOp.lenDs (n := a0.Kids.length) (cells := (List.flatMap c0_TImpl_Geom a0.Kids)) rfl rfl (ltb rfl) rfl el25 (by decide) (lenN _ 7 c0_TImpl_Geom_len _) ?_)
  refine AO.guardY rfl rfl rfl q56 (AOp.igtr rfl rfl (ltb rfl) rfl rfl ?_)
  refine AO.op rfl (AOp.pickN rfl rfl (ltb rfl) rfl q56 rfl ?_)
  refine AO.op rfl (AOp.move rfl rfl (ltb rfl) rfl ?_)
  refine AO.dec (decide ((0 : Int) < ((a0.Kids.length : Nat) : Int))) (fun q57 => ?_) (fun q57 => ?_)
  ·replace h0 := cT h0 q57
   refine AO.guardN rfl rfl rfl (ltb rfl) rfl q57 ?_
   refine AO.guardN rfl rfl rfl (ltb rfl) rfl q57 ?_
   refine AO.guardN rfl rfl rfl (ltb rfl) rfl q57 ?_
   refine AO.guardN rfl rfl rfl (ltb rfl) rfl q57 ?_
   refine AO.guardN rfl rfl rfl (ltb rfl) rfl q57 ?_
   refine AO.guardU rfl rfl rfl (ltb rfl) rfl ?_
   refine AO.guardU rfl rfl rfl (ltb rfl) rfl ?_
   refine AO.guardU rfl rfl rfl (ltb rfl) rfl ?_
   refine AO.guardN rfl rfl rfl (ltb rfl) rfl q57 ?_
   refine AO.op rfl (AOp.pick rfl rfl (ltb rfl) rfl q57 rfl ?_)
   refine AO.nil ?_
   change AC _ _ _ _
   refine AC.condT rfl rfl ?_
   refine AC.seq ?_
   refine AC.region ?_
   refine AO.op rfl (AOp.assign rfl rfl (ltb rfl) rfl ?_)
   refine AO.nil ?_
   change AC _ _ _ _
   refine AC.ret ?_
   change RetQ _ _ _ .ret _
   obtain rfl := Option.some.inj h0
   refine retq rfl rfl
  replace h0 := cF h0 q57
  refine AO.guardY rfl rfl rfl q57 (AOp.fieldAddr rfl rfl (ltb rfl) rfl fo27_5 ?_)
  refine AO.guardY rfl rfl rfl q57 (AOp.load1 rfl rfl (ltb rfl) rfl agg24 rfl rfl ?_)
  refine AO.guardY rfl rfl rfl q57 (AOp.lenDs (n := a0.Endss.length) (cells := (List.map keS3 a0.Endss)) rfl rfl (ltb rfl) rfl el24 (by decide) (len1 _ _) ?_)
  refine AO.guardY rfl rfl rfl q57 (AOp.igtr rfl rfl (ltb rfl) rfl rfl ?_)
  refine AO.guardY rfl rfl rfl q57 (AOp.move rfl rfl (ltb rfl) rfl ?_)
  refine AO.dec (decide ((0 : Int) < ((a0.Endss.length : Nat) : Int))) (fun q58 => ?_) (fun q58 => ?_)
  ·replace h0 := cT h0 q58
   refine AO.guardY rfl rfl rfl q58 (AOp.fieldAddr rfl rfl (ltb rfl) rfl fo27_0 ?_)
   refine AO.guardY rfl rfl rfl q58 (AOp.load1 rfl rfl (ltb rfl) rfl agg3 rfl rfl ?_)
   refine AO.guardY rfl rfl rfl q58 (AOp.ineq rfl rfl (ltb rfl) rfl rfl ?_)
   refine AO.guardY rfl rfl rfl q57 (AOp.pick rfl rfl (ltb rfl) rfl q58 rfl ?_)
   refine AO.op rfl (AOp.pickN rfl rfl (ltb rfl) rfl q57 rfl ?_)
   refine AO.nil ?_
   change AC _ _ _ _
   refine AC.cond rfl (fun q59 => ?_) (fun q59 => ?_)
   ·replace h0 := cT h0 q59
    refine AC.seq ?_
    refine AC.region ?_
    refine AO.op rfl (AOp.assign rfl rfl (ltb rfl) rfl ?_)
    refine AO.nil ?_
    change AC _ _ _ _
    refine AC.ret ?_
    change RetQ _ _ _ .ret _
    obtain rfl := Option.some.inj h0
    refine retq rfl rfl
   replace h0 := cF h0 q59
   refine AC.skip ?_
   exact ⟨(), _, rfl, (LeL.refl _), rfl, rfl, h0⟩
  replace h0 := cF h0 q58
  refine AO.guardN rfl rfl rfl (ltb rfl) rfl q58 ?_
  refine AO.guardN rfl rfl rfl (ltb rfl) rfl q58 ?_
  refine AO.guardN rfl rfl rfl (ltb rfl) rfl q58 ?_
  refine AO.guardY rfl rfl rfl q57 (AOp.pickN rfl rfl (ltb rfl) rfl q58 rfl ?_)
  refine AO.op rfl (AOp.pickN rfl rfl (ltb rfl) rfl q57 rfl ?_)
  refine AO.nil ?_
  change AC _ _ _ _
  refine AC.condF rfl rfl ?_
  refine AC.skip ?_
  exact ⟨(), _, rfl, (LeL.refl _), rfl, rfl, h0⟩
 intro g24 h0
 unfold p_Good_k4 at h0
 refine AC.seq ?_
 refine AC.seq ?_
 refine AC.region ?_
 refine AO.op rfl (AOp.fieldAddr rfl rfl (ltb rfl) rfl fo27_0 ?_)
 refine AO.op rfl (AOp.load1 rfl rfl (ltb rfl) rfl agg3 rfl rfl ?_)
 refine AO.nil ?_
 change AC _ _ _ _
 refine AC.block ?_
 refine AC.seq ?_
 refine AC.region ?_
 refine AO.op rfl (AOp.ieql rfl rfl (ltb rfl) rfl rfl ?_)
 refine AO.op rfl (AOp.assign rfl rfl (ltb rfl) rfl ?_)
 refine AO.nil ?_
 change AC _ _ _ _
 refine AC.cond rfl (fun q25 => ?_) (fun q25 => ?_)
 ·replace h0 := cT h0 q25
  refine AC.seq ?_
  refine AC.region ?_
  refine AO.op rfl (AOp.fieldAddr rfl rfl (ltb rfl) rfl fo27_4 ?_)
  refine AO.op rfl (AOp.load1 rfl rfl (ltb rfl) rfl agg23 rfl rfl ?_)
  refine AO.op rfl (AOp.lenDs (n := a0.Ends.length) (cells := (List.map keS2 a0.Ends)) rfl rfl (ltb rfl) rfl el23 (by decide) (len1 _ _) ?_)
  refine AO.op rfl (AOp.ieql rfl rfl (ltb rfl) rfl rfl ?_)
  refine AO.op rfl (AOp.move rfl rfl (ltb rfl) rfl ?_)
  refine AO.dec (decide (((a0.Ends.length : Nat) : Int) = (0 : Int))) (fun q26 => ?_) (fun q26 => ?_)
  ·replace h0 := cT h0 q26
   refine AO.guardY rfl rfl rfl q26 (AOp.fieldAddr rfl rfl (ltb rfl) rfl fo27_3 ?_)
   refine AO.guardY rfl rfl rfl q26 (AOp.load1 rfl rfl (ltb rfl) rfl agg22 rfl rfl ?_)
   refine AO.guardY rfl rfl rfl q26 (AOp.lenDs (n := a0.Flat.length) (cells := (List.map keS1 a0.Flat)) rfl rfl (ltb rfl) rfl el22 (by decide) (len1 _ _) ?_)
   refine AO.guardY rfl rfl rfl q26 (AOp.move rfl rfl (ltb rfl) rfl ?_)
   refine AO.guardY rfl rfl rfl q26 (AOp.ileq rfl rfl (ltb rfl) rfl rfl ?_)
   refine AO.op rfl (AOp.pick rfl rfl (ltb rfl) rfl q26 rfl ?_)
   refine AO.op rfl (AOp.assign rfl rfl (ltb rfl) rfl ?_)
   refine AO.nil ?_
   change AC _ _ _ _
   refine AC.ret ?_
   change RetQ _ _ _ .ret _
   obtain rfl := Option.some.inj h0
   refine retq rfl rfl
  replace h0 := cF h0 q26
  refine AO.guardN rfl rfl rfl (ltb rfl) rfl q26 ?_
  refine AO.guardN rfl rfl rfl (ltb rfl) rfl q26 ?_
  refine AO.guardN rfl rfl rfl (ltb rfl) rfl q26 ?_
  refine AO.guardN rfl rfl rfl (ltb rfl) rfl q26 ?_
  refine AO.guardN rfl rfl rfl (ltb rfl) rfl q26 ?_
  refine AO.op rfl (AOp.pickN rfl rfl (ltb rfl) rfl q26 rfl ?_)
  refine AO.op rfl (AOp.assign rfl rfl (ltb rfl) rfl ?_)
  refine AO.nil ?_
  change AC _ _ _ _
  refine AC.ret ?_
  change RetQ _ _ _ .ret _
  obtain rfl := Option.some.inj h0
  refine retq rfl rfl
 replace h0 := cF h0 q25
 refine AC.joinP (V := Bool) [1, 3, 87] [101] 1 (fun g27 => [(101, .d (dbool g27))]) (fun g27 => [.fix 27 [.d (di .i64 a0.Kind), .d (di .i64 a0.Layout), .d (di .i64 a0.SRID), .d (eS1 a0.Flat), .d (eS2 a0.Ends), .d (eS3 a0.Endss), .d (eS0 a0.Kids)]]) (fun g27 => (p_Good_k5 a0 F y1) g27 = some r0) rfl ?_ ?_
 ·refine AC.seq ?_
  refine AC.region ?_
  refine AO.op rfl (AOp.ieql rfl rfl (ltb rfl) rfl rfl ?_)
  refine AO.op rfl (AOp.assign rfl rfl (ltb rfl) rfl ?_)
  refine AO.nil ?_
  change AC _ _ _ _
  refine AC.cond rfl (fun q53 => ?_) (fun q53 => ?_)
  ·replace h0 := cT h0 q53
   refine AC.skip ?_
   exact ⟨(decide (a0.Kind = (2 : Int))), _, rfl, (LeL.refl _), rfl, rfl, h0⟩
  replace h0 := cF h0 q53
  refine AC.region ?_
  refine AO.op rfl (AOp.ieql rfl rfl (ltb rfl) rfl rfl ?_)
  refine AO.op rfl (AOp.assign rfl rfl (ltb rfl) rfl ?_)
  refine AO.nil ?_
  exact ⟨(decide (a0.Kind = (8 : Int))), _, rfl, (LeL.refl _), rfl, rfl, h0⟩
 intro g27 h0
 unfold p_Good_k5 at h0
 refine AC.cond rfl (fun q28 => ?_) (fun q28 => ?_)
 ·replace h0 := cT h0 q28
  refine AC.seq ?_
  refine AC.region ?_
  refine AO.op rfl (AOp.fieldAddr rfl rfl (ltb rfl) rfl fo27_4 ?_)
  refine AO.op rfl (AOp.load1 rfl rfl (ltb rfl) rfl agg23 rfl rfl ?_)
  refine AO.op rfl (AOp.lenDs (n := a0.Ends.length) (cells := (List.map keS2 a0.Ends)) rfl rfl (ltb rfl) rfl el23 (by decide) (len1 _ _) ?_)
  refine AO.op rfl (AOp.ieql rfl rfl (ltb rfl) rfl rfl ?_)
  refine AO.op rfl (AOp.assign rfl rfl (ltb rfl) rfl ?_)
  refine AO.nil ?_
  change AC _ _ _ _
  refine AC.ret ?_
  change RetQ _ _ _ .ret _
  obtain rfl := Option.some.inj h0
  refine retq rfl rfl
 replace h0 := cF h0 q28
 refine AC.joinP (V := Bool) [1, 3, 87] [108] 1 (fun g29 => [(108, .d (dbool g29))]) (fun g29 => [.fix 27 [.d (di .i64 a0.Kind), .d (di .i64 a0.Layout), .d (di .i64 a0.SRID), .d (eS1 a0.Flat), .d (eS2 a0.Ends), .d (eS3 a0.Endss), .d (eS0 a0.Kids)]]) (fun g29 => (p_Good_k6 a0 F y1) g29 = some r0) rfl ?_ ?_
 ·refine AC.seq ?_
  refine AC.region ?_
  refine AO.op rfl (AOp.ieql rfl rfl (ltb rfl) rfl rfl ?_)
  refine AO.op rfl (AOp.assign rfl rfl (ltb rfl) rfl ?_)
  refine AO.nil ?_
  change AC _ _ _ _
  refine AC.cond rfl (fun q51 => ?_) (fun q51 => ?_)
  ·replace h0 := cT h0 q51
   refine AC.skip ?_
   exact ⟨(decide (a0.Kind = (3 : Int))), _, rfl, (LeL.refl _), rfl, rfl, h0⟩
  replace h0 := cF h0 q51
  refine AC.seq ?_
  refine AC.region ?_
  refine AO.op rfl (AOp.ieql rfl rfl (ltb rfl) rfl rfl ?_)
  refine AO.op rfl (AOp.assign rfl rfl (ltb rfl) rfl ?_)
  refine AO.nil ?_
  change AC _ _ _ _
  refine AC.cond rfl (fun q52 => ?_) (fun q52 => ?_)
  ·replace h0 := cT h0 q52
   refine AC.skip ?_
   exact ⟨(decide (a0.Kind = (4 : Int))), _, rfl, (LeL.refl _), rfl, rfl, h0⟩
  replace h0 := cF h0 q52
  refine AC.region ?_
  refine AO.op rfl (AOp.ieql rfl rfl (ltb rfl) rfl rfl ?_)
  refine AO.op rfl (AOp.assign rfl rfl (ltb rfl) rfl ?_)
  refine AO.nil ?_
  exact ⟨(decide (a0.Kind = (5 : Int))), _, rfl, (LeL.refl _), rfl, rfl, h0⟩
 intro g29 h0
 unfold p_Good_k6 at h0
 refine AC.cond rfl (fun q30 => ?_) (fun q30 => ?_)
 ·replace h0 := cT h0 q30
  refine AC.seq ?_
  refine AC.region ?_
  refine AO.op rfl (AOp.fieldAddr rfl rfl (ltb rfl) rfl fo27_4 ?_)
  refine AO.op rfl (AOp.load1 rfl rfl (ltb rfl) rfl agg23 rfl rfl ?_)
  refine AO.op rfl (AOp.move rfl rfl (ltb rfl) rfl ?_)
  refine AO.op rfl (AOp.fieldAddr rfl rfl (ltb rfl) rfl fo27_0 ?_)
  refine AO.op rfl (AOp.load1 rfl rfl (ltb rfl) rfl agg3 rfl rfl ?_)
  refine AO.op rfl (AOp.ieql rfl rfl (ltb rfl) rfl rfl ?_)
  obtain ⟨y31, q32, h0⟩ := bind_elim h0
  refine AO.op rfl (AOp.callD rfl rfl (ltb rfl) rfl rfl (w_goodEnds F a0.Ends (0 : Int) y1 (decide (a0.Kind = (4 : Int))) y31 q32) ?_)
  rintro _ rfl
  refine AO.op rfl (AOp.move rfl rfl (ltb rfl) rfl ?_)
  first | refine AO.op rfl (AOp.extractD rfl rfl (ltb rfl) rfl rfl ?_) | refine AO.op rfl (AOp.extract rfl rfl (ltb rfl) rfl rfl ?_)
  first | refine AO.op rfl (AOp.extractD rfl rfl (ltb rfl) rfl rfl ?_) | refine AO.op rfl (AOp.extract rfl rfl (ltb rfl) rfl rfl ?_)
  refine AO.op rfl (AOp.assign rfl rfl (ltb rfl) rfl ?_)
  refine AO.op rfl (AOp.assign rfl rfl (ltb rfl) rfl ?_)
  refine AO.nil ?_
  change AC _ _ _ _
  refine AC.seq ?_
  refine AC.region ?_
  refine AO.op rfl (AOp.move rfl rfl (ltb rfl) rfl ?_)
  refine AO.op rfl (AOp.move rfl rfl (ltb rfl) rfl ?_)
  refine AO.dec y31.2 (fun q33 => ?_) (fun q33 => ?_)
  ·replace h0 := cT h0 q33
   refine AO.guardY rfl rfl rfl q33 (AOp.move rfl rfl (ltb rfl) rfl ?_)
   refine AO.guardY rfl rfl rfl q33 (AOp.fieldAddr rfl rfl (ltb rfl) rfl fo27_3 ?_)
   refine AO.guardY rfl rfl rfl q33 (AOp.load1 rfl rfl (ltb rfl) rfl agg22 rfl rfl ?_)
   refine AO.guardY rfl rfl rfl q33 (AOp.lenDs (n := a0.Flat.length) (cells := (List.map keS1 a0.Flat)) rfl rfl (ltb rfl) rfl el22 (by decide) (len1 _ _) ?_)
   refine AO.guardY rfl rfl rfl q33 (AOp.ieql rfl rfl (ltb rfl) rfl rfl ?_)
   refine AO.op rfl (AOp.pick rfl rfl (ltb rfl) rfl q33 rfl ?_)
   refine AO.op rfl (AOp.assign rfl rfl (ltb rfl) rfl ?_)
   refine AO.nil ?_
   change AC _ _ _ _
   refine AC.ret ?_
   change RetQ _ _ _ .ret _
   obtain rfl := Option.some.inj h0
   refine retq rfl rfl
  replace h0 := cF h0 q33
  refine AO.guardN rfl rfl rfl (ltb rfl) rfl q33 ?_
  refine AO.guardN rfl rfl rfl (ltb rfl) rfl q33 ?_
  refine AO.guardN rfl rfl rfl (ltb rfl) rfl q33 ?_
  refine AO.guardN rfl rfl rfl (ltb rfl) rfl q33 ?_
  refine AO.guardN rfl rfl rfl (ltb rfl) rfl q33 ?_
  refine AO.op rfl (AOp.pickN rfl rfl (ltb rfl) rfl q33 rfl ?_)
  refine AO.op rfl (AOp.assign rfl rfl (ltb rfl) rfl ?_)
  refine AO.nil ?_
  change AC _ _ _ _
  refine AC.ret ?_
  change RetQ _ _ _ .ret _
  obtain rfl := Option.some.inj h0
  refine retq rfl rfl
 replace h0 := cF h0 q30
 refine AC.seq ?_
 refine AC.region ?_
 refine AO.op rfl (AOp.ieql rfl rfl (ltb rfl) rfl rfl ?_)
 refine AO.op rfl (AOp.assign rfl rfl (ltb rfl) rfl ?_)
 refine AO.nil ?_
 change AC _ _ _ _
 refine AC.cond rfl (fun q34 => ?_) (fun q34 => ?_)
 ·replace h0 := cT h0 q34
  refine AC.seq ?_
  refine AC.region ?_
  refine AO.op rfl (AOp.assign rfl rfl (ltb rfl) rfl ?_)
  refine AO.op rfl (AOp.assign rfl rfl (ltb rfl) rfl ?_)
  refine AO.nil ?_
  change AC _ _ _ _
  refine AC.seq ?_
  refine AC.seq ?_
  refine AC.region ?_
  refine AO.op rfl (AOp.fieldAddr rfl rfl (ltb rfl) rfl fo27_5 ?_)
  refine AO.op rfl (AOp.load1 rfl rfl (ltb rfl) rfl agg24 rfl rfl ?_)
  refine AO.op rfl (AOp.lenDs (n := a0.Endss.length) (cells := (List.map keS3 a0.Endss)) rfl rfl (ltb rfl) rfl el24 (by decide) (len1 _ _) ?_)
  refine AO.op rfl (AOp.move rfl rfl (ltb rfl) rfl ?_)
  refine AO.nil ?_
  change AC _ _ _ _
  obtain ⟨o35, l36, h0⟩ := bind_elim h0
  refine AC.joinE (V := (Int × Bool)) [1] [8, 9] 1 (fun g37 => [(8, .d (di .i64 g37.1)), (9, .d (dbool g37.2))]) (fun g37 => [.fix 27 [.d (di .i64 a0.Kind), .d (di .i64 a0.Layout), .d (di .i64 a0.SRID), .d (eS1 a0.Flat), .d (eS2 a0.Ends), .d (eS3 a0.Endss), .d (eS0 a0.Kids)]]) (fun g37 => (p_Good_k7 a0) g37 = some r0) rfl ?_ ?_
  ·refine AC.block ?_
   refine AC.loopP (V := (Int × Bool × Int)) (p_Good_l8 a0 F y1) o35 [1, 3, 133, 134] [8, 9, 135] 1 (fun g40 => [(8, .d (di .i64 g40.1)), (9, .d (dbool g40.2.1)), (135, .d (di .i64 g40.2.2))]) (fun g40 => [.fix 27 [.d (di .i64 a0.Kind), .d (di .i64 a0.Layout), .d (di .i64 a0.SRID), .d (eS1 a0.Flat), .d (eS2 a0.Ends), .d (eS3 a0.Endss), .d (eS0 a0.Kids)]]) F ((0 : Int), true, (0 : Int)) l36 rfl rfl (LeL.refl _) rfl rfl ?_
   intro n42 g40 h1
   unfold p_Good_l8 at h1
   refine AC.seq ?_
   refine AC.region ?_
   refine AO.op rfl (AOp.ilss rfl rfl (ltb rfl) rfl rfl ?_)
   refine AO.nil ?_
   change AC _ _ _ _
   refine AC.seq ?_
   refine AC.cond rfl (fun q43 => ?_) (fun q43 => ?_)
   ·replace h1 := cT h1 q43
    refine AC.skip ?_
    change AC _ _ _ _
    refine AC.seq ?_
    refine AC.block ?_
    refine AC.seq ?_
    refine AC.region ?_
    obtain ⟨x44, q45, h1⟩ := idx_elim h1
    refine AO.op rfl (AOp.indexDs (cells := (List.map keS3 a0.Endss)) rfl rfl (ltb rfl) rfl rfl el24 (by decide) q45.1 (lt1 q45.2) ?_)
    refine AO.op rfl (AOp.loadEp rfl rfl (ltb rfl) rfl agg23 (at1 q45.2) ?_)
    refine AO.op rfl (AOp.assign rfl rfl (ltb rfl) rfl ?_)
    refine AO.nil ?_
    change AC _ _ _ _
    refine AC.seq ?_
    refine AC.region ?_
    refine AO.op rfl (AOp.assign rfl rfl (ltb rfl) rfl ?_)
    refine AO.nil ?_
    change AC _ _ _ _
    refine AC.seq ?_
    refine AC.region ?_
    refine AO.op rfl (AOp.move rfl rfl (ltb rfl) rfl ?_)
    refine AO.op rfl (AOp.move rfl rfl (ltb rfl) rfl ?_)
    refine AO.op rfl (AOp.move rfl rfl (ltb rfl) rfl ?_)
    obtain ⟨y46, q47, h1⟩ := bind_elim h1
    refine AO.op rfl (AOp.callD rfl rfl (ltb rfl) rfl rfl (w_goodEnds F x44 g40.1 y1 false y46 q47) ?_)
    rintro _ rfl
    refine AO.op rfl (AOp.move rfl rfl (ltb rfl) rfl ?_)
    first | refine AO.op rfl (AOp.extractD rfl rfl (ltb rfl) rfl rfl ?_) | refine AO.op rfl (AOp.extract rfl rfl (ltb rfl) rfl rfl ?_)
    first | refine AO.op rfl (AOp.extractD rfl rfl (ltb rfl) rfl rfl ?_) | refine AO.op rfl (AOp.extract rfl rfl (ltb rfl) rfl rfl ?_)
    refine AO.op rfl (AOp.assign rfl rfl (ltb rfl) rfl ?_)
    refine AO.op rfl (AOp.assign rfl rfl (ltb rfl) rfl ?_)
    refine AO.nil ?_
    change AC _ _ _ _
    refine AC.region ?_
    refine AO.op rfl (AOp.move rfl rfl (ltb rfl) rfl ?_)
    refine AO.op rfl (AOp.move rfl rfl (ltb rfl) rfl ?_)
    refine AO.dec g40.2.1 (fun q48 => ?_) (fun q48 => ?_)
    ·replace h1 := cT h1 q48
     refine AO.guardY rfl rfl rfl q48 (AOp.move rfl rfl (ltb rfl) rfl ?_)
     refine AO.op rfl (AOp.pick rfl rfl (ltb rfl) rfl q48 rfl ?_)
     refine AO.op rfl (AOp.assign rfl rfl (ltb rfl) rfl ?_)
     refine AO.nil ?_
     change AC _ _ _ _
     refine AC.region ?_
     obtain ⟨q49, h1⟩ := need_elim h1
     refine AO.op rfl (AOp.iadd rfl rfl (ltb rfl) rfl rfl rfl q49.1 q49.2 ?_)
     refine AO.op rfl (AOp.move rfl rfl (ltb rfl) rfl ?_)
     refine AO.nil ?_
     exact ⟨(y46.1, y46.2, (g40.2.2 + (1 : Int))), _, rfl, (LeL.refl _), rfl, rfl, h1⟩
    replace h1 := cF h1 q48
    refine AO.guardN rfl rfl rfl (ltb rfl) rfl q48 ?_
    refine AO.op rfl (AOp.pickN rfl rfl (ltb rfl) rfl q48 rfl ?_)
    refine AO.op rfl (AOp.assign rfl rfl (ltb rfl) rfl ?_)
    refine AO.nil ?_
    change AC _ _ _ _
    refine AC.region ?_
    obtain ⟨q50, h1⟩ := need_elim h1
    refine AO.op rfl (AOp.iadd rfl rfl (ltb rfl) rfl rfl rfl q50.1 q50.2 ?_)
    refine AO.op rfl (AOp.move rfl rfl (ltb rfl) rfl ?_)
    refine AO.nil ?_
    exact ⟨(y46.1, false, (g40.2.2 + (1 : Int))), _, rfl, (LeL.refl _), rfl, rfl, h1⟩
   replace h1 := cF h1 q43
   refine AC.exit ?_
   obtain rfl := Option.some.inj h1
   exact ⟨(g40.1, g40.2.1), _, rfl, (LeL.refl _), rfl, rfl, aftL h0⟩
  intro g37 h0
  unfold p_Good_k7 at h0
  change AC _ _ _ _
  refine AC.seq ?_
  refine AC.region ?_
  refine AO.op rfl (AOp.move rfl rfl (ltb rfl) rfl ?_)
  refine AO.op rfl (AOp.move rfl rfl (ltb rfl) rfl ?_)
  refine AO.dec g37.2 (fun q38 => ?_) (fun q38 => ?_)
  ·replace h0 := cT h0 q38
   refine AO.guardY rfl rfl rfl q38 (AOp.move rfl rfl (ltb rfl) rfl ?_)
   refine AO.guardY rfl rfl rfl q38 (AOp.fieldAddr rfl rfl (ltb rfl) rfl fo27_3 ?_)
   refine AO.guardY rfl rfl rfl q38 (AOp.load1 rfl rfl (ltb rfl) rfl agg22 rfl rfl ?_)
   refine AO.guardY rfl rfl rfl q38 (AOp.lenDs (n := a0.Flat.length) (cells := (List.map keS1 a0.Flat)) rfl rfl (ltb rfl) rfl el22 (by decide) (len1 _ _) ?_)
   refine AO.guardY rfl rfl rfl q38 (AOp.ieql rfl rfl (ltb rfl) rfl rfl ?_)
   refine AO.op rfl (AOp.pick rfl rfl (ltb rfl) rfl q38 rfl ?_)
   refine AO.op rfl (AOp.move rfl rfl (ltb rfl) rfl ?_)
   refine AO.dec (decide (g37.1 = ((a0.Flat.length : Nat) : Int))) (fun q39 => ?_) (fun q39 => ?_)
   ·replace h0 := cT h0 q39
    refine AO.guardY rfl rfl rfl q39 (AOp.fieldAddr rfl rfl (ltb rfl) rfl fo27_4 ?_)
    refine AO.guardY rfl rfl rfl q39 (AOp.load1 rfl rfl (ltb rfl) rfl agg23 rfl rfl ?_)
    refine AO.guardY rfl rfl rfl q39 (AOp.lenDs (n := a0.Ends.length) (cells := (List.map keS2 a0.Ends)) rfl rfl (ltb rfl) rfl el23 (by decide) (len1 _ _) ?_)
    refine AO.guardY rfl rfl rfl q39 (AOp.ieql rfl rfl (ltb rfl) rfl rfl ?_)
    refine AO.op rfl (AOp.pick rfl rfl (ltb rfl) rfl q39 rfl ?_)
    refine AO.op rfl (AOp.assign rfl rfl (ltb rfl) rfl ?_)
    refine AO.nil ?_
    change AC _ _ _ _
    refine AC.ret ?_
    change RetQ _ _ _ .ret _
    obtain rfl := Option.some.inj h0
    refine retq rfl rfl
   replace h0 := cF h0 q39
   refine AO.guardN rfl rfl rfl (ltb rfl) rfl q39 ?_
   refine AO.guardN rfl rfl rfl (ltb rfl) rfl q39 ?_
   refine AO.guardN rfl rfl rfl (ltb rfl) rfl q39 ?_
   refine AO.guardN rfl rfl rfl (ltb rfl) rfl q39 ?_
   refine AO.op rfl (AOp.pickN rfl rfl (ltb rfl) rfl q39 rfl ?_)
   refine AO.op rfl (AOp.assign rfl rfl (ltb rfl) rfl ?_)
   refine AO.nil ?_
   change AC _ _ _ _
   refine AC.ret ?_
   change RetQ _ _ _ .ret _
   obtain rfl := Option.some.inj h0
   refine retq rfl rfl
  replace h0 := cF h0 q38
  refine AO.guardN rfl rfl rfl (ltb rfl) rfl q38 ?_
  refine AO.guardN rfl rfl rfl (ltb rfl) rfl q38 ?_
  refine AO.guardN rfl rfl rfl (ltb rfl) rfl q38 ?_
  refine AO.guardN rfl rfl rfl (ltb rfl) rfl q38 ?_
  refine AO.guardN rfl rfl rfl (ltb rfl) rfl q38 ?_
  refine AO.op rfl (AOp.pickN rfl rfl (ltb rfl) rfl q38 rfl ?_)
  refine AO.op rfl (AOp.move rfl rfl (ltb rfl) rfl ?_)
  refine AO.guardN rfl rfl rfl (ltb rfl) rfl rfl ?_
  refine AO.guardN rfl rfl rfl (ltb rfl) rfl rfl ?_
  refine AO.guardN rfl rfl rfl (ltb rfl) rfl rfl ?_
  refine AO.guardN rfl rfl rfl (ltb rfl) rfl rfl ?_
  refine AO.op rfl (AOp.pickN rfl rfl (ltb rfl) rfl rfl rfl ?_)
  refine AO.op rfl (AOp.assign rfl rfl (ltb rfl) rfl ?_)
  refine AO.nil ?_
  change AC _ _ _ _
  refine AC.ret ?_
  change RetQ _ _ _ .ret _
  obtain rfl := Option.some.inj h0
  refine retq rfl rfl
 replace h0 := cF h0 q34
 refine AC.skip ?_
 change AC _ _ _ _
 refine AC.seq ?_
 refine AC.region ?_
 refine AO.op rfl (AOp.assign rfl rfl (ltb rfl) rfl ?_)
 refine AO.nil ?_
 change AC _ _ _ _
 refine AC.ret ?_
 change RetQ _ _ _ .ret _
 obtain rfl := Option.some.inj h0
 refine retq rfl rfl
theorem w_Good : ∀ (F : Nat) (a0 : TImpl_Geom) (r0 : Bool), p_Good F a0 = some r0 → FnD Try.prog 19 [e_TImpl_Geom a0] (fun r => r = dbool r0)
 | 0, _, _, h => by cases h
 | F + 1, a0, r0, h => w_Good_b _ (fun a0 r0 h => w_Good F a0 r0 h) F a0 r0 h

set_option maxRecDepth 100000 in
set_option maxHeartbeats 4000000 in
/-- pub-orthodrome/laws.gGood -/
theorem w_gGood (F : Nat) (a0 : (List TImpl_Geom)) (r0 : Bool) (h0 : p_gGood F a0 = some r0) : FnD Try.prog 7 [eS0 a0] (fun r => r = dbool r0) := by
 refine FnD.of (by kernel_rfl) Try.func7 rfl Try.ntmps7 rfl (leb rfl) fun W ok => ?_
 unfold p_gGood at h0
 refine AC.seq ?_
 refine AC.region ?_
 refine AO.op rfl (AOp.assign rfl rfl (ltb rfl) rfl ?_)
 refine AO.nil ?_
 change AC _ _ _ _
 refine AC.seq ?_
 refine AC.seq ?_
 refine AC.region ?_
 refine AO.op rfl (AOp.move rfl rfl (ltb rfl) rfl ?_)
 obtain ⟨y1, q2, h0⟩ := bind_elim h0
 refine AO.op rfl (AOp.callD rfl rfl (ltb rfl) rfl rfl (w_gSmall F a0 y1 q2) ?_)
 rintro _ rfl
 refine AO.op rfl (AOp.bnot rfl rfl (ltb rfl) rfl ?_)
 refine AO.nil ?_
 change AC _ _ _ _
 refine AC.cond rfl (fun q3 => ?_) (fun q3 => ?_)
 ·replace h0 := cT h0 q3
  refine AC.seq ?_
  refine AC.region ?_
  refine AO.op rfl (AOp.assign rfl rfl (ltb rfl) rfl ?_)
  refine AO.nil ?_
  change AC _ _ _ _
  refine AC.ret ?_
  change RetQ _ _ _ .ret _
  obtain rfl := Option.some.inj h0
  refine retq rfl rfl
 replace h0 := cF h0 q3
 refine AC.skip ?_
 change AC _ _ _ _
 refine AC.seq ?_
 refine AC.seq ?_
 refine AC.region ?_
 refine AO.op rfl (AOp.move rfl rfl (ltb rfl) rfl ?_)
 refine AO.op rfl (AOp.lenDs (n := a0.length) (cells := (List.flatMap c0_TImpl_Geom a0)) rfl rfl (ltb rfl) rfl el25 (by decide) (lenN _ 7 c0_TImpl_Geom_len _) ?_)
 refine AO.op rfl (AOp.move rfl rfl (ltb rfl) rfl ?_)
 refine AO.nil ?_
 change AC _ _ _ _
 obtain ⟨o4, l5, h0⟩ := bind_elim h0
 refine AC.joinE (V := Unit) [] [] 0 (fun g6 => []) (fun g6 => []) (fun g6 => p_gGood_k1 g6 = some r0) rfl ?_ ?_
 ·refine AC.block ?_
  refine AC.loopP (V := Int) (p_gGood_l2 a0 F) o4 [8, 9] [10] 0 (fun g7 => [(10, .d (di .i64 g7))]) (fun g7 => []) F (0 : Int) l5 rfl rfl (LeL.refl _) rfl rfl ?_
  intro n9 g7 h1
  unfold p_gGood_l2 at h1
  refine AC.seq ?_
  refine AC.region ?_
  refine AO.op rfl (AOp.ilss rfl rfl (ltb rfl) rfl rfl ?_)
  refine AO.nil ?_
  change AC _ _ _ _
  refine AC.seq ?_
  refine AC.cond rfl (fun q10 => ?_) (fun q10 => ?_)
  ·replace h1 := cT h1 q10
   refine AC.skip ?_
   change AC _ _ _ _
   refine AC.seq ?_
   refine AC.block ?_
   refine AC.seq ?_
   refine AC.region ?_
   obtain ⟨x11, q12, h1⟩ := idx_elim h1
   refine AO.op rfl (AOp.indexDs (cells := (List.flatMap c0_TImpl_Geom a0)) rfl rfl (ltb rfl) rfl rfl el25 (by decide) q12.1 (ltN 7 c0_TImpl_Geom_len (by decide) q12.2) ?_)
   refine AO.op rfl (AOp.loadEpN rfl rfl (ltb rfl) rfl agg27 size27 (leN 7 c0_TImpl_Geom_len q12.2) ((atN 7 c0_TImpl_Geom_len q12.2).trans (c0_TImpl_Geom_eq x11)) ?_)
   refine AO.op rfl (AOp.alloc rfl rfl (ltb rfl) zero27 rfl ?_)
   refine AO.op rfl (AOp.store rfl rfl rfl rfl size27 rfl rfl rfl (leb rfl) ?_)
   refine AO.nil ?_
   change AC _ _ _ _
   refine AC.seq ?_
   refine AC.region ?_
   refine AO.op rfl (AOp.loadN rfl rfl (ltb rfl) rfl agg27 size27 rfl (leb rfl) rfl ?_)
   obtain ⟨y13, q14, h1⟩ := bind_elim h1
   refine AO.op rfl (AOp.callD rfl rfl (ltb rfl) rfl rfl (w_Good F x11 y13 q14) ?_)
   rintro _ rfl
   refine AO.op rfl (AOp.bnot rfl rfl (ltb rfl) rfl ?_)
   refine AO.nil ?_
   change AC _ _ _ _
   refine AC.cond rfl (fun q15 => ?_) (fun q15 => ?_)
   ·replace h1 := cT h1 q15
    refine AC.seq ?_
    refine AC.region ?_
    refine AO.op rfl (AOp.assign rfl rfl (ltb rfl) rfl ?_)
    refine AO.nil ?_
    change AC _ _ _ _
    refine AC.ret ?_
    change RetQ _ _ _ .ret _
    obtain rfl := Option.some.inj h1
    replace h0 := aftR h0
    obtain rfl := Option.some.inj h0
    refine retq rfl rfl
   replace h1 := cF h1 q15
   refine AC.skip ?_
   change AC _ _ _ _
   refine AC.region ?_
   obtain ⟨q16, h1⟩ := need_elim h1
   refine AO.op rfl (AOp.iadd rfl rfl (ltb rfl) rfl rfl rfl q16.1 q16.2 ?_)
   refine AO.op rfl (AOp.move rfl rfl (ltb rfl) rfl ?_)
   refine AO.nil ?_
   exact ⟨(g7 + (1 : Int)), _, rfl, (LeL.refl _), rfl, rfl, h1⟩
  replace h1 := cF h1 q10
  refine AC.exit ?_
  obtain rfl := Option.some.inj h1
  exact ⟨(), _, rfl, (LeL.refl _), rfl, rfl, aftL h0⟩
 intro g6 h0
 unfold p_gGood_k1 at h0
 change AC _ _ _ _
 refine AC.seq ?_
 refine AC.region ?_
 refine AO.op rfl (AOp.assign rfl rfl (ltb rfl) rfl ?_)
 refine AO.nil ?_
 change AC _ _ _ _
 refine AC.ret ?_
 change RetQ _ _ _ .ret _
 obtain rfl := Option.some.inj h0
 refine retq rfl rfl

set_option maxRecDepth 100000 in
set_option maxHeartbeats 4000000 in
/-- pub-orthodrome/laws.gPlain -/
theorem w_gPlain (F : Nat) (a0 : TImpl_Geom) (r0 : Bool) (h0 : p_gPlain F a0 = some r0) : FnD Try.prog 30 [e_TImpl_Geom a0] (fun r => r = dbool r0) := by
 refine FnD.of (by kernel_rfl) Try.func30 rfl Try.ntmps30 rfl (leb rfl) fun W ok => ?_
 unfold p_gPlain at h0
 refine AC.seq ?_
 refine AC.region ?_
 refine AO.op rfl (AOp.box rfl rfl (ltb rfl) rfl rfl ?_)
 refine AO.op rfl (AOp.assign rfl rfl (ltb rfl) rfl ?_)
 refine AO.nil ?_
 change AC _ _ _ _
 refine AC.seq ?_
 refine AC.region ?_
 refine AO.op rfl (AOp.loadN rfl rfl (ltb rfl) rfl agg27 size27 rfl (leb rfl) rfl ?_)
 refine AO.op rfl (AOp.buildSliceD rfl rfl (ltb rfl) el25 zero27 rfl (leb rfl) rfl rfl rfl rfl (AO.top (y := .d (eS0 [a0])) (SVLe.of_eq (by simp only [eS0, List.flatMap_cons, List.flatMap_nil, c0_TImpl_Geom_eq, List.append_nil] <;> rfl)) ?_))
 obtain ⟨y1, q2, h0⟩ := bind_elim h0
 refine AO.op rfl (AOp.callD rfl rfl (ltb rfl) rfl rfl (w_gGood F [a0] y1 q2) ?_)
 rintro _ rfl
 refine AO.op rfl (AOp.move rfl rfl (ltb rfl) rfl ?_)
 refine AO.dec y1 (fun q3 => ?_) (fun q3 => ?_)
 ·replace h0 := cT h0 q3
  refine AO.guardY rfl rfl rfl q3 (AOp.fieldAddr rfl rfl (ltb rfl) rfl fo27_0 ?_)
  refine AO.guardY rfl rfl rfl q3 (AOp.load1 rfl rfl (ltb rfl) rfl agg3 rfl rfl ?_)
  refine AO.guardY rfl rfl rfl q3 (AOp.ineq rfl rfl (ltb rfl) rfl rfl ?_)
  refine AO.op rfl (AOp.pick rfl rfl (ltb rfl) rfl q3 rfl ?_)
  refine AO.op rfl (AOp.assign rfl rfl (ltb rfl) rfl ?_)
  refine AO.nil ?_
  change AC _ _ _ _
  refine AC.ret ?_
  change RetQ _ _ _ .ret _
  obtain rfl := Option.some.inj h0
  refine retq rfl rfl
 replace h0 := cF h0 q3
 refine AO.guardN rfl rfl rfl (ltb rfl) rfl q3 ?_
 refine AO.guardN rfl rfl rfl (ltb rfl) rfl q3 ?_
 refine AO.guardN rfl rfl rfl (ltb rfl) rfl q3 ?_
 refine AO.op rfl (AOp.pickN rfl rfl (ltb rfl) rfl q3 rfl ?_)
 refine AO.op rfl (AOp.assign rfl rfl (ltb rfl) rfl ?_)
 refine AO.nil ?_
 change AC _ _ _ _
 refine AC.ret ?_
 change RetQ _ _ _ .ret _
 obtain rfl := Option.some.inj h0
 refine retq rfl rfl

set_option maxRecDepth 100000 in
set_option maxHeartbeats 4000000 in
/-- pub-orthodrome/laws.gTurns -/
theorem w_gTurns (F : Nat) (a0 : TImpl_Geom) (r0 : Bool) (h0 : p_gTurns F a0 = some r0) : FnD Try.prog 13 [e_TImpl_Geom a0] (fun r => r = dbool r0) := by
 refine FnD.of (by kernel_rfl) Try.func13 rfl Try.ntmps13 rfl (leb rfl) fun W ok => ?_
 unfold p_gTurns at h0
 refine AC.seq ?_
 refine AC.region ?_
 refine AO.op rfl (AOp.box rfl rfl (ltb rfl) rfl rfl ?_)
 refine AO.op rfl (AOp.assign rfl rfl (ltb rfl) rfl ?_)
 refine AO.nil ?_
 change AC _ _ _ _
 refine AC.seq ?_
 refine AC.region ?_
 refine AO.op rfl (AOp.loadN rfl rfl (ltb rfl) rfl agg27 size27 rfl (leb rfl) rfl ?_)
 obtain ⟨y1, q2, h0⟩ := bind_elim h0
 refine AO.op rfl (AOp.callD rfl rfl (ltb rfl) rfl rfl (w_gPlain F a0 y1 q2) ?_)
 rintro _ rfl
 refine AO.op rfl (AOp.move rfl rfl (ltb rfl) rfl ?_)
 refine AO.dec y1 (fun q3 => ?_) (fun q3 => ?_)
 ·replace h0 := cT h0 q3
  refine AO.guardY rfl rfl rfl q3 (AOp.fieldAddr rfl rfl (ltb rfl) rfl fo27_0 ?_)
  refine AO.guardY rfl rfl rfl q3 (AOp.load1 rfl rfl (ltb rfl) rfl agg3 rfl rfl ?_)
  refine AO.guardY rfl rfl rfl q3 (AOp.ineq rfl rfl (ltb rfl) rfl rfl ?_)
  refine AO.op rfl (AOp.pick rfl rfl (ltb rfl) rfl q3 rfl ?_)
  refine AO.op rfl (AOp.assign rfl rfl (ltb rfl) rfl ?_)
  refine AO.nil ?_
  change AC _ _ _ _
  refine AC.ret ?_
  change RetQ _ _ _ .ret _
  obtain rfl := Option.some.inj h0
  refine retq rfl rfl
 replace h0 := cF h0 q3
 refine AO.guardN rfl rfl rfl (ltb rfl) rfl q3 ?_
 refine AO.guardN rfl rfl rfl (ltb rfl) rfl q3 ?_
 refine AO.guardN rfl rfl rfl (ltb rfl) rfl q3 ?_
 refine AO.op rfl (AOp.pickN rfl rfl (ltb rfl) rfl q3 rfl ?_)
 refine AO.op rfl (AOp.assign rfl rfl (ltb rfl) rfl ?_)
 refine AO.nil ?_
 change AC _ _ _ _
 refine AC.ret ?_
 change RetQ _ _ _ .ret _
 obtain rfl := Option.some.inj h0
 refine retq rfl rfl

set_option maxRecDepth 100000 in
set_option maxHeartbeats 4000000 in
/-- pub-orthodrome/impl.floats -/
theorem w_floats (a0 : (List Nat)) (r0 : (List Nat)) (h0 : p_floats a0 = some r0) : FnD Try.prog 21 [eS1 a0] (fun r => r = eS1 r0) := by
 refine FnD.of (by kernel_rfl) Try.func21 rfl Try.ntmps21 rfl (leb rfl) fun W ok => ?_
 unfold p_floats at h0
 refine AC.seq ?_
 refine AC.region ?_
 refine AO.op rfl (AOp.assign rfl rfl (ltb rfl) rfl ?_)
 refine AO.nil ?_
 change AC _ _ _ _
 refine AC.seq ?_
 refine AC.region ?_
 refine AO.op rfl (AOp.move rfl rfl (ltb rfl) rfl ?_)
 obtain ⟨q1, h0⟩ := need_elim h0
 refine AO.op rfl (AOp.appendNil (m := a0.length) (news := (List.map keS1 a0)) rfl rfl (ltb rfl) rfl rfl el22 info32 rfl (by decide) (len1 _ _) (one1 _ (fun _ => rfl) _) (small63 q1) (small q1 (by decide)) ?_)
 refine AO.op rfl (AOp.assign rfl rfl (ltb rfl) rfl ?_)
 refine AO.nil ?_
 change AC _ _ _ _
 refine AC.ret ?_
 change RetQ _ _ _ .ret _
 obtain rfl := Option.some.inj h0
 refine retq rfl rfl

set_option maxRecDepth 100000 in
/-- pub-orthodrome/impl.floats: a new slice -/
theorem wn_floats (a0 : (List Nat)) (r0 : (List Nat)) (h0 : p_floats a0 = some r0) : FnN Try.prog 21 [eS1 a0] 32 1 (fun r => r = (List.map keS1 r0)) := by
 refine FnN.of (by kernel_rfl) Try.func21 rfl Try.ntmps21 rfl (leb rfl) fun W ok => ?_
 unfold p_floats at h0
 refine AC.seq ?_
 refine AC.region ?_
 refine AO.op rfl (AOp.assign rfl rfl (ltb rfl) rfl ?_)
 refine AO.nil ?_
 change AC _ _ _ _
 refine AC.seq ?_
 refine AC.region ?_
 refine AO.op rfl (AOp.move rfl rfl (ltb rfl) rfl ?_)
 obtain ⟨q1, h0⟩ := need_elim h0
 refine AO.op rfl (AOp.appendNew (m := a0.length) (news := (List.map keS1 a0)) rfl rfl (ltb rfl) rfl rfl el22 info32 rfl (by decide) (len1 _ _) (one1 _ (fun _ => rfl) _) (small63 q1) (small q1 (by decide)) ?_)
 refine AO.op rfl (AOp.assign rfl rfl (ltb rfl) rfl ?_)
 refine AO.nil ?_
 change AC _ _ _ _
 refine AC.ret ?_
 change RetN _ _ _ _ .ret _
 obtain rfl := Option.some.inj h0
 exact ⟨_, _, _, rfl, rfl, rfl, isV_map (fun _ => rfl) _, rfl⟩

set_option maxRecDepth 100000 in
set_option maxHeartbeats 4000000 in
/-- (pub-orthodrome/pub/gogeom.Layout).Stride -/
theorem w_Layout_Stride (a0 : Int) (r0 : Int) (h0 : p_Layout_Stride a0 = some r0) : FnD Try.prog 63 [di .i64 a0] (fun r => r = di .i64 r0) := by
 refine FnD.of (by kernel_rfl) Try.func63 rfl Try.ntmps63 rfl (leb rfl) fun W ok => ?_
 unfold p_Layout_Stride at h0
 refine AC.seq ?_
 refine AC.region ?_
 refine AO.op rfl (AOp.assign rfl rfl (ltb rfl) rfl ?_)
 refine AO.nil ?_
 change AC _ _ _ _
 refine AC.seq ?_
 refine AC.region ?_
 refine AO.op rfl (AOp.move rfl rfl (ltb rfl) rfl ?_)
 refine AO.nil ?_
 change AC _ _ _ _
 refine AC.block ?_
 refine AC.seq ?_
 refine AC.region ?_
 refine AO.op rfl (AOp.ieql rfl rfl (ltb rfl) rfl rfl ?_)
 refine AO.op rfl (AOp.assign rfl rfl (ltb rfl) rfl ?_)
 refine AO.nil ?_
 change AC _ _ _ _
 refine AC.cond rfl (fun q1 => ?_) (fun q1 => ?_)
 ·replace h0 := cT h0 q1
  refine AC.seq ?_
  refine AC.region ?_
  refine AO.op rfl (AOp.assign rfl rfl (ltb rfl) rfl ?_)
  refine AO.nil ?_
  change AC _ _ _ _
  refine AC.ret ?_
  change RetQ _ _ _ .ret _
  obtain rfl := Option.some.inj h0
  refine retq rfl rfl
 replace h0 := cF h0 q1
 refine AC.seq ?_
 refine AC.region ?_
 refine AO.op rfl (AOp.ieql rfl rfl (ltb rfl) rfl rfl ?_)
 refine AO.op rfl (AOp.assign rfl rfl (ltb rfl) rfl ?_)
 refine AO.nil ?_
 change AC _ _ _ _
 refine AC.cond rfl (fun q2 => ?_) (fun q2 => ?_)
 ·replace h0 := cT h0 q2
  refine AC.seq ?_
  refine AC.region ?_
  refine AO.op rfl (AOp.assign rfl rfl (ltb rfl) rfl ?_)
  refine AO.nil ?_
  change AC _ _ _ _
  refine AC.ret ?_
  change RetQ _ _ _ .ret _
  obtain rfl := Option.some.inj h0
  refine retq rfl rfl
 replace h0 := cF h0 q2
 refine AC.seq ?_
 refine AC.region ?_
 refine AO.op rfl (AOp.ieql rfl rfl (ltb rfl) rfl rfl ?_)
 refine AO.op rfl (AOp.assign rfl rfl (ltb rfl) rfl ?_)
 refine AO.nil ?_
 change AC _ _ _ _
 refine AC.cond rfl (fun q3 => ?_) (fun q3 => ?_)
 ·replace h0 := cT h0 q3
  refine AC.seq ?_
  refine AC.region ?_
  refine AO.op rfl (AOp.assign rfl rfl (ltb rfl) rfl ?_)
  refine AO.nil ?_
  change AC _ _ _ _
  refine AC.ret ?_
  change RetQ _ _ _ .ret _
  obtain rfl := Option.some.inj h0
  refine retq rfl rfl
 replace h0 := cF h0 q3
 refine AC.seq ?_
 refine AC.region ?_
 refine AO.op rfl (AOp.ieql rfl rfl (ltb rfl) rfl rfl ?_)
 refine AO.op rfl (AOp.assign rfl rfl (ltb rfl) rfl ?_)
 refine AO.nil ?_
 change AC _ _ _ _
 refine AC.cond rfl (fun q4 => ?_) (fun q4 => ?_)
 ·replace h0 := cT h0 q4
  refine AC.seq ?_
  refine AC.region ?_
  refine AO.op rfl (AOp.assign rfl rfl (ltb rfl) rfl ?_)
  refine AO.nil ?_
  change AC _ _ _ _
  refine AC.ret ?_
  change RetQ _ _ _ .ret _
  obtain rfl := Option.some.inj h0
  refine retq rfl rfl
 replace h0 := cF h0 q4
 refine AC.seq ?_
 refine AC.region ?_
 refine AO.op rfl (AOp.ieql rfl rfl (ltb rfl) rfl rfl ?_)
 refine AO.op rfl (AOp.assign rfl rfl (ltb rfl) rfl ?_)
 refine AO.nil ?_
 change AC _ _ _ _
 refine AC.cond rfl (fun q5 => ?_) (fun q5 => ?_)
 ·replace h0 := cT h0 q5
  refine AC.seq ?_
  refine AC.region ?_
  refine AO.op rfl (AOp.assign rfl rfl (ltb rfl) rfl ?_)
  refine AO.nil ?_
  change AC _ _ _ _
  refine AC.ret ?_
  change RetQ _ _ _ .ret _
  obtain rfl := Option.some.inj h0
  refine retq rfl rfl
 replace h0 := cF h0 q5
 refine AC.seq ?_
 refine AC.region ?_
 refine AO.op rfl (AOp.move rfl rfl (ltb rfl) rfl ?_)
 refine AO.op rfl (AOp.assign rfl rfl (ltb rfl) rfl ?_)
 refine AO.nil ?_
 change AC _ _ _ _
 refine AC.ret ?_
 change RetQ _ _ _ .ret _
 obtain rfl := Option.some.inj h0
 refine retq rfl rfl

set_option maxRecDepth 100000 in
/-- pub-orthodrome/pub/gogeom.NewLineStringFlat: a new block that keeps a slice that was handed on -/
theorem wt_NewLineStringFlat (sa : Option Addr) (sc : Nat) (a0 : Int) (sn : Nat) (r0 : TGeom_LineString) (h0 : p_NewLineStringFlat a0 sn = some r0) : FnA Try.prog 41 [di .i64 a0, .v (.slice sa sn sc)] 115 (fun r => r = [di .i64 r0.geom1.geom0.layout, di .i64 r0.geom1.geom0.stride, .v (.slice sa sn sc), di .i64 r0.geom1.geom0.srid]) := by
 refine FnA.of (by kernel_rfl) Try.func41 rfl Try.ntmps41 rfl (leb rfl) fun W ok => ?_
 unfold p_NewLineStringFlat at h0
 refine AC.seq ?_
 refine AC.region ?_
 refine AO.op rfl (AOp.assign rfl rfl (ltb rfl) rfl ?_)
 refine AO.nil ?_
 change AC _ _ _ _
 refine AC.seq ?_
 refine AC.region ?_
 refine AO.op rfl (AOp.alloc rfl rfl (ltb rfl) zero115 rfl ?_)
 refine AO.op rfl (AOp.assign rfl rfl (ltb rfl) rfl ?_)
 refine AO.nil ?_
 change AC _ _ _ _
 refine AC.seq ?_
 refine AC.region ?_
 refine AO.op rfl (AOp.move rfl rfl (ltb rfl) rfl ?_)
 refine AO.op rfl (AOp.move rfl rfl (ltb rfl) rfl ?_)
 refine AO.op rfl (AOp.nilCheck rfl rfl (ltb rfl) rfl rfl ?_)
 refine AO.op rfl (AOp.fieldAddr rfl rfl (ltb rfl) rfl fo115_0 ?_)
 refine AO.op rfl (AOp.fieldAddr rfl rfl (ltb rfl) rfl fo93_0 ?_)
 refine AO.op rfl (AOp.fieldAddr rfl rfl (ltb rfl) rfl fo91_0 ?_)
 refine AO.op rfl (AOp.store rfl rfl rfl rfl size63 rfl rfl rfl (leb rfl) ?_)
 refine AO.nil ?_
 change AC _ _ _ _
 refine AC.seq ?_
 refine AC.region ?_
 refine AO.op rfl (AOp.move rfl rfl (ltb rfl) rfl ?_)
 refine AO.op rfl (AOp.move rfl rfl (ltb rfl) rfl ?_)
 obtain ⟨y1, q2, h0⟩ := bind_elim h0
 refine AO.op rfl (AOp.callD rfl rfl (ltb rfl) rfl rfl (w_Layout_Stride a0 y1 q2) ?_)
 rintro _ rfl
 refine AO.op rfl (AOp.nilCheck rfl rfl (ltb rfl) rfl rfl ?_)
 refine AO.op rfl (AOp.fieldAddr rfl rfl (ltb rfl) rfl fo115_0 ?_)
 refine AO.op rfl (AOp.fieldAddr rfl rfl (ltb rfl) rfl fo93_0 ?_)
 refine AO.op rfl (AOp.fieldAddr rfl rfl (ltb rfl) rfl fo91_1 ?_)
 refine AO.op rfl (AOp.store rfl rfl rfl rfl size3 rfl rfl rfl (leb rfl) ?_)
 refine AO.nil ?_
 change AC _ _ _ _
 refine AC.seq ?_
 refine AC.region ?_
 refine AO.op rfl (AOp.move rfl rfl (ltb rfl) rfl ?_)
 refine AO.op rfl (AOp.move rfl rfl (ltb rfl) rfl ?_)
 refine AO.op rfl (AOp.nilCheck rfl rfl (ltb rfl) rfl rfl ?_)
 refine AO.op rfl (AOp.fieldAddr rfl rfl (ltb rfl) rfl fo115_0 ?_)
 refine AO.op rfl (AOp.fieldAddr rfl rfl (ltb rfl) rfl fo93_0 ?_)
 refine AO.op rfl (AOp.fieldAddr rfl rfl (ltb rfl) rfl fo91_2 ?_)
 refine AO.op rfl (AOp.store rfl rfl rfl rfl size22 rfl rfl rfl (leb rfl) ?_)
 refine AO.nil ?_
 change AC _ _ _ _
 refine AC.seq ?_
 refine AC.region ?_
 refine AO.op rfl (AOp.move rfl rfl (ltb rfl) rfl ?_)
 refine AO.op rfl (AOp.assign rfl rfl (ltb rfl) rfl ?_)
 refine AO.nil ?_
 change AC _ _ _ _
 refine AC.ret ?_
 change RetA _ _ _ .ret _
 obtain rfl := Option.some.inj h0
 exact ⟨_, _, _, _, rfl, rfl, rfl, rfl, rfl⟩

set_option maxRecDepth 100000 in
set_option maxHeartbeats 4000000 in
/-- pub-orthodrome/impl.ints -/
theorem w_ints (a0 : (List Int)) (r0 : (List Int)) (h0 : p_ints a0 = some r0) : FnD Try.prog 46 [eS2 a0] (fun r => r = eS2 r0) := by
 refine FnD.of (by kernel_rfl) Try.func46 rfl Try.ntmps46 rfl (leb rfl) fun W ok => ?_
 unfold p_ints at h0
 refine AC.seq ?_
 refine AC.region ?_
 refine AO.op rfl (AOp.assign rfl rfl (ltb rfl) rfl ?_)
 refine AO.nil ?_
 change AC _ _ _ _
 refine AC.seq ?_
 refine AC.region ?_
 refine AO.op rfl (AOp.move rfl rfl (ltb rfl) rfl ?_)
 obtain ⟨q1, h0⟩ := need_elim h0
 refine AO.op rfl (AOp.appendNil (m := a0.length) (news := (List.map keS2 a0)) rfl rfl (ltb rfl) rfl rfl el23 info3 rfl (by decide) (len1 _ _) (one1 _ (fun _ => rfl) _) (small63 q1) (small q1 (by decide)) ?_)
 refine AO.op rfl (AOp.assign rfl rfl (ltb rfl) rfl ?_)
 refine AO.nil ?_
 change AC _ _ _ _
 refine AC.ret ?_
 change RetQ _ _ _ .ret _
 obtain rfl := Option.some.inj h0
 refine retq rfl rfl

set_option maxRecDepth 100000 in
set_option maxHeartbeats 4000000 in
/-- pub-orthodrome/impl.intss -/
theorem w_intss (F : Nat) (a0 : (List (List Int))) (r0 : (List (List Int))) (h0 : p_intss F a0 = some r0) : FnD Try.prog 54 [eS3 a0] (fun r => r = eS3 r0) := by
 refine FnD.of (by kernel_rfl) Try.func54 rfl Try.ntmps54 rfl (leb rfl) fun W ok => ?_
 unfold p_intss at h0
 refine AC.seq ?_
 refine AC.region ?_
 refine AO.op rfl (AOp.assign rfl rfl (ltb rfl) rfl ?_)
 refine AO.nil ?_
 change AC _ _ _ _
 refine AC.seq ?_
 refine AC.region ?_
 refine AO.op rfl (AOp.assign rfl rfl (ltb rfl) rfl ?_)
 refine AO.nil ?_
 change AC _ _ _ _
 refine AC.seq ?_
 refine AC.seq ?_
 refine AC.region ?_
 refine AO.op rfl (AOp.move rfl rfl (ltb rfl) rfl ?_)
 refine AO.op rfl (AOp.lenDs (n := a0.length) (cells := (List.map keS3 a0)) rfl rfl (ltb rfl) rfl el24 (by decide) (len1 _ _) ?_)
 refine AO.op rfl (AOp.move rfl rfl (ltb rfl) rfl ?_)
 refine AO.nil ?_
 change AC _ _ _ _
 refine AC.adopt 3 23 1 rfl ?_
 obtain ⟨o1, l2, h0⟩ := bind_elim h0
 refine AC.joinE (V := (List (List Int))) [] [3] 1 (fun g3 => [(3, .own 0)]) (fun g3 => [.grow 23 1 (List.map keS3 g3)]) (fun g3 => p_intss_k1 g3 = some r0) rfl ?_ ?_
 ·refine AC.block ?_
  refine AC.loopP (V := (Int × (List (List Int)))) (p_intss_l2 a0) o1 [6, 7] [3, 8] 1 (fun g4 => [(3, .own 0), (8, .d (di .i64 g4.1))]) (fun g4 => [.grow 23 1 (List.map keS3 g4.2)]) F ((0 : Int), []) l2 rfl rfl (LeL.refl _) rfl rfl ?_
  intro n6 g4 h1
  unfold p_intss_l2 at h1
  refine AC.seq ?_
  refine AC.region ?_
  refine AO.op rfl (AOp.ilss rfl rfl (ltb rfl) rfl rfl ?_)
  refine AO.nil ?_
  change AC _ _ _ _
  refine AC.seq ?_
  refine AC.cond rfl (fun q7 => ?_) (fun q7 => ?_)
  ·replace h1 := cT h1 q7
   refine AC.skip ?_
   change AC _ _ _ _
   refine AC.seq ?_
   refine AC.block ?_
   refine AC.seq ?_
   refine AC.region ?_
   obtain ⟨x8, q9, h1⟩ := idx_elim h1
   refine AO.op rfl (AOp.indexDs (cells := (List.map keS3 a0)) rfl rfl (ltb rfl) rfl rfl el24 (by decide) q9.1 (lt1 q9.2) ?_)
   refine AO.op rfl (AOp.loadEp rfl rfl (ltb rfl) rfl agg23 (at1 q9.2) ?_)
   refine AO.op rfl (AOp.assign rfl rfl (ltb rfl) rfl ?_)
   refine AO.nil ?_
   change AC _ _ _ _
   refine AC.region ?_
   refine AO.op rfl (AOp.move rfl rfl (ltb rfl) rfl ?_)
   refine AO.op rfl (AOp.move rfl rfl (ltb rfl) rfl ?_)
   obtain ⟨y10, q11, h1⟩ := bind_elim h1
   refine AO.op rfl (AOp.callD rfl rfl (ltb rfl) rfl rfl (w_ints x8 y10 q11) ?_)
   rintro _ rfl
   refine AO.op rfl (AOp.buildSliceD rfl rfl (ltb rfl) el24 zero23 rfl (leb rfl) rfl rfl rfl rfl ?_)
   obtain ⟨q12, h1⟩ := need_elim h1
   refine AO.op rfl (AOp.appendOwn' (p := 0) (n := g4.2.length) (m := [y10].length) (news := (List.map keS3 [y10])) rfl rfl (ltb rfl) rfl rfl el24 info23 rfl (by decide) rfl (len1 _ _) (len1 _ _) (one1 _ (fun _ => rfl) _) q12 (by decide) rfl rfl (cat1 _ _ _) ?_)
   refine AO.op rfl (AOp.assign rfl rfl (ltb rfl) rfl ?_)
   refine AO.nil ?_
   change AC _ _ _ _
   refine AC.region ?_
   obtain ⟨q13, h1⟩ := need_elim h1
   refine AO.op rfl (AOp.iadd rfl rfl (ltb rfl) rfl rfl rfl q13.1 q13.2 ?_)
   refine AO.op rfl (AOp.move rfl rfl (ltb rfl) rfl ?_)
   refine AO.nil ?_
   exact ⟨((g4.1 + (1 : Int)), (g4.2 ++ [y10])), _, rfl, (LeL.refl _), rfl, rfl, h1⟩
  replace h1 := cF h1 q7
  refine AC.exit ?_
  obtain rfl := Option.some.inj h1
  exact ⟨g4.2, _, rfl, (LeL.refl _), rfl, rfl, aftL h0⟩
 intro g3 h0
 unfold p_intss_k1 at h0
 change AC _ _ _ _
 refine AC.seq ?_
 refine AC.region ?_
 refine AO.op rfl (AOp.move rfl rfl (ltb rfl) rfl ?_)
 refine AO.op rfl (AOp.assign rfl rfl (ltb rfl) rfl ?_)
 refine AO.nil ?_
 change AC _ _ _ _
 refine AC.ret ?_
 change RetQ _ _ _ .ret _
 obtain rfl := Option.some.inj h0
 refine retq rfl rfl

set_option maxRecDepth 100000 in
/-- pub-orthodrome/pub/gogeom.NewLinearRingFlat: a new block that keeps a slice that was handed on -/
theorem wt_NewLinearRingFlat (sa : Option Addr) (sc : Nat) (a0 : Int) (sn : Nat) (r0 : TGeom_LineString) (h0 : p_NewLinearRingFlat a0 sn = some r0) : FnA Try.prog 43 [di .i64 a0, .v (.slice sa sn sc)] 116 (fun r => r = [di .i64 r0.geom1.geom0.layout, di .i64 r0.geom1.geom0.stride, .v (.slice sa sn sc), di .i64 r0.geom1.geom0.srid]) := by
 refine FnA.of (by kernel_rfl) Try.func43 rfl Try.ntmps43 rfl (leb rfl) fun W ok => ?_
 unfold p_NewLinearRingFlat at h0
 refine AC.seq ?_
 refine AC.region ?_
 refine AO.op rfl (AOp.assign rfl rfl (ltb rfl) rfl ?_)
 refine AO.nil ?_
 change AC _ _ _ _
 refine AC.seq ?_
 refine AC.region ?_
 refine AO.op rfl (AOp.alloc rfl rfl (ltb rfl) zero116 rfl ?_)
 refine AO.op rfl (AOp.assign rfl rfl (ltb rfl) rfl ?_)
 refine AO.nil ?_
 change AC _ _ _ _
 refine AC.seq ?_
 refine AC.region ?_
 refine AO.op rfl (AOp.move rfl rfl (ltb rfl) rfl ?_)
 refine AO.op rfl (AOp.move rfl rfl (ltb rfl) rfl ?_)
 refine AO.op rfl (AOp.nilCheck rfl rfl (ltb rfl) rfl rfl ?_)
 refine AO.op rfl (AOp.fieldAddr rfl rfl (ltb rfl) rfl fo116_0 ?_)
 refine AO.op rfl (AOp.fieldAddr rfl rfl (ltb rfl) rfl fo93_0 ?_)
 refine AO.op rfl (AOp.fieldAddr rfl rfl (ltb rfl) rfl fo91_0 ?_)
 refine AO.op rfl (AOp.store rfl rfl rfl rfl size63 rfl rfl rfl (leb rfl) ?_)
 refine AO.nil ?_
 change AC _ _ _ _
 refine AC.seq ?_
 refine AC.region ?_
 refine AO.op rfl (AOp.move rfl rfl (ltb rfl) rfl ?_)
 refine AO.op rfl (AOp.move rfl rfl (ltb rfl) rfl ?_)
 obtain ⟨y1, q2, h0⟩ := bind_elim h0
 refine AO.op rfl (AOp.callD rfl rfl (ltb rfl) rfl rfl (w_Layout_Stride a0 y1 q2) ?_)
 rintro _ rfl
 refine AO.op rfl (AOp.nilCheck rfl rfl (ltb rfl) rfl rfl ?_)
 refine AO.op rfl (AOp.fieldAddr rfl rfl (ltb rfl) rfl fo116_0 ?_)
 refine AO.op rfl (AOp.fieldAddr rfl rfl (ltb rfl) rfl fo93_0 ?_)
 refine AO.op rfl (AOp.fieldAddr rfl rfl (ltb rfl) rfl fo91_1 ?_)
 refine AO.op rfl (AOp.store rfl rfl rfl rfl size3 rfl rfl rfl (leb rfl) ?_)
 refine AO.nil ?_
 change AC _ _ _ _
 refine AC.seq ?_
 refine AC.region ?_
 refine AO.op rfl (AOp.move rfl rfl (ltb rfl) rfl ?_)
 refine AO.op rfl (AOp.move rfl rfl (ltb rfl) rfl ?_)
 refine AO.op rfl (AOp.nilCheck rfl rfl (ltb rfl) rfl rfl ?_)
 refine AO.op rfl (AOp.fieldAddr rfl rfl (ltb rfl) rfl fo116_0 ?_)
 refine AO.op rfl (AOp.fieldAddr rfl rfl (ltb rfl) rfl fo93_0 ?_)
 refine AO.op rfl (AOp.fieldAddr rfl rfl (ltb rfl) rfl fo91_2 ?_)
 refine AO.op rfl (AOp.store rfl rfl rfl rfl size22 rfl rfl rfl (leb rfl) ?_)
 refine AO.nil ?_
 change AC _ _ _ _
 refine AC.seq ?_
 refine AC.region ?_
 refine AO.op rfl (AOp.move rfl rfl (ltb rfl) rfl ?_)
 refine AO.op rfl (AOp.assign rfl rfl (ltb rfl) rfl ?_)
 refine AO.nil ?_
 change AC _ _ _ _
 refine AC.ret ?_
 change RetA _ _ _ .ret _
 obtain rfl := Option.some.inj h0
 exact ⟨_, _, _, _, rfl, rfl, rfl, rfl, rfl⟩

set_option maxRecDepth 100000 in
/-- pub-orthodrome/pub/gogeom.NewPolygonFlat: a new block that keeps a slice that was handed on -/
theorem wt_NewPolygonFlat (sa : Option Addr) (sc : Nat) (a0 : Int) (sn : Nat) (a2 : (List Int)) (r0 : TGeom_Polygon) (h0 : p_NewPolygonFlat a0 sn a2 = some r0) : FnA Try.prog 45 [di .i64 a0, .v (.slice sa sn sc), eS2 a2] 97 (fun r => r = [di .i64 r0.geom2.geom1.geom0.layout, di .i64 r0.geom2.geom1.geom0.stride, .v (.slice sa sn sc), di .i64 r0.geom2.geom1.geom0.srid, eS2 r0.geom2.ends]) := by
 refine FnA.of (by kernel_rfl) Try.func45 rfl Try.ntmps45 rfl (leb rfl) fun W ok => ?_
 unfold p_NewPolygonFlat at h0
 refine AC.seq ?_
 refine AC.region ?_
 refine AO.op rfl (AOp.assign rfl rfl (ltb rfl) rfl ?_)
 refine AO.nil ?_
 change AC _ _ _ _
 refine AC.seq ?_
 refine AC.region ?_
 refine AO.op rfl (AOp.alloc rfl rfl (ltb rfl) zero97 rfl ?_)
 refine AO.op rfl (AOp.assign rfl rfl (ltb rfl) rfl ?_)
 refine AO.nil ?_
 change AC _ _ _ _
 refine AC.seq ?_
 refine AC.region ?_
 refine AO.op rfl (AOp.move rfl rfl (ltb rfl) rfl ?_)
 refine AO.op rfl (AOp.move rfl rfl (ltb rfl) rfl ?_)
 refine AO.op rfl (AOp.nilCheck rfl rfl (ltb rfl) rfl rfl ?_)
 refine AO.op rfl (AOp.fieldAddr rfl rfl (ltb rfl) rfl fo97_0 ?_)
 refine AO.op rfl (AOp.fieldAddr rfl rfl (ltb rfl) rfl fo95_0 ?_)
 refine AO.op rfl (AOp.fieldAddr rfl rfl (ltb rfl) rfl fo93_0 ?_)
 refine AO.op rfl (AOp.fieldAddr rfl rfl (ltb rfl) rfl fo91_0 ?_)
 refine AO.op rfl (AOp.store rfl rfl rfl rfl size63 rfl rfl rfl (leb rfl) ?_)
 refine AO.nil ?_
 change AC _ _ _ _
 refine AC.seq ?_
 refine AC.region ?_
 refine AO.op rfl (AOp.move rfl rfl (ltb rfl) rfl ?_)
 refine AO.op rfl (AOp.move rfl rfl (ltb rfl) rfl ?_)
 obtain ⟨y1, q2, h0⟩ := bind_elim h0
 refine AO.op rfl (AOp.callD rfl rfl (ltb rfl) rfl rfl (w_Layout_Stride a0 y1 q2) ?_)
 rintro _ rfl
 refine AO.op rfl (AOp.nilCheck rfl rfl (ltb rfl) rfl rfl ?_)
 refine AO.op rfl (AOp.fieldAddr rfl rfl (ltb rfl) rfl fo97_0 ?_)
 refine AO.op rfl (AOp.fieldAddr rfl rfl (ltb rfl) rfl fo95_0 ?_)
 refine AO.op rfl (AOp.fieldAddr rfl rfl (ltb rfl) rfl fo93_0 ?_)
 refine AO.op rfl (AOp.fieldAddr rfl rfl (ltb rfl) rfl fo91_1 ?_)
 refine AO.op rfl (AOp.store rfl rfl rfl rfl size3 rfl rfl rfl (leb rfl) ?_)
 refine AO.nil ?_
 change AC _ _ _ _
 refine AC.seq ?_
 refine AC.region ?_
 refine AO.op rfl (AOp.move rfl rfl (ltb rfl) rfl ?_)
 refine AO.op rfl (AOp.move rfl rfl (ltb rfl) rfl ?_)
 refine AO.op rfl (AOp.nilCheck rfl rfl (ltb rfl) rfl rfl ?_)
 refine AO.op rfl (AOp.fieldAddr rfl rfl (ltb rfl) rfl fo97_0 ?_)
 refine AO.op rfl (AOp.fieldAddr rfl rfl (ltb rfl) rfl fo95_0 ?_)
 refine AO.op rfl (AOp.fieldAddr rfl rfl (ltb rfl) rfl fo93_0 ?_)
 refine AO.op rfl (AOp.fieldAddr rfl rfl (ltb rfl) rfl fo91_2 ?_)
 refine AO.op rfl (AOp.store rfl rfl rfl rfl size22 rfl rfl rfl (leb rfl) ?_)
 refine AO.nil ?_
 change AC _ _ _ _
 refine AC.seq ?_
 refine AC.region ?_
 refine AO.op rfl (AOp.move rfl rfl (ltb rfl) rfl ?_)
 refine AO.op rfl (AOp.move rfl rfl (ltb rfl) rfl ?_)
 refine AO.op rfl (AOp.nilCheck rfl rfl (ltb rfl) rfl rfl ?_)
 refine AO.op rfl (AOp.fieldAddr rfl rfl (ltb rfl) rfl fo97_0 ?_)
 refine AO.op rfl (AOp.fieldAddr rfl rfl (ltb rfl) rfl fo95_1 ?_)
 refine AO.op rfl (AOp.store rfl rfl rfl rfl size23 rfl rfl rfl (leb rfl) ?_)
 refine AO.nil ?_
 change AC _ _ _ _
 refine AC.seq ?_
 refine AC.region ?_
 refine AO.op rfl (AOp.move rfl rfl (ltb rfl) rfl ?_)
 refine AO.op rfl (AOp.assign rfl rfl (ltb rfl) rfl ?_)
 refine AO.nil ?_
 change AC _ _ _ _
 refine AC.ret ?_
 change RetA _ _ _ .ret _
 obtain rfl := Option.some.inj h0
 exact ⟨_, _, _, _, rfl, rfl, rfl, rfl, rfl⟩

set_option maxRecDepth 100000 in
set_option maxHeartbeats 4000000 in
/-- pub-orthodrome/pub/gogeom.NewMultiPointFlatOptionWithEnds -/
theorem w_NewMultiPointFlatOptionWithEnds (a0 : (List Int)) (r0 : (List Int)) (h0 : p_NewMultiPointFlatOptionWithEnds a0 = some r0) : FnD Try.prog 49 [eS2 a0] (fun r => r = .clo 64 [.pt [eS2 r0]]) := by
 refine FnD.of (by kernel_rfl) Try.func49 rfl Try.ntmps49 rfl (leb rfl) fun W ok => ?_
 unfold p_NewMultiPointFlatOptionWithEnds at h0
 refine AC.seq ?_
 refine AC.region ?_
 refine AO.op rfl (AOp.box rfl rfl (ltb rfl) rfl rfl ?_)
 refine AO.op rfl (AOp.assign rfl rfl (ltb rfl) rfl ?_)
 refine AO.nil ?_
 change AC _ _ _ _
 refine AC.seq ?_
 refine AC.region ?_
 refine AO.op rfl (AOp.makeClo (caps := [.tmp 1]) rfl rfl (ltb rfl) rfl ?_)
 refine AO.op rfl (AOp.assign rfl rfl (ltb rfl) rfl ?_)
 refine AO.nil ?_
 change AC _ _ _ _
 refine AC.ret ?_
 change RetQ _ _ _ .ret _
 obtain rfl := Option.some.inj h0
 refine retq rfl rfl

set_option maxRecDepth 100000 in
/-- pub-orthodrome/pub/gogeom.NewMultiPointFlat: a new block that keeps a slice that was handed on -/
theorem wt_NewMultiPointFlat (sa : Option Addr) (sc : Nat) (F : Nat) (a0 : Int) (sn : Nat) (a2 : (List (List Int))) (r0 : TGeom_Polygon) (h0 : p_NewMultiPointFlat F a0 sn a2 = some r0) : FnA Try.prog 48 [di .i64 a0, .v (.slice sa sn sc), eS4 a2] 98 (fun r => r = [di .i64 r0.geom2.geom1.geom0.layout, di .i64 r0.geom2.geom1.geom0.stride, .v (.slice sa sn sc), di .i64 r0.geom2.geom1.geom0.srid, eS2 r0.geom2.ends]) := by
 refine FnA.of (by kernel_rfl) Try.func48 rfl Try.ntmps48 rfl (leb rfl) fun W ok => ?_
 unfold p_NewMultiPointFlat at h0
 refine AC.seq ?_
 refine AC.region ?_
 refine AO.op rfl (AOp.assign rfl rfl (ltb rfl) rfl ?_)
 refine AO.nil ?_
 change AC _ _ _ _
 refine AC.seq ?_
 refine AC.region ?_
 refine AO.op rfl (AOp.alloc rfl rfl (ltb rfl) zero98 rfl ?_)
 refine AO.op rfl (AOp.assign rfl rfl (ltb rfl) rfl ?_)
 refine AO.nil ?_
 change AC _ _ _ _
 refine AC.seq ?_
 refine AC.region ?_
 refine AO.op rfl (AOp.move rfl rfl (ltb rfl) rfl ?_)
 refine AO.op rfl (AOp.move rfl rfl (ltb rfl) rfl ?_)
 refine AO.op rfl (AOp.nilCheck rfl rfl (ltb rfl) rfl rfl ?_)
 refine AO.op rfl (AOp.fieldAddr rfl rfl (ltb rfl) rfl fo98_0 ?_)
 refine AO.op rfl (AOp.fieldAddr rfl rfl (ltb rfl) rfl fo95_0 ?_)
 refine AO.op rfl (AOp.fieldAddr rfl rfl (ltb rfl) rfl fo93_0 ?_)
 refine AO.op rfl (AOp.fieldAddr rfl rfl (ltb rfl) rfl fo91_0 ?_)
 refine AO.op rfl (AOp.store rfl rfl rfl rfl size63 rfl rfl rfl (leb rfl) ?_)
 refine AO.nil ?_
 change AC _ _ _ _
 refine AC.seq ?_
 refine AC.region ?_
 refine AO.op rfl (AOp.move rfl rfl (ltb rfl) rfl ?_)
 refine AO.op rfl (AOp.move rfl rfl (ltb rfl) rfl ?_)
 obtain ⟨y1, q2, h0⟩ := bind_elim h0
 refine AO.op rfl (AOp.callD rfl rfl (ltb rfl) rfl rfl (w_Layout_Stride a0 y1 q2) ?_)
 rintro _ rfl
 refine AO.op rfl (AOp.nilCheck rfl rfl (ltb rfl) rfl rfl ?_)
 refine AO.op rfl (AOp.fieldAddr rfl rfl (ltb rfl) rfl fo98_0 ?_)
 refine AO.op rfl (AOp.fieldAddr rfl rfl (ltb rfl) rfl fo95_0 ?_)
 refine AO.op rfl (AOp.fieldAddr rfl rfl (ltb rfl) rfl fo93_0 ?_)
 refine AO.op rfl (AOp.fieldAddr rfl rfl (ltb rfl) rfl fo91_1 ?_)
 refine AO.op rfl (AOp.store rfl rfl rfl rfl size3 rfl rfl rfl (leb rfl) ?_)
 refine AO.nil ?_
 change AC _ _ _ _
 refine AC.seq ?_
 refine AC.region ?_
 refine AO.op rfl (AOp.move rfl rfl (ltb rfl) rfl ?_)
 refine AO.op rfl (AOp.move rfl rfl (ltb rfl) rfl ?_)
 refine AO.op rfl (AOp.nilCheck rfl rfl (ltb rfl) rfl rfl ?_)
 refine AO.op rfl (AOp.fieldAddr rfl rfl (ltb rfl) rfl fo98_0 ?_)
 refine AO.op rfl (AOp.fieldAddr rfl rfl (ltb rfl) rfl fo95_0 ?_)
 refine AO.op rfl (AOp.fieldAddr rfl rfl (ltb rfl) rfl fo93_0 ?_)
 refine AO.op rfl (AOp.fieldAddr rfl rfl (ltb rfl) rfl fo91_2 ?_)
 refine AO.op rfl (AOp.store rfl rfl rfl rfl size22 rfl rfl rfl (leb rfl) ?_)
 refine AO.nil ?_
 change AC _ _ _ _
 refine AC.seq ?_
 refine AC.seq ?_
 refine AC.region ?_
 refine AO.op rfl (AOp.move rfl rfl (ltb rfl) rfl ?_)
 refine AO.op rfl (AOp.lenDs (n := a2.length) (cells := (List.map keS4 a2)) rfl rfl (ltb rfl) rfl el117 (by decide) (len1 _ _) ?_)
 refine AO.op rfl (AOp.move rfl rfl (ltb rfl) rfl ?_)
 refine AO.nil ?_
 change AC _ _ _ _
 refine AC.subO 0 rfl (.cons (SVLe.refl _) (.cons (SVLe.refl _) (.cons (SVLe.refl _) (.cons (SVLe.refl _) (.cons (SVLe.nil 1) .nil))))) ?_
 obtain ⟨o3, l4, h0⟩ := bind_elim h0
 refine AC.joinE (V := (List Int)) [1, 7] [] 1 (fun g5 => []) (fun g5 => [.fix 98 [.d (di .i64 a0), .d (di .i64 y1), .d (.v (.slice sa sn sc)), .d (di .i64 (0 : Int)), .d (eS2 g5)]]) (fun g5 => (p_NewMultiPointFlat_k1 a0 sn y1) g5 = some r0) rfl ?_ ?_
 ·refine AC.block ?_
  refine AC.loopP (V := (Int × (List Int))) (p_NewMultiPointFlat_l3 a2) o3 [1, 7, 35, 36] [37] 1 (fun g10 => [(37, .d (di .i64 g10.1))]) (fun g10 => [.fix 98 [.d (di .i64 a0), .d (di .i64 y1), .d (.v (.slice sa sn sc)), .d (di .i64 (0 : Int)), .d (eS2 g10.2)]]) F ((0 : Int), []) l4 rfl rfl (LeL.refl _) rfl rfl ?_
  intro n12 g10 h1
  unfold p_NewMultiPointFlat_l3 at h1
  refine AC.seq ?_
  refine AC.region ?_
  refine AO.op rfl (AOp.ilss rfl rfl (ltb rfl) rfl rfl ?_)
  refine AO.nil ?_
  change AC _ _ _ _
  refine AC.seq ?_
  refine AC.cond rfl (fun q13 => ?_) (fun q13 => ?_)
  ·replace h1 := cT h1 q13
   refine AC.skip ?_
   change AC _ _ _ _
   refine AC.seq ?_
   refine AC.block ?_
   refine AC.seq ?_
   refine AC.region ?_
   obtain ⟨x14, q15, h1⟩ := idx_elim h1
   refine AO.op rfl (AOp.indexDs (cells := (List.map keS4 a2)) rfl rfl (ltb rfl) rfl rfl el117 (by decide) q15.1 (lt1 q15.2) ?_)
   refine AO.op rfl (AOp.loadEp rfl rfl (ltb rfl) rfl agg78 (at1 q15.2) ?_)
   refine AO.op rfl (AOp.assign rfl rfl (ltb rfl) rfl ?_)
   refine AO.nil ?_
   change AC _ _ _ _
   refine AC.region ?_
   refine AO.op rfl (AOp.move rfl rfl (ltb rfl) rfl ?_)
   refine AO.op rfl (AOp.move rfl rfl (ltb rfl) rfl ?_)
   refine AO.op rfl (AOp.inlE [1, 7, 35, 36, 37] (EntersS.cloD (by kernel_rfl) rfl rfl rfl) Try.func64 rfl Try.ntmps64 rfl (ltb rfl) (leb rfl) rfl ?_)
   intro fr16
   refine AC.sub 1 rfl (SVLe.ptEp _) ?_
   refine AC.region ?_
   refine AO.op rfl (AOp.move rfl rfl (ltb rfl) rfl ?_)
   refine AO.op rfl (AOp.loadEp rfl rfl (ltb rfl) rfl agg23 rfl ?_)
   refine AO.op rfl (AOp.nilCheck rfl rfl (ltb rfl) rfl rfl ?_)
   refine AO.op rfl (AOp.fieldAddr rfl rfl (ltb rfl) rfl fo98_0 ?_)
   refine AO.op rfl (AOp.fieldAddr rfl rfl (ltb rfl) rfl fo95_1 ?_)
   refine AO.op rfl (AOp.store rfl rfl rfl rfl size23 rfl rfl rfl (leb rfl) ?_)
   refine AO.nil ?_
   refine inlend (ob' := [.fix 98 [.d (di .i64 a0), .d (di .i64 y1), .d (.v (.slice sa sn sc)), .d (di .i64 (0 : Int)), .d (eS2 x14)], .dead]) (e' := [(1, .d (.v (.slice sa sn sc))), (7, .ptr 0 0), (35, .d (eS4 a2)), (36, .d (di .i64 ((a2.length : Nat) : Int))), (37, .d (di .i64 g10.1))]) (r := .tu []) rfl rfl rfl ?_
   change AO _ _ _ _ _
   refine AO.nil ?_
   change AC _ _ _ _
   refine AC.region ?_
   obtain ⟨q17, h1⟩ := need_elim h1
   refine AO.op rfl (AOp.iadd rfl rfl (ltb rfl) rfl rfl rfl q17.1 q17.2 ?_)
   refine AO.op rfl (AOp.move rfl rfl (ltb rfl) rfl ?_)
   refine AO.nil ?_
   exact ⟨((g10.1 + (1 : Int)), x14), _, rfl, (LeL.refl _), rfl, rfl, h1⟩
  replace h1 := cF h1 q13
  refine AC.exit ?_
  obtain rfl := Option.some.inj h1
  exact ⟨g10.2, _, rfl, (LeL.refl _), rfl, rfl, aftL h0⟩
 intro g5 h0
 unfold p_NewMultiPointFlat_k1 at h0
 change AC _ _ _ _
 refine AC.seq ?_
 refine AC.joinP (V := Bool) [1, 7] [61] 1 (fun g6 => [(61, .d (dbool g6))]) (fun g6 => [.fix 98 [.d (di .i64 a0), .d (di .i64 y1), .d (.v (.slice sa sn sc)), .d (di .i64 (0 : Int)), .d (eS2 g5)]]) (fun g6 => (p_NewMultiPointFlat_k2 a0 y1 g5) g6 = some r0) rfl ?_ ?_
 ·refine AC.region ?_
  refine AO.op rfl (AOp.move rfl rfl (ltb rfl) rfl ?_)
  refine AO.op rfl (AOp.nilCheck rfl rfl (ltb rfl) rfl rfl ?_)
  refine AO.op rfl (AOp.fieldAddr rfl rfl (ltb rfl) rfl fo98_0 ?_)
  refine AO.op rfl (AOp.fieldAddr rfl rfl (ltb rfl) rfl fo95_1 ?_)
  refine AO.op rfl (AOp.load1 rfl rfl (ltb rfl) rfl agg23 rfl rfl ?_)
  refine AO.op rfl (AOp.nilEqlU (f := eS2) (x0 := (some g5)) Try.underlying23 rfl rfl (ltb rfl) rfl rfl (fun _ _ => ⟨_, _, _, rfl⟩) fun b8 hb9 => ?_)
  cases b8
  ·replace h0 := agr_f h0 hb9
   refine AO.op rfl (AOp.move rfl rfl (ltb rfl) rfl ?_)
   refine AO.guardN rfl rfl rfl (ltb rfl) rfl rfl ?_
   refine AO.guardN rfl rfl rfl (ltb rfl) rfl rfl ?_
   refine AO.guardN rfl rfl rfl (ltb rfl) rfl rfl ?_
   refine AO.guardN rfl rfl rfl (ltb rfl) rfl rfl ?_
   refine AO.guardN rfl rfl rfl (ltb rfl) rfl rfl ?_
   refine AO.guardN rfl rfl rfl (ltb rfl) rfl rfl ?_
   refine AO.guardN rfl rfl rfl (ltb rfl) rfl rfl ?_
   refine AO.guardN rfl rfl rfl (ltb rfl) rfl rfl ?_
   refine AO.guardN rfl rfl rfl (ltb rfl) rfl rfl ?_
   refine AO.op rfl (AOp.pickN rfl rfl (ltb rfl) rfl rfl rfl ?_)
   refine AO.nil ?_
   exact ⟨false, _, rfl, (LeL.refl _), rfl, rfl, h0⟩
  replace h0 := agr_t h0 hb9
  refine AO.op rfl (AOp.move rfl rfl (ltb rfl) rfl ?_)
  refine AO.guardY rfl rfl rfl rfl (AOp.move rfl rfl (ltb rfl) rfl ?_)
  refine AO.guardY rfl rfl rfl rfl (AOp.nilCheck rfl rfl (ltb rfl) rfl rfl ?_)
  refine AO.guardY rfl rfl rfl rfl (AOp.fieldAddr rfl rfl (ltb rfl) rfl fo98_0 ?_)
  refine AO.guardY rfl rfl rfl rfl (AOp.fieldAddr rfl rfl (ltb rfl) rfl fo95_0 ?_)
  refine AO.guardY rfl rfl rfl rfl (AOp.fieldAddr rfl rfl (ltb rfl) rfl fo93_0 ?_)
  refine AO.guardY rfl rfl rfl rfl (AOp.fieldAddr rfl rfl (ltb rfl) rfl fo91_2 ?_)
  refine AO.guardY rfl rfl rfl rfl (AOp.load1 rfl rfl (ltb rfl) rfl agg22 rfl rfl ?_)
  refine AO.guardY rfl rfl rfl rfl (AOp.lenHdr rfl rfl (ltb rfl) rfl el22 ?_)
  refine AO.guardY rfl rfl rfl rfl (AOp.igtr rfl rfl (ltb rfl) rfl rfl ?_)
  refine AO.op rfl (AOp.pick rfl rfl (ltb rfl) rfl rfl rfl ?_)
  refine AO.nil ?_
  exact ⟨(decide ((0 : Int) < ((sn : Nat) : Int))), _, rfl, (LeL.refl _), rfl, rfl, h0⟩
 intro g6 h0
 unfold p_NewMultiPointFlat_k2 at h0
 refine AC.cond rfl (fun q7 => ?_) (fun q7 => ?_)
 ·replace h0 := cT h0 q7
  cases h0
 replace h0 := cF h0 q7
 refine AC.skip ?_
 change AC _ _ _ _
 refine AC.seq ?_
 refine AC.region ?_
 refine AO.op rfl (AOp.move rfl rfl (ltb rfl) rfl ?_)
 refine AO.op rfl (AOp.assign rfl rfl (ltb rfl) rfl ?_)
 refine AO.nil ?_
 change AC _ _ _ _
 refine AC.ret ?_
 change RetA _ _ _ .ret _
 obtain rfl := Option.some.inj h0
 exact ⟨_, _, _, _, rfl, rfl, rfl, rfl, rfl⟩

set_option maxRecDepth 100000 in
/-- pub-orthodrome/pub/gogeom.NewMultiLineStringFlat: a new block that keeps a slice that was handed on -/
theorem wt_NewMultiLineStringFlat (sa : Option Addr) (sc : Nat) (a0 : Int) (sn : Nat) (a2 : (List Int)) (r0 : TGeom_Polygon) (h0 : p_NewMultiLineStringFlat a0 sn a2 = some r0) : FnA Try.prog 51 [di .i64 a0, .v (.slice sa sn sc), eS2 a2] 99 (fun r => r = [di .i64 r0.geom2.geom1.geom0.layout, di .i64 r0.geom2.geom1.geom0.stride, .v (.slice sa sn sc), di .i64 r0.geom2.geom1.geom0.srid, eS2 r0.geom2.ends]) := by
 refine FnA.of (by kernel_rfl) Try.func51 rfl Try.ntmps51 rfl (leb rfl) fun W ok => ?_
 unfold p_NewMultiLineStringFlat at h0
 refine AC.seq ?_
 refine AC.region ?_
 refine AO.op rfl (AOp.assign rfl rfl (ltb rfl) rfl ?_)
 refine AO.nil ?_
 change AC _ _ _ _
 refine AC.seq ?_
 refine AC.region ?_
 refine AO.op rfl (AOp.alloc rfl rfl (ltb rfl) zero99 rfl ?_)
 refine AO.op rfl (AOp.assign rfl rfl (ltb rfl) rfl ?_)
 refine AO.nil ?_
 change AC _ _ _ _
 refine AC.seq ?_
 refine AC.region ?_
 refine AO.op rfl (AOp.move rfl rfl (ltb rfl) rfl ?_)
 refine AO.op rfl (AOp.move rfl rfl (ltb rfl) rfl ?_)
 refine AO.op rfl (AOp.nilCheck rfl rfl (ltb rfl) rfl rfl ?_)
 refine AO.op rfl (AOp.fieldAddr rfl rfl (ltb rfl) rfl fo99_0 ?_)
 refine AO.op rfl (AOp.fieldAddr rfl rfl (ltb rfl) rfl fo95_0 ?_)
 refine AO.op rfl (AOp.fieldAddr rfl rfl (ltb rfl) rfl fo93_0 ?_)
 refine AO.op rfl (AOp.fieldAddr rfl rfl (ltb rfl) rfl fo91_0 ?_)
 refine AO.op rfl (AOp.store rfl rfl rfl rfl size63 rfl rfl rfl (leb rfl) ?_)
 refine AO.nil ?_
 change AC _ _ _ _
 refine AC.seq ?_
 refine AC.region ?_
 refine AO.op rfl (AOp.move rfl rfl (ltb rfl) rfl ?_)
 refine AO.op rfl (AOp.move rfl rfl (ltb rfl) rfl ?_)
 obtain ⟨y1, q2, h0⟩ := bind_elim h0
 refine AO.op rfl (AOp.callD rfl rfl (ltb rfl) rfl rfl (w_Layout_Stride a0 y1 q2) ?_)
 rintro _ rfl
 refine AO.op rfl (AOp.nilCheck rfl rfl (ltb rfl) rfl rfl ?_)
 refine AO.op rfl (AOp.fieldAddr rfl rfl (ltb rfl) rfl fo99_0 ?_)
 refine AO.op rfl (AOp.fieldAddr rfl rfl (ltb rfl) rfl fo95_0 ?_)
 refine AO.op rfl (AOp.fieldAddr rfl rfl (ltb rfl) rfl fo93_0 ?_)
 refine AO.op rfl (AOp.fieldAddr rfl rfl (ltb rfl) rfl fo91_1 ?_)
 refine AO.op rfl (AOp.store rfl rfl rfl rfl size3 rfl rfl rfl (leb rfl) ?_)
 refine AO.nil ?_
 change AC _ _ _ _
 refine AC.seq ?_
 refine AC.region ?_
 refine AO.op rfl (AOp.move rfl rfl (ltb rfl) rfl ?_)
 refine AO.op rfl (AOp.move rfl rfl (ltb rfl) rfl ?_)
 refine AO.op rfl (AOp.nilCheck rfl rfl (ltb rfl) rfl rfl ?_)
 refine AO.op rfl (AOp.fieldAddr rfl rfl (ltb rfl) rfl fo99_0 ?_)
 refine AO.op rfl (AOp.fieldAddr rfl rfl (ltb rfl) rfl fo95_0 ?_)
 refine AO.op rfl (AOp.fieldAddr rfl rfl (ltb rfl) rfl fo93_0 ?_)
 refine AO.op rfl (AOp.fieldAddr rfl rfl (ltb rfl) rfl fo91_2 ?_)
 refine AO.op rfl (AOp.store rfl rfl rfl rfl size22 rfl rfl rfl (leb rfl) ?_)
 refine AO.nil ?_
 change AC _ _ _ _
 refine AC.seq ?_
 refine AC.region ?_
 refine AO.op rfl (AOp.move rfl rfl (ltb rfl) rfl ?_)
 refine AO.op rfl (AOp.move rfl rfl (ltb rfl) rfl ?_)
 refine AO.op rfl (AOp.nilCheck rfl rfl (ltb rfl) rfl rfl ?_)
 refine AO.op rfl (AOp.fieldAddr rfl rfl (ltb rfl) rfl fo99_0 ?_)
 refine AO.op rfl (AOp.fieldAddr rfl rfl (ltb rfl) rfl fo95_1 ?_)
 refine AO.op rfl (AOp.store rfl rfl rfl rfl size23 rfl rfl rfl (leb rfl) ?_)
 refine AO.nil ?_
 change AC _ _ _ _
 refine AC.seq ?_
 refine AC.region ?_
 refine AO.op rfl (AOp.move rfl rfl (ltb rfl) rfl ?_)
 refine AO.op rfl (AOp.assign rfl rfl (ltb rfl) rfl ?_)
 refine AO.nil ?_
 change AC _ _ _ _
 refine AC.ret ?_
 change RetA _ _ _ .ret _
 obtain rfl := Option.some.inj h0
 exact ⟨_, _, _, _, rfl, rfl, rfl, rfl, rfl⟩

set_option maxRecDepth 100000 in
/-- pub-orthodrome/pub/gogeom.NewMultiPolygonFlat: a new block that keeps a slice that was handed on -/
theorem wt_NewMultiPolygonFlat (sa : Option Addr) (sc : Nat) (a0 : Int) (sn : Nat) (a2 : (List (List Int))) (r0 : TGeom_MultiPolygon) (h0 : p_NewMultiPolygonFlat a0 sn a2 = some r0) : FnA Try.prog 53 [di .i64 a0, .v (.slice sa sn sc), eS3 a2] 103 (fun r => r = [di .i64 r0.geom3.geom1.geom0.layout, di .i64 r0.geom3.geom1.geom0.stride, .v (.slice sa sn sc), di .i64 r0.geom3.geom1.geom0.srid, eS3 r0.geom3.endss]) := by
 refine FnA.of (by kernel_rfl) Try.func53 rfl Try.ntmps53 rfl (leb rfl) fun W ok => ?_
 unfold p_NewMultiPolygonFlat at h0
 refine AC.seq ?_
 refine AC.region ?_
 refine AO.op rfl (AOp.assign rfl rfl (ltb rfl) rfl ?_)
 refine AO.nil ?_
 change AC _ _ _ _
 refine AC.seq ?_
 refine AC.region ?_
 refine AO.op rfl (AOp.alloc rfl rfl (ltb rfl) zero103 rfl ?_)
 refine AO.op rfl (AOp.assign rfl rfl (ltb rfl) rfl ?_)
 refine AO.nil ?_
 change AC _ _ _ _
 refine AC.seq ?_
 refine AC.region ?_
 refine AO.op rfl (AOp.move rfl rfl (ltb rfl) rfl ?_)
 refine AO.op rfl (AOp.move rfl rfl (ltb rfl) rfl ?_)
 refine AO.op rfl (AOp.nilCheck rfl rfl (ltb rfl) rfl rfl ?_)
 refine AO.op rfl (AOp.fieldAddr rfl rfl (ltb rfl) rfl fo103_0 ?_)
 refine AO.op rfl (AOp.fieldAddr rfl rfl (ltb rfl) rfl fo101_0 ?_)
 refine AO.op rfl (AOp.fieldAddr rfl rfl (ltb rfl) rfl fo93_0 ?_)
 refine AO.op rfl (AOp.fieldAddr rfl rfl (ltb rfl) rfl fo91_0 ?_)
 refine AO.op rfl (AOp.store rfl rfl rfl rfl size63 rfl rfl rfl (leb rfl) ?_)
 refine AO.nil ?_
 change AC _ _ _ _
 refine AC.seq ?_
 refine AC.region ?_
 refine AO.op rfl (AOp.move rfl rfl (ltb rfl) rfl ?_)
 refine AO.op rfl (AOp.move rfl rfl (ltb rfl) rfl ?_)
 obtain ⟨y1, q2, h0⟩ := bind_elim h0
 refine AO.op rfl (AOp.callD rfl rfl (ltb rfl) rfl rfl (w_Layout_Stride a0 y1 q2) ?_)
 rintro _ rfl
 refine AO.op rfl (AOp.nilCheck rfl rfl (ltb rfl) rfl rfl ?_)
 refine AO.op rfl (AOp.fieldAddr rfl rfl (ltb rfl) rfl fo103_0 ?_)
 refine AO.op rfl (AOp.fieldAddr rfl rfl (ltb rfl) rfl fo101_0 ?_)
 refine AO.op rfl (AOp.fieldAddr rfl rfl (ltb rfl) rfl fo93_0 ?_)
 refine AO.op rfl (AOp.fieldAddr rfl rfl (ltb rfl) rfl fo91_1 ?_)
 refine AO.op rfl (AOp.store rfl rfl rfl rfl size3 rfl rfl rfl (leb rfl) ?_)
 refine AO.nil ?_
 change AC _ _ _ _
 refine AC.seq ?_
 refine AC.region ?_
 refine AO.op rfl (AOp.move rfl rfl (ltb rfl) rfl ?_)
 refine AO.op rfl (AOp.move rfl rfl (ltb rfl) rfl ?_)
 refine AO.op rfl (AOp.nilCheck rfl rfl (ltb rfl) rfl rfl ?_)
 refine AO.op rfl (AOp.fieldAddr rfl rfl (ltb rfl) rfl fo103_0 ?_)
 refine AO.op rfl (AOp.fieldAddr rfl rfl (ltb rfl) rfl fo101_0 ?_)
 refine AO.op rfl (AOp.fieldAddr rfl rfl (ltb rfl) rfl fo93_0 ?_)
 refine AO.op rfl (AOp.fieldAddr rfl rfl (ltb rfl) rfl fo91_2 ?_)
 refine AO.op rfl (AOp.store rfl rfl rfl rfl size22 rfl rfl rfl (leb rfl) ?_)
 refine AO.nil ?_
 change AC _ _ _ _
 refine AC.seq ?_
 refine AC.region ?_
 refine AO.op rfl (AOp.move rfl rfl (ltb rfl) rfl ?_)
 refine AO.op rfl (AOp.move rfl rfl (ltb rfl) rfl ?_)
 refine AO.op rfl (AOp.nilCheck rfl rfl (ltb rfl) rfl rfl ?_)
 refine AO.op rfl (AOp.fieldAddr rfl rfl (ltb rfl) rfl fo103_0 ?_)
 refine AO.op rfl (AOp.fieldAddr rfl rfl (ltb rfl) rfl fo101_1 ?_)
 refine AO.op rfl (AOp.store rfl rfl rfl rfl size24 rfl rfl rfl (leb rfl) ?_)
 refine AO.nil ?_
 change AC _ _ _ _
 refine AC.seq ?_
 refine AC.region ?_
 refine AO.op rfl (AOp.move rfl rfl (ltb rfl) rfl ?_)
 refine AO.op rfl (AOp.assign rfl rfl (ltb rfl) rfl ?_)
 refine AO.nil ?_
 change AC _ _ _ _
 refine AC.ret ?_
 change RetA _ _ _ .ret _
 obtain rfl := Option.some.inj h0
 exact ⟨_, _, _, _, rfl, rfl, rfl, rfl, rfl⟩

set_option maxRecDepth 100000 in
set_option maxHeartbeats 4000000 in
/-- pub-orthodrome/impl.Reverse -/
theorem w_Reverse_c0 (F : Nat) (a0 : TImpl_Geom) (r0 : (TImpl_Geom × Bool)) (h0 : p_Reverse F a0 = some r0) (hp0 : (decide (a0.Kind = (1 : Int))) = true) : FnD Try.prog 14 [e_TImpl_Geom a0] (fun r => r = .tu [e_TImpl_Geom r0.1, dbool r0.2]) := by
 refine FnD.wrap (g := 31) (m := 2) (fun vs w h => idle31 vs w h) (by kernel_rfl) Try.func14 rfl Try.ntmps14 rfl (leb rfl) fun W ok => ?_
 unfold p_Reverse at h0
 refine AW.seq ?_
 refine AC.region ?_
 refine AO.op rfl (AOp.box rfl rfl (ltb rfl) rfl rfl ?_)
 refine AO.op rfl (AOp.alloc rfl rfl (ltb rfl) zero27 rfl ?_)
 refine AO.op rfl (AOp.alloc rfl rfl (ltb rfl) zero4 rfl ?_)
 refine AO.nil ?_
 refine ⟨rfl, ?_⟩
 refine AW.defer (caps := [.tmp 2, .tmp 3]) rfl rfl rfl (ltb rfl) rfl rfl rfl rfl (by kernel_rfl) rfl fun df => ?_
 refine AC.seq ?_
 refine AC.region ?_
 refine AO.op rfl (AOp.loadN rfl rfl (ltb rfl) rfl agg27 size27 rfl (leb rfl) rfl ?_)
 refine AO.op rfl (AOp.inl [2, 3] (by kernel_rfl) Try.func22 rfl Try.ntmps22 rfl rfl (ltb rfl) rfl (leb rfl) rfl ?_)
 intro fr1
 refine AC.seq ?_
 refine AC.region ?_
 refine AO.op rfl (AOp.box rfl rfl (ltb rfl) rfl rfl ?_)
 refine AO.op rfl (AOp.assign rfl rfl (ltb rfl) rfl ?_)
 refine AO.nil ?_
 change AC _ _ _ _
 refine AC.seq ?_
 refine AC.room ?_
 obtain ⟨y2, q3, h0⟩ := bind_elim h0
 refine AC.drawS [0, 1, 2, 3, 4] [4] [5, 6] (fun L => [.fix 27 [.d (di .i64 a0.Kind), .d (di .i64 a0.Layout), .d (di .i64 a0.SRID), .d (eS1 a0.Flat), .d (eS2 a0.Ends), .d (eS3 a0.Endss), .d (eS0 a0.Kids)], .fix 27 [.d (di .i64 (0 : Int)), .d (di .i64 (0 : Int)), .d (di .i64 (0 : Int)), .d (.v (.slice none 0 0)), .d (.v (.slice none 0 0)), .d (.v (.slice none 0 0)), .d (.v (.slice none 0 0))], .fix 4 [.d (dbool false)], .frame fr1 [(2, .ptr 1 0), (3, .ptr 2 0)], .fix 27 [.d (di .i64 a0.Kind), .d (di .i64 a0.Layout), .d (di .i64 a0.SRID), .d (eS1 a0.Flat), .d (eS2 a0.Ends), .d (eS3 a0.Endss), .d (eS0 a0.Kids)], bif L 4 then .grow 32 1 (List.map keS1 y2) else .dead]) [(4, SV.noO2 5 6)] mixed (by kernel_rfl) (fun L L' h => by simp only [h 4 (by decide)]) rfl ?_
 refine AS.op [1] [] [] [4] rfl rfl rfl (by kernel_rfl) (by kernel_rfl) rfl rfl (fun _ _ _ h => AOp.fieldAddr rfl rfl (ltb rfl) rfl fo27_1 h) (by kernel_rfl) ?_
 refine AS.op [8] [] [] [4] rfl rfl rfl (by kernel_rfl) (by kernel_rfl) rfl rfl (fun _ _ _ h => AOp.load1 rfl rfl (ltb rfl) rfl agg3 rfl rfl h) (by kernel_rfl) ?_
 refine AS.op [1] [] [4] [] rfl rfl rfl (by kernel_rfl) (by kernel_rfl) rfl rfl (fun _ _ _ h => AOp.fieldAddr rfl rfl (ltb rfl) rfl fo27_3 h) (by kernel_rfl) ?_
 refine AS.op [10] [] [4] [] rfl rfl rfl (by kernel_rfl) (by kernel_rfl) rfl rfl (fun _ _ _ h => AOp.load1 rfl rfl (ltb rfl) rfl agg22 rfl rfl h) (by kernel_rfl) ?_
 refine AS.mid [11] [] [4] [] rfl rfl rfl rfl (by kernel_rfl) (by kernel_rfl) rfl rfl (fun _ _ _ h => AOp.callNew rfl rfl (ltb rfl) rfl rfl (wn_floats a0.Flat y2 q3) (AO.sink 5 6 rfl rfl rfl (.cons rfl (.cons rfl (.cons rfl (.cons rfl (.cons rfl (.cons (noO2_cond rfl rfl) .nil)))))) rfl h)) (by kernel_rfl) rfl ?_
 refine AS.done ?_
 refine AO.objs (obs' := [.fix 27 [.d (di .i64 a0.Kind), .d (di .i64 a0.Layout), .d (di .i64 a0.SRID), .d (eS1 a0.Flat), .d (eS2 a0.Ends), .d (eS3 a0.Endss), .d (eS0 a0.Kids)], .fix 27 [.d (di .i64 (0 : Int)), .d (di .i64 (0 : Int)), .d (di .i64 (0 : Int)), .d (.v (.slice none 0 0)), .d (.v (.slice none 0 0)), .d (.v (.slice none 0 0)), .d (.v (.slice none 0 0))], .fix 4 [.d (dbool false)], .frame fr1 [(2, .ptr 1 0), (3, .ptr 2 0)], .fix 27 [.d (di .i64 a0.Kind), .d (di .i64 a0.Layout), .d (di .i64 a0.SRID), .d (eS1 a0.Flat), .d (eS2 a0.Ends), .d (eS3 a0.Endss), .d (eS0 a0.Kids)], .grow 32 1 (List.map keS1 y2)]) rfl ?_
 refine AO.op rfl (AOp.assign rfl rfl (ltb rfl) rfl ?_)
 refine AO.op rfl (AOp.assign rfl rfl (ltb rfl) rfl ?_)
 refine AO.objs (obs' := [.fix 27 [.d (di .i64 a0.Kind), .d (di .i64 a0.Layout), .d (di .i64 a0.SRID), .d (eS1 a0.Flat), .d (eS2 a0.Ends), .d (eS3 a0.Endss), .d (eS0 a0.Kids)], .fix 27 [.d (di .i64 (0 : Int)), .d (di .i64 (0 : Int)), .d (di .i64 (0 : Int)), .d (.v (.slice none 0 0)), .d (.v (.slice none 0 0)), .d (.v (.slice none 0 0)), .d (.v (.slice none 0 0))], .fix 4 [.d (dbool false)], .frame fr1 [(2, .ptr 1 0), (3, .ptr 2 0)], .fix 27 [.d (di .i64 a0.Kind), .d (di .i64 a0.Layout), .d (di .i64 a0.SRID), .d (eS1 a0.Flat), .d (eS2 a0.Ends), .d (eS3 a0.Endss), .d (eS0 a0.Kids)], .grow 32 1 (List.map keS1 y2)]) rfl ?_
 refine AO.nil ?_
 change AC _ _ _ _
 refine AC.seq ?_
 refine AC.seq ?_
 refine AC.region ?_
 refine AO.op rfl (AOp.fieldAddr rfl rfl (ltb rfl) rfl fo27_0 ?_)
 refine AO.op rfl (AOp.load1 rfl rfl (ltb rfl) rfl agg3 rfl rfl ?_)
 refine AO.nil ?_
 change AC _ _ _ _
 refine AC.block ?_
 refine AC.seq ?_
 refine AC.region ?_
 refine AO.op rfl (AOp.ieql rfl rfl (ltb rfl) rfl rfl ?_)
 refine AO.op rfl (AOp.assign rfl rfl (ltb rfl) rfl ?_)
 refine AO.nil ?_
 change AC _ _ _ _
 refine AC.cond rfl (fun q4 => ?_) (fun q4 => ?_)
 ·replace h0 := cT h0 q4
  cases h0
 exact absurd (hp0.symm.trans q4) (by decide)

set_option maxRecDepth 100000 in
set_option maxHeartbeats 4000000 in
/-- pub-orthodrome/impl.Reverse -/
theorem w_Reverse_c1 (F : Nat) (a0 : TImpl_Geom) (r0 : (TImpl_Geom × Bool)) (h0 : p_Reverse F a0 = some r0) (hp0 : (decide (a0.Kind = (1 : Int))) = false) (hp1 : (decide (a0.Kind = (2 : Int))) = true) : FnD Try.prog 14 [e_TImpl_Geom a0] (fun r => r = .tu [e_TImpl_Geom r0.1, dbool r0.2]) := by
 refine FnD.wrap (g := 31) (m := 2) (fun vs w h => idle31 vs w h) (by kernel_rfl) Try.func14 rfl Try.ntmps14 rfl (leb rfl) fun W ok => ?_
 unfold p_Reverse at h0
 refine AW.seq ?_
 refine AC.region ?_
 refine AO.op rfl (AOp.box rfl rfl (ltb rfl) rfl rfl ?_)
 refine AO.op rfl (AOp.alloc rfl rfl (ltb rfl) zero27 rfl ?_)
 refine AO.op rfl (AOp.alloc rfl rfl (ltb rfl) zero4 rfl ?_)
 refine AO.nil ?_
 refine ⟨rfl, ?_⟩
 refine AW.defer (caps := [.tmp 2, .tmp 3]) rfl rfl rfl (ltb rfl) rfl rfl rfl rfl (by kernel_rfl) rfl fun df => ?_
 refine AC.seq ?_
 refine AC.region ?_
 refine AO.op rfl (AOp.loadN rfl rfl (ltb rfl) rfl agg27 size27 rfl (leb rfl) rfl ?_)
 refine AO.op rfl (AOp.inl [2, 3] (by kernel_rfl) Try.func22 rfl Try.ntmps22 rfl rfl (ltb rfl) rfl (leb rfl) rfl ?_)
 intro fr1
 refine AC.seq ?_
 refine AC.region ?_
 refine AO.op rfl (AOp.box rfl rfl (ltb rfl) rfl rfl ?_)
 refine AO.op rfl (AOp.assign rfl rfl (ltb rfl) rfl ?_)
 refine AO.nil ?_
 change AC _ _ _ _
 refine AC.seq ?_
 refine AC.room ?_
 obtain ⟨y2, q3, h0⟩ := bind_elim h0
 refine AC.drawS [0, 1, 2, 3, 4] [4] [5, 6] (fun L => [.fix 27 [.d (di .i64 a0.Kind), .d (di .i64 a0.Layout), .d (di .i64 a0.SRID), .d (eS1 a0.Flat), .d (eS2 a0.Ends), .d (eS3 a0.Endss), .d (eS0 a0.Kids)], .fix 27 [.d (di .i64 (0 : Int)), .d (di .i64 (0 : Int)), .d (di .i64 (0 : Int)), .d (.v (.slice none 0 0)), .d (.v (.slice none 0 0)), .d (.v (.slice none 0 0)), .d (.v (.slice none 0 0))], .fix 4 [.d (dbool false)], .frame fr1 [(2, .ptr 1 0), (3, .ptr 2 0)], .fix 27 [.d (di .i64 a0.Kind), .d (di .i64 a0.Layout), .d (di .i64 a0.SRID), .d (eS1 a0.Flat), .d (eS2 a0.Ends), .d (eS3 a0.Endss), .d (eS0 a0.Kids)], bif L 4 then .grow 32 1 (List.map keS1 y2) else .dead]) [(4, SV.noO2 5 6)] mixed (by kernel_rfl) (fun L L' h => by simp only [h 4 (by decide)]) rfl ?_
 refine AS.op [1] [] [] [4] rfl rfl rfl (by kernel_rfl) (by kernel_rfl) rfl rfl (fun _ _ _ h => AOp.fieldAddr rfl rfl (ltb rfl) rfl fo27_1 h) (by kernel_rfl) ?_
 refine AS.op [8] [] [] [4] rfl rfl rfl (by kernel_rfl) (by kernel_rfl) rfl rfl (fun _ _ _ h => AOp.load1 rfl rfl (ltb rfl) rfl agg3 rfl rfl h) (by kernel_rfl) ?_
 refine AS.op [1] [] [4] [] rfl rfl rfl (by kernel_rfl) (by kernel_rfl) rfl rfl (fun _ _ _ h => AOp.fieldAddr rfl rfl (ltb rfl) rfl fo27_3 h) (by kernel_rfl) ?_
 refine AS.op [10] [] [4] [] rfl rfl rfl (by kernel_rfl) (by kernel_rfl) rfl rfl (fun _ _ _ h => AOp.load1 rfl rfl (ltb rfl) rfl agg22 rfl rfl h) (by kernel_rfl) ?_
 refine AS.mid [11] [] [4] [] rfl rfl rfl rfl (by kernel_rfl) (by kernel_rfl) rfl rfl (fun _ _ _ h => AOp.callNew rfl rfl (ltb rfl) rfl rfl (wn_floats a0.Flat y2 q3) (AO.sink 5 6 rfl rfl rfl (.cons rfl (.cons rfl (.cons rfl (.cons rfl (.cons rfl (.cons (noO2_cond rfl rfl) .nil)))))) rfl h)) (by kernel_rfl) rfl ?_
 refine AS.done ?_
 refine AO.objs (obs' := [.fix 27 [.d (di .i64 a0.Kind), .d (di .i64 a0.Layout), .d (di .i64 a0.SRID), .d (eS1 a0.Flat), .d (eS2 a0.Ends), .d (eS3 a0.Endss), .d (eS0 a0.Kids)], .fix 27 [.d (di .i64 (0 : Int)), .d (di .i64 (0 : Int)), .d (di .i64 (0 : Int)), .d (.v (.slice none 0 0)), .d (.v (.slice none 0 0)), .d (.v (.slice none 0 0)), .d (.v (.slice none 0 0))], .fix 4 [.d (dbool false)], .frame fr1 [(2, .ptr 1 0), (3, .ptr 2 0)], .fix 27 [.d (di .i64 a0.Kind), .d (di .i64 a0.Layout), .d (di .i64 a0.SRID), .d (eS1 a0.Flat), .d (eS2 a0.Ends), .d (eS3 a0.Endss), .d (eS0 a0.Kids)], .grow 32 1 (List.map keS1 y2)]) rfl ?_
 refine AO.op rfl (AOp.assign rfl rfl (ltb rfl) rfl ?_)
 refine AO.op rfl (AOp.assign rfl rfl (ltb rfl) rfl ?_)
 refine AO.objs (obs' := [.fix 27 [.d (di .i64 a0.Kind), .d (di .i64 a0.Layout), .d (di .i64 a0.SRID), .d (eS1 a0.Flat), .d (eS2 a0.Ends), .d (eS3 a0.Endss), .d (eS0 a0.Kids)], .fix 27 [.d (di .i64 (0 : Int)), .d (di .i64 (0 : Int)), .d (di .i64 (0 : Int)), .d (.v (.slice none 0 0)), .d (.v (.slice none 0 0)), .d (.v (.slice none 0 0)), .d (.v (.slice none 0 0))], .fix 4 [.d (dbool false)], .frame fr1 [(2, .ptr 1 0), (3, .ptr 2 0)], .fix 27 [.d (di .i64 a0.Kind), .d (di .i64 a0.Layout), .d (di .i64 a0.SRID), .d (eS1 a0.Flat), .d (eS2 a0.Ends), .d (eS3 a0.Endss), .d (eS0 a0.Kids)], .grow 32 1 (List.map keS1 y2)]) rfl ?_
 refine AO.nil ?_
 change AC _ _ _ _
 refine AC.seq ?_
 refine AC.seq ?_
 refine AC.region ?_
 refine AO.op rfl (AOp.fieldAddr rfl rfl (ltb rfl) rfl fo27_0 ?_)
 refine AO.op rfl (AOp.load1 rfl rfl (ltb rfl) rfl agg3 rfl rfl ?_)
 refine AO.nil ?_
 change AC _ _ _ _
 refine AC.block ?_
 refine AC.seq ?_
 refine AC.region ?_
 refine AO.op rfl (AOp.ieql rfl rfl (ltb rfl) rfl rfl ?_)
 refine AO.op rfl (AOp.assign rfl rfl (ltb rfl) rfl ?_)
 refine AO.nil ?_
 change AC _ _ _ _
 refine AC.cond rfl (fun q4 => ?_) (fun q4 => ?_)
 ·exact absurd (hp0.symm.trans q4) (by decide)
 replace h0 := cF h0 q4
 refine AC.seq ?_
 refine AC.region ?_
 refine AO.op rfl (AOp.ieql rfl rfl (ltb rfl) rfl rfl ?_)
 refine AO.op rfl (AOp.assign rfl rfl (ltb rfl) rfl ?_)
 refine AO.nil ?_
 change AC _ _ _ _
 refine AC.cond rfl (fun q5 => ?_) (fun q5 => ?_)
 ·replace h0 := cT h0 q5
  refine AC.seq ?_
  refine AC.room ?_
  obtain ⟨y6, q7, h0⟩ := bind_elim h0
  refine AC.drawS [0, 1, 2, 3, 4] [2] [5, 6, 7] (fun L => [.fix 27 [.d (di .i64 a0.Kind), .d (di .i64 a0.Layout), .d (di .i64 a0.SRID), .d (eS1 a0.Flat), .d (eS2 a0.Ends), .d (eS3 a0.Endss), .d (eS0 a0.Kids)], .fix 27 [.d (di .i64 (0 : Int)), .d (di .i64 (0 : Int)), .d (di .i64 (0 : Int)), .d (.v (.slice none 0 0)), .d (.v (.slice none 0 0)), .d (.v (.slice none 0 0)), .d (.v (.slice none 0 0))], .fix 4 [.d (dbool false)], .frame fr1 [(2, .ptr 1 0), (3, .ptr 2 0)], .fix 27 [.d (di .i64 a0.Kind), .d (di .i64 a0.Layout), .d (di .i64 a0.SRID), .d (eS1 a0.Flat), .d (eS2 a0.Ends), .d (eS3 a0.Endss), .d (eS0 a0.Kids)], .grow 32 1 (List.map keS1 y2), bif L 2 then .fix 115 [.d (di .i64 y6.geom1.geom0.layout), .d (di .i64 y6.geom1.geom0.stride), .own 5, .d (di .i64 y6.geom1.geom0.srid)] else .dead]) [(2, SV.noO2 6 7)] mixed (by kernel_rfl) (fun L L' h => by simp only [h 2 (by decide)]) rfl ?_
  refine AS.op [3] [] [2] [] rfl rfl rfl (by kernel_rfl) (by kernel_rfl) rfl rfl (fun _ _ _ h => AOp.move rfl rfl (ltb rfl) rfl h) (by kernel_rfl) ?_
  refine AS.op [4] [] [2] [] rfl rfl rfl (by kernel_rfl) (by kernel_rfl) rfl rfl (fun _ _ _ h => AOp.move rfl rfl (ltb rfl) rfl h) (by kernel_rfl) ?_
  refine AS.mid [26, 27] [] [2] [] rfl rfl rfl rfl (by kernel_rfl) (by kernel_rfl) rfl rfl (fun _ _ _ h => AOp.callAT (p := 5) (n := y2.length) (cz := [some (di .i64 y6.geom1.geom0.layout), some (di .i64 y6.geom1.geom0.stride), none, some (di .i64 y6.geom1.geom0.srid)]) rfl rfl (ltb rfl) rfl rfl rfl (by decide) (len1 _ _) (fun sa sc => wt_NewLineStringFlat sa sc a0.Layout y2.length y6 q7) rfl (AO.sink 6 7 rfl rfl rfl (.cons rfl (.cons rfl (.cons rfl (.cons rfl (.cons rfl (.cons rfl (.cons (noO2_cond rfl rfl) .nil))))))) rfl h)) (by kernel_rfl) rfl ?_
  refine AS.op [1] [] [] [2] rfl rfl rfl (by kernel_rfl) (by kernel_rfl) rfl rfl (fun _ _ _ h => AOp.fieldAddr rfl rfl (ltb rfl) rfl fo27_2 h) (by kernel_rfl) ?_
  refine AS.op [29] [] [] [2] rfl rfl rfl (by kernel_rfl) (by kernel_rfl) rfl rfl (fun _ _ _ h => AOp.load1 rfl rfl (ltb rfl) rfl agg3 rfl rfl h) (by kernel_rfl) ?_
  refine AS.done ?_
  refine AO.objs (obs' := [.fix 27 [.d (di .i64 a0.Kind), .d (di .i64 a0.Layout), .d (di .i64 a0.SRID), .d (eS1 a0.Flat), .d (eS2 a0.Ends), .d (eS3 a0.Endss), .d (eS0 a0.Kids)], .fix 27 [.d (di .i64 (0 : Int)), .d (di .i64 (0 : Int)), .d (di .i64 (0 : Int)), .d (.v (.slice none 0 0)), .d (.v (.slice none 0 0)), .d (.v (.slice none 0 0)), .d (.v (.slice none 0 0))], .fix 4 [.d (dbool false)], .frame fr1 [(2, .ptr 1 0), (3, .ptr 2 0)], .fix 27 [.d (di .i64 a0.Kind), .d (di .i64 a0.Layout), .d (di .i64 a0.SRID), .d (eS1 a0.Flat), .d (eS2 a0.Ends), .d (eS3 a0.Endss), .d (eS0 a0.Kids)], .grow 32 1 (List.map keS1 y2), .fix 115 [.d (di .i64 y6.geom1.geom0.layout), .d (di .i64 y6.geom1.geom0.stride), .own 5, .d (di .i64 y6.geom1.geom0.srid)]]) rfl ?_
  refine AO.op rfl (AOp.inl [2] (by kernel_rfl) Try.func42 rfl Try.ntmps42 rfl rfl (ltb rfl) rfl (leb rfl) rfl ?_)
  intro fr8
  refine AC.seq ?_
  refine AC.region ?_
  refine AO.op rfl (AOp.assign rfl rfl (ltb rfl) rfl ?_)
  refine AO.objs (obs' := [.fix 27 [.d (di .i64 a0.Kind), .d (di .i64 a0.Layout), .d (di .i64 a0.SRID), .d (eS1 a0.Flat), .d (eS2 a0.Ends), .d (eS3 a0.Endss), .d (eS0 a0.Kids)], .fix 27 [.d (di .i64 (0 : Int)), .d (di .i64 (0 : Int)), .d (di .i64 (0 : Int)), .d (.v (.slice none 0 0)), .d (.v (.slice none 0 0)), .d (.v (.slice none 0 0)), .d (.v (.slice none 0 0))], .fix 4 [.d (dbool false)], .frame fr1 [(2, .ptr 1 0), (3, .ptr 2 0)], .fix 27 [.d (di .i64 a0.Kind), .d (di .i64 a0.Layout), .d (di .i64 a0.SRID), .d (eS1 a0.Flat), .d (eS2 a0.Ends), .d (eS3 a0.Endss), .d (eS0 a0.Kids)], .grow 32 1 (List.map keS1 y2), .fix 115 [.d (di .i64 y6.geom1.geom0.layout), .d (di .i64 y6.geom1.geom0.stride), .own 5, .d (di .i64 y6.geom1.geom0.srid)], .frame fr8 [(2, .d (.v (.nilIface)))]]) rfl ?_
  refine AO.nil ?_
  change AC _ _ _ _
  refine AC.seq ?_
  refine AC.region ?_
  refine AO.op rfl (AOp.move rfl rfl (ltb rfl) rfl ?_)
  refine AO.op rfl (AOp.move rfl rfl (ltb rfl) rfl ?_)
  refine AO.op rfl (AOp.nilCheck rfl rfl (ltb rfl) rfl rfl ?_)
  refine AO.op rfl (AOp.fieldAddr rfl rfl (ltb rfl) rfl fo115_0 ?_)
  refine AO.op rfl (AOp.fieldAddr rfl rfl (ltb rfl) rfl fo93_0 ?_)
  refine AO.op rfl (AOp.fieldAddr rfl rfl (ltb rfl) rfl fo91_3 ?_)
  refine AO.op rfl (AOp.store rfl rfl rfl rfl size3 rfl rfl rfl (leb rfl) ?_)
  refine AO.nil ?_
  change AC _ _ _ _
  refine AC.seq ?_
  refine AC.region ?_
  refine AO.op rfl (AOp.move rfl rfl (ltb rfl) rfl ?_)
  refine AO.op rfl (AOp.assign rfl rfl (ltb rfl) rfl ?_)
  refine AO.nil ?_
  change AC _ _ _ _
  refine AC.ret ?_
  refine inlret (ob' := [.fix 27 [.d (di .i64 a0.Kind), .d (di .i64 a0.Layout), .d (di .i64 a0.SRID), .d (eS1 a0.Flat), .d (eS2 a0.Ends), .d (eS3 a0.Endss), .d (eS0 a0.Kids)], .fix 27 [.d (di .i64 (0 : Int)), .d (di .i64 (0 : Int)), .d (di .i64 (0 : Int)), .d (.v (.slice none 0 0)), .d (.v (.slice none 0 0)), .d (.v (.slice none 0 0)), .d (.v (.slice none 0 0))], .fix 4 [.d (dbool false)], .frame fr1 [(2, .ptr 1 0), (3, .ptr 2 0)], .fix 27 [.d (di .i64 a0.Kind), .d (di .i64 a0.Layout), .d (di .i64 a0.SRID), .d (eS1 a0.Flat), .d (eS2 a0.Ends), .d (eS3 a0.Endss), .d (eS0 a0.Kids)], .grow 32 1 (List.map keS1 y2), .fix 115 [.d (di .i64 y6.geom1.geom0.layout), .d (di .i64 y6.geom1.geom0.stride), .own 5, .d (di .i64 a0.SRID)], .dead]) (e' := [(2, .d (.v (.nilIface)))]) (r := .ptr 6 0) rfl rfl rfl ?_
  change AO _ _ _ _ _
  refine AO.op rfl (AOp.makeIfc rfl rfl (ltb rfl) rfl conc67 ?_)
  refine AO.op rfl (AOp.assign rfl rfl (ltb rfl) rfl ?_)
  refine AO.objs (obs' := [.fix 27 [.d (di .i64 a0.Kind), .d (di .i64 a0.Layout), .d (di .i64 a0.SRID), .d (eS1 a0.Flat), .d (eS2 a0.Ends), .d (eS3 a0.Endss), .d (eS0 a0.Kids)], .fix 27 [.d (di .i64 (0 : Int)), .d (di .i64 (0 : Int)), .d (di .i64 (0 : Int)), .d (.v (.slice none 0 0)), .d (.v (.slice none 0 0)), .d (.v (.slice none 0 0)), .d (.v (.slice none 0 0))], .fix 4 [.d (dbool false)], .frame fr1 [(2, .ptr 1 0), (3, .ptr 2 0)], .fix 27 [.d (di .i64 a0.Kind), .d (di .i64 a0.Layout), .d (di .i64 a0.SRID), .d (eS1 a0.Flat), .d (eS2 a0.Ends), .d (eS3 a0.Endss), .d (eS0 a0.Kids)], .grow 32 1 (List.map keS1 y2), .fix 115 [.d (di .i64 y6.geom1.geom0.layout), .d (di .i64 y6.geom1.geom0.stride), .own 5, .d (di .i64 a0.SRID)], .dead]) rfl ?_
  refine AO.nil ?_
  change AC _ _ _ _
  refine AC.ret ?_
  refine inlret (ob' := [.fix 27 [.d (di .i64 a0.Kind), .d (di .i64 a0.Layout), .d (di .i64 a0.SRID), .d (eS1 a0.Flat), .d (eS2 a0.Ends), .d (eS3 a0.Endss), .d (eS0 a0.Kids)], .fix 27 [.d (di .i64 (0 : Int)), .d (di .i64 (0 : Int)), .d (di .i64 (0 : Int)), .d (.v (.slice none 0 0)), .d (.v (.slice none 0 0)), .d (.v (.slice none 0 0)), .d (.v (.slice none 0 0))], .fix 4 [.d (dbool false)], .dead, .fix 27 [.d (di .i64 a0.Kind), .d (di .i64 a0.Layout), .d (di .i64 a0.SRID), .d (eS1 a0.Flat), .d (eS2 a0.Ends), .d (eS3 a0.Endss), .d (eS0 a0.Kids)], .grow 32 1 (List.map keS1 y2), .fix 115 [.d (di .i64 y6.geom1.geom0.layout), .d (di .i64 y6.geom1.geom0.stride), .own 5, .d (di .i64 a0.SRID)], .dead]) (e' := [(2, .ptr 1 0), (3, .ptr 2 0)]) (r := .ifc 67 (.ptr 6 0)) rfl rfl rfl ?_
  change AO _ _ _ _ _
  refine AO.op rfl (AOp.assign rfl rfl (ltb rfl) rfl ?_)
  refine AO.objs (obs' := [.fix 27 [.d (di .i64 a0.Kind), .d (di .i64 a0.Layout), .d (di .i64 a0.SRID), .d (eS1 a0.Flat), .d (eS2 a0.Ends), .d (eS3 a0.Endss), .d (eS0 a0.Kids)], .fix 27 [.d (di .i64 (0 : Int)), .d (di .i64 (0 : Int)), .d (di .i64 (0 : Int)), .d (.v (.slice none 0 0)), .d (.v (.slice none 0 0)), .d (.v (.slice none 0 0)), .d (.v (.slice none 0 0))], .fix 4 [.d (dbool false)], .dead, .fix 27 [.d (di .i64 a0.Kind), .d (di .i64 a0.Layout), .d (di .i64 a0.SRID), .d (eS1 a0.Flat), .d (eS2 a0.Ends), .d (eS3 a0.Endss), .d (eS0 a0.Kids)], .grow 32 1 (List.map keS1 y2), .fix 115 [.d (di .i64 y6.geom1.geom0.layout), .d (di .i64 y6.geom1.geom0.stride), .own 5, .d (di .i64 a0.SRID)], .dead]) rfl ?_
  refine AO.nil ?_
  change AC _ _ _ _
  refine AC.seq ?_
  refine AC.region ?_
  refine AO.op rfl (AOp.move rfl rfl (ltb rfl) rfl ?_)
  refine AO.op rfl (AOp.assertYes rfl rfl (ltb rfl) rfl rfl pass67_55 rfl ?_)
  refine AO.op rfl (AOp.move rfl rfl (ltb rfl) rfl ?_)
  first | refine AO.op rfl (AOp.extractD rfl rfl (ltb rfl) rfl rfl ?_) | refine AO.op rfl (AOp.extract rfl rfl (ltb rfl) rfl rfl ?_)
  first | refine AO.op rfl (AOp.extractD rfl rfl (ltb rfl) rfl rfl ?_) | refine AO.op rfl (AOp.extract rfl rfl (ltb rfl) rfl rfl ?_)
  refine AO.op rfl (AOp.assign rfl rfl (ltb rfl) rfl ?_)
  refine AO.op rfl (AOp.assign rfl rfl (ltb rfl) rfl ?_)
  refine AO.nil ?_
  change AC _ _ _ _
  refine AC.seq ?_
  refine AC.seq ?_
  refine AC.region ?_
  refine AO.op rfl (AOp.move rfl rfl (ltb rfl) rfl ?_)
  refine AO.op rfl (AOp.bnot rfl rfl (ltb rfl) rfl ?_)
  refine AO.nil ?_
  change AC _ _ _ _
  refine AC.condF rfl rfl ?_
  refine AC.skip ?_
  change AC _ _ _ _
  refine AC.seq ?_
  refine AC.region ?_
  refine AO.op rfl (AOp.move rfl rfl (ltb rfl) rfl ?_)
  refine AO.op rfl (AOp.inlE [2, 3, 4] (EntersS.meth (by kernel_rfl) rfl rfl rfl meth67_Reverse rfl rfl) Try.func109 rfl Try.ntmps109 rfl (ltb rfl) (leb rfl) rfl ?_)
  intro fr9
  refine AC.draw 16 mixed (by kernel_rfl) ?_
  refine AD.op [0] rfl (by kernel_rfl) rfl rfl (fun _ _ h => AOp.move rfl rfl (ltb rfl) rfl h) ?_
  refine AD.op [2] rfl (by kernel_rfl) rfl rfl (fun _ _ h => AOp.nilCheck rfl rfl (ltb rfl) rfl rfl h) ?_
  refine AD.op [3] rfl (by kernel_rfl) rfl rfl (fun _ _ h => AOp.fieldAddr rfl rfl (ltb rfl) rfl fo93_0 h) ?_
  refine AD.op [4] rfl (by kernel_rfl) rfl rfl (fun _ _ h => AOp.fieldAddr rfl rfl (ltb rfl) rfl fo91_2 h) ?_
  refine AD.op [5] rfl (by kernel_rfl) rfl rfl (fun _ _ h => AOp.load1 rfl rfl (ltb rfl) rfl agg22 rfl rfl h) ?_
  refine AD.op [0] rfl (by kernel_rfl) rfl rfl (fun _ _ h => AOp.move rfl rfl (ltb rfl) rfl h) ?_
  refine AD.op [7] rfl (by kernel_rfl) rfl rfl (fun _ _ h => AOp.nilCheck rfl rfl (ltb rfl) rfl rfl h) ?_
  refine AD.op [8] rfl (by kernel_rfl) rfl rfl (fun _ _ h => AOp.fieldAddr rfl rfl (ltb rfl) rfl fo93_0 h) ?_
  refine AD.op [9] rfl (by kernel_rfl) rfl rfl (fun _ _ h => AOp.fieldAddr rfl rfl (ltb rfl) rfl fo91_2 h) ?_
  refine AD.op [10] rfl (by kernel_rfl) rfl rfl (fun _ _ h => AOp.load1 rfl rfl (ltb rfl) rfl agg22 rfl rfl h) ?_
  refine AD.op [11] rfl (by kernel_rfl) rfl rfl (fun _ _ h => AOp.lenOwn (cells := (List.map keS1 y2)) (n := y2.length) rfl rfl (ltb rfl) rfl el22 rfl (by decide) (len1 _ _) h) ?_
  refine AD.op [0] rfl (by kernel_rfl) rfl rfl (fun _ _ h => AOp.move rfl rfl (ltb rfl) rfl h) ?_
  refine AD.op [13] rfl (by kernel_rfl) rfl rfl (fun _ _ h => AOp.nilCheck rfl rfl (ltb rfl) rfl rfl h) ?_
  refine AD.op [14] rfl (by kernel_rfl) rfl rfl (fun _ _ h => AOp.fieldAddr rfl rfl (ltb rfl) rfl fo93_0 h) ?_
  refine AD.op [15] rfl (by kernel_rfl) rfl rfl (fun _ _ h => AOp.fieldAddr rfl rfl (ltb rfl) rfl fo91_1 h) ?_
  refine AD.op [16] rfl (by kernel_rfl) rfl rfl (fun _ _ h => AOp.load1 rfl rfl (ltb rfl) rfl agg3 rfl rfl h) ?_
  refine AD.done ?_
  refine AO.op rfl (AOp.inl [] (by kernel_rfl) Try.func93 rfl Try.ntmps93 rfl rfl (ltb rfl) rfl (leb rfl) rfl ?_)
  intro fr10
  refine AC.seq ?_
  refine AC.region ?_
  refine AO.op rfl (AOp.move rfl rfl (ltb rfl) rfl ?_)
  refine AO.op rfl (AOp.move rfl rfl (ltb rfl) rfl ?_)
  obtain ⟨q11, h0⟩ := need_elim h0
  refine AO.op rfl (AOp.iadd rfl rfl (ltb rfl) rfl rfl rfl q11.1 q11.2 ?_)
  refine AO.op rfl (AOp.move rfl rfl (ltb rfl) rfl ?_)
  refine AO.op rfl (AOp.assign rfl rfl (ltb rfl) rfl ?_)
  refine AO.op rfl (AOp.assign rfl rfl (ltb rfl) rfl ?_)
  refine AO.objs (obs' := [.fix 27 [.d (di .i64 a0.Kind), .d (di .i64 a0.Layout), .d (di .i64 a0.SRID), .d (eS1 a0.Flat), .d (eS2 a0.Ends), .d (eS3 a0.Endss), .d (eS0 a0.Kids)], .fix 27 [.d (di .i64 (0 : Int)), .d (di .i64 (0 : Int)), .d (di .i64 (0 : Int)), .d (.v (.slice none 0 0)), .d (.v (.slice none 0 0)), .d (.v (.slice none 0 0)), .d (.v (.slice none 0 0))], .fix 4 [.d (dbool false)], .dead, .fix 27 [.d (di .i64 a0.Kind), .d (di .i64 a0.Layout), .d (di .i64 a0.SRID), .d (eS1 a0.Flat), .d (eS2 a0.Ends), .d (eS3 a0.Endss), .d (eS0 a0.Kids)], .grow 32 1 (List.map keS1 y2), .fix 115 [.d (di .i64 y6.geom1.geom0.layout), .d (di .i64 y6.geom1.geom0.stride), .own 5, .d (di .i64 a0.SRID)], .dead, .frame fr9 [(2, .ptr 1 0), (3, .ptr 2 0), (4, .ifc 67 (.ptr 6 0))], .frame fr10 []]) rfl ?_
  refine AO.nil ?_
  change AC _ _ _ _
  obtain ⟨o12, l13, h0⟩ := bind_elim h0
  refine AC.joinE (V := (List Nat)) [] [] 10 (fun g14 => []) (fun g14 => [.fix 27 [.d (di .i64 a0.Kind), .d (di .i64 a0.Layout), .d (di .i64 a0.SRID), .d (eS1 a0.Flat), .d (eS2 a0.Ends), .d (eS3 a0.Endss), .d (eS0 a0.Kids)], .fix 27 [.d (di .i64 (0 : Int)), .d (di .i64 (0 : Int)), .d (di .i64 (0 : Int)), .d (.v (.slice none 0 0)), .d (.v (.slice none 0 0)), .d (.v (.slice none 0 0)), .d (.v (.slice none 0 0))], .fix 4 [.d (dbool false)], .dead, .fix 27 [.d (di .i64 a0.Kind), .d (di .i64 a0.Layout), .d (di .i64 a0.SRID), .d (eS1 a0.Flat), .d (eS2 a0.Ends), .d (eS3 a0.Endss), .d (eS0 a0.Kids)], .grow 32 1 (List.map keS1 g14), .fix 115 [.d (di .i64 y6.geom1.geom0.layout), .d (di .i64 y6.geom1.geom0.stride), .own 5, .d (di .i64 a0.SRID)], .dead, .frame fr9 [(2, .ptr 1 0), (3, .ptr 2 0), (4, .ifc 67 (.ptr 6 0))], .frame fr10 []]) (fun g14 => (p_Reverse_k1 a0 F y6) g14 = some r0) rfl ?_ ?_
  ·refine AC.block ?_
   refine AC.loopP (V := (Int × Int × (List Nat))) (p_Reverse_l2 F y6) o12 [0, 3] [8, 9] 10 (fun g27 => [(8, .d (di .i64 g27.1)), (9, .d (di .i64 g27.2.1))]) (fun g27 => [.fix 27 [.d (di .i64 a0.Kind), .d (di .i64 a0.Layout), .d (di .i64 a0.SRID), .d (eS1 a0.Flat), .d (eS2 a0.Ends), .d (eS3 a0.Endss), .d (eS0 a0.Kids)], .fix 27 [.d (di .i64 (0 : Int)), .d (di .i64 (0 : Int)), .d (di .i64 (0 : Int)), .d (.v (.slice none 0 0)), .d (.v (.slice none 0 0)), .d (.v (.slice none 0 0)), .d (.v (.slice none 0 0))], .fix 4 [.d (dbool false)], .dead, .fix 27 [.d (di .i64 a0.Kind), .d (di .i64 a0.Layout), .d (di .i64 a0.SRID), .d (eS1 a0.Flat), .d (eS2 a0.Ends), .d (eS3 a0.Endss), .d (eS0 a0.Kids)], .grow 32 1 (List.map keS1 g27.2.2), .fix 115 [.d (di .i64 y6.geom1.geom0.layout), .d (di .i64 y6.geom1.geom0.stride), .own 5, .d (di .i64 a0.SRID)], .dead, .frame fr9 [(2, .ptr 1 0), (3, .ptr 2 0), (4, .ifc 67 (.ptr 6 0))], .frame fr10 []]) F (((0 : Int) + y6.geom1.geom0.stride), ((y2.length : Nat) : Int), y2) l13 rfl rfl (LeL.refl _) rfl rfl ?_
   intro n29 g27 h1
   unfold p_Reverse_l2 at h1
   refine AC.seq ?_
   refine AC.seq ?_
   refine AC.region ?_
   refine AO.op rfl (AOp.move rfl rfl (ltb rfl) rfl ?_)
   refine AO.op rfl (AOp.move rfl rfl (ltb rfl) rfl ?_)
   refine AO.op rfl (AOp.ileq rfl rfl (ltb rfl) rfl rfl ?_)
   refine AO.nil ?_
   change AC _ _ _ _
   refine AC.cond rfl (fun q30 => ?_) (fun q30 => ?_)
   ·replace h1 := cT h1 q30
    refine AC.skip ?_
    change AC _ _ _ _
    refine AC.seq ?_
    refine AC.block ?_
    refine AC.seq ?_
    refine AC.region ?_
    refine AO.op rfl (AOp.move rfl rfl (ltb rfl) rfl ?_)
    refine AO.op rfl (AOp.move rfl rfl (ltb rfl) rfl ?_)
    refine AO.nil ?_
    change AC _ _ _ _
    obtain ⟨o31, l32, h1⟩ := bind_elim h1
    refine AC.joinE (V := (List Nat)) [0, 3, 8, 9] [] 10 (fun g33 => []) (fun g33 => [.fix 27 [.d (di .i64 a0.Kind), .d (di .i64 a0.Layout), .d (di .i64 a0.SRID), .d (eS1 a0.Flat), .d (eS2 a0.Ends), .d (eS3 a0.Endss), .d (eS0 a0.Kids)], .fix 27 [.d (di .i64 (0 : Int)), .d (di .i64 (0 : Int)), .d (di .i64 (0 : Int)), .d (.v (.slice none 0 0)), .d (.v (.slice none 0 0)), .d (.v (.slice none 0 0)), .d (.v (.slice none 0 0))], .fix 4 [.d (dbool false)], .dead, .fix 27 [.d (di .i64 a0.Kind), .d (di .i64 a0.Layout), .d (di .i64 a0.SRID), .d (eS1 a0.Flat), .d (eS2 a0.Ends), .d (eS3 a0.Endss), .d (eS0 a0.Kids)], .grow 32 1 (List.map keS1 g33), .fix 115 [.d (di .i64 y6.geom1.geom0.layout), .d (di .i64 y6.geom1.geom0.stride), .own 5, .d (di .i64 a0.SRID)], .dead, .frame fr9 [(2, .ptr 1 0), (3, .ptr 2 0), (4, .ifc 67 (.ptr 6 0))], .frame fr10 []]) (fun g33 => (p_Reverse_k3 y6 g27 (iter (p_Reverse_l2 F y6) n29)) g33 = some o12) rfl ?_ ?_
    ·refine AC.block ?_
     refine AC.loopP (V := (Int × (List Nat))) (p_Reverse_l4 y6 g27) o31 [0, 3, 8, 9, 24] [25] 10 (fun g36 => [(25, .d (di .i64 g36.1))]) (fun g36 => [.fix 27 [.d (di .i64 a0.Kind), .d (di .i64 a0.Layout), .d (di .i64 a0.SRID), .d (eS1 a0.Flat), .d (eS2 a0.Ends), .d (eS3 a0.Endss), .d (eS0 a0.Kids)], .fix 27 [.d (di .i64 (0 : Int)), .d (di .i64 (0 : Int)), .d (di .i64 (0 : Int)), .d (.v (.slice none 0 0)), .d (.v (.slice none 0 0)), .d (.v (.slice none 0 0)), .d (.v (.slice none 0 0))], .fix 4 [.d (dbool false)], .dead, .fix 27 [.d (di .i64 a0.Kind), .d (di .i64 a0.Layout), .d (di .i64 a0.SRID), .d (eS1 a0.Flat), .d (eS2 a0.Ends), .d (eS3 a0.Endss), .d (eS0 a0.Kids)], .grow 32 1 (List.map keS1 g36.2), .fix 115 [.d (di .i64 y6.geom1.geom0.layout), .d (di .i64 y6.geom1.geom0.stride), .own 5, .d (di .i64 a0.SRID)], .dead, .frame fr9 [(2, .ptr 1 0), (3, .ptr 2 0), (4, .ifc 67 (.ptr 6 0))], .frame fr10 []]) F ((0 : Int), g27.2.2) l32 rfl rfl (LeL.refl _) rfl rfl ?_
     intro n38 g36 h2
     unfold p_Reverse_l4 at h2
     refine AC.seq ?_
     refine AC.region ?_
     refine AO.op rfl (AOp.ilss rfl rfl (ltb rfl) rfl rfl ?_)
     refine AO.nil ?_
     change AC _ _ _ _
     refine AC.seq ?_
     refine AC.cond rfl (fun q39 => ?_) (fun q39 => ?_)
     ·replace h2 := cT h2 q39
      refine AC.skip ?_
      change AC _ _ _ _
      refine AC.seq ?_
      refine AC.block ?_
      refine AC.seq ?_
      refine AC.region ?_
      refine AO.op rfl (AOp.move rfl rfl (ltb rfl) rfl ?_)
      refine AO.op rfl (AOp.assign rfl rfl (ltb rfl) rfl ?_)
      refine AO.nil ?_
      change AC _ _ _ _
      obtain ⟨q40, h2⟩ := need_elim h2
      obtain ⟨q41, h2⟩ := need_elim h2
      obtain ⟨q42, h2⟩ := need_elim h2
      obtain ⟨q43, h2⟩ := need_elim h2
      obtain ⟨q44, h2⟩ := need_elim h2
      obtain ⟨q45, h2⟩ := need_elim h2
      obtain ⟨q46, h2⟩ := need_elim h2
      obtain ⟨x47, q48, h2⟩ := idx_elim h2
      obtain ⟨q49, h2⟩ := need_elim h2
      obtain ⟨q50, h2⟩ := need_elim h2
      obtain ⟨q51, h2⟩ := need_elim h2
      obtain ⟨x52, q53, h2⟩ := idx_elim h2
      obtain ⟨q54, h2⟩ := need_elim h2
      obtain ⟨q55, h2⟩ := need_elim h2
      refine AC.drawS [0, 1, 2, 3, 4, 5, 6, 7, 8, 9, 10, 11, 12, 13, 14, 15, 16, 17, 18, 19, 20, 21, 22, 23, 24, 25, 26, 27, 28, 29] [29] [30, 31] (fun L => [.fix 27 [.d (di .i64 a0.Kind), .d (di .i64 a0.Layout), .d (di .i64 a0.SRID), .d (eS1 a0.Flat), .d (eS2 a0.Ends), .d (eS3 a0.Endss), .d (eS0 a0.Kids)], .fix 27 [.d (di .i64 (0 : Int)), .d (di .i64 (0 : Int)), .d (di .i64 (0 : Int)), .d (.v (.slice none 0 0)), .d (.v (.slice none 0 0)), .d (.v (.slice none 0 0)), .d (.v (.slice none 0 0))], .fix 4 [.d (dbool false)], .dead, .fix 27 [.d (di .i64 a0.Kind), .d (di .i64 a0.Layout), .d (di .i64 a0.SRID), .d (eS1 a0.Flat), .d (eS2 a0.Ends), .d (eS3 a0.Endss), .d (eS0 a0.Kids)], bif L 29 then .grow 32 1 (List.map keS1 (g36.2.set (((g27.1 - y6.geom1.geom0.stride) + g36.1)).toNat x47)) else .grow 32 1 (List.map keS1 g36.2), .fix 115 [.d (di .i64 y6.geom1.geom0.layout), .d (di .i64 y6.geom1.geom0.stride), .own 5, .d (di .i64 a0.SRID)], .dead, .frame fr9 [(2, .ptr 1 0), (3, .ptr 2 0), (4, .ifc 67 (.ptr 6 0))], .frame fr10 []]) [(29, (fun _ => true))] mixed (by kernel_rfl) (fun L L' h => by simp only [h 29 (by decide)]) rfl ?_
      refine AS.op [0] [] [29] [] rfl rfl rfl (by kernel_rfl) (by kernel_rfl) rfl rfl (fun _ _ _ h => AOp.move rfl rfl (ltb rfl) rfl h) (by kernel_rfl) ?_
      refine AS.op [8] [] [29] [] rfl rfl rfl (by kernel_rfl) (by kernel_rfl) rfl rfl (fun _ _ _ h => AOp.move rfl rfl (ltb rfl) rfl h) (by kernel_rfl) ?_
      refine AS.op [3] [] [29] [] rfl rfl rfl (by kernel_rfl) (by kernel_rfl) rfl rfl (fun _ _ _ h => AOp.move rfl rfl (ltb rfl) rfl h) (by kernel_rfl) ?_
      refine AS.op [29, 30] [] [29] [] rfl rfl rfl (by kernel_rfl) (by kernel_rfl) rfl rfl (fun _ _ _ h => AOp.isub rfl rfl (ltb rfl) rfl rfl rfl q40.1 q40.2 h) (by kernel_rfl) ?_
      refine AS.op [10] [] [29] [] rfl rfl rfl (by kernel_rfl) (by kernel_rfl) rfl rfl (fun _ _ _ h => AOp.move rfl rfl (ltb rfl) rfl h) (by kernel_rfl) ?_
      refine AS.op [31, 32] [] [29] [] rfl rfl rfl (by kernel_rfl) (by kernel_rfl) rfl rfl (fun _ _ _ h => AOp.iadd rfl rfl (ltb rfl) rfl rfl rfl q41.1 q41.2 h) (by kernel_rfl) ?_
      refine AS.op [0] [] [] [29] rfl rfl rfl (by kernel_rfl) (by kernel_rfl) rfl rfl (fun _ _ _ h => AOp.move rfl rfl (ltb rfl) rfl h) (by kernel_rfl) ?_
      refine AS.op [9] [] [] [29] rfl rfl rfl (by kernel_rfl) (by kernel_rfl) rfl rfl (fun _ _ _ h => AOp.move rfl rfl (ltb rfl) rfl h) (by kernel_rfl) ?_
      refine AS.op [3] [] [] [29] rfl rfl rfl (by kernel_rfl) (by kernel_rfl) rfl rfl (fun _ _ _ h => AOp.move rfl rfl (ltb rfl) rfl h) (by kernel_rfl) ?_
      refine AS.op [35, 36] [] [] [29] rfl rfl rfl (by kernel_rfl) (by kernel_rfl) rfl rfl (fun _ _ _ h => AOp.isub rfl rfl (ltb rfl) rfl rfl rfl q42.1 q42.2 h) (by kernel_rfl) ?_
      refine AS.op [10] [] [] [29] rfl rfl rfl (by kernel_rfl) (by kernel_rfl) rfl rfl (fun _ _ _ h => AOp.move rfl rfl (ltb rfl) rfl h) (by kernel_rfl) ?_
      refine AS.op [37, 38] [] [] [29] rfl rfl rfl (by kernel_rfl) (by kernel_rfl) rfl rfl (fun _ _ _ h => AOp.iadd rfl rfl (ltb rfl) rfl rfl rfl q43.1 q43.2 h) (by kernel_rfl) ?_
      refine AS.op [0] [] [29] [] rfl rfl rfl (by kernel_rfl) (by kernel_rfl) rfl rfl (fun _ _ _ h => AOp.move rfl rfl (ltb rfl) rfl h) (by kernel_rfl) ?_
      refine AS.op [9] [] [29] [] rfl rfl rfl (by kernel_rfl) (by kernel_rfl) rfl rfl (fun _ _ _ h => AOp.move rfl rfl (ltb rfl) rfl h) (by kernel_rfl) ?_
      refine AS.op [3] [] [29] [] rfl rfl rfl (by kernel_rfl) (by kernel_rfl) rfl rfl (fun _ _ _ h => AOp.move rfl rfl (ltb rfl) rfl h) (by kernel_rfl) ?_
      refine AS.op [41, 42] [] [29] [] rfl rfl rfl (by kernel_rfl) (by kernel_rfl) rfl rfl (fun _ _ _ h => AOp.isub rfl rfl (ltb rfl) rfl rfl rfl q44.1 q44.2 h) (by kernel_rfl) ?_
      refine AS.op [10] [] [29] [] rfl rfl rfl (by kernel_rfl) (by kernel_rfl) rfl rfl (fun _ _ _ h => AOp.move rfl rfl (ltb rfl) rfl h) (by kernel_rfl) ?_
      refine AS.op [43, 44] [] [29] [] rfl rfl rfl (by kernel_rfl) (by kernel_rfl) rfl rfl (fun _ _ _ h => AOp.iadd rfl rfl (ltb rfl) rfl rfl rfl q45.1 q45.2 h) (by kernel_rfl) ?_
      refine AS.op [40, 45] [] [29] [] rfl rfl rfl (by kernel_rfl) (by kernel_rfl) rfl rfl (fun _ _ _ h => AOp.indexOwn (cells := (List.map keS1 g36.2)) (n := g36.2.length) rfl rfl (ltb rfl) rfl rfl el22 rfl (by decide) (len1 _ _) q46.1 q46.2 h) (by kernel_rfl) ?_
      refine AS.op [46] [] [29] [] rfl rfl rfl (by kernel_rfl) (by kernel_rfl) rfl rfl (fun _ _ _ h => AOp.loadO1 rfl rfl (ltb rfl) rfl agg32 rfl (at1 q48.2) h) (by kernel_rfl) ?_
      refine AS.op [0] [] [29] [] rfl rfl rfl (by kernel_rfl) (by kernel_rfl) rfl rfl (fun _ _ _ h => AOp.move rfl rfl (ltb rfl) rfl h) (by kernel_rfl) ?_
      refine AS.op [8] [] [29] [] rfl rfl rfl (by kernel_rfl) (by kernel_rfl) rfl rfl (fun _ _ _ h => AOp.move rfl rfl (ltb rfl) rfl h) (by kernel_rfl) ?_
      refine AS.op [3] [] [29] [] rfl rfl rfl (by kernel_rfl) (by kernel_rfl) rfl rfl (fun _ _ _ h => AOp.move rfl rfl (ltb rfl) rfl h) (by kernel_rfl) ?_
      refine AS.op [49, 50] [] [29] [] rfl rfl rfl (by kernel_rfl) (by kernel_rfl) rfl rfl (fun _ _ _ h => AOp.isub rfl rfl (ltb rfl) rfl rfl rfl q49.1 q49.2 h) (by kernel_rfl) ?_
      refine AS.op [10] [] [29] [] rfl rfl rfl (by kernel_rfl) (by kernel_rfl) rfl rfl (fun _ _ _ h => AOp.move rfl rfl (ltb rfl) rfl h) (by kernel_rfl) ?_
      refine AS.op [51, 52] [] [29] [] rfl rfl rfl (by kernel_rfl) (by kernel_rfl) rfl rfl (fun _ _ _ h => AOp.iadd rfl rfl (ltb rfl) rfl rfl rfl q50.1 q50.2 h) (by kernel_rfl) ?_
      refine AS.op [48, 53] [] [29] [] rfl rfl rfl (by kernel_rfl) (by kernel_rfl) rfl rfl (fun _ _ _ h => AOp.indexOwn (cells := (List.map keS1 g36.2)) (n := g36.2.length) rfl rfl (ltb rfl) rfl rfl el22 rfl (by decide) (len1 _ _) q51.1 q51.2 h) (by kernel_rfl) ?_
      refine AS.op [54] [] [29] [] rfl rfl rfl (by kernel_rfl) (by kernel_rfl) rfl rfl (fun _ _ _ h => AOp.loadO1 rfl rfl (ltb rfl) rfl agg32 rfl (at1 q53.2) h) (by kernel_rfl) ?_
      refine AS.op [28, 33] [] [29] [] rfl rfl rfl (by kernel_rfl) (by kernel_rfl) rfl rfl (fun _ _ _ h => AOp.indexOwn (cells := (List.map keS1 g36.2)) (n := g36.2.length) rfl rfl (ltb rfl) rfl rfl el22 rfl (by decide) (len1 _ _) q54.1 q54.2 h) (by kernel_rfl) ?_
      refine AS.mid0 [47, 56] [] [29] [] rfl rfl rfl rfl (by kernel_rfl) (by kernel_rfl) rfl rfl (fun _ _ _ h => AOp.storeOL (f := keS1) (l := g36.2) (i := (((g27.1 - y6.geom1.geom0.stride) + g36.1)).toNat) (v := x47) rfl rfl rfl rfl size32 rfl rfl rfl q55 (AO.dropT h)) (by kernel_rfl) rfl ?_
      refine AS.done ?_
      refine AO.objs (obs' := [.fix 27 [.d (di .i64 a0.Kind), .d (di .i64 a0.Layout), .d (di .i64 a0.SRID), .d (eS1 a0.Flat), .d (eS2 a0.Ends), .d (eS3 a0.Endss), .d (eS0 a0.Kids)], .fix 27 [.d (di .i64 (0 : Int)), .d (di .i64 (0 : Int)), .d (di .i64 (0 : Int)), .d (.v (.slice none 0 0)), .d (.v (.slice none 0 0)), .d (.v (.slice none 0 0)), .d (.v (.slice none 0 0))], .fix 4 [.d (dbool false)], .dead, .fix 27 [.d (di .i64 a0.Kind), .d (di .i64 a0.Layout), .d (di .i64 a0.SRID), .d (eS1 a0.Flat), .d (eS2 a0.Ends), .d (eS3 a0.Endss), .d (eS0 a0.Kids)], .grow 32 1 (List.map keS1 (g36.2.set (((g27.1 - y6.geom1.geom0.stride) + g36.1)).toNat x47)), .fix 115 [.d (di .i64 y6.geom1.geom0.layout), .d (di .i64 y6.geom1.geom0.stride), .own 5, .d (di .i64 a0.SRID)], .dead, .frame fr9 [(2, .ptr 1 0), (3, .ptr 2 0), (4, .ifc 67 (.ptr 6 0))], .frame fr10 []]) rfl ?_
      obtain ⟨q56, h2⟩ := need_elim h2
      refine AO.op rfl (AOp.indexOwn (cells := (List.map keS1 (g36.2.set (((g27.1 - y6.geom1.geom0.stride) + g36.1)).toNat x47))) (n := (g36.2.set (((g27.1 - y6.geom1.geom0.stride) + g36.1)).toNat x47).length) rfl rfl (ltb rfl) rfl rfl el22 rfl (by decide) (len1 _ _) q56.1 q56.2 ?_)
      obtain ⟨q57, h2⟩ := need_elim h2
      refine AO.op rfl (AOp.storeOL (f := keS1) (l := (g36.2.set (((g27.1 - y6.geom1.geom0.stride) + g36.1)).toNat x47)) (i := (((g27.2.1 - y6.geom1.geom0.stride) + g36.1)).toNat) (v := x52) rfl rfl rfl rfl size32 rfl rfl rfl q57 ?_)
      refine AO.nil ?_
      change AC _ _ _ _
      refine AC.region ?_
      obtain ⟨q58, h2⟩ := need_elim h2
      refine AO.op rfl (AOp.iadd rfl rfl (ltb rfl) rfl rfl rfl q58.1 q58.2 ?_)
      refine AO.op rfl (AOp.move rfl rfl (ltb rfl) rfl ?_)
      refine AO.nil ?_
      exact ⟨((g36.1 + (1 : Int)), ((g36.2.set (((g27.1 - y6.geom1.geom0.stride) + g36.1)).toNat x47).set (((g27.2.1 - y6.geom1.geom0.stride) + g36.1)).toNat x52)), _, rfl, (LeL.refl _), rfl, rfl, h2⟩
     replace h2 := cF h2 q39
     refine AC.exit ?_
     obtain rfl := Option.some.inj h2
     exact ⟨g36.2, _, rfl, (LeL.refl _), rfl, rfl, aftL h1⟩
    intro g33 h1
    unfold p_Reverse_k3 at h1
    change AC _ _ _ _
    refine AC.region ?_
    refine AO.op rfl (AOp.move rfl rfl (ltb rfl) rfl ?_)
    refine AO.op rfl (AOp.move rfl rfl (ltb rfl) rfl ?_)
    obtain ⟨q34, h1⟩ := need_elim h1
    refine AO.op rfl (AOp.iadd rfl rfl (ltb rfl) rfl rfl rfl q34.1 q34.2 ?_)
    refine AO.op rfl (AOp.move rfl rfl (ltb rfl) rfl ?_)
    refine AO.op rfl (AOp.move rfl rfl (ltb rfl) rfl ?_)
    obtain ⟨q35, h1⟩ := need_elim h1
    refine AO.op rfl (AOp.isub rfl rfl (ltb rfl) rfl rfl rfl q35.1 q35.2 ?_)
    refine AO.op rfl (AOp.assign rfl rfl (ltb rfl) rfl ?_)
    refine AO.op rfl (AOp.assign rfl rfl (ltb rfl) rfl ?_)
    refine AO.nil ?_
    exact ⟨((g27.1 + y6.geom1.geom0.stride), (g27.2.1 - y6.geom1.geom0.stride), g33), _, rfl, (LeL.refl _), rfl, rfl, h1⟩
   replace h1 := cF h1 q30
   refine AC.exit ?_
   obtain rfl := Option.some.inj h1
   exact ⟨g27.2.2, _, rfl, (LeL.refl _), rfl, rfl, aftL h0⟩
  intro g14 h0
  unfold p_Reverse_k1 at h0
  refine inlend (ob' := [.fix 27 [.d (di .i64 a0.Kind), .d (di .i64 a0.Layout), .d (di .i64 a0.SRID), .d (eS1 a0.Flat), .d (eS2 a0.Ends), .d (eS3 a0.Endss), .d (eS0 a0.Kids)], .fix 27 [.d (di .i64 (0 : Int)), .d (di .i64 (0 : Int)), .d (di .i64 (0 : Int)), .d (.v (.slice none 0 0)), .d (.v (.slice none 0 0)), .d (.v (.slice none 0 0)), .d (.v (.slice none 0 0))], .fix 4 [.d (dbool false)], .dead, .fix 27 [.d (di .i64 a0.Kind), .d (di .i64 a0.Layout), .d (di .i64 a0.SRID), .d (eS1 a0.Flat), .d (eS2 a0.Ends), .d (eS3 a0.Endss), .d (eS0 a0.Kids)], .grow 32 1 (List.map keS1 g14), .fix 115 [.d (di .i64 y6.geom1.geom0.layout), .d (di .i64 y6.geom1.geom0.stride), .own 5, .d (di .i64 a0.SRID)], .dead, .frame fr9 [(2, .ptr 1 0), (3, .ptr 2 0), (4, .ifc 67 (.ptr 6 0))], .dead]) (e' := []) (r := .tu []) rfl rfl rfl ?_
  change AO _ _ _ _ _
  refine AO.objs (obs' := [.fix 27 [.d (di .i64 a0.Kind), .d (di .i64 a0.Layout), .d (di .i64 a0.SRID), .d (eS1 a0.Flat), .d (eS2 a0.Ends), .d (eS3 a0.Endss), .d (eS0 a0.Kids)], .fix 27 [.d (di .i64 (0 : Int)), .d (di .i64 (0 : Int)), .d (di .i64 (0 : Int)), .d (.v (.slice none 0 0)), .d (.v (.slice none 0 0)), .d (.v (.slice none 0 0)), .d (.v (.slice none 0 0))], .fix 4 [.d (dbool false)], .dead, .fix 27 [.d (di .i64 a0.Kind), .d (di .i64 a0.Layout), .d (di .i64 a0.SRID), .d (eS1 a0.Flat), .d (eS2 a0.Ends), .d (eS3 a0.Endss), .d (eS0 a0.Kids)], .grow 32 1 (List.map keS1 g14), .fix 115 [.d (di .i64 y6.geom1.geom0.layout), .d (di .i64 y6.geom1.geom0.stride), .own 5, .d (di .i64 a0.SRID)], .dead, .frame fr9 [(2, .ptr 1 0), (3, .ptr 2 0), (4, .ifc 67 (.ptr 6 0))], .dead]) rfl ?_
  refine AO.nil ?_
  refine inlend (ob' := [.fix 27 [.d (di .i64 a0.Kind), .d (di .i64 a0.Layout), .d (di .i64 a0.SRID), .d (eS1 a0.Flat), .d (eS2 a0.Ends), .d (eS3 a0.Endss), .d (eS0 a0.Kids)], .fix 27 [.d (di .i64 (0 : Int)), .d (di .i64 (0 : Int)), .d (di .i64 (0 : Int)), .d (.v (.slice none 0 0)), .d (.v (.slice none 0 0)), .d (.v (.slice none 0 0)), .d (.v (.slice none 0 0))], .fix 4 [.d (dbool false)], .dead, .fix 27 [.d (di .i64 a0.Kind), .d (di .i64 a0.Layout), .d (di .i64 a0.SRID), .d (eS1 a0.Flat), .d (eS2 a0.Ends), .d (eS3 a0.Endss), .d (eS0 a0.Kids)], .grow 32 1 (List.map keS1 g14), .fix 115 [.d (di .i64 y6.geom1.geom0.layout), .d (di .i64 y6.geom1.geom0.stride), .own 5, .d (di .i64 a0.SRID)], .dead, .dead, .dead]) (e' := [(2, .ptr 1 0), (3, .ptr 2 0), (4, .ifc 67 (.ptr 6 0))]) (r := .tu []) rfl rfl rfl ?_
  change AO _ _ _ _ _
  refine AO.objs (obs' := [.fix 27 [.d (di .i64 a0.Kind), .d (di .i64 a0.Layout), .d (di .i64 a0.SRID), .d (eS1 a0.Flat), .d (eS2 a0.Ends), .d (eS3 a0.Endss), .d (eS0 a0.Kids)], .fix 27 [.d (di .i64 (0 : Int)), .d (di .i64 (0 : Int)), .d (di .i64 (0 : Int)), .d (.v (.slice none 0 0)), .d (.v (.slice none 0 0)), .d (.v (.slice none 0 0)), .d (.v (.slice none 0 0))], .fix 4 [.d (dbool false)], .dead, .fix 27 [.d (di .i64 a0.Kind), .d (di .i64 a0.Layout), .d (di .i64 a0.SRID), .d (eS1 a0.Flat), .d (eS2 a0.Ends), .d (eS3 a0.Endss), .d (eS0 a0.Kids)], .grow 32 1 (List.map keS1 g14), .fix 115 [.d (di .i64 y6.geom1.geom0.layout), .d (di .i64 y6.geom1.geom0.stride), .own 5, .d (di .i64 a0.SRID)], .dead, .dead, .dead]) rfl ?_
  refine AO.nil ?_
  change AC _ _ _ _
  refine AC.seq ?_
  refine AC.region ?_
  refine AO.op rfl (AOp.move rfl rfl (ltb rfl) rfl ?_)
  refine AO.op rfl (AOp.inl [2, 3] (by kernel_rfl) Try.func32 rfl Try.ntmps32 rfl rfl (ltb rfl) rfl (leb rfl) rfl ?_)
  intro fr15
  refine AC.seq ?_
  refine AC.region ?_
  refine AO.op rfl (AOp.alloc rfl rfl (ltb rfl) zero27 rfl ?_)
  refine AO.objs (obs' := [.fix 27 [.d (di .i64 a0.Kind), .d (di .i64 a0.Layout), .d (di .i64 a0.SRID), .d (eS1 a0.Flat), .d (eS2 a0.Ends), .d (eS3 a0.Endss), .d (eS0 a0.Kids)], .fix 27 [.d (di .i64 (0 : Int)), .d (di .i64 (0 : Int)), .d (di .i64 (0 : Int)), .d (.v (.slice none 0 0)), .d (.v (.slice none 0 0)), .d (.v (.slice none 0 0)), .d (.v (.slice none 0 0))], .fix 4 [.d (dbool false)], .dead, .fix 27 [.d (di .i64 a0.Kind), .d (di .i64 a0.Layout), .d (di .i64 a0.SRID), .d (eS1 a0.Flat), .d (eS2 a0.Ends), .d (eS3 a0.Endss), .d (eS0 a0.Kids)], .grow 32 1 (List.map keS1 g14), .fix 115 [.d (di .i64 y6.geom1.geom0.layout), .d (di .i64 y6.geom1.geom0.stride), .own 5, .d (di .i64 a0.SRID)], .dead, .dead, .dead, .frame fr15 [(2, .ptr 1 0), (3, .ptr 2 0)], .fix 27 [.d (di .i64 (0 : Int)), .d (di .i64 (0 : Int)), .d (di .i64 (0 : Int)), .d (.v (.slice none 0 0)), .d (.v (.slice none 0 0)), .d (.v (.slice none 0 0)), .d (.v (.slice none 0 0))]]) rfl ?_
  refine AO.nil ?_
  change AC _ _ _ _
  refine AC.seq ?_
  refine AC.region ?_
  refine AO.op rfl (AOp.move rfl rfl (ltb rfl) rfl ?_)
  refine AO.op rfl (AOp.inlE [0, 2] (EntersS.meth (by kernel_rfl) rfl rfl rfl meth67_SRID rfl rfl) Try.func90 rfl Try.ntmps90 rfl (ltb rfl) (leb rfl) rfl ?_)
  intro fr16
  refine AC.seq ?_
  refine AC.region ?_
  refine AO.op rfl (AOp.assign rfl rfl (ltb rfl) rfl ?_)
  refine AO.objs (obs' := [.fix 27 [.d (di .i64 a0.Kind), .d (di .i64 a0.Layout), .d (di .i64 a0.SRID), .d (eS1 a0.Flat), .d (eS2 a0.Ends), .d (eS3 a0.Endss), .d (eS0 a0.Kids)], .fix 27 [.d (di .i64 (0 : Int)), .d (di .i64 (0 : Int)), .d (di .i64 (0 : Int)), .d (.v (.slice none 0 0)), .d (.v (.slice none 0 0)), .d (.v (.slice none 0 0)), .d (.v (.slice none 0 0))], .fix 4 [.d (dbool false)], .dead, .fix 27 [.d (di .i64 a0.Kind), .d (di .i64 a0.Layout), .d (di .i64 a0.SRID), .d (eS1 a0.Flat), .d (eS2 a0.Ends), .d (eS3 a0.Endss), .d (eS0 a0.Kids)], .grow 32 1 (List.map keS1 g14), .fix 115 [.d (di .i64 y6.geom1.geom0.layout), .d (di .i64 y6.geom1.geom0.stride), .own 5, .d (di .i64 a0.SRID)], .dead, .dead, .dead, .frame fr15 [(2, .ptr 1 0), (3, .ptr 2 0)], .fix 27 [.d (di .i64 (0 : Int)), .d (di .i64 (0 : Int)), .d (di .i64 (0 : Int)), .d (.v (.slice none 0 0)), .d (.v (.slice none 0 0)), .d (.v (.slice none 0 0)), .d (.v (.slice none 0 0))], .frame fr16 [(0, .ifc 67 (.ptr 6 0)), (2, .ptr 11 0)]]) rfl ?_
  refine AO.nil ?_
  change AC _ _ _ _
  refine AC.seq ?_
  refine AC.region ?_
  refine AO.op rfl (AOp.move rfl rfl (ltb rfl) rfl ?_)
  refine AO.op rfl (AOp.nilCheck rfl rfl (ltb rfl) rfl rfl ?_)
  refine AO.op rfl (AOp.fieldAddr rfl rfl (ltb rfl) rfl fo91_3 ?_)
  refine AO.op rfl (AOp.load1 rfl rfl (ltb rfl) rfl agg3 rfl rfl ?_)
  refine AO.op rfl (AOp.assign rfl rfl (ltb rfl) rfl ?_)
  refine AO.nil ?_
  change AC _ _ _ _
  refine AC.ret ?_
  refine inlret (ob' := [.fix 27 [.d (di .i64 a0.Kind), .d (di .i64 a0.Layout), .d (di .i64 a0.SRID), .d (eS1 a0.Flat), .d (eS2 a0.Ends), .d (eS3 a0.Endss), .d (eS0 a0.Kids)], .fix 27 [.d (di .i64 (0 : Int)), .d (di .i64 (0 : Int)), .d (di .i64 (0 : Int)), .d (.v (.slice none 0 0)), .d (.v (.slice none 0 0)), .d (.v (.slice none 0 0)), .d (.v (.slice none 0 0))], .fix 4 [.d (dbool false)], .dead, .fix 27 [.d (di .i64 a0.Kind), .d (di .i64 a0.Layout), .d (di .i64 a0.SRID), .d (eS1 a0.Flat), .d (eS2 a0.Ends), .d (eS3 a0.Endss), .d (eS0 a0.Kids)], .grow 32 1 (List.map keS1 g14), .fix 115 [.d (di .i64 y6.geom1.geom0.layout), .d (di .i64 y6.geom1.geom0.stride), .own 5, .d (di .i64 a0.SRID)], .dead, .dead, .dead, .frame fr15 [(2, .ptr 1 0), (3, .ptr 2 0)], .fix 27 [.d (di .i64 (0 : Int)), .d (di .i64 (0 : Int)), .d (di .i64 (0 : Int)), .d (.v (.slice none 0 0)), .d (.v (.slice none 0 0)), .d (.v (.slice none 0 0)), .d (.v (.slice none 0 0))], .dead]) (e' := [(0, .ifc 67 (.ptr 6 0)), (2, .ptr 11 0)]) (r := .d (di .i64 a0.SRID)) rfl rfl rfl ?_
  change AO _ _ _ _ _
  refine AO.op rfl (AOp.build rfl rfl (ltb rfl) zero27 rfl places27 rfl rfl ?_)
  refine AO.op rfl (AOp.alloc rfl rfl (ltb rfl) zero27 rfl ?_)
  refine AO.op rfl (AOp.store rfl rfl rfl rfl size27 rfl rfl rfl (leb rfl) ?_)
  refine AO.objs (obs' := [.fix 27 [.d (di .i64 a0.Kind), .d (di .i64 a0.Layout), .d (di .i64 a0.SRID), .d (eS1 a0.Flat), .d (eS2 a0.Ends), .d (eS3 a0.Endss), .d (eS0 a0.Kids)], .fix 27 [.d (di .i64 (0 : Int)), .d (di .i64 (0 : Int)), .d (di .i64 (0 : Int)), .d (.v (.slice none 0 0)), .d (.v (.slice none 0 0)), .d (.v (.slice none 0 0)), .d (.v (.slice none 0 0))], .fix 4 [.d (dbool false)], .dead, .fix 27 [.d (di .i64 a0.Kind), .d (di .i64 a0.Layout), .d (di .i64 a0.SRID), .d (eS1 a0.Flat), .d (eS2 a0.Ends), .d (eS3 a0.Endss), .d (eS0 a0.Kids)], .grow 32 1 (List.map keS1 g14), .fix 115 [.d (di .i64 y6.geom1.geom0.layout), .d (di .i64 y6.geom1.geom0.stride), .own 5, .d (di .i64 a0.SRID)], .dead, .dead, .dead, .frame fr15 [(2, .ptr 1 0), (3, .ptr 2 0)], .fix 27 [.d (di .i64 (0 : Int)), .d (di .i64 (0 : Int)), .d (di .i64 (0 : Int)), .d (.v (.slice none 0 0)), .d (.v (.slice none 0 0)), .d (.v (.slice none 0 0)), .d (.v (.slice none 0 0))], .dead, .fix 27 [.d (di .i64 (0 : Int)), .d (di .i64 (0 : Int)), .d (di .i64 a0.SRID), .d (.v (.slice none 0 0)), .d (.v (.slice none 0 0)), .d (.v (.slice none 0 0)), .d (.v (.slice none 0 0))]]) rfl ?_
  refine AO.nil ?_
  change AC _ _ _ _
  refine AC.seq ?_
  refine AC.seq ?_
  refine AC.region ?_
  refine AO.op rfl (AOp.move rfl rfl (ltb rfl) rfl ?_)
  refine AO.nil ?_
  change AC _ _ _ _
  refine AC.block ?_
  refine AC.seq ?_
  refine AC.region ?_
  refine AO.op rfl (AOp.assertNo rfl rfl (ltb rfl) rfl rfl pass67_64 zero64 ?_)
  first | refine AO.op rfl (AOp.extractD rfl rfl (ltb rfl) rfl rfl ?_) | refine AO.op rfl (AOp.extract rfl rfl (ltb rfl) rfl rfl ?_)
  first | refine AO.op rfl (AOp.extractD rfl rfl (ltb rfl) rfl rfl ?_) | refine AO.op rfl (AOp.extract rfl rfl (ltb rfl) rfl rfl ?_)
  refine AO.nil ?_
  change AC _ _ _ _
  refine AC.condF rfl rfl ?_
  refine AC.seq ?_
  refine AC.region ?_
  refine AO.op rfl (AOp.assertYes rfl rfl (ltb rfl) rfl rfl pass67_67 rfl ?_)
  first | refine AO.op rfl (AOp.extractD rfl rfl (ltb rfl) rfl rfl ?_) | refine AO.op rfl (AOp.extract rfl rfl (ltb rfl) rfl rfl ?_)
  first | refine AO.op rfl (AOp.extractD rfl rfl (ltb rfl) rfl rfl ?_) | refine AO.op rfl (AOp.extract rfl rfl (ltb rfl) rfl rfl ?_)
  refine AO.nil ?_
  change AC _ _ _ _
  refine AC.condT rfl rfl ?_
  refine AC.seq ?_
  refine AC.region ?_
  refine AO.op rfl (AOp.assign rfl rfl (ltb rfl) rfl ?_)
  refine AO.nil ?_
  change AC _ _ _ _
  refine AC.region ?_
  refine AO.op rfl (AOp.fieldAddr rfl rfl (ltb rfl) rfl fo27_0 ?_)
  refine AO.op rfl (AOp.store rfl rfl rfl rfl size3 rfl rfl rfl (leb rfl) ?_)
  refine AO.nil ?_
  change AC _ _ _ _
  refine AC.seq ?_
  refine AC.region ?_
  refine AO.op rfl (AOp.move rfl rfl (ltb rfl) rfl ?_)
  refine AO.op rfl (AOp.inlE [0, 2, 3] (EntersS.meth (by kernel_rfl) rfl rfl rfl meth67_Layout rfl rfl) Try.func88 rfl Try.ntmps88 rfl (ltb rfl) (leb rfl) rfl ?_)
  intro fr17
  refine AC.seq ?_
  refine AC.region ?_
  refine AO.op rfl (AOp.assign rfl rfl (ltb rfl) rfl ?_)
  refine AO.objs (obs' := [.fix 27 [.d (di .i64 a0.Kind), .d (di .i64 a0.Layout), .d (di .i64 a0.SRID), .d (eS1 a0.Flat), .d (eS2 a0.Ends), .d (eS3 a0.Endss), .d (eS0 a0.Kids)], .fix 27 [.d (di .i64 (0 : Int)), .d (di .i64 (0 : Int)), .d (di .i64 (0 : Int)), .d (.v (.slice none 0 0)), .d (.v (.slice none 0 0)), .d (.v (.slice none 0 0)), .d (.v (.slice none 0 0))], .fix 4 [.d (dbool false)], .dead, .fix 27 [.d (di .i64 a0.Kind), .d (di .i64 a0.Layout), .d (di .i64 a0.SRID), .d (eS1 a0.Flat), .d (eS2 a0.Ends), .d (eS3 a0.Endss), .d (eS0 a0.Kids)], .grow 32 1 (List.map keS1 g14), .fix 115 [.d (di .i64 y6.geom1.geom0.layout), .d (di .i64 y6.geom1.geom0.stride), .own 5, .d (di .i64 a0.SRID)], .dead, .dead, .dead, .frame fr15 [(2, .ptr 1 0), (3, .ptr 2 0)], .fix 27 [.d (di .i64 (0 : Int)), .d (di .i64 (0 : Int)), .d (di .i64 (0 : Int)), .d (.v (.slice none 0 0)), .d (.v (.slice none 0 0)), .d (.v (.slice none 0 0)), .d (.v (.slice none 0 0))], .dead, .fix 27 [.d (di .i64 (2 : Int)), .d (di .i64 (0 : Int)), .d (di .i64 a0.SRID), .d (.v (.slice none 0 0)), .d (.v (.slice none 0 0)), .d (.v (.slice none 0 0)), .d (.v (.slice none 0 0))], .frame fr17 [(0, .ifc 67 (.ptr 6 0)), (2, .ptr 11 0), (3, .ptr 13 0)]]) rfl ?_
  refine AO.nil ?_
  change AC _ _ _ _
  refine AC.seq ?_
  refine AC.region ?_
  refine AO.op rfl (AOp.move rfl rfl (ltb rfl) rfl ?_)
  refine AO.op rfl (AOp.nilCheck rfl rfl (ltb rfl) rfl rfl ?_)
  refine AO.op rfl (AOp.fieldAddr rfl rfl (ltb rfl) rfl fo91_0 ?_)
  refine AO.op rfl (AOp.load1 rfl rfl (ltb rfl) rfl agg63 rfl rfl ?_)
  refine AO.op rfl (AOp.assign rfl rfl (ltb rfl) rfl ?_)
  refine AO.nil ?_
  change AC _ _ _ _
  refine AC.ret ?_
  refine inlret (ob' := [.fix 27 [.d (di .i64 a0.Kind), .d (di .i64 a0.Layout), .d (di .i64 a0.SRID), .d (eS1 a0.Flat), .d (eS2 a0.Ends), .d (eS3 a0.Endss), .d (eS0 a0.Kids)], .fix 27 [.d (di .i64 (0 : Int)), .d (di .i64 (0 : Int)), .d (di .i64 (0 : Int)), .d (.v (.slice none 0 0)), .d (.v (.slice none 0 0)), .d (.v (.slice none 0 0)), .d (.v (.slice none 0 0))], .fix 4 [.d (dbool false)], .dead, .fix 27 [.d (di .i64 a0.Kind), .d (di .i64 a0.Layout), .d (di .i64 a0.SRID), .d (eS1 a0.Flat), .d (eS2 a0.Ends), .d (eS3 a0.Endss), .d (eS0 a0.Kids)], .grow 32 1 (List.map keS1 g14), .fix 115 [.d (di .i64 y6.geom1.geom0.layout), .d (di .i64 y6.geom1.geom0.stride), .own 5, .d (di .i64 a0.SRID)], .dead, .dead, .dead, .frame fr15 [(2, .ptr 1 0), (3, .ptr 2 0)], .fix 27 [.d (di .i64 (0 : Int)), .d (di .i64 (0 : Int)), .d (di .i64 (0 : Int)), .d (.v (.slice none 0 0)), .d (.v (.slice none 0 0)), .d (.v (.slice none 0 0)), .d (.v (.slice none 0 0))], .dead, .fix 27 [.d (di .i64 (2 : Int)), .d (di .i64 (0 : Int)), .d (di .i64 a0.SRID), .d (.v (.slice none 0 0)), .d (.v (.slice none 0 0)), .d (.v (.slice none 0 0)), .d (.v (.slice none 0 0))], .dead]) (e' := [(0, .ifc 67 (.ptr 6 0)), (2, .ptr 11 0), (3, .ptr 13 0)]) (r := .d (di .i64 y6.geom1.geom0.layout)) rfl rfl rfl ?_
  change AO _ _ _ _ _
  refine AO.op rfl (AOp.move rfl rfl (ltb rfl) rfl ?_)
  refine AO.op rfl (AOp.inlE [0, 2, 3, 70] (EntersS.meth (by kernel_rfl) rfl rfl rfl meth67_FlatCoords rfl rfl) Try.func87 rfl Try.ntmps87 rfl (ltb rfl) (leb rfl) rfl ?_)
  intro fr18
  refine AC.seq ?_
  refine AC.region ?_
  refine AO.op rfl (AOp.assign rfl rfl (ltb rfl) rfl ?_)
  refine AO.objs (obs' := [.fix 27 [.d (di .i64 a0.Kind), .d (di .i64 a0.Layout), .d (di .i64 a0.SRID), .d (eS1 a0.Flat), .d (eS2 a0.Ends), .d (eS3 a0.Endss), .d (eS0 a0.Kids)], .fix 27 [.d (di .i64 (0 : Int)), .d (di .i64 (0 : Int)), .d (di .i64 (0 : Int)), .d (.v (.slice none 0 0)), .d (.v (.slice none 0 0)), .d (.v (.slice none 0 0)), .d (.v (.slice none 0 0))], .fix 4 [.d (dbool false)], .dead, .fix 27 [.d (di .i64 a0.Kind), .d (di .i64 a0.Layout), .d (di .i64 a0.SRID), .d (eS1 a0.Flat), .d (eS2 a0.Ends), .d (eS3 a0.Endss), .d (eS0 a0.Kids)], .grow 32 1 (List.map keS1 g14), .fix 115 [.d (di .i64 y6.geom1.geom0.layout), .d (di .i64 y6.geom1.geom0.stride), .own 5, .d (di .i64 a0.SRID)], .dead, .dead, .dead, .frame fr15 [(2, .ptr 1 0), (3, .ptr 2 0)], .fix 27 [.d (di .i64 (0 : Int)), .d (di .i64 (0 : Int)), .d (di .i64 (0 : Int)), .d (.v (.slice none 0 0)), .d (.v (.slice none 0 0)), .d (.v (.slice none 0 0)), .d (.v (.slice none 0 0))], .dead, .fix 27 [.d (di .i64 (2 : Int)), .d (di .i64 (0 : Int)), .d (di .i64 a0.SRID), .d (.v (.slice none 0 0)), .d (.v (.slice none 0 0)), .d (.v (.slice none 0 0)), .d (.v (.slice none 0 0))], .dead, .frame fr18 [(0, .ifc 67 (.ptr 6 0)), (2, .ptr 11 0), (3, .ptr 13 0), (70, .d (di .i64 y6.geom1.geom0.layout))]]) rfl ?_
  refine AO.nil ?_
  change AC _ _ _ _
  refine AC.seq ?_
  refine AC.region ?_
  refine AO.op rfl (AOp.move rfl rfl (ltb rfl) rfl ?_)
  refine AO.op rfl (AOp.nilCheck rfl rfl (ltb rfl) rfl rfl ?_)
  refine AO.op rfl (AOp.fieldAddr rfl rfl (ltb rfl) rfl fo91_2 ?_)
  refine AO.op rfl (AOp.load1 rfl rfl (ltb rfl) rfl agg22 rfl rfl ?_)
  refine AO.op rfl (AOp.assign rfl rfl (ltb rfl) rfl ?_)
  refine AO.nil ?_
  change AC _ _ _ _
  refine AC.ret ?_
  refine inlret (ob' := [.fix 27 [.d (di .i64 a0.Kind), .d (di .i64 a0.Layout), .d (di .i64 a0.SRID), .d (eS1 a0.Flat), .d (eS2 a0.Ends), .d (eS3 a0.Endss), .d (eS0 a0.Kids)], .fix 27 [.d (di .i64 (0 : Int)), .d (di .i64 (0 : Int)), .d (di .i64 (0 : Int)), .d (.v (.slice none 0 0)), .d (.v (.slice none 0 0)), .d (.v (.slice none 0 0)), .d (.v (.slice none 0 0))], .fix 4 [.d (dbool false)], .dead, .fix 27 [.d (di .i64 a0.Kind), .d (di .i64 a0.Layout), .d (di .i64 a0.SRID), .d (eS1 a0.Flat), .d (eS2 a0.Ends), .d (eS3 a0.Endss), .d (eS0 a0.Kids)], .grow 32 1 (List.map keS1 g14), .fix 115 [.d (di .i64 y6.geom1.geom0.layout), .d (di .i64 y6.geom1.geom0.stride), .own 5, .d (di .i64 a0.SRID)], .dead, .dead, .dead, .frame fr15 [(2, .ptr 1 0), (3, .ptr 2 0)], .fix 27 [.d (di .i64 (0 : Int)), .d (di .i64 (0 : Int)), .d (di .i64 (0 : Int)), .d (.v (.slice none 0 0)), .d (.v (.slice none 0 0)), .d (.v (.slice none 0 0)), .d (.v (.slice none 0 0))], .dead, .fix 27 [.d (di .i64 (2 : Int)), .d (di .i64 (0 : Int)), .d (di .i64 a0.SRID), .d (.v (.slice none 0 0)), .d (.v (.slice none 0 0)), .d (.v (.slice none 0 0)), .d (.v (.slice none 0 0))], .dead, .dead]) (e' := [(0, .ifc 67 (.ptr 6 0)), (2, .ptr 11 0), (3, .ptr 13 0), (70, .d (di .i64 y6.geom1.geom0.layout))]) (r := .own 5) rfl rfl rfl ?_
  change AO _ _ _ _ _
  refine AO.subO 6 rfl (.cons (SVLe.refl _) (.cons (SVLe.refl _) (.cons (SVLe.any _) (.cons (SVLe.refl _) .nil)))) ?_
  refine AO.freezeG 5 rfl rfl rfl ?_
  obtain ⟨y19, q20, h0⟩ := bind_elim h0
  refine AO.op rfl (AOp.callD rfl rfl (ltb rfl) rfl rfl (w_floats g14 y19 q20) ?_)
  rintro _ rfl
  refine AO.op rfl (AOp.move rfl rfl (ltb rfl) rfl ?_)
  refine AO.op rfl (AOp.inlE [0, 2, 3, 70, 73] (EntersS.meth (by kernel_rfl) rfl rfl rfl meth67_Ends rfl rfl) Try.func94 rfl Try.ntmps94 rfl (ltb rfl) (leb rfl) rfl ?_)
  intro fr21
  refine AC.seq ?_
  refine AC.region ?_
  refine AO.op rfl (AOp.assign rfl rfl (ltb rfl) rfl ?_)
  refine AO.objs (obs' := [.fix 27 [.d (di .i64 a0.Kind), .d (di .i64 a0.Layout), .d (di .i64 a0.SRID), .d (eS1 a0.Flat), .d (eS2 a0.Ends), .d (eS3 a0.Endss), .d (eS0 a0.Kids)], .fix 27 [.d (di .i64 (0 : Int)), .d (di .i64 (0 : Int)), .d (di .i64 (0 : Int)), .d (.v (.slice none 0 0)), .d (.v (.slice none 0 0)), .d (.v (.slice none 0 0)), .d (.v (.slice none 0 0))], .fix 4 [.d (dbool false)], .dead, .fix 27 [.d (di .i64 a0.Kind), .d (di .i64 a0.Layout), .d (di .i64 a0.SRID), .d (eS1 a0.Flat), .d (eS2 a0.Ends), .d (eS3 a0.Endss), .d (eS0 a0.Kids)], .dead, .fix 115 [.d (di .i64 y6.geom1.geom0.layout), .d (di .i64 y6.geom1.geom0.stride), .any, .d (di .i64 a0.SRID)], .dead, .dead, .dead, .frame fr15 [(2, .ptr 1 0), (3, .ptr 2 0)], .fix 27 [.d (di .i64 (0 : Int)), .d (di .i64 (0 : Int)), .d (di .i64 (0 : Int)), .d (.v (.slice none 0 0)), .d (.v (.slice none 0 0)), .d (.v (.slice none 0 0)), .d (.v (.slice none 0 0))], .dead, .fix 27 [.d (di .i64 (2 : Int)), .d (di .i64 (0 : Int)), .d (di .i64 a0.SRID), .d (.v (.slice none 0 0)), .d (.v (.slice none 0 0)), .d (.v (.slice none 0 0)), .d (.v (.slice none 0 0))], .dead, .dead, .frame fr21 [(0, .ifc 67 (.ptr 6 0)), (2, .ptr 11 0), (3, .ptr 13 0), (70, .d (di .i64 y6.geom1.geom0.layout)), (73, .d (eS1 y19))]]) rfl ?_
  refine AO.nil ?_
  change AC _ _ _ _
  refine AC.seq ?_
  refine AC.region ?_
  refine AO.op rfl (AOp.assign rfl rfl (ltb rfl) rfl ?_)
  refine AO.nil ?_
  change AC _ _ _ _
  refine AC.ret ?_
  refine inlret (ob' := [.fix 27 [.d (di .i64 a0.Kind), .d (di .i64 a0.Layout), .d (di .i64 a0.SRID), .d (eS1 a0.Flat), .d (eS2 a0.Ends), .d (eS3 a0.Endss), .d (eS0 a0.Kids)], .fix 27 [.d (di .i64 (0 : Int)), .d (di .i64 (0 : Int)), .d (di .i64 (0 : Int)), .d (.v (.slice none 0 0)), .d (.v (.slice none 0 0)), .d (.v (.slice none 0 0)), .d (.v (.slice none 0 0))], .fix 4 [.d (dbool false)], .dead, .fix 27 [.d (di .i64 a0.Kind), .d (di .i64 a0.Layout), .d (di .i64 a0.SRID), .d (eS1 a0.Flat), .d (eS2 a0.Ends), .d (eS3 a0.Endss), .d (eS0 a0.Kids)], .dead, .fix 115 [.d (di .i64 y6.geom1.geom0.layout), .d (di .i64 y6.geom1.geom0.stride), .any, .d (di .i64 a0.SRID)], .dead, .dead, .dead, .frame fr15 [(2, .ptr 1 0), (3, .ptr 2 0)], .fix 27 [.d (di .i64 (0 : Int)), .d (di .i64 (0 : Int)), .d (di .i64 (0 : Int)), .d (.v (.slice none 0 0)), .d (.v (.slice none 0 0)), .d (.v (.slice none 0 0)), .d (.v (.slice none 0 0))], .dead, .fix 27 [.d (di .i64 (2 : Int)), .d (di .i64 (0 : Int)), .d (di .i64 a0.SRID), .d (.v (.slice none 0 0)), .d (.v (.slice none 0 0)), .d (.v (.slice none 0 0)), .d (.v (.slice none 0 0))], .dead, .dead, .dead]) (e' := [(0, .ifc 67 (.ptr 6 0)), (2, .ptr 11 0), (3, .ptr 13 0), (70, .d (di .i64 y6.geom1.geom0.layout)), (73, .d (eS1 y19))]) (r := .d (.v (.slice none 0 0))) rfl rfl rfl ?_
  change AO _ _ _ _ _
  refine AO.sub 75 rfl (SVLe.nil 1) ?_
  obtain ⟨y22, q23, h0⟩ := bind_elim h0
  refine AO.op rfl (AOp.callD rfl rfl (ltb rfl) rfl rfl (w_ints [] y22 q23) ?_)
  rintro _ rfl
  refine AO.op rfl (AOp.move rfl rfl (ltb rfl) rfl ?_)
  refine AO.op rfl (AOp.inlE [2, 3, 70, 73, 76] (EntersS.meth (by kernel_rfl) rfl rfl rfl meth67_Endss rfl rfl) Try.func86 rfl Try.ntmps86 rfl (ltb rfl) (leb rfl) rfl ?_)
  intro fr24
  refine AC.seq ?_
  refine AC.region ?_
  refine AO.op rfl (AOp.assign rfl rfl (ltb rfl) rfl ?_)
  refine AO.objs (obs' := [.fix 27 [.d (di .i64 a0.Kind), .d (di .i64 a0.Layout), .d (di .i64 a0.SRID), .d (eS1 a0.Flat), .d (eS2 a0.Ends), .d (eS3 a0.Endss), .d (eS0 a0.Kids)], .fix 27 [.d (di .i64 (0 : Int)), .d (di .i64 (0 : Int)), .d (di .i64 (0 : Int)), .d (.v (.slice none 0 0)), .d (.v (.slice none 0 0)), .d (.v (.slice none 0 0)), .d (.v (.slice none 0 0))], .fix 4 [.d (dbool false)], .dead, .fix 27 [.d (di .i64 a0.Kind), .d (di .i64 a0.Layout), .d (di .i64 a0.SRID), .d (eS1 a0.Flat), .d (eS2 a0.Ends), .d (eS3 a0.Endss), .d (eS0 a0.Kids)], .dead, .fix 115 [.d (di .i64 y6.geom1.geom0.layout), .d (di .i64 y6.geom1.geom0.stride), .any, .d (di .i64 a0.SRID)], .dead, .dead, .dead, .frame fr15 [(2, .ptr 1 0), (3, .ptr 2 0)], .fix 27 [.d (di .i64 (0 : Int)), .d (di .i64 (0 : Int)), .d (di .i64 (0 : Int)), .d (.v (.slice none 0 0)), .d (.v (.slice none 0 0)), .d (.v (.slice none 0 0)), .d (.v (.slice none 0 0))], .dead, .fix 27 [.d (di .i64 (2 : Int)), .d (di .i64 (0 : Int)), .d (di .i64 a0.SRID), .d (.v (.slice none 0 0)), .d (.v (.slice none 0 0)), .d (.v (.slice none 0 0)), .d (.v (.slice none 0 0))], .dead, .dead, .dead, .frame fr24 [(2, .ptr 11 0), (3, .ptr 13 0), (70, .d (di .i64 y6.geom1.geom0.layout)), (73, .d (eS1 y19)), (76, .d (eS2 y22))]]) rfl ?_
  refine AO.nil ?_
  change AC _ _ _ _
  refine AC.seq ?_
  refine AC.region ?_
  refine AO.op rfl (AOp.assign rfl rfl (ltb rfl) rfl ?_)
  refine AO.nil ?_
  change AC _ _ _ _
  refine AC.ret ?_
  refine inlret (ob' := [.fix 27 [.d (di .i64 a0.Kind), .d (di .i64 a0.Layout), .d (di .i64 a0.SRID), .d (eS1 a0.Flat), .d (eS2 a0.Ends), .d (eS3 a0.Endss), .d (eS0 a0.Kids)], .fix 27 [.d (di .i64 (0 : Int)), .d (di .i64 (0 : Int)), .d (di .i64 (0 : Int)), .d (.v (.slice none 0 0)), .d (.v (.slice none 0 0)), .d (.v (.slice none 0 0)), .d (.v (.slice none 0 0))], .fix 4 [.d (dbool false)], .dead, .fix 27 [.d (di .i64 a0.Kind), .d (di .i64 a0.Layout), .d (di .i64 a0.SRID), .d (eS1 a0.Flat), .d (eS2 a0.Ends), .d (eS3 a0.Endss), .d (eS0 a0.Kids)], .dead, .fix 115 [.d (di .i64 y6.geom1.geom0.layout), .d (di .i64 y6.geom1.geom0.stride), .any, .d (di .i64 a0.SRID)], .dead, .dead, .dead, .frame fr15 [(2, .ptr 1 0), (3, .ptr 2 0)], .fix 27 [.d (di .i64 (0 : Int)), .d (di .i64 (0 : Int)), .d (di .i64 (0 : Int)), .d (.v (.slice none 0 0)), .d (.v (.slice none 0 0)), .d (.v (.slice none 0 0)), .d (.v (.slice none 0 0))], .dead, .fix 27 [.d (di .i64 (2 : Int)), .d (di .i64 (0 : Int)), .d (di .i64 a0.SRID), .d (.v (.slice none 0 0)), .d (.v (.slice none 0 0)), .d (.v (.slice none 0 0)), .d (.v (.slice none 0 0))], .dead, .dead, .dead, .dead]) (e' := [(2, .ptr 11 0), (3, .ptr 13 0), (70, .d (di .i64 y6.geom1.geom0.layout)), (73, .d (eS1 y19)), (76, .d (eS2 y22))]) (r := .d (.v (.slice none 0 0))) rfl rfl rfl ?_
  change AO _ _ _ _ _
  refine AO.sub 78 rfl (SVLe.nil 1) ?_
  obtain ⟨y25, q26, h0⟩ := bind_elim h0
  refine AO.op rfl (AOp.callD rfl rfl (ltb rfl) rfl rfl (w_intss F [] y25 q26) ?_)
  rintro _ rfl
  refine AO.op rfl (AOp.fieldAddr rfl rfl (ltb rfl) rfl fo27_1 ?_)
  refine AO.op rfl (AOp.store rfl rfl rfl rfl size3 rfl rfl rfl (leb rfl) ?_)
  refine AO.op rfl (AOp.fieldAddr rfl rfl (ltb rfl) rfl fo27_3 ?_)
  refine AO.op rfl (AOp.store rfl rfl rfl rfl size22 rfl rfl rfl (leb rfl) ?_)
  refine AO.op rfl (AOp.fieldAddr rfl rfl (ltb rfl) rfl fo27_4 ?_)
  refine AO.op rfl (AOp.store rfl rfl rfl rfl size23 rfl rfl rfl (leb rfl) ?_)
  refine AO.op rfl (AOp.fieldAddr rfl rfl (ltb rfl) rfl fo27_5 ?_)
  refine AO.op rfl (AOp.store rfl rfl rfl rfl size24 rfl rfl rfl (leb rfl) ?_)
  refine AO.objs (obs' := [.fix 27 [.d (di .i64 a0.Kind), .d (di .i64 a0.Layout), .d (di .i64 a0.SRID), .d (eS1 a0.Flat), .d (eS2 a0.Ends), .d (eS3 a0.Endss), .d (eS0 a0.Kids)], .fix 27 [.d (di .i64 (0 : Int)), .d (di .i64 (0 : Int)), .d (di .i64 (0 : Int)), .d (.v (.slice none 0 0)), .d (.v (.slice none 0 0)), .d (.v (.slice none 0 0)), .d (.v (.slice none 0 0))], .fix 4 [.d (dbool false)], .dead, .fix 27 [.d (di .i64 a0.Kind), .d (di .i64 a0.Layout), .d (di .i64 a0.SRID), .d (eS1 a0.Flat), .d (eS2 a0.Ends), .d (eS3 a0.Endss), .d (eS0 a0.Kids)], .dead, .fix 115 [.d (di .i64 y6.geom1.geom0.layout), .d (di .i64 y6.geom1.geom0.stride), .any, .d (di .i64 a0.SRID)], .dead, .dead, .dead, .frame fr15 [(2, .ptr 1 0), (3, .ptr 2 0)], .fix 27 [.d (di .i64 (0 : Int)), .d (di .i64 (0 : Int)), .d (di .i64 (0 : Int)), .d (.v (.slice none 0 0)), .d (.v (.slice none 0 0)), .d (.v (.slice none 0 0)), .d (.v (.slice none 0 0))], .dead, .fix 27 [.d (di .i64 (2 : Int)), .d (di .i64 y6.geom1.geom0.layout), .d (di .i64 a0.SRID), .d (eS1 y19), .d (eS2 y22), .d (eS3 y25), .d (.v (.slice none 0 0))], .dead, .dead, .dead, .dead]) rfl ?_
  refine AO.nil ?_
  change AC _ _ _ _
  refine AC.seq ?_
  refine AC.region ?_
  refine AO.op rfl (AOp.loadN rfl rfl (ltb rfl) rfl agg27 size27 rfl (leb rfl) rfl ?_)
  refine AO.op rfl (AOp.store rfl rfl rfl rfl size27 rfl rfl rfl (leb rfl) ?_)
  refine AO.nil ?_
  change AC _ _ _ _
  refine AC.ret ?_
  refine inlret (ob' := [.fix 27 [.d (di .i64 a0.Kind), .d (di .i64 a0.Layout), .d (di .i64 a0.SRID), .d (eS1 a0.Flat), .d (eS2 a0.Ends), .d (eS3 a0.Endss), .d (eS0 a0.Kids)], .fix 27 [.d (di .i64 (0 : Int)), .d (di .i64 (0 : Int)), .d (di .i64 (0 : Int)), .d (.v (.slice none 0 0)), .d (.v (.slice none 0 0)), .d (.v (.slice none 0 0)), .d (.v (.slice none 0 0))], .fix 4 [.d (dbool false)], .dead, .fix 27 [.d (di .i64 a0.Kind), .d (di .i64 a0.Layout), .d (di .i64 a0.SRID), .d (eS1 a0.Flat), .d (eS2 a0.Ends), .d (eS3 a0.Endss), .d (eS0 a0.Kids)], .dead, .fix 115 [.d (di .i64 y6.geom1.geom0.layout), .d (di .i64 y6.geom1.geom0.stride), .any, .d (di .i64 a0.SRID)], .dead, .dead, .dead, .dead, .fix 27 [.d (di .i64 (2 : Int)), .d (di .i64 y6.geom1.geom0.layout), .d (di .i64 a0.SRID), .d (eS1 y19), .d (eS2 y22), .d (eS3 y25), .d (.v (.slice none 0 0))], .dead, .fix 27 [.d (di .i64 (2 : Int)), .d (di .i64 y6.geom1.geom0.layout), .d (di .i64 a0.SRID), .d (eS1 y19), .d (eS2 y22), .d (eS3 y25), .d (.v (.slice none 0 0))], .dead, .dead, .dead, .dead]) (e' := [(2, .ptr 1 0), (3, .ptr 2 0)]) (r := .ag [.d (di .i64 (2 : Int)), .d (di .i64 y6.geom1.geom0.layout), .d (di .i64 a0.SRID), .d (eS1 y19), .d (eS2 y22), .d (eS3 y25), .d (.v (.slice none 0 0))]) rfl rfl rfl ?_
  change AO _ _ _ _ _
  refine AO.op rfl (AOp.store rfl rfl rfl rfl size27 rfl rfl rfl (leb rfl) ?_)
  refine AO.op rfl (AOp.store rfl rfl rfl rfl size4 rfl rfl rfl (leb rfl) ?_)
  refine AO.objs (obs' := [.fix 27 [.d (di .i64 a0.Kind), .d (di .i64 a0.Layout), .d (di .i64 a0.SRID), .d (eS1 a0.Flat), .d (eS2 a0.Ends), .d (eS3 a0.Endss), .d (eS0 a0.Kids)], .fix 27 [.d (di .i64 (2 : Int)), .d (di .i64 y6.geom1.geom0.layout), .d (di .i64 a0.SRID), .d (eS1 y19), .d (eS2 y22), .d (eS3 y25), .d (.v (.slice none 0 0))], .fix 4 [.d (dbool true)], .dead, .fix 27 [.d (di .i64 a0.Kind), .d (di .i64 a0.Layout), .d (di .i64 a0.SRID), .d (eS1 a0.Flat), .d (eS2 a0.Ends), .d (eS3 a0.Endss), .d (eS0 a0.Kids)], .dead, .fix 115 [.d (di .i64 y6.geom1.geom0.layout), .d (di .i64 y6.geom1.geom0.stride), .any, .d (di .i64 a0.SRID)], .dead, .dead, .dead, .dead, .fix 27 [.d (di .i64 (2 : Int)), .d (di .i64 y6.geom1.geom0.layout), .d (di .i64 a0.SRID), .d (eS1 y19), .d (eS2 y22), .d (eS3 y25), .d (.v (.slice none 0 0))], .dead, .fix 27 [.d (di .i64 (2 : Int)), .d (di .i64 y6.geom1.geom0.layout), .d (di .i64 a0.SRID), .d (eS1 y19), .d (eS2 y22), .d (eS3 y25), .d (.v (.slice none 0 0))], .dead, .dead, .dead, .dead]) rfl ?_
  refine AO.nil ?_
  change AC _ _ _ _
  refine AC.subO 1 rfl (.cons (SVLe.refl _) (.cons (SVLe.refl _) (.cons (SVLe.refl _) (.cons (SVLe.refl _) (.cons (SVLe.refl _) (.cons (SVLe.refl _) (.cons (SVLe.nil 7) .nil))))))) ?_
  refine AC.ret ?_
  change RetQ _ _ _ .ret _
  obtain rfl := Option.some.inj h0
  refine retq rfl rfl
 exact absurd (hp1.symm.trans q5) (by decide)

end Go.Proofs.Ytbgdonedjgkhiaa.Wk
