/- Proved: functions of the program compute what the printed functions say, wherever these say something. -/
import Derived.Test.YtkajoiehicpnlaaDoorPHt
import Derived.Test.YtkajoiehicpnlaaDoorVmDraw4
import Derived.Test.YtkajoiehicpnlaaDoorVmIfc
import Derived.Test.YtkajoiehicpnlaaDoorVmNaN
import Derived.Test.YtkajoiehicpnlaaDoorFltDy
import Derived.Test.YtkajoiehicpnlaaDoorFltMin
import Derived.Test.YtkajoiehicpnlaaDoorVmFin
import Derived.Test.YtkajoiehicpnlaaDoorProg
namespace Go.Proofs.YtkajoiehicpnlaaDoor.Wk
open Go.Vm
set_option linter.unusedVariables false
set_option linter.unusedSimpArgs false
theorem agg3 : aggT Tryd.prog 3 = some false := by kernel_rfl
theorem agg32 : aggT Tryd.prog 32 = some true := by kernel_rfl
theorem agg34 : aggT Tryd.prog 34 = some false := by kernel_rfl
theorem agg38 : aggT Tryd.prog 38 = some true := by kernel_rfl
theorem agg41 : aggT Tryd.prog 41 = some true := by kernel_rfl
theorem agg50 : aggT Tryd.prog 50 = some true := by kernel_rfl
theorem agg52 : aggT Tryd.prog 52 = some true := by kernel_rfl
theorem conc50 : concT Tryd.prog 50 = true := by kernel_rfl
theorem conc52 : concT Tryd.prog 52 = true := by kernel_rfl
theorem el25 : elemT Tryd.prog 25 = some (3, 1) := by kernel_rfl
theorem fo32_0 : fieldOff Tryd.prog 32 0 = some 0 := by kernel_rfl
theorem fo38_0 : fieldOff Tryd.prog 38 0 = some 0 := by kernel_rfl
theorem fo41_0 : fieldOff Tryd.prog 41 0 = some 0 := by kernel_rfl
theorem fo50_0 : fieldOff Tryd.prog 50 0 = some 0 := by kernel_rfl
theorem fo50_1 : fieldOff Tryd.prog 50 1 = some 1 := by kernel_rfl
theorem fo52_0 : fieldOff Tryd.prog 52 0 = some 0 := by kernel_rfl
theorem fo52_1 : fieldOff Tryd.prog 52 1 = some 1 := by kernel_rfl
theorem fo54_0 : fieldOff Tryd.prog 54 0 = some 0 := by kernel_rfl
theorem fo54_1 : fieldOff Tryd.prog 54 1 = some 1 := by kernel_rfl
theorem idle19 (vs : Array Value) (w : World) (h : vs.size = 2) : CallsD Tryd.prog 19 vs .returning w fun e u' w' => e = .returned (.tuple #[]) ∧ u' = .returning ∧ w' = w := by
  obtain ⟨x0, x1, rfl⟩ : ∃ x0 x1, vs = #[x0, x1] := by
    obtain ⟨l⟩ := vs
    match l, h with
    | [x0, x1], _ => exact ⟨x0, x1, rfl⟩
  refine callsD_of_wpS Tryd.func19 rfl fun c₀ cs hu => ?_
  apply wpS_seq
  apply wpS_region
  simp [wpOpsS, go_sem, recoverD, hu, Tryd.ntmps19, Exit.thenS]
  refine wpS_cond (t := false) (by simp [Act.eval, Array.replicate]) ?_
  simp only [Bool.false_eq_true, if_false]
  refine wpS_of_wp (wp_skip ?_)
  cases c₀
  simp_all [bodyPostS, results, Tryd.results19]
theorem imeth34 : Tryd.prog.underlying 34 = some (.interface (Tryd.prog.methodsAt 34)) := by kernel_rfl
theorem info3 : (Tryd.prog.info? 3).map (fun i => (i.zero, i.size, i.bytes)) = some (some (.int .i64 0), 1, 8) := by kernel_rfl
theorem meth50_pub_orthodrome_pub_gonum_spatial_curve_do : methT Tryd.prog 50 "pub-orthodrome/pub/gonum/spatial/curve.do" = some (26, none) := by kernel_rfl
theorem meth52_pub_orthodrome_pub_gonum_spatial_curve_do : methT Tryd.prog 52 "pub-orthodrome/pub/gonum/spatial/curve.do" = some (27, none) := by kernel_rfl
theorem mixed : Tryd.prog.follows .mixedOrders = true := by kernel_rfl
def pl32 : Nat → Option (Nat × Nat) := fun i => ([(0, 1)] : List (Nat × Nat))[i]?
theorem places32 : placesT Tryd.prog 32 = some pl32 := by kernel_rfl
def pl38 : Nat → Option (Nat × Nat) := fun i => ([(0, 1)] : List (Nat × Nat))[i]?
theorem places38 : placesT Tryd.prog 38 = some pl38 := by kernel_rfl
def pl41 : Nat → Option (Nat × Nat) := fun i => ([(0, 1)] : List (Nat × Nat))[i]?
theorem places41 : placesT Tryd.prog 41 = some pl41 := by kernel_rfl
def pl50 : Nat → Option (Nat × Nat) := fun i => ([(0, 1), (1, 1)] : List (Nat × Nat))[i]?
theorem places50 : placesT Tryd.prog 50 = some pl50 := by kernel_rfl
def pl52 : Nat → Option (Nat × Nat) := fun i => ([(0, 1), (1, 1)] : List (Nat × Nat))[i]?
theorem places52 : placesT Tryd.prog 52 = some pl52 := by kernel_rfl
def pl54 : Nat → Option (Nat × Nat) := fun i => ([(0, 1), (1, 1)] : List (Nat × Nat))[i]?
theorem places54 : placesT Tryd.prog 54 = some pl54 := by kernel_rfl
theorem size25 : sizeT Tryd.prog 25 = some 1 := by kernel_rfl
theorem size3 : sizeT Tryd.prog 3 = some 1 := by kernel_rfl
theorem size32 : sizeT Tryd.prog 32 = some 1 := by kernel_rfl
theorem size38 : sizeT Tryd.prog 38 = some 1 := by kernel_rfl
theorem size4 : sizeT Tryd.prog 4 = some 1 := by kernel_rfl
theorem size41 : sizeT Tryd.prog 41 = some 1 := by kernel_rfl
theorem size50 : sizeT Tryd.prog 50 = some 2 := by kernel_rfl
theorem size52 : sizeT Tryd.prog 52 = some 2 := by kernel_rfl
theorem zero25 : (Tryd.prog.info? 25).map (·.zero) = some (some (.slice none 0 0)) := by kernel_rfl
theorem zero32 : (Tryd.prog.info? 32).map (·.zero) = some (some (.agg #[.int .i64 0])) := by kernel_rfl
theorem zero38 : (Tryd.prog.info? 38).map (·.zero) = some (some (.agg #[.int .i64 0])) := by kernel_rfl
theorem zero4 : (Tryd.prog.info? 4).map (·.zero) = some (some (.bool false)) := by kernel_rfl
theorem zero41 : (Tryd.prog.info? 41).map (·.zero) = some (some (.agg #[.int .i64 0])) := by kernel_rfl
theorem zero50 : (Tryd.prog.info? 50).map (·.zero) = some (some (.agg #[.int .i64 0, .int .i64 0])) := by kernel_rfl
theorem zero52 : (Tryd.prog.info? 52).map (·.zero) = some (some (.agg #[.int .i64 0, .int .i64 0])) := by kernel_rfl
theorem zero54 : (Tryd.prog.info? 54).map (·.zero) = some (some (.agg #[.int .i64 0, .int .i64 0])) := by kernel_rfl
abbrev m1 (n : Int) : Int := (IntKind.i64.wrap ((1 : Int) * 2 ^ (n).toNat)) - (1 : Int)
abbrev m4 (n : Int) : Int := (bits .and .i64 n ((IntKind.i64.wrap ((1 : Int) * 2 ^ ((4 : Int)).toNat)) - (1 : Int)))
abbrev sS0 : Int → SV := fun z => SV.d (keS0 z)
set_option maxRecDepth 100000 in
set_option maxHeartbeats 1000000 in
/-- pub-orthodrome/laws.orders -/
theorem w_orders (a0 : Int) (r0 : Int) (h0 : p_orders a0 = some r0) : FnD Tryd.prog 5 [di .i64 a0] (fun r => r = di .i64 r0) := by
  refine FnD.of (by kernel_rfl) Tryd.func5 rfl Tryd.ntmps5 rfl (leb rfl) fun W ok => ?_
  unfold p_orders at h0
  refine AC.seq ?_
  refine AC.region ?_
  refine AO.op rfl (AOp.assign rfl rfl (ltb rfl) rfl ?_)
  refine AO.nil ?_
  change AC _ _ _ _
  refine AC.seq ?_
  refine AC.seq ?_
  refine AC.region ?_
  refine AO.op rfl (AOp.move rfl rfl (ltb rfl) rfl ?_)
  refine AO.op rfl (AOp.ieql rfl rfl (ltb rfl) rfl rfl ?_)
  refine AO.nil ?_
  change AC _ _ _ _
  refine AC.cond rfl (fun q1 => ?_) (fun q1 => ?_)
  · replace h0 := cT h0 q1
    refine AC.seq ?_
    refine AC.region ?_
    refine AO.op rfl (AOp.assign rfl rfl (ltb rfl) rfl ?_)
    refine AO.nil ?_
    change AC _ _ _ _
    refine AC.ret ?_
    change RetQ _ _ _ .ret _
    obtain rfl := Option.some.inj h0
    refine retq rfl rfl
  replace h0 := cF h0 q1
  refine AC.skip ?_
  change AC _ _ _ _
  refine AC.seq ?_
  refine AC.region ?_
  refine AO.op rfl (AOp.move rfl rfl (ltb rfl) rfl ?_)
  obtain ⟨q2, h0⟩ := need_elim h0
  refine AO.op rfl (AOp.iquo rfl rfl (ltb rfl) rfl rfl q2.1 rfl q2.2.1 q2.2.2 ?_)
  refine AO.op rfl (AOp.assign rfl rfl (ltb rfl) rfl ?_)
  refine AO.nil ?_
  change AC _ _ _ _
  refine AC.ret ?_
  change RetQ _ _ _ .ret _
  obtain rfl := Option.some.inj h0
  refine retq rfl rfl

set_option maxRecDepth 100000 in
set_option maxHeartbeats 1000000 in
/-- pub-orthodrome/laws.curved -/
theorem w_curved (a0 : Int) (a1 : Int) (r0 : Bool) (h0 : p_curved a0 a1 = some r0) : FnD Tryd.prog 8 [di .i64 a0, di .i64 a1] (fun r => r = dbool r0) := by
  refine FnD.of (by kernel_rfl) Tryd.func8 rfl Tryd.ntmps8 rfl (leb rfl) fun W ok => ?_
  unfold p_curved at h0
  refine AC.seq ?_
  refine AC.region ?_
  refine AO.op rfl (AOp.assign rfl rfl (ltb rfl) rfl ?_)
  refine AO.nil ?_
  change AC _ _ _ _
  refine AC.seq ?_
  refine AC.region ?_
  refine AO.op rfl (AOp.move rfl rfl (ltb rfl) rfl ?_)
  refine AO.op rfl (AOp.igeq rfl rfl (ltb rfl) rfl rfl ?_)
  refine AO.op rfl (AOp.move rfl rfl (ltb rfl) rfl ?_)
  refine AO.dec (decide ((2 : Int) ≤ a0)) (fun q1 => ?_) (fun q1 => ?_)
  · replace h0 := cT h0 q1
    refine AO.guardY rfl rfl rfl q1 (AOp.move rfl rfl (ltb rfl) rfl ?_)
    refine AO.guardY rfl rfl rfl q1 (AOp.ileq rfl rfl (ltb rfl) rfl rfl ?_)
    refine AO.op rfl (AOp.pick rfl rfl (ltb rfl) rfl q1 rfl ?_)
    refine AO.op rfl (AOp.move rfl rfl (ltb rfl) rfl ?_)
    refine AO.dec (decide (a0 ≤ (4 : Int))) (fun q2 => ?_) (fun q2 => ?_)
    · replace h0 := cT h0 q2
      refine AO.guardY rfl rfl rfl q2 (AOp.move rfl rfl (ltb rfl) rfl ?_)
      refine AO.guardY rfl rfl rfl q2 (AOp.igeq rfl rfl (ltb rfl) rfl rfl ?_)
      refine AO.op rfl (AOp.pick rfl rfl (ltb rfl) rfl q2 rfl ?_)
      refine AO.op rfl (AOp.move rfl rfl (ltb rfl) rfl ?_)
      refine AO.dec (decide ((1 : Int) ≤ a1)) (fun q3 => ?_) (fun q3 => ?_)
      · replace h0 := cT h0 q3
        refine AO.guardY rfl rfl rfl q3 (AOp.move rfl rfl (ltb rfl) rfl ?_)
        refine AO.guardY rfl rfl rfl q3 (AOp.move rfl rfl (ltb rfl) rfl ?_)
        obtain ⟨y4, q5, h0⟩ := bind_elim h0
        refine AO.guardY rfl rfl rfl q3 (AOp.callD rfl rfl (ltb rfl) rfl rfl (w_orders a0 y4 q5) ?_)
        rintro _ rfl
        refine AO.guardY rfl rfl rfl q3 (AOp.ileq rfl rfl (ltb rfl) rfl rfl ?_)
        refine AO.op rfl (AOp.pick rfl rfl (ltb rfl) rfl q3 rfl ?_)
        refine AO.op rfl (AOp.assign rfl rfl (ltb rfl) rfl ?_)
        refine AO.nil ?_
        change AC _ _ _ _
        refine AC.ret ?_
        change RetQ _ _ _ .ret _
        obtain rfl := Option.some.inj h0
        refine retq rfl rfl
      replace h0 := cF h0 q3
      refine AO.guardN rfl rfl rfl (ltb rfl) rfl q3 ?_
      refine AO.guardN rfl rfl rfl (ltb rfl) rfl q3 ?_
      refine AO.guardN rfl rfl rfl (ltb rfl) rfl q3 ?_
      refine AO.guardN rfl rfl rfl (ltb rfl) rfl q3 ?_
      refine AO.op rfl (AOp.pickN rfl rfl (ltb rfl) rfl q3 rfl ?_)
      refine AO.op rfl (AOp.assign rfl rfl (ltb rfl) rfl ?_)
      refine AO.nil ?_
      change AC _ _ _ _
      refine AC.ret ?_
      change RetQ _ _ _ .ret _
      obtain rfl := Option.some.inj h0
      refine retq rfl rfl
    replace h0 := cF h0 q2
    refine AO.guardN rfl rfl rfl (ltb rfl) rfl q2 ?_
    refine AO.guardN rfl rfl rfl (ltb rfl) rfl q2 ?_
    refine AO.op rfl (AOp.pickN rfl rfl (ltb rfl) rfl q2 rfl ?_)
    refine AO.op rfl (AOp.move rfl rfl (ltb rfl) rfl ?_)
    refine AO.guardN rfl rfl rfl (ltb rfl) rfl rfl ?_
    refine AO.guardN rfl rfl rfl (ltb rfl) rfl rfl ?_
    refine AO.guardN rfl rfl rfl (ltb rfl) rfl rfl ?_
    refine AO.guardN rfl rfl rfl (ltb rfl) rfl rfl ?_
    refine AO.op rfl (AOp.pickN rfl rfl (ltb rfl) rfl rfl rfl ?_)
    refine AO.op rfl (AOp.assign rfl rfl (ltb rfl) rfl ?_)
    refine AO.nil ?_
    change AC _ _ _ _
    refine AC.ret ?_
    change RetQ _ _ _ .ret _
    obtain rfl := Option.some.inj h0
    refine retq rfl rfl
  replace h0 := cF h0 q1
  refine AO.guardN rfl rfl rfl (ltb rfl) rfl q1 ?_
  refine AO.guardN rfl rfl rfl (ltb rfl) rfl q1 ?_
  refine AO.op rfl (AOp.pickN rfl rfl (ltb rfl) rfl q1 rfl ?_)
  refine AO.op rfl (AOp.move rfl rfl (ltb rfl) rfl ?_)
  refine AO.guardN rfl rfl rfl (ltb rfl) rfl rfl ?_
  refine AO.guardN rfl rfl rfl (ltb rfl) rfl rfl ?_
  refine AO.op rfl (AOp.pickN rfl rfl (ltb rfl) rfl rfl rfl ?_)
  refine AO.op rfl (AOp.move rfl rfl (ltb rfl) rfl ?_)
  refine AO.guardN rfl rfl rfl (ltb rfl) rfl rfl ?_
  refine AO.guardN rfl rfl rfl (ltb rfl) rfl rfl ?_
  refine AO.guardN rfl rfl rfl (ltb rfl) rfl rfl ?_
  refine AO.guardN rfl rfl rfl (ltb rfl) rfl rfl ?_
  refine AO.op rfl (AOp.pickN rfl rfl (ltb rfl) rfl rfl rfl ?_)
  refine AO.op rfl (AOp.assign rfl rfl (ltb rfl) rfl ?_)
  refine AO.nil ?_
  change AC _ _ _ _
  refine AC.ret ?_
  change RetQ _ _ _ .ret _
  obtain rfl := Option.some.inj h0
  refine retq rfl rfl

set_option maxRecDepth 100000 in
set_option maxHeartbeats 1000000 in
/-- pub-orthodrome/impl.HCoord -/
theorem w_HCoord_c0 (F : Nat) (a0 : Int) (a1 : Int) (a2 : Int) (r0 : ((List Int) × Bool)) (h0 : p_HCoord F a0 a1 a2 = some r0) (hp0 : (decide (a0 = (2 : Int))) = true) : FnD Tryd.prog 9 [di .i64 a0, di .i64 a1, di .i64 a2] (fun r => r = .tu [eS0 r0.1, dbool r0.2]) := by
  refine FnD.wrap (g := 19) (m := 2) (fun vs w h => idle19 vs w h) (by kernel_rfl) Tryd.func9 rfl Tryd.ntmps9 rfl (leb rfl) fun W ok => ?_
  unfold p_HCoord at h0
  refine AW.seq ?_
  refine AC.region ?_
  refine AO.op rfl (AOp.alloc rfl rfl (ltb rfl) zero25 rfl ?_)
  refine AO.op rfl (AOp.alloc rfl rfl (ltb rfl) zero4 rfl ?_)
  refine AO.nil ?_
  refine ⟨rfl, ?_⟩
  refine AW.defer (caps := [.tmp 6, .tmp 7]) rfl rfl rfl (ltb rfl) rfl rfl rfl rfl (by kernel_rfl) rfl fun df => ?_
  refine AC.seq ?_
  refine AC.seq ?_
  refine AC.region ?_
  refine AO.op rfl (AOp.move rfl rfl (ltb rfl) rfl ?_)
  refine AO.nil ?_
  change AC _ _ _ _
  refine AC.block ?_
  refine AC.seq ?_
  refine AC.region ?_
  refine AO.op rfl (AOp.ieql rfl rfl (ltb rfl) rfl rfl ?_)
  refine AO.op rfl (AOp.assign rfl rfl (ltb rfl) rfl ?_)
  refine AO.nil ?_
  change AC _ _ _ _
  refine AC.cond rfl (fun q1 => ?_) (fun q1 => ?_)
  · replace h0 := cT h0 q1
    refine AC.seq ?_
    refine AC.region ?_
    refine AO.op rfl (AOp.move rfl rfl (ltb rfl) rfl ?_)
    refine AO.op rfl (AOp.inl [2, 6, 7] (by kernel_rfl) Tryd.func10 rfl Tryd.ntmps10 rfl rfl (ltb rfl) rfl (leb rfl) rfl ?_)
    intro fr2
    refine AC.seq ?_
    refine AC.region ?_
    refine AO.op rfl (AOp.alloc rfl rfl (ltb rfl) zero32 rfl ?_)
    refine AO.op rfl (AOp.assign rfl rfl (ltb rfl) rfl ?_)
    refine AO.nil ?_
    change AC _ _ _ _
    refine AC.seq ?_
    refine AC.region ?_
    refine AO.op rfl (AOp.move rfl rfl (ltb rfl) rfl ?_)
    refine AO.op rfl (AOp.build rfl rfl (ltb rfl) zero32 rfl places32 rfl rfl ?_)
    refine AO.op rfl (AOp.alloc rfl rfl (ltb rfl) zero32 rfl ?_)
    refine AO.op rfl (AOp.store rfl rfl rfl rfl size32 rfl rfl rfl (leb rfl) ?_)
    refine AO.nil ?_
    change AC _ _ _ _
    refine AC.seq ?_
    refine AC.seq ?_
    refine AC.region ?_
    refine AO.op rfl (AOp.move rfl rfl (ltb rfl) rfl ?_)
    refine AO.op rfl (AOp.ilss rfl rfl (ltb rfl) rfl rfl ?_)
    refine AO.nil ?_
    change AC _ _ _ _
    refine AC.cond rfl (fun q3 => ?_) (fun q3 => ?_)
    · replace h0 := cT h0 q3
      refine AC.seq ?_
      refine AC.drawS [0, 1, 2] [2] [3] (fun L => [.fix 25 [.d (.v (.slice none 0 0))], .fix 4 [.d (dbool false)], .frame fr2 [(2, .d (di .i64 a2)), (6, .ptr 0 0), (7, .ptr 1 0)], bif L 2 then .fix 32 [.d (di .i64 a1)] else .fix 32 [.d (di .i64 (0 : Int))], .fix 32 [.d (di .i64 a1)]]) [(2, (fun _ => true))] mixed (by kernel_rfl) (fun L L' h => by simp only [h 2 (by decide)]) rfl ?_
      refine AS.op [4] [] [2] [] rfl rfl rfl (by kernel_rfl) (by kernel_rfl) rfl rfl (fun _ _ _ h => AOp.loadN rfl rfl (ltb rfl) rfl agg32 size32 rfl (leb rfl) rfl h) (by kernel_rfl) ?_
      refine AS.op [] [] [] [2] rfl rfl rfl (by kernel_rfl) (by kernel_rfl) rfl rfl (fun _ _ _ h => AOp.loadE rfl rfl (ltb rfl) rfl agg34 (by simp [GlobsE]) h) (by kernel_rfl) ?_
      refine AS.mid0 [2, 9] [] [2] [] rfl rfl rfl rfl (by kernel_rfl) (by kernel_rfl) rfl rfl (fun _ _ _ h => AOp.store rfl rfl rfl rfl size32 rfl rfl rfl (leb rfl) (AO.dropT h)) (by kernel_rfl) rfl ?_
      refine AS.done ?_
      refine AO.objs (obs' := [.fix 25 [.d (.v (.slice none 0 0))], .fix 4 [.d (dbool false)], .frame fr2 [(2, .d (di .i64 a2)), (6, .ptr 0 0), (7, .ptr 1 0)], .fix 32 [.d (di .i64 a1)], .fix 32 [.d (di .i64 a1)]]) rfl ?_
      refine AO.op rfl (AOp.assign rfl rfl (ltb rfl) rfl ?_)
      refine AO.nil ?_
      change AC _ _ _ _
      refine AC.ret ?_
      refine inlret (ob' := [.fix 25 [.d (.v (.slice none 0 0))], .fix 4 [.d (dbool false)], .dead, .fix 32 [.d (di .i64 a1)], .fix 32 [.d (di .i64 a1)]]) (e' := [(2, .d (di .i64 a2)), (6, .ptr 0 0), (7, .ptr 1 0)]) (r := .tu [.ag [.d (di .i64 a1)], .ifc (errT W 0) (.any)]) rfl rfl rfl ?_
      change AO _ _ _ _ _
      refine AO.op rfl (AOp.move rfl rfl (ltb rfl) rfl ?_)
      first | refine AO.op rfl (AOp.extractD rfl rfl (ltb rfl) rfl rfl ?_) | refine AO.op rfl (AOp.extract rfl rfl (ltb rfl) rfl rfl ?_)
      first | refine AO.op rfl (AOp.extractD rfl rfl (ltb rfl) rfl rfl ?_) | refine AO.op rfl (AOp.extract rfl rfl (ltb rfl) rfl rfl ?_)
      refine AO.op rfl (AOp.alloc rfl rfl (ltb rfl) zero32 rfl ?_)
      refine AO.op rfl (AOp.store rfl rfl rfl rfl size32 rfl rfl rfl (leb rfl) ?_)
      refine AO.op rfl (AOp.assign rfl rfl (ltb rfl) rfl ?_)
      refine AO.nil ?_
      change AC _ _ _ _
      refine AC.seq ?_
      refine AC.seq ?_
      refine AC.region ?_
      refine AO.op rfl (AOp.move rfl rfl (ltb rfl) rfl ?_)
      refine AO.op rfl (AOp.ifcNeq rfl rfl (ltb rfl) rfl rfl imeth34 ?_)
      refine AO.nil ?_
      change AC _ _ _ _
      refine AC.condT rfl rfl ?_
      refine AC.seq ?_
      refine AC.region ?_
      refine AO.op rfl (AOp.store rfl rfl rfl rfl size25 rfl rfl rfl (leb rfl) ?_)
      refine AO.op rfl (AOp.store rfl rfl rfl rfl size4 rfl rfl rfl (leb rfl) ?_)
      refine AO.nil ?_
      change AC _ _ _ _
      refine AC.subO 0 rfl (.cons (SVLe.nil 1) .nil) ?_
      refine AC.ret ?_
      change RetQ _ _ _ .ret _
      obtain rfl := Option.some.inj h0
      refine retq rfl rfl
    replace h0 := cF h0 q3
    refine AC.skip ?_
    change AC _ _ _ _
    refine AC.seq ?_
    refine AC.seq ?_
    refine AC.region ?_
    refine AO.op rfl (AOp.move rfl rfl (ltb rfl) rfl ?_)
    obtain ⟨q4, h0⟩ := need_elim h0
    refine AO.op rfl (AOp.imul rfl rfl (ltb rfl) rfl rfl rfl q4.1 q4.2 ?_)
    refine AO.op rfl (AOp.igeq rfl rfl (ltb rfl) rfl rfl ?_)
    refine AO.nil ?_
    change AC _ _ _ _
    refine AC.cond rfl (fun q5 => ?_) (fun q5 => ?_)
    · replace h0 := cT h0 q5
      refine AC.seq ?_
      refine AC.drawS [0, 1, 2] [2] [3] (fun L => [.fix 25 [.d (.v (.slice none 0 0))], .fix 4 [.d (dbool false)], .frame fr2 [(2, .d (di .i64 a2)), (6, .ptr 0 0), (7, .ptr 1 0)], bif L 2 then .fix 32 [.d (di .i64 a1)] else .fix 32 [.d (di .i64 (0 : Int))], .fix 32 [.d (di .i64 a1)]]) [(2, (fun _ => true))] mixed (by kernel_rfl) (fun L L' h => by simp only [h 2 (by decide)]) rfl ?_
      refine AS.op [4] [] [2] [] rfl rfl rfl (by kernel_rfl) (by kernel_rfl) rfl rfl (fun _ _ _ h => AOp.loadN rfl rfl (ltb rfl) rfl agg32 size32 rfl (leb rfl) rfl h) (by kernel_rfl) ?_
      refine AS.op [] [] [] [2] rfl rfl rfl (by kernel_rfl) (by kernel_rfl) rfl rfl (fun _ _ _ h => AOp.loadE rfl rfl (ltb rfl) rfl agg34 (by simp [GlobsE]) h) (by kernel_rfl) ?_
      refine AS.mid0 [2, 14] [] [2] [] rfl rfl rfl rfl (by kernel_rfl) (by kernel_rfl) rfl rfl (fun _ _ _ h => AOp.store rfl rfl rfl rfl size32 rfl rfl rfl (leb rfl) (AO.dropT h)) (by kernel_rfl) rfl ?_
      refine AS.done ?_
      refine AO.objs (obs' := [.fix 25 [.d (.v (.slice none 0 0))], .fix 4 [.d (dbool false)], .frame fr2 [(2, .d (di .i64 a2)), (6, .ptr 0 0), (7, .ptr 1 0)], .fix 32 [.d (di .i64 a1)], .fix 32 [.d (di .i64 a1)]]) rfl ?_
      refine AO.op rfl (AOp.assign rfl rfl (ltb rfl) rfl ?_)
      refine AO.nil ?_
      change AC _ _ _ _
      refine AC.ret ?_
      refine inlret (ob' := [.fix 25 [.d (.v (.slice none 0 0))], .fix 4 [.d (dbool false)], .dead, .fix 32 [.d (di .i64 a1)], .fix 32 [.d (di .i64 a1)]]) (e' := [(2, .d (di .i64 a2)), (6, .ptr 0 0), (7, .ptr 1 0)]) (r := .tu [.ag [.d (di .i64 a1)], .ifc (errT W 1) (.any)]) rfl rfl rfl ?_
      change AO _ _ _ _ _
      refine AO.op rfl (AOp.move rfl rfl (ltb rfl) rfl ?_)
      first | refine AO.op rfl (AOp.extractD rfl rfl (ltb rfl) rfl rfl ?_) | refine AO.op rfl (AOp.extract rfl rfl (ltb rfl) rfl rfl ?_)
      first | refine AO.op rfl (AOp.extractD rfl rfl (ltb rfl) rfl rfl ?_) | refine AO.op rfl (AOp.extract rfl rfl (ltb rfl) rfl rfl ?_)
      refine AO.op rfl (AOp.alloc rfl rfl (ltb rfl) zero32 rfl ?_)
      refine AO.op rfl (AOp.store rfl rfl rfl rfl size32 rfl rfl rfl (leb rfl) ?_)
      refine AO.op rfl (AOp.assign rfl rfl (ltb rfl) rfl ?_)
      refine AO.nil ?_
      change AC _ _ _ _
      refine AC.seq ?_
      refine AC.seq ?_
      refine AC.region ?_
      refine AO.op rfl (AOp.move rfl rfl (ltb rfl) rfl ?_)
      refine AO.op rfl (AOp.ifcNeq rfl rfl (ltb rfl) rfl rfl imeth34 ?_)
      refine AO.nil ?_
      change AC _ _ _ _
      refine AC.condT rfl rfl ?_
      refine AC.seq ?_
      refine AC.region ?_
      refine AO.op rfl (AOp.store rfl rfl rfl rfl size25 rfl rfl rfl (leb rfl) ?_)
      refine AO.op rfl (AOp.store rfl rfl rfl rfl size4 rfl rfl rfl (leb rfl) ?_)
      refine AO.nil ?_
      change AC _ _ _ _
      refine AC.subO 0 rfl (.cons (SVLe.nil 1) .nil) ?_
      refine AC.ret ?_
      change RetQ _ _ _ .ret _
      obtain rfl := Option.some.inj h0
      refine retq rfl rfl
    replace h0 := cF h0 q5
    refine AC.skip ?_
    change AC _ _ _ _
    refine AC.seq ?_
    refine AC.region ?_
    refine AO.op rfl (AOp.loadN rfl rfl (ltb rfl) rfl agg32 size32 rfl (leb rfl) rfl ?_)
    refine AO.op rfl (AOp.store rfl rfl rfl rfl size32 rfl rfl rfl (leb rfl) ?_)
    refine AO.op rfl (AOp.assign rfl rfl (ltb rfl) rfl ?_)
    refine AO.nil ?_
    change AC _ _ _ _
    refine AC.ret ?_
    refine inlret (ob' := [.fix 25 [.d (.v (.slice none 0 0))], .fix 4 [.d (dbool false)], .dead, .fix 32 [.d (di .i64 a1)], .fix 32 [.d (di .i64 a1)]]) (e' := [(2, .d (di .i64 a2)), (6, .ptr 0 0), (7, .ptr 1 0)]) (r := .tu [.ag [.d (di .i64 a1)], .d (.v (.nilIface))]) rfl rfl rfl ?_
    change AO _ _ _ _ _
    refine AO.op rfl (AOp.move rfl rfl (ltb rfl) rfl ?_)
    first | refine AO.op rfl (AOp.extractD rfl rfl (ltb rfl) rfl rfl ?_) | refine AO.op rfl (AOp.extract rfl rfl (ltb rfl) rfl rfl ?_)
    first | refine AO.op rfl (AOp.extractD rfl rfl (ltb rfl) rfl rfl ?_) | refine AO.op rfl (AOp.extract rfl rfl (ltb rfl) rfl rfl ?_)
    refine AO.op rfl (AOp.alloc rfl rfl (ltb rfl) zero32 rfl ?_)
    refine AO.op rfl (AOp.store rfl rfl rfl rfl size32 rfl rfl rfl (leb rfl) ?_)
    refine AO.op rfl (AOp.assign rfl rfl (ltb rfl) rfl ?_)
    refine AO.nil ?_
    change AC _ _ _ _
    refine AC.seq ?_
    refine AC.seq ?_
    refine AC.region ?_
    refine AO.op rfl (AOp.move rfl rfl (ltb rfl) rfl ?_)
    refine AO.op rfl (AOp.nilNeq rfl rfl (ltb rfl) rfl imeth34 ?_)
    refine AO.nil ?_
    change AC _ _ _ _
    refine AC.condF rfl rfl ?_
    refine AC.skip ?_
    change AC _ _ _ _
    refine AC.seq ?_
    refine AC.region ?_
    refine AO.op rfl (AOp.loadN rfl rfl (ltb rfl) rfl agg32 size32 rfl (leb rfl) rfl ?_)
    refine AO.op rfl (AOp.move rfl rfl (ltb rfl) rfl ?_)
    refine AO.op rfl (AOp.inl [6, 7] (by kernel_rfl) Tryd.func20 rfl Tryd.ntmps20 rfl rfl (ltb rfl) rfl (leb rfl) rfl ?_)
    intro fr6
    refine AC.seq ?_
    refine AC.region ?_
    refine AO.op rfl (AOp.box rfl rfl (ltb rfl) rfl rfl ?_)
    refine AO.op rfl (AOp.assign rfl rfl (ltb rfl) rfl ?_)
    refine AO.nil ?_
    change AC _ _ _ _
    refine AC.seq ?_
    refine AC.seq ?_
    refine AC.region ?_
    refine AO.op rfl (AOp.move rfl rfl (ltb rfl) rfl ?_)
    refine AO.op rfl (AOp.nilEql (f := eS0) (x0 := none) Tryd.underlying25 rfl rfl (ltb rfl) rfl (neO_cons (fun _ _ => ⟨_, _, _, rfl⟩) rfl) ?_)
    refine AO.nil ?_
    change AC _ _ _ _
    refine AC.condT rfl rfl ?_
    refine AC.region ?_
    obtain ⟨q7, h0⟩ := need_elim h0
    refine AO.op rfl (AOp.makeL (f := fun z => SV.d (keS0 z)) (z0 := (0 : Int)) rfl rfl (ltb rfl) rfl rfl el25 info3 rfl rfl (by decide) q7.1 q7.2 rfl ?_)
    refine AO.op rfl (AOp.assign rfl rfl (ltb rfl) rfl ?_)
    refine AO.nil ?_
    change AC _ _ _ _
    refine AC.seq ?_
    refine AC.seq ?_
    refine AC.region ?_
    refine AO.op rfl (AOp.assign rfl rfl (ltb rfl) rfl ?_)
    refine AO.nil ?_
    change AC _ _ _ _
    obtain ⟨o8, l9, h0⟩ := bind_elim h0
    refine AC.joinE (V := (List Int)) [1] [] 9 (fun g10 => []) (fun g10 => [.fix 25 [.d (.v (.slice none 0 0))], .fix 4 [.d (dbool false)], .dead, .fix 32 [.d (di .i64 a1)], .fix 32 [.d (di .i64 a1)], .fix 32 [.d (di .i64 a1)], .frame fr6 [(6, .ptr 0 0), (7, .ptr 1 0)], .fix 32 [.d (di .i64 a1)], .fix 3 (List.map sS0 g10)]) (fun g10 => p_HCoord_k1 g10 = some r0) rfl ?_ ?_
    · refine AC.block ?_
      refine AC.loopP (V := (Int × Int × (List Int))) (p_HCoord_l2 a1) o8 [1, 3] [2, 7] 9 (fun g12 => [(2, .d (di .i64 g12.1)), (7, .d (di .i64 g12.2.1))]) (fun g12 => [.fix 25 [.d (.v (.slice none 0 0))], .fix 4 [.d (dbool false)], .dead, .fix 32 [.d (di .i64 a1)], .fix 32 [.d (di .i64 a1)], .fix 32 [.d (di .i64 a1)], .frame fr6 [(6, .ptr 0 0), (7, .ptr 1 0)], .fix 32 [.d (di .i64 a1)], .fix 3 (List.map sS0 g12.2.2)]) F (a2, (0 : Int), (List.replicate ((2 : Int)).toNat (0 : Int))) l9 rfl rfl (LeL.refl _) rfl (okU_mk rfl (okU_cons rfl (okU_cons rfl (okU_cons rfl (okU_cons rfl (okU_cons rfl (okU_cons rfl (okU_cons rfl (okU_cons rfl (okU_cons (okU_fixl (fun _ => rfl)) okU_nil)))))))))) ?_
      intro n14 g12 h1
      unfold p_HCoord_l2 at h1
      refine AC.seq ?_
      refine AC.seq ?_
      refine AC.region ?_
      refine AO.op rfl (AOp.move rfl rfl (ltb rfl) rfl ?_)
      refine AO.op rfl (AOp.fieldAddr rfl rfl (ltb rfl) rfl fo32_0 ?_)
      refine AO.op rfl (AOp.load1 rfl rfl (ltb rfl) rfl agg3 rfl rfl ?_)
      refine AO.op rfl (AOp.ilss rfl rfl (ltb rfl) rfl rfl ?_)
      refine AO.nil ?_
      change AC _ _ _ _
      refine AC.cond rfl (fun q15 => ?_) (fun q15 => ?_)
      · replace h1 := cT h1 q15
        refine AC.skip ?_
        change AC _ _ _ _
        refine AC.seq ?_
        refine AC.block ?_
        refine AC.seq ?_
        refine AC.region ?_
        refine AO.op rfl (AOp.move rfl rfl (ltb rfl) rfl ?_)
        refine AO.op rfl (AOp.ibits (by simp) rfl rfl (ltb rfl) rfl rfl rfl ?_)
        refine AO.op rfl (AOp.assign rfl rfl (ltb rfl) rfl ?_)
        refine AO.nil ?_
        change AC _ _ _ _
        refine AC.seq ?_
        refine AC.draw 5 mixed (by kernel_rfl) ?_
        refine AD.op [3] rfl (by kernel_rfl) rfl rfl (fun _ _ h => AOp.loadN rfl rfl (ltb rfl) rfl agg32 size32 rfl (leb rfl) rfl h) ?_
        refine AD.op [7] rfl (by kernel_rfl) rfl rfl (fun _ _ h => AOp.move rfl rfl (ltb rfl) rfl h) ?_
        refine AD.op [1] rfl (by kernel_rfl) rfl rfl (fun _ _ h => AOp.move rfl rfl (ltb rfl) rfl h) ?_
        refine AD.op [28] rfl (by kernel_rfl) rfl rfl (fun _ _ h => AOp.sliceFull rfl rfl (ltb rfl) rfl el25 h) ?_
        refine AD.op [8] rfl (by kernel_rfl) rfl rfl (fun _ _ h => AOp.move rfl rfl (ltb rfl) rfl h) ?_
        refine AD.done ?_
        refine AO.op rfl (AOp.inl [1, 2, 3, 7, 8] (by kernel_rfl) Tryd.func23 rfl Tryd.ntmps23 rfl rfl (ltb rfl) rfl (leb rfl) rfl ?_)
        intro fr16
        refine AC.seq ?_
        refine AC.region ?_
        refine AO.op rfl (AOp.box rfl rfl (ltb rfl) rfl rfl ?_)
        refine AO.nil ?_
        change AC _ _ _ _
        refine AC.seq ?_
        refine AC.region ?_
        refine AO.op rfl (AOp.move rfl rfl (ltb rfl) rfl ?_)
        refine AO.nil ?_
        change AC _ _ _ _
        refine AC.block ?_
        refine AC.seq ?_
        refine AC.region ?_
        refine AO.op rfl (AOp.ieql rfl rfl (ltb rfl) rfl rfl ?_)
        refine AO.op rfl (AOp.assign rfl rfl (ltb rfl) rfl ?_)
        refine AO.nil ?_
        change AC _ _ _ _
        refine AC.cond rfl (fun q17 => ?_) (fun q17 => ?_)
        · replace h1 := cT h1 q17
          refine AC.region ?_
          refine AO.op rfl (AOp.build rfl rfl (ltb rfl) zero50 rfl places50 rfl rfl ?_)
          refine AO.op rfl (AOp.move rfl rfl (ltb rfl) rfl ?_)
          refine AO.op rfl (AOp.move rfl rfl (ltb rfl) rfl ?_)
          refine AO.op rfl (AOp.inl [] (by kernel_rfl) Tryd.func26 rfl Tryd.ntmps26 rfl rfl (ltb rfl) rfl (leb rfl) rfl ?_)
          intro fr18
          refine AC.seq ?_
          refine AC.region ?_
          refine AO.op rfl (AOp.box rfl rfl (ltb rfl) rfl rfl ?_)
          refine AO.nil ?_
          change AC _ _ _ _
          obtain ⟨q19, h1⟩ := need_elim h1
          obtain ⟨x20, q21, h1⟩ := idx_elim h1
          obtain ⟨q22, h1⟩ := need_elim h1
          obtain ⟨x23, q24, h1⟩ := idx_elim h1
          obtain ⟨q25, h1⟩ := need_elim h1
          obtain ⟨q26, h1⟩ := need_elim h1
          refine AC.drawS [0, 1, 2, 3, 4, 5, 6, 7, 8, 9, 10, 11, 12, 13, 14, 15, 16, 17] [17] [18, 19] (fun L => [.fix 25 [.d (.v (.slice none 0 0))], .fix 4 [.d (dbool false)], .dead, .fix 32 [.d (di .i64 a1)], .fix 32 [.d (di .i64 a1)], .fix 32 [.d (di .i64 a1)], .frame fr6 [(6, .ptr 0 0), (7, .ptr 1 0)], .fix 32 [.d (di .i64 a1)], bif L 17 then .fix 3 (List.map sS0 (g12.2.2.set ((0 : Int)).toNat x20)) else .fix 3 (List.map sS0 g12.2.2), .frame fr16 [(1, .sl 8 1 0 (((2 : Int)).toNat) (((2 : Int)).toNat)), (2, .d (di .i64 g12.1)), (3, .ptr 7 0), (7, .d (di .i64 g12.2.1)), (8, .d (di .i64 (bits .and .i64 g12.1 (3 : Int))))], .fix 32 [.d (di .i64 a1)], .frame fr18 [], .fix 50 [.d (di .i64 (0 : Int)), .d (di .i64 (1 : Int))]]) [(17, (fun _ => true))] mixed (by kernel_rfl) (fun L L' h => by simp only [h 17 (by decide)]) rfl ?_
          refine AS.op [2] [] [17] [] rfl rfl rfl (by kernel_rfl) (by kernel_rfl) rfl rfl (fun _ _ _ h => AOp.move rfl rfl (ltb rfl) rfl h) (by kernel_rfl) ?_
          refine AS.op [3] [] [17] [] rfl rfl rfl (by kernel_rfl) (by kernel_rfl) rfl rfl (fun _ _ _ h => AOp.fieldAddr rfl rfl (ltb rfl) rfl fo50_0 h) (by kernel_rfl) ?_
          refine AS.op [7] [] [17] [] rfl rfl rfl (by kernel_rfl) (by kernel_rfl) rfl rfl (fun _ _ _ h => AOp.load1 rfl rfl (ltb rfl) rfl agg3 rfl rfl h) (by kernel_rfl) ?_
          refine AS.op [2] [] [] [17] rfl rfl rfl (by kernel_rfl) (by kernel_rfl) rfl rfl (fun _ _ _ h => AOp.move rfl rfl (ltb rfl) rfl h) (by kernel_rfl) ?_
          refine AS.op [3] [] [] [17] rfl rfl rfl (by kernel_rfl) (by kernel_rfl) rfl rfl (fun _ _ _ h => AOp.fieldAddr rfl rfl (ltb rfl) rfl fo50_1 h) (by kernel_rfl) ?_
          refine AS.op [10] [] [] [17] rfl rfl rfl (by kernel_rfl) (by kernel_rfl) rfl rfl (fun _ _ _ h => AOp.load1 rfl rfl (ltb rfl) rfl agg3 rfl rfl h) (by kernel_rfl) ?_
          refine AS.op [2] [] [17] [] rfl rfl rfl (by kernel_rfl) (by kernel_rfl) rfl rfl (fun _ _ _ h => AOp.move rfl rfl (ltb rfl) rfl h) (by kernel_rfl) ?_
          refine AS.op [3] [] [17] [] rfl rfl rfl (by kernel_rfl) (by kernel_rfl) rfl rfl (fun _ _ _ h => AOp.fieldAddr rfl rfl (ltb rfl) rfl fo50_1 h) (by kernel_rfl) ?_
          refine AS.op [13] [] [17] [] rfl rfl rfl (by kernel_rfl) (by kernel_rfl) rfl rfl (fun _ _ _ h => AOp.load1 rfl rfl (ltb rfl) rfl agg3 rfl rfl h) (by kernel_rfl) ?_
          refine AS.op [12, 14] [] [17] [] rfl rfl rfl (by kernel_rfl) (by kernel_rfl) rfl rfl (fun _ _ _ h => AOp.indexSl rfl rfl (ltb rfl) rfl rfl el25 q19.1 q19.2 h) (by kernel_rfl) ?_
          refine AS.op [15] [] [17] [] rfl rfl rfl (by kernel_rfl) (by kernel_rfl) rfl rfl (fun _ _ _ h => AOp.load1 rfl rfl (ltb rfl) rfl agg3 rfl (atO q21.2) h) (by kernel_rfl) ?_
          refine AS.op [2] [] [17] [] rfl rfl rfl (by kernel_rfl) (by kernel_rfl) rfl rfl (fun _ _ _ h => AOp.move rfl rfl (ltb rfl) rfl h) (by kernel_rfl) ?_
          refine AS.op [3] [] [17] [] rfl rfl rfl (by kernel_rfl) (by kernel_rfl) rfl rfl (fun _ _ _ h => AOp.fieldAddr rfl rfl (ltb rfl) rfl fo50_0 h) (by kernel_rfl) ?_
          refine AS.op [18] [] [17] [] rfl rfl rfl (by kernel_rfl) (by kernel_rfl) rfl rfl (fun _ _ _ h => AOp.load1 rfl rfl (ltb rfl) rfl agg3 rfl rfl h) (by kernel_rfl) ?_
          refine AS.op [17, 19] [] [17] [] rfl rfl rfl (by kernel_rfl) (by kernel_rfl) rfl rfl (fun _ _ _ h => AOp.indexSl rfl rfl (ltb rfl) rfl rfl el25 q22.1 q22.2 h) (by kernel_rfl) ?_
          refine AS.op [20] [] [17] [] rfl rfl rfl (by kernel_rfl) (by kernel_rfl) rfl rfl (fun _ _ _ h => AOp.load1 rfl rfl (ltb rfl) rfl agg3 rfl (atO q24.2) h) (by kernel_rfl) ?_
          refine AS.op [6, 8] [] [17] [] rfl rfl rfl (by kernel_rfl) (by kernel_rfl) rfl rfl (fun _ _ _ h => AOp.indexSl rfl rfl (ltb rfl) rfl rfl el25 q25.1 q25.2 h) (by kernel_rfl) ?_
          refine AS.mid0 [16, 22] [] [17] [] rfl rfl rfl rfl (by kernel_rfl) (by kernel_rfl) rfl rfl (fun _ _ _ h => AOp.storeL (f := fun z => SV.d (keS0 z)) (l := g12.2.2) (i := ((0 : Int)).toNat) (v := x20) rfl rfl rfl rfl size3 rfl rfl rfl q26 (AO.dropT h)) (by kernel_rfl) rfl ?_
          refine AS.done ?_
          refine AO.objs (obs' := [.fix 25 [.d (.v (.slice none 0 0))], .fix 4 [.d (dbool false)], .dead, .fix 32 [.d (di .i64 a1)], .fix 32 [.d (di .i64 a1)], .fix 32 [.d (di .i64 a1)], .frame fr6 [(6, .ptr 0 0), (7, .ptr 1 0)], .fix 32 [.d (di .i64 a1)], .fix 3 (List.map sS0 (g12.2.2.set ((0 : Int)).toNat x20)), .frame fr16 [(1, .sl 8 1 0 (((2 : Int)).toNat) (((2 : Int)).toNat)), (2, .d (di .i64 g12.1)), (3, .ptr 7 0), (7, .d (di .i64 g12.2.1)), (8, .d (di .i64 (bits .and .i64 g12.1 (3 : Int))))], .fix 32 [.d (di .i64 a1)], .frame fr18 [], .fix 50 [.d (di .i64 (0 : Int)), .d (di .i64 (1 : Int))]]) rfl ?_
          obtain ⟨q27, h1⟩ := need_elim h1
          refine AO.op rfl (AOp.indexSl rfl rfl (ltb rfl) rfl rfl el25 q27.1 q27.2 ?_)
          obtain ⟨q28, h1⟩ := need_elim h1
          refine AO.op rfl (AOp.storeL (f := fun z => SV.d (keS0 z)) (l := (g12.2.2.set ((0 : Int)).toNat x20)) (i := ((1 : Int)).toNat) (v := x23) rfl rfl rfl rfl size3 rfl rfl rfl q28 ?_)
          refine AO.nil ?_
          refine inlend (ob' := [.fix 25 [.d (.v (.slice none 0 0))], .fix 4 [.d (dbool false)], .dead, .fix 32 [.d (di .i64 a1)], .fix 32 [.d (di .i64 a1)], .fix 32 [.d (di .i64 a1)], .frame fr6 [(6, .ptr 0 0), (7, .ptr 1 0)], .fix 32 [.d (di .i64 a1)], .fix 3 (List.map sS0 ((g12.2.2.set ((0 : Int)).toNat x20).set ((1 : Int)).toNat x23)), .frame fr16 [(1, .sl 8 1 0 (((2 : Int)).toNat) (((2 : Int)).toNat)), (2, .d (di .i64 g12.1)), (3, .ptr 7 0), (7, .d (di .i64 g12.2.1)), (8, .d (di .i64 (bits .and .i64 g12.1 (3 : Int))))], .fix 32 [.d (di .i64 a1)], .dead, .fix 50 [.d (di .i64 (0 : Int)), .d (di .i64 (1 : Int))]]) (e' := []) (r := .tu []) rfl rfl rfl ?_
          change AO _ _ _ _ _
          refine AO.nil ?_
          refine inlend (ob' := [.fix 25 [.d (.v (.slice none 0 0))], .fix 4 [.d (dbool false)], .dead, .fix 32 [.d (di .i64 a1)], .fix 32 [.d (di .i64 a1)], .fix 32 [.d (di .i64 a1)], .frame fr6 [(6, .ptr 0 0), (7, .ptr 1 0)], .fix 32 [.d (di .i64 a1)], .fix 3 (List.map sS0 ((g12.2.2.set ((0 : Int)).toNat x20).set ((1 : Int)).toNat x23)), .dead, .fix 32 [.d (di .i64 a1)], .dead, .fix 50 [.d (di .i64 (0 : Int)), .d (di .i64 (1 : Int))]]) (e' := [(1, .sl 8 1 0 (((2 : Int)).toNat) (((2 : Int)).toNat)), (2, .d (di .i64 g12.1)), (3, .ptr 7 0), (7, .d (di .i64 g12.2.1)), (8, .d (di .i64 (bits .and .i64 g12.1 (3 : Int))))]) (r := .tu []) rfl rfl rfl ?_
          change AO _ _ _ _ _
          refine AO.nil ?_
          change AC _ _ _ _
          refine AC.seq ?_
          refine AC.region ?_
          refine AO.op rfl (AOp.move rfl rfl (ltb rfl) rfl ?_)
          obtain ⟨q29, h1⟩ := need_elim h1
          refine AO.op rfl (AOp.ishr (n := 1) rfl rfl (ltb rfl) rfl rfl (by decide) q29 rfl ?_)
          refine AO.op rfl (AOp.assign rfl rfl (ltb rfl) rfl ?_)
          refine AO.nil ?_
          change AC _ _ _ _
          refine AC.seq ?_
          refine AC.region ?_
          refine AO.op rfl (AOp.move rfl rfl (ltb rfl) rfl ?_)
          obtain ⟨q30, h1⟩ := need_elim h1
          refine AO.op rfl (AOp.ishr (n := 0) rfl rfl (ltb rfl) rfl rfl (by decide) q30 rfl ?_)
          refine AO.op rfl (AOp.move rfl rfl (ltb rfl) rfl ?_)
          obtain ⟨q31, h1⟩ := need_elim h1
          refine AO.op rfl (AOp.ishr (n := 1) rfl rfl (ltb rfl) rfl rfl (by decide) q31 rfl ?_)
          refine AO.op rfl (AOp.ibits (by simp) rfl rfl (ltb rfl) rfl rfl rfl ?_)
          refine AO.op rfl (AOp.ibits (by simp) rfl rfl (ltb rfl) rfl rfl rfl ?_)
          refine AO.op rfl (AOp.assign rfl rfl (ltb rfl) rfl ?_)
          refine AO.nil ?_
          change AC _ _ _ _
          refine AC.seq ?_
          refine AC.draw 8 mixed (by kernel_rfl) ?_
          refine AD.op [1] rfl (by kernel_rfl) rfl rfl (fun _ _ h => AOp.move rfl rfl (ltb rfl) rfl h) ?_
          obtain ⟨q32, h1⟩ := need_elim h1
          refine AD.op [40] rfl (by kernel_rfl) rfl rfl (fun _ _ h => AOp.indexSl rfl rfl (ltb rfl) rfl rfl el25 q32.1 q32.2 h) ?_
          obtain ⟨x33, q34, h1⟩ := idx_elim h1
          refine AD.op [41] rfl (by kernel_rfl) rfl rfl (fun _ _ h => AOp.load1 rfl rfl (ltb rfl) rfl agg3 rfl (atO q34.2) h) ?_
          refine AD.op [10] rfl (by kernel_rfl) rfl rfl (fun _ _ h => AOp.move rfl rfl (ltb rfl) rfl h) ?_
          refine AD.op [7] rfl (by kernel_rfl) rfl rfl (fun _ _ h => AOp.move rfl rfl (ltb rfl) rfl h) ?_
          obtain ⟨q35, h1⟩ := need_elim h1
          refine AD.op [43, 44] rfl (by kernel_rfl) rfl rfl (fun _ _ h => AOp.ishl' rfl rfl (ltb rfl) rfl rfl q35 h) ?_
          obtain ⟨q36, h1⟩ := need_elim h1
          refine AD.op [42, 45] rfl (by kernel_rfl) rfl rfl (fun _ _ h => AOp.iadd rfl rfl (ltb rfl) rfl rfl rfl q36.1 q36.2 h) ?_
          obtain ⟨q37, h1⟩ := need_elim h1
          refine AD.op [40] rfl (by kernel_rfl) rfl rfl (fun _ _ h => AOp.indexSl rfl rfl (ltb rfl) rfl rfl el25 q37.1 q37.2 h) ?_
          refine AD.done ?_
          obtain ⟨q38, h1⟩ := need_elim h1
          refine AO.op rfl (AOp.storeL (f := fun z => SV.d (keS0 z)) (l := ((g12.2.2.set ((0 : Int)).toNat x20).set ((1 : Int)).toNat x23)) (i := ((0 : Int)).toNat) (v := (x33 + (IntKind.i64.wrap ((bits .and .i64 (bits .xor .i64 ((bits .and .i64 g12.1 (3 : Int)) / 2 ^ 0) ((bits .and .i64 g12.1 (3 : Int)) / 2 ^ 1)) (1 : Int)) * 2 ^ (g12.2.1).toNat)))) rfl rfl rfl rfl size3 rfl rfl rfl q38 ?_)
          refine AO.nil ?_
          change AC _ _ _ _
          refine AC.seq ?_
          refine AC.draw 8 mixed (by kernel_rfl) ?_
          refine AD.op [1] rfl (by kernel_rfl) rfl rfl (fun _ _ h => AOp.move rfl rfl (ltb rfl) rfl h) ?_
          obtain ⟨q39, h1⟩ := need_elim h1
          refine AD.op [48] rfl (by kernel_rfl) rfl rfl (fun _ _ h => AOp.indexSl rfl rfl (ltb rfl) rfl rfl el25 q39.1 q39.2 h) ?_
          obtain ⟨x40, q41, h1⟩ := idx_elim h1
          refine AD.op [49] rfl (by kernel_rfl) rfl rfl (fun _ _ h => AOp.load1 rfl rfl (ltb rfl) rfl agg3 rfl (atO q41.2) h) ?_
          refine AD.op [9] rfl (by kernel_rfl) rfl rfl (fun _ _ h => AOp.move rfl rfl (ltb rfl) rfl h) ?_
          refine AD.op [7] rfl (by kernel_rfl) rfl rfl (fun _ _ h => AOp.move rfl rfl (ltb rfl) rfl h) ?_
          obtain ⟨q42, h1⟩ := need_elim h1
          refine AD.op [51, 52] rfl (by kernel_rfl) rfl rfl (fun _ _ h => AOp.ishl' rfl rfl (ltb rfl) rfl rfl q42 h) ?_
          obtain ⟨q43, h1⟩ := need_elim h1
          refine AD.op [50, 53] rfl (by kernel_rfl) rfl rfl (fun _ _ h => AOp.iadd rfl rfl (ltb rfl) rfl rfl rfl q43.1 q43.2 h) ?_
          obtain ⟨q44, h1⟩ := need_elim h1
          refine AD.op [48] rfl (by kernel_rfl) rfl rfl (fun _ _ h => AOp.indexSl rfl rfl (ltb rfl) rfl rfl el25 q44.1 q44.2 h) ?_
          refine AD.done ?_
          obtain ⟨q45, h1⟩ := need_elim h1
          refine AO.op rfl (AOp.storeL (f := fun z => SV.d (keS0 z)) (l := (((g12.2.2.set ((0 : Int)).toNat x20).set ((1 : Int)).toNat x23).set ((0 : Int)).toNat (x33 + (IntKind.i64.wrap ((bits .and .i64 (bits .xor .i64 ((bits .and .i64 g12.1 (3 : Int)) / 2 ^ 0) ((bits .and .i64 g12.1 (3 : Int)) / 2 ^ 1)) (1 : Int)) * 2 ^ (g12.2.1).toNat))))) (i := ((1 : Int)).toNat) (v := (x40 + (IntKind.i64.wrap (((bits .and .i64 g12.1 (3 : Int)) / 2 ^ 1) * 2 ^ (g12.2.1).toNat)))) rfl rfl rfl rfl size3 rfl rfl rfl q45 ?_)
          refine AO.nil ?_
          change AC _ _ _ _
          refine AC.region ?_
          refine AO.op rfl (AOp.move rfl rfl (ltb rfl) rfl ?_)
          obtain ⟨q46, h1⟩ := need_elim h1
          refine AO.op rfl (AOp.ishr (n := 2) rfl rfl (ltb rfl) rfl rfl (by decide) q46 rfl ?_)
          refine AO.op rfl (AOp.assign rfl rfl (ltb rfl) rfl ?_)
          refine AO.nil ?_
          change AC _ _ _ _
          refine AC.region ?_
          refine AO.op rfl (AOp.move rfl rfl (ltb rfl) rfl ?_)
          obtain ⟨q47, h1⟩ := need_elim h1
          refine AO.op rfl (AOp.iadd rfl rfl (ltb rfl) rfl rfl rfl q47.1 q47.2 ?_)
          refine AO.op rfl (AOp.assign rfl rfl (ltb rfl) rfl ?_)
          refine AO.nil ?_
          exact ⟨((g12.1 / 2 ^ 2), (g12.2.1 + (1 : Int)), ((((g12.2.2.set ((0 : Int)).toNat x20).set ((1 : Int)).toNat x23).set ((0 : Int)).toNat (x33 + (IntKind.i64.wrap ((bits .and .i64 (bits .xor .i64 ((bits .and .i64 g12.1 (3 : Int)) / 2 ^ 0) ((bits .and .i64 g12.1 (3 : Int)) / 2 ^ 1)) (1 : Int)) * 2 ^ (g12.2.1).toNat)))).set ((1 : Int)).toNat (x40 + (IntKind.i64.wrap (((bits .and .i64 g12.1 (3 : Int)) / 2 ^ 1) * 2 ^ (g12.2.1).toNat))))), _, rfl, (LeL.refl _), rfl, (okU_mk rfl (okU_cons rfl (okU_cons rfl (okU_cons rfl (okU_cons rfl (okU_cons rfl (okU_cons rfl (okU_cons rfl (okU_cons rfl (okU_cons (okU_fixl (fun _ => rfl)) okU_nil)))))))))), h1⟩
        replace h1 := cF h1 q17
        refine AC.seq ?_
        refine AC.region ?_
        refine AO.op rfl (AOp.ieql rfl rfl (ltb rfl) rfl rfl ?_)
        refine AO.op rfl (AOp.assign rfl rfl (ltb rfl) rfl ?_)
        refine AO.nil ?_
        change AC _ _ _ _
        refine AC.cond rfl (fun q48 => ?_) (fun q48 => ?_)
        · replace h1 := cT h1 q48
          refine AC.region ?_
          refine AO.op rfl (AOp.build rfl rfl (ltb rfl) zero52 rfl places52 rfl rfl ?_)
          refine AO.op rfl (AOp.move rfl rfl (ltb rfl) rfl ?_)
          refine AO.op rfl (AOp.move rfl rfl (ltb rfl) rfl ?_)
          refine AO.op rfl (AOp.inl [] (by kernel_rfl) Tryd.func27 rfl Tryd.ntmps27 rfl rfl (ltb rfl) rfl (leb rfl) rfl ?_)
          intro fr49
          refine AC.seq ?_
          refine AC.region ?_
          refine AO.op rfl (AOp.box rfl rfl (ltb rfl) rfl rfl ?_)
          refine AO.nil ?_
          change AC _ _ _ _
          obtain ⟨q50, h1⟩ := need_elim h1
          obtain ⟨x51, q52, h1⟩ := idx_elim h1
          obtain ⟨q53, h1⟩ := need_elim h1
          obtain ⟨q54, h1⟩ := need_elim h1
          obtain ⟨q55, h1⟩ := need_elim h1
          obtain ⟨x56, q57, h1⟩ := idx_elim h1
          obtain ⟨q58, h1⟩ := need_elim h1
          obtain ⟨q59, h1⟩ := need_elim h1
          obtain ⟨q60, h1⟩ := need_elim h1
          obtain ⟨q61, h1⟩ := need_elim h1
          refine AC.drawS [0, 1, 2, 3, 4, 5, 6, 7, 8, 9, 10, 11, 12, 13, 14, 15, 16, 17, 18, 19, 20, 21, 22, 23, 24, 25] [25] [26, 27] (fun L => [.fix 25 [.d (.v (.slice none 0 0))], .fix 4 [.d (dbool false)], .dead, .fix 32 [.d (di .i64 a1)], .fix 32 [.d (di .i64 a1)], .fix 32 [.d (di .i64 a1)], .frame fr6 [(6, .ptr 0 0), (7, .ptr 1 0)], .fix 32 [.d (di .i64 a1)], bif L 25 then .fix 3 (List.map sS0 (g12.2.2.set ((0 : Int)).toNat (bits .xor .i64 x51 (m1 g12.2.1)))) else .fix 3 (List.map sS0 g12.2.2), .frame fr16 [(1, .sl 8 1 0 (((2 : Int)).toNat) (((2 : Int)).toNat)), (2, .d (di .i64 g12.1)), (3, .ptr 7 0), (7, .d (di .i64 g12.2.1)), (8, .d (di .i64 (bits .and .i64 g12.1 (3 : Int))))], .fix 32 [.d (di .i64 a1)], .frame fr49 [], .fix 52 [.d (di .i64 (0 : Int)), .d (di .i64 (1 : Int))]]) [(25, (fun _ => true))] mixed (by kernel_rfl) (fun L L' h => by simp only [h 25 (by decide)]) rfl ?_
          refine AS.op [2] [] [25] [] rfl rfl rfl (by kernel_rfl) (by kernel_rfl) rfl rfl (fun _ _ _ h => AOp.move rfl rfl (ltb rfl) rfl h) (by kernel_rfl) ?_
          refine AS.op [3] [] [25] [] rfl rfl rfl (by kernel_rfl) (by kernel_rfl) rfl rfl (fun _ _ _ h => AOp.fieldAddr rfl rfl (ltb rfl) rfl fo52_0 h) (by kernel_rfl) ?_
          refine AS.op [7] [] [25] [] rfl rfl rfl (by kernel_rfl) (by kernel_rfl) rfl rfl (fun _ _ _ h => AOp.load1 rfl rfl (ltb rfl) rfl agg3 rfl rfl h) (by kernel_rfl) ?_
          refine AS.op [2] [] [] [25] rfl rfl rfl (by kernel_rfl) (by kernel_rfl) rfl rfl (fun _ _ _ h => AOp.move rfl rfl (ltb rfl) rfl h) (by kernel_rfl) ?_
          refine AS.op [3] [] [] [25] rfl rfl rfl (by kernel_rfl) (by kernel_rfl) rfl rfl (fun _ _ _ h => AOp.fieldAddr rfl rfl (ltb rfl) rfl fo52_1 h) (by kernel_rfl) ?_
          refine AS.op [10] [] [] [25] rfl rfl rfl (by kernel_rfl) (by kernel_rfl) rfl rfl (fun _ _ _ h => AOp.load1 rfl rfl (ltb rfl) rfl agg3 rfl rfl h) (by kernel_rfl) ?_
          refine AS.op [2] [] [25] [] rfl rfl rfl (by kernel_rfl) (by kernel_rfl) rfl rfl (fun _ _ _ h => AOp.move rfl rfl (ltb rfl) rfl h) (by kernel_rfl) ?_
          refine AS.op [3] [] [25] [] rfl rfl rfl (by kernel_rfl) (by kernel_rfl) rfl rfl (fun _ _ _ h => AOp.fieldAddr rfl rfl (ltb rfl) rfl fo52_1 h) (by kernel_rfl) ?_
          refine AS.op [13] [] [25] [] rfl rfl rfl (by kernel_rfl) (by kernel_rfl) rfl rfl (fun _ _ _ h => AOp.load1 rfl rfl (ltb rfl) rfl agg3 rfl rfl h) (by kernel_rfl) ?_
          refine AS.op [12, 14] [] [25] [] rfl rfl rfl (by kernel_rfl) (by kernel_rfl) rfl rfl (fun _ _ _ h => AOp.indexSl rfl rfl (ltb rfl) rfl rfl el25 q50.1 q50.2 h) (by kernel_rfl) ?_
          refine AS.op [15] [] [25] [] rfl rfl rfl (by kernel_rfl) (by kernel_rfl) rfl rfl (fun _ _ _ h => AOp.load1 rfl rfl (ltb rfl) rfl agg3 rfl (atO q52.2) h) (by kernel_rfl) ?_
          refine AS.op [1] [] [25] [] rfl rfl rfl (by kernel_rfl) (by kernel_rfl) rfl rfl (fun _ _ _ h => AOp.move rfl rfl (ltb rfl) rfl h) (by kernel_rfl) ?_
          refine AS.op [17] [] [25] [] rfl rfl rfl (by kernel_rfl) (by kernel_rfl) rfl rfl (fun _ _ _ h => AOp.ishl' rfl rfl (ltb rfl) rfl rfl q53 h) (by kernel_rfl) ?_
          refine AS.op [18] [] [25] [] rfl rfl rfl (by kernel_rfl) (by kernel_rfl) rfl rfl (fun _ _ _ h => AOp.isub rfl rfl (ltb rfl) rfl rfl rfl q54.1 q54.2 h) (by kernel_rfl) ?_
          refine AS.op [16, 19] [] [25] [] rfl rfl rfl (by kernel_rfl) (by kernel_rfl) rfl rfl (fun _ _ _ h => AOp.ibits (by simp) rfl rfl (ltb rfl) rfl rfl rfl h) (by kernel_rfl) ?_
          refine AS.op [2] [] [25] [] rfl rfl rfl (by kernel_rfl) (by kernel_rfl) rfl rfl (fun _ _ _ h => AOp.move rfl rfl (ltb rfl) rfl h) (by kernel_rfl) ?_
          refine AS.op [3] [] [25] [] rfl rfl rfl (by kernel_rfl) (by kernel_rfl) rfl rfl (fun _ _ _ h => AOp.fieldAddr rfl rfl (ltb rfl) rfl fo52_0 h) (by kernel_rfl) ?_
          refine AS.op [22] [] [25] [] rfl rfl rfl (by kernel_rfl) (by kernel_rfl) rfl rfl (fun _ _ _ h => AOp.load1 rfl rfl (ltb rfl) rfl agg3 rfl rfl h) (by kernel_rfl) ?_
          refine AS.op [21, 23] [] [25] [] rfl rfl rfl (by kernel_rfl) (by kernel_rfl) rfl rfl (fun _ _ _ h => AOp.indexSl rfl rfl (ltb rfl) rfl rfl el25 q55.1 q55.2 h) (by kernel_rfl) ?_
          refine AS.op [24] [] [25] [] rfl rfl rfl (by kernel_rfl) (by kernel_rfl) rfl rfl (fun _ _ _ h => AOp.load1 rfl rfl (ltb rfl) rfl agg3 rfl (atO q57.2) h) (by kernel_rfl) ?_
          refine AS.op [1] [] [] [25] rfl rfl rfl (by kernel_rfl) (by kernel_rfl) rfl rfl (fun _ _ _ h => AOp.move rfl rfl (ltb rfl) rfl h) (by kernel_rfl) ?_
          refine AS.op [26] [] [] [25] rfl rfl rfl (by kernel_rfl) (by kernel_rfl) rfl rfl (fun _ _ _ h => AOp.ishl' rfl rfl (ltb rfl) rfl rfl q58 h) (by kernel_rfl) ?_
          refine AS.op [27] [] [] [25] rfl rfl rfl (by kernel_rfl) (by kernel_rfl) rfl rfl (fun _ _ _ h => AOp.isub rfl rfl (ltb rfl) rfl rfl rfl q59.1 q59.2 h) (by kernel_rfl) ?_
          refine AS.op [25, 28] [] [] [25] rfl rfl rfl (by kernel_rfl) (by kernel_rfl) rfl rfl (fun _ _ _ h => AOp.ibits (by simp) rfl rfl (ltb rfl) rfl rfl rfl h) (by kernel_rfl) ?_
          refine AS.op [6, 8] [] [25] [] rfl rfl rfl (by kernel_rfl) (by kernel_rfl) rfl rfl (fun _ _ _ h => AOp.indexSl rfl rfl (ltb rfl) rfl rfl el25 q60.1 q60.2 h) (by kernel_rfl) ?_
          refine AS.mid0 [20, 30] [] [25] [] rfl rfl rfl rfl (by kernel_rfl) (by kernel_rfl) rfl rfl (fun _ _ _ h => AOp.storeL (f := fun z => SV.d (keS0 z)) (l := g12.2.2) (i := ((0 : Int)).toNat) (v := (bits .xor .i64 x51 (m1 g12.2.1))) rfl rfl rfl rfl size3 rfl rfl rfl q61 (AO.dropT h)) (by kernel_rfl) rfl ?_
          refine AS.done ?_
          refine AO.objs (obs' := [.fix 25 [.d (.v (.slice none 0 0))], .fix 4 [.d (dbool false)], .dead, .fix 32 [.d (di .i64 a1)], .fix 32 [.d (di .i64 a1)], .fix 32 [.d (di .i64 a1)], .frame fr6 [(6, .ptr 0 0), (7, .ptr 1 0)], .fix 32 [.d (di .i64 a1)], .fix 3 (List.map sS0 (g12.2.2.set ((0 : Int)).toNat (bits .xor .i64 x51 (m1 g12.2.1)))), .frame fr16 [(1, .sl 8 1 0 (((2 : Int)).toNat) (((2 : Int)).toNat)), (2, .d (di .i64 g12.1)), (3, .ptr 7 0), (7, .d (di .i64 g12.2.1)), (8, .d (di .i64 (bits .and .i64 g12.1 (3 : Int))))], .fix 32 [.d (di .i64 a1)], .frame fr49 [], .fix 52 [.d (di .i64 (0 : Int)), .d (di .i64 (1 : Int))]]) rfl ?_
          obtain ⟨q62, h1⟩ := need_elim h1
          refine AO.op rfl (AOp.indexSl rfl rfl (ltb rfl) rfl rfl el25 q62.1 q62.2 ?_)
          obtain ⟨q63, h1⟩ := need_elim h1
          refine AO.op rfl (AOp.storeL (f := fun z => SV.d (keS0 z)) (l := (g12.2.2.set ((0 : Int)).toNat (bits .xor .i64 x51 (m1 g12.2.1)))) (i := ((1 : Int)).toNat) (v := (bits .xor .i64 x56 (m1 g12.2.1))) rfl rfl rfl rfl size3 rfl rfl rfl q63 ?_)
          refine AO.nil ?_
          refine inlend (ob' := [.fix 25 [.d (.v (.slice none 0 0))], .fix 4 [.d (dbool false)], .dead, .fix 32 [.d (di .i64 a1)], .fix 32 [.d (di .i64 a1)], .fix 32 [.d (di .i64 a1)], .frame fr6 [(6, .ptr 0 0), (7, .ptr 1 0)], .fix 32 [.d (di .i64 a1)], .fix 3 (List.map sS0 ((g12.2.2.set ((0 : Int)).toNat (bits .xor .i64 x51 (m1 g12.2.1))).set ((1 : Int)).toNat (bits .xor .i64 x56 (m1 g12.2.1)))), .frame fr16 [(1, .sl 8 1 0 (((2 : Int)).toNat) (((2 : Int)).toNat)), (2, .d (di .i64 g12.1)), (3, .ptr 7 0), (7, .d (di .i64 g12.2.1)), (8, .d (di .i64 (bits .and .i64 g12.1 (3 : Int))))], .fix 32 [.d (di .i64 a1)], .dead, .fix 52 [.d (di .i64 (0 : Int)), .d (di .i64 (1 : Int))]]) (e' := []) (r := .tu []) rfl rfl rfl ?_
          change AO _ _ _ _ _
          refine AO.nil ?_
          refine inlend (ob' := [.fix 25 [.d (.v (.slice none 0 0))], .fix 4 [.d (dbool false)], .dead, .fix 32 [.d (di .i64 a1)], .fix 32 [.d (di .i64 a1)], .fix 32 [.d (di .i64 a1)], .frame fr6 [(6, .ptr 0 0), (7, .ptr 1 0)], .fix 32 [.d (di .i64 a1)], .fix 3 (List.map sS0 ((g12.2.2.set ((0 : Int)).toNat (bits .xor .i64 x51 (m1 g12.2.1))).set ((1 : Int)).toNat (bits .xor .i64 x56 (m1 g12.2.1)))), .dead, .fix 32 [.d (di .i64 a1)], .dead, .fix 52 [.d (di .i64 (0 : Int)), .d (di .i64 (1 : Int))]]) (e' := [(1, .sl 8 1 0 (((2 : Int)).toNat) (((2 : Int)).toNat)), (2, .d (di .i64 g12.1)), (3, .ptr 7 0), (7, .d (di .i64 g12.2.1)), (8, .d (di .i64 (bits .and .i64 g12.1 (3 : Int))))]) (r := .tu []) rfl rfl rfl ?_
          change AO _ _ _ _ _
          refine AO.nil ?_
          change AC _ _ _ _
          refine AC.seq ?_
          refine AC.region ?_
          refine AO.op rfl (AOp.move rfl rfl (ltb rfl) rfl ?_)
          obtain ⟨q64, h1⟩ := need_elim h1
          refine AO.op rfl (AOp.ishr (n := 1) rfl rfl (ltb rfl) rfl rfl (by decide) q64 rfl ?_)
          refine AO.op rfl (AOp.assign rfl rfl (ltb rfl) rfl ?_)
          refine AO.nil ?_
          change AC _ _ _ _
          refine AC.seq ?_
          refine AC.region ?_
          refine AO.op rfl (AOp.move rfl rfl (ltb rfl) rfl ?_)
          obtain ⟨q65, h1⟩ := need_elim h1
          refine AO.op rfl (AOp.ishr (n := 0) rfl rfl (ltb rfl) rfl rfl (by decide) q65 rfl ?_)
          refine AO.op rfl (AOp.move rfl rfl (ltb rfl) rfl ?_)
          obtain ⟨q66, h1⟩ := need_elim h1
          refine AO.op rfl (AOp.ishr (n := 1) rfl rfl (ltb rfl) rfl rfl (by decide) q66 rfl ?_)
          refine AO.op rfl (AOp.ibits (by simp) rfl rfl (ltb rfl) rfl rfl rfl ?_)
          refine AO.op rfl (AOp.ibits (by simp) rfl rfl (ltb rfl) rfl rfl rfl ?_)
          refine AO.op rfl (AOp.assign rfl rfl (ltb rfl) rfl ?_)
          refine AO.nil ?_
          change AC _ _ _ _
          refine AC.seq ?_
          refine AC.draw 8 mixed (by kernel_rfl) ?_
          refine AD.op [1] rfl (by kernel_rfl) rfl rfl (fun _ _ h => AOp.move rfl rfl (ltb rfl) rfl h) ?_
          obtain ⟨q67, h1⟩ := need_elim h1
          refine AD.op [40] rfl (by kernel_rfl) rfl rfl (fun _ _ h => AOp.indexSl rfl rfl (ltb rfl) rfl rfl el25 q67.1 q67.2 h) ?_
          obtain ⟨x68, q69, h1⟩ := idx_elim h1
          refine AD.op [41] rfl (by kernel_rfl) rfl rfl (fun _ _ h => AOp.load1 rfl rfl (ltb rfl) rfl agg3 rfl (atO q69.2) h) ?_
          refine AD.op [10] rfl (by kernel_rfl) rfl rfl (fun _ _ h => AOp.move rfl rfl (ltb rfl) rfl h) ?_
          refine AD.op [7] rfl (by kernel_rfl) rfl rfl (fun _ _ h => AOp.move rfl rfl (ltb rfl) rfl h) ?_
          obtain ⟨q70, h1⟩ := need_elim h1
          refine AD.op [43, 44] rfl (by kernel_rfl) rfl rfl (fun _ _ h => AOp.ishl' rfl rfl (ltb rfl) rfl rfl q70 h) ?_
          obtain ⟨q71, h1⟩ := need_elim h1
          refine AD.op [42, 45] rfl (by kernel_rfl) rfl rfl (fun _ _ h => AOp.iadd rfl rfl (ltb rfl) rfl rfl rfl q71.1 q71.2 h) ?_
          obtain ⟨q72, h1⟩ := need_elim h1
          refine AD.op [40] rfl (by kernel_rfl) rfl rfl (fun _ _ h => AOp.indexSl rfl rfl (ltb rfl) rfl rfl el25 q72.1 q72.2 h) ?_
          refine AD.done ?_
          obtain ⟨q73, h1⟩ := need_elim h1
          refine AO.op rfl (AOp.storeL (f := fun z => SV.d (keS0 z)) (l := ((g12.2.2.set ((0 : Int)).toNat (bits .xor .i64 x51 (m1 g12.2.1))).set ((1 : Int)).toNat (bits .xor .i64 x56 (m1 g12.2.1)))) (i := ((0 : Int)).toNat) (v := (x68 + (IntKind.i64.wrap ((bits .and .i64 (bits .xor .i64 ((bits .and .i64 g12.1 (3 : Int)) / 2 ^ 0) ((bits .and .i64 g12.1 (3 : Int)) / 2 ^ 1)) (1 : Int)) * 2 ^ (g12.2.1).toNat)))) rfl rfl rfl rfl size3 rfl rfl rfl q73 ?_)
          refine AO.nil ?_
          change AC _ _ _ _
          refine AC.seq ?_
          refine AC.draw 8 mixed (by kernel_rfl) ?_
          refine AD.op [1] rfl (by kernel_rfl) rfl rfl (fun _ _ h => AOp.move rfl rfl (ltb rfl) rfl h) ?_
          obtain ⟨q74, h1⟩ := need_elim h1
          refine AD.op [48] rfl (by kernel_rfl) rfl rfl (fun _ _ h => AOp.indexSl rfl rfl (ltb rfl) rfl rfl el25 q74.1 q74.2 h) ?_
          obtain ⟨x75, q76, h1⟩ := idx_elim h1
          refine AD.op [49] rfl (by kernel_rfl) rfl rfl (fun _ _ h => AOp.load1 rfl rfl (ltb rfl) rfl agg3 rfl (atO q76.2) h) ?_
          refine AD.op [9] rfl (by kernel_rfl) rfl rfl (fun _ _ h => AOp.move rfl rfl (ltb rfl) rfl h) ?_
          refine AD.op [7] rfl (by kernel_rfl) rfl rfl (fun _ _ h => AOp.move rfl rfl (ltb rfl) rfl h) ?_
          obtain ⟨q77, h1⟩ := need_elim h1
          refine AD.op [51, 52] rfl (by kernel_rfl) rfl rfl (fun _ _ h => AOp.ishl' rfl rfl (ltb rfl) rfl rfl q77 h) ?_
          obtain ⟨q78, h1⟩ := need_elim h1
          refine AD.op [50, 53] rfl (by kernel_rfl) rfl rfl (fun _ _ h => AOp.iadd rfl rfl (ltb rfl) rfl rfl rfl q78.1 q78.2 h) ?_
          obtain ⟨q79, h1⟩ := need_elim h1
          refine AD.op [48] rfl (by kernel_rfl) rfl rfl (fun _ _ h => AOp.indexSl rfl rfl (ltb rfl) rfl rfl el25 q79.1 q79.2 h) ?_
          refine AD.done ?_
          obtain ⟨q80, h1⟩ := need_elim h1
          refine AO.op rfl (AOp.storeL (f := fun z => SV.d (keS0 z)) (l := (((g12.2.2.set ((0 : Int)).toNat (bits .xor .i64 x51 (m1 g12.2.1))).set ((1 : Int)).toNat (bits .xor .i64 x56 (m1 g12.2.1))).set ((0 : Int)).toNat (x68 + (IntKind.i64.wrap ((bits .and .i64 (bits .xor .i64 ((bits .and .i64 g12.1 (3 : Int)) / 2 ^ 0) ((bits .and .i64 g12.1 (3 : Int)) / 2 ^ 1)) (1 : Int)) * 2 ^ (g12.2.1).toNat))))) (i := ((1 : Int)).toNat) (v := (x75 + (IntKind.i64.wrap (((bits .and .i64 g12.1 (3 : Int)) / 2 ^ 1) * 2 ^ (g12.2.1).toNat)))) rfl rfl rfl rfl size3 rfl rfl rfl q80 ?_)
          refine AO.nil ?_
          change AC _ _ _ _
          refine AC.region ?_
          refine AO.op rfl (AOp.move rfl rfl (ltb rfl) rfl ?_)
          obtain ⟨q81, h1⟩ := need_elim h1
          refine AO.op rfl (AOp.ishr (n := 2) rfl rfl (ltb rfl) rfl rfl (by decide) q81 rfl ?_)
          refine AO.op rfl (AOp.assign rfl rfl (ltb rfl) rfl ?_)
          refine AO.nil ?_
          change AC _ _ _ _
          refine AC.region ?_
          refine AO.op rfl (AOp.move rfl rfl (ltb rfl) rfl ?_)
          obtain ⟨q82, h1⟩ := need_elim h1
          refine AO.op rfl (AOp.iadd rfl rfl (ltb rfl) rfl rfl rfl q82.1 q82.2 ?_)
          refine AO.op rfl (AOp.assign rfl rfl (ltb rfl) rfl ?_)
          refine AO.nil ?_
          exact ⟨((g12.1 / 2 ^ 2), (g12.2.1 + (1 : Int)), ((((g12.2.2.set ((0 : Int)).toNat (bits .xor .i64 x51 (m1 g12.2.1))).set ((1 : Int)).toNat (bits .xor .i64 x56 (m1 g12.2.1))).set ((0 : Int)).toNat (x68 + (IntKind.i64.wrap ((bits .and .i64 (bits .xor .i64 ((bits .and .i64 g12.1 (3 : Int)) / 2 ^ 0) ((bits .and .i64 g12.1 (3 : Int)) / 2 ^ 1)) (1 : Int)) * 2 ^ (g12.2.1).toNat)))).set ((1 : Int)).toNat (x75 + (IntKind.i64.wrap (((bits .and .i64 g12.1 (3 : Int)) / 2 ^ 1) * 2 ^ (g12.2.1).toNat))))), _, rfl, (LeL.refl _), rfl, (okU_mk rfl (okU_cons rfl (okU_cons rfl (okU_cons rfl (okU_cons rfl (okU_cons rfl (okU_cons rfl (okU_cons rfl (okU_cons rfl (okU_cons (okU_fixl (fun _ => rfl)) okU_nil)))))))))), h1⟩
        replace h1 := cF h1 q48
        refine AC.skip ?_
        refine inlend (ob' := [.fix 25 [.d (.v (.slice none 0 0))], .fix 4 [.d (dbool false)], .dead, .fix 32 [.d (di .i64 a1)], .fix 32 [.d (di .i64 a1)], .fix 32 [.d (di .i64 a1)], .frame fr6 [(6, .ptr 0 0), (7, .ptr 1 0)], .fix 32 [.d (di .i64 a1)], .fix 3 (List.map sS0 g12.2.2), .dead, .fix 32 [.d (di .i64 a1)]]) (e' := [(1, .sl 8 1 0 (((2 : Int)).toNat) (((2 : Int)).toNat)), (2, .d (di .i64 g12.1)), (3, .ptr 7 0), (7, .d (di .i64 g12.2.1)), (8, .d (di .i64 (bits .and .i64 g12.1 (3 : Int))))]) (r := .tu []) rfl rfl rfl ?_
        change AO _ _ _ _ _
        refine AO.nil ?_
        change AC _ _ _ _
        refine AC.seq ?_
        refine AC.region ?_
        refine AO.op rfl (AOp.move rfl rfl (ltb rfl) rfl ?_)
        obtain ⟨q83, h1⟩ := need_elim h1
        refine AO.op rfl (AOp.ishr (n := 1) rfl rfl (ltb rfl) rfl rfl (by decide) q83 rfl ?_)
        refine AO.op rfl (AOp.assign rfl rfl (ltb rfl) rfl ?_)
        refine AO.nil ?_
        change AC _ _ _ _
        refine AC.seq ?_
        refine AC.region ?_
        refine AO.op rfl (AOp.move rfl rfl (ltb rfl) rfl ?_)
        obtain ⟨q84, h1⟩ := need_elim h1
        refine AO.op rfl (AOp.ishr (n := 0) rfl rfl (ltb rfl) rfl rfl (by decide) q84 rfl ?_)
        refine AO.op rfl (AOp.move rfl rfl (ltb rfl) rfl ?_)
        obtain ⟨q85, h1⟩ := need_elim h1
        refine AO.op rfl (AOp.ishr (n := 1) rfl rfl (ltb rfl) rfl rfl (by decide) q85 rfl ?_)
        refine AO.op rfl (AOp.ibits (by simp) rfl rfl (ltb rfl) rfl rfl rfl ?_)
        refine AO.op rfl (AOp.ibits (by simp) rfl rfl (ltb rfl) rfl rfl rfl ?_)
        refine AO.op rfl (AOp.assign rfl rfl (ltb rfl) rfl ?_)
        refine AO.nil ?_
        change AC _ _ _ _
        refine AC.seq ?_
        refine AC.draw 8 mixed (by kernel_rfl) ?_
        refine AD.op [1] rfl (by kernel_rfl) rfl rfl (fun _ _ h => AOp.move rfl rfl (ltb rfl) rfl h) ?_
        obtain ⟨q86, h1⟩ := need_elim h1
        refine AD.op [40] rfl (by kernel_rfl) rfl rfl (fun _ _ h => AOp.indexSl rfl rfl (ltb rfl) rfl rfl el25 q86.1 q86.2 h) ?_
        obtain ⟨x87, q88, h1⟩ := idx_elim h1
        refine AD.op [41] rfl (by kernel_rfl) rfl rfl (fun _ _ h => AOp.load1 rfl rfl (ltb rfl) rfl agg3 rfl (atO q88.2) h) ?_
        refine AD.op [10] rfl (by kernel_rfl) rfl rfl (fun _ _ h => AOp.move rfl rfl (ltb rfl) rfl h) ?_
        refine AD.op [7] rfl (by kernel_rfl) rfl rfl (fun _ _ h => AOp.move rfl rfl (ltb rfl) rfl h) ?_
        obtain ⟨q89, h1⟩ := need_elim h1
        refine AD.op [43, 44] rfl (by kernel_rfl) rfl rfl (fun _ _ h => AOp.ishl' rfl rfl (ltb rfl) rfl rfl q89 h) ?_
        obtain ⟨q90, h1⟩ := need_elim h1
        refine AD.op [42, 45] rfl (by kernel_rfl) rfl rfl (fun _ _ h => AOp.iadd rfl rfl (ltb rfl) rfl rfl rfl q90.1 q90.2 h) ?_
        obtain ⟨q91, h1⟩ := need_elim h1
        refine AD.op [40] rfl (by kernel_rfl) rfl rfl (fun _ _ h => AOp.indexSl rfl rfl (ltb rfl) rfl rfl el25 q91.1 q91.2 h) ?_
        refine AD.done ?_
        obtain ⟨q92, h1⟩ := need_elim h1
        refine AO.op rfl (AOp.storeL (f := fun z => SV.d (keS0 z)) (l := g12.2.2) (i := ((0 : Int)).toNat) (v := (x87 + (IntKind.i64.wrap ((bits .and .i64 (bits .xor .i64 ((bits .and .i64 g12.1 (3 : Int)) / 2 ^ 0) ((bits .and .i64 g12.1 (3 : Int)) / 2 ^ 1)) (1 : Int)) * 2 ^ (g12.2.1).toNat)))) rfl rfl rfl rfl size3 rfl rfl rfl q92 ?_)
        refine AO.nil ?_
        change AC _ _ _ _
        refine AC.seq ?_
        refine AC.draw 8 mixed (by kernel_rfl) ?_
        refine AD.op [1] rfl (by kernel_rfl) rfl rfl (fun _ _ h => AOp.move rfl rfl (ltb rfl) rfl h) ?_
        obtain ⟨q93, h1⟩ := need_elim h1
        refine AD.op [48] rfl (by kernel_rfl) rfl rfl (fun _ _ h => AOp.indexSl rfl rfl (ltb rfl) rfl rfl el25 q93.1 q93.2 h) ?_
        obtain ⟨x94, q95, h1⟩ := idx_elim h1
        refine AD.op [49] rfl (by kernel_rfl) rfl rfl (fun _ _ h => AOp.load1 rfl rfl (ltb rfl) rfl agg3 rfl (atO q95.2) h) ?_
        refine AD.op [9] rfl (by kernel_rfl) rfl rfl (fun _ _ h => AOp.move rfl rfl (ltb rfl) rfl h) ?_
        refine AD.op [7] rfl (by kernel_rfl) rfl rfl (fun _ _ h => AOp.move rfl rfl (ltb rfl) rfl h) ?_
        obtain ⟨q96, h1⟩ := need_elim h1
        refine AD.op [51, 52] rfl (by kernel_rfl) rfl rfl (fun _ _ h => AOp.ishl' rfl rfl (ltb rfl) rfl rfl q96 h) ?_
        obtain ⟨q97, h1⟩ := need_elim h1
        refine AD.op [50, 53] rfl (by kernel_rfl) rfl rfl (fun _ _ h => AOp.iadd rfl rfl (ltb rfl) rfl rfl rfl q97.1 q97.2 h) ?_
        obtain ⟨q98, h1⟩ := need_elim h1
        refine AD.op [48] rfl (by kernel_rfl) rfl rfl (fun _ _ h => AOp.indexSl rfl rfl (ltb rfl) rfl rfl el25 q98.1 q98.2 h) ?_
        refine AD.done ?_
        obtain ⟨q99, h1⟩ := need_elim h1
        refine AO.op rfl (AOp.storeL (f := fun z => SV.d (keS0 z)) (l := (g12.2.2.set ((0 : Int)).toNat (x87 + (IntKind.i64.wrap ((bits .and .i64 (bits .xor .i64 ((bits .and .i64 g12.1 (3 : Int)) / 2 ^ 0) ((bits .and .i64 g12.1 (3 : Int)) / 2 ^ 1)) (1 : Int)) * 2 ^ (g12.2.1).toNat))))) (i := ((1 : Int)).toNat) (v := (x94 + (IntKind.i64.wrap (((bits .and .i64 g12.1 (3 : Int)) / 2 ^ 1) * 2 ^ (g12.2.1).toNat)))) rfl rfl rfl rfl size3 rfl rfl rfl q99 ?_)
        refine AO.nil ?_
        change AC _ _ _ _
        refine AC.region ?_
        refine AO.op rfl (AOp.move rfl rfl (ltb rfl) rfl ?_)
        obtain ⟨q100, h1⟩ := need_elim h1
        refine AO.op rfl (AOp.ishr (n := 2) rfl rfl (ltb rfl) rfl rfl (by decide) q100 rfl ?_)
        refine AO.op rfl (AOp.assign rfl rfl (ltb rfl) rfl ?_)
        refine AO.nil ?_
        change AC _ _ _ _
        refine AC.region ?_
        refine AO.op rfl (AOp.move rfl rfl (ltb rfl) rfl ?_)
        obtain ⟨q101, h1⟩ := need_elim h1
        refine AO.op rfl (AOp.iadd rfl rfl (ltb rfl) rfl rfl rfl q101.1 q101.2 ?_)
        refine AO.op rfl (AOp.assign rfl rfl (ltb rfl) rfl ?_)
        refine AO.nil ?_
        exact ⟨((g12.1 / 2 ^ 2), (g12.2.1 + (1 : Int)), ((g12.2.2.set ((0 : Int)).toNat (x87 + (IntKind.i64.wrap ((bits .and .i64 (bits .xor .i64 ((bits .and .i64 g12.1 (3 : Int)) / 2 ^ 0) ((bits .and .i64 g12.1 (3 : Int)) / 2 ^ 1)) (1 : Int)) * 2 ^ (g12.2.1).toNat)))).set ((1 : Int)).toNat (x94 + (IntKind.i64.wrap (((bits .and .i64 g12.1 (3 : Int)) / 2 ^ 1) * 2 ^ (g12.2.1).toNat))))), _, rfl, (LeL.refl _), rfl, (okU_mk rfl (okU_cons rfl (okU_cons rfl (okU_cons rfl (okU_cons rfl (okU_cons rfl (okU_cons rfl (okU_cons rfl (okU_cons rfl (okU_cons (okU_fixl (fun _ => rfl)) okU_nil)))))))))), h1⟩
      replace h1 := cF h1 q15
      refine AC.exit ?_
      obtain rfl := Option.some.inj h1
      exact ⟨g12.2.2, _, rfl, (LeL.refl _), rfl, (okU_mk rfl (okU_cons rfl (okU_cons rfl (okU_cons rfl (okU_cons rfl (okU_cons rfl (okU_cons rfl (okU_cons rfl (okU_cons rfl (okU_cons (okU_fixl (fun _ => rfl)) okU_nil)))))))))), aftL h0⟩
    intro g10 h0
    unfold p_HCoord_k1 at h0
    change AC _ _ _ _
    refine AC.seq ?_
    refine AC.region ?_
    refine AO.op rfl (AOp.move rfl rfl (ltb rfl) rfl ?_)
    refine AO.op rfl (AOp.assign rfl rfl (ltb rfl) rfl ?_)
    refine AO.nil ?_
    change AC _ _ _ _
    refine AC.ret ?_
    refine inlret (ob' := [.fix 25 [.d (.v (.slice none 0 0))], .fix 4 [.d (dbool false)], .dead, .fix 32 [.d (di .i64 a1)], .fix 32 [.d (di .i64 a1)], .fix 32 [.d (di .i64 a1)], .dead, .fix 32 [.d (di .i64 a1)], .fix 3 (List.map sS0 g10)]) (e' := [(6, .ptr 0 0), (7, .ptr 1 0)]) (r := .sl 8 1 0 (((2 : Int)).toNat) (((2 : Int)).toNat)) rfl rfl rfl ?_
    change AO _ _ _ _ _
    obtain ⟨q11, h0⟩ := need_elim h0
    refine AO.freezeF (ds := (List.map keS0 g10)) 27 8 rfl rfl rfl (by rw [List.map_map]; rfl) (lenq q11 (len1 _ _)) (Nat.le_refl _) ?_
    refine AO.op rfl (AOp.store rfl rfl rfl rfl size25 rfl rfl rfl (leb rfl) ?_)
    refine AO.op rfl (AOp.store rfl rfl rfl rfl size4 rfl rfl rfl (leb rfl) ?_)
    refine AO.nil ?_
    change AC _ _ _ _
    refine AC.ret ?_
    change RetQ _ _ _ .ret _
    obtain rfl := Option.some.inj h0
    refine retq rfl rfl
  exact absurd (hp0.symm.trans q1) (by decide)

set_option maxRecDepth 100000 in
set_option maxHeartbeats 1000000 in
/-- pub-orthodrome/impl.HCoord -/
theorem w_HCoord_c1 (F : Nat) (a0 : Int) (a1 : Int) (a2 : Int) (r0 : ((List Int) × Bool)) (h0 : p_HCoord F a0 a1 a2 = some r0) (hp0 : (decide (a0 = (2 : Int))) = false) (hp1 : (decide (a0 = (3 : Int))) = true) : FnD Tryd.prog 9 [di .i64 a0, di .i64 a1, di .i64 a2] (fun r => r = .tu [eS0 r0.1, dbool r0.2]) := by
  refine FnD.wrap (g := 19) (m := 2) (fun vs w h => idle19 vs w h) (by kernel_rfl) Tryd.func9 rfl Tryd.ntmps9 rfl (leb rfl) fun W ok => ?_
  unfold p_HCoord at h0
  refine AW.seq ?_
  refine AC.region ?_
  refine AO.op rfl (AOp.alloc rfl rfl (ltb rfl) zero25 rfl ?_)
  refine AO.op rfl (AOp.alloc rfl rfl (ltb rfl) zero4 rfl ?_)
  refine AO.nil ?_
  refine ⟨rfl, ?_⟩
  refine AW.defer (caps := [.tmp 6, .tmp 7]) rfl rfl rfl (ltb rfl) rfl rfl rfl rfl (by kernel_rfl) rfl fun df => ?_
  refine AC.seq ?_
  refine AC.seq ?_
  refine AC.region ?_
  refine AO.op rfl (AOp.move rfl rfl (ltb rfl) rfl ?_)
  refine AO.nil ?_
  change AC _ _ _ _
  refine AC.block ?_
  refine AC.seq ?_
  refine AC.region ?_
  refine AO.op rfl (AOp.ieql rfl rfl (ltb rfl) rfl rfl ?_)
  refine AO.op rfl (AOp.assign rfl rfl (ltb rfl) rfl ?_)
  refine AO.nil ?_
  change AC _ _ _ _
  refine AC.cond rfl (fun q1 => ?_) (fun q1 => ?_)
  · exact absurd (hp0.symm.trans q1) (by decide)
  replace h0 := cF h0 q1
  refine AC.seq ?_
  refine AC.region ?_
  refine AO.op rfl (AOp.ieql rfl rfl (ltb rfl) rfl rfl ?_)
  refine AO.op rfl (AOp.assign rfl rfl (ltb rfl) rfl ?_)
  refine AO.nil ?_
  change AC _ _ _ _
  refine AC.cond rfl (fun q102 => ?_) (fun q102 => ?_)
  · replace h0 := cT h0 q102
    refine AC.seq ?_
    refine AC.region ?_
    refine AO.op rfl (AOp.move rfl rfl (ltb rfl) rfl ?_)
    refine AO.op rfl (AOp.inl [2, 6, 7] (by kernel_rfl) Tryd.func12 rfl Tryd.ntmps12 rfl rfl (ltb rfl) rfl (leb rfl) rfl ?_)
    intro fr103
    refine AC.seq ?_
    refine AC.region ?_
    refine AO.op rfl (AOp.alloc rfl rfl (ltb rfl) zero38 rfl ?_)
    refine AO.op rfl (AOp.assign rfl rfl (ltb rfl) rfl ?_)
    refine AO.nil ?_
    change AC _ _ _ _
    refine AC.seq ?_
    refine AC.region ?_
    refine AO.op rfl (AOp.move rfl rfl (ltb rfl) rfl ?_)
    refine AO.op rfl (AOp.build rfl rfl (ltb rfl) zero38 rfl places38 rfl rfl ?_)
    refine AO.op rfl (AOp.alloc rfl rfl (ltb rfl) zero38 rfl ?_)
    refine AO.op rfl (AOp.store rfl rfl rfl rfl size38 rfl rfl rfl (leb rfl) ?_)
    refine AO.nil ?_
    change AC _ _ _ _
    refine AC.seq ?_
    refine AC.seq ?_
    refine AC.region ?_
    refine AO.op rfl (AOp.move rfl rfl (ltb rfl) rfl ?_)
    refine AO.op rfl (AOp.ilss rfl rfl (ltb rfl) rfl rfl ?_)
    refine AO.nil ?_
    change AC _ _ _ _
    refine AC.cond rfl (fun q104 => ?_) (fun q104 => ?_)
    · replace h0 := cT h0 q104
      refine AC.seq ?_
      refine AC.drawS [0, 1, 2] [2] [3] (fun L => [.fix 25 [.d (.v (.slice none 0 0))], .fix 4 [.d (dbool false)], .frame fr103 [(2, .d (di .i64 a2)), (6, .ptr 0 0), (7, .ptr 1 0)], bif L 2 then .fix 38 [.d (di .i64 a1)] else .fix 38 [.d (di .i64 (0 : Int))], .fix 38 [.d (di .i64 a1)]]) [(2, (fun _ => true))] mixed (by kernel_rfl) (fun L L' h => by simp only [h 2 (by decide)]) rfl ?_
      refine AS.op [4] [] [2] [] rfl rfl rfl (by kernel_rfl) (by kernel_rfl) rfl rfl (fun _ _ _ h => AOp.loadN rfl rfl (ltb rfl) rfl agg38 size38 rfl (leb rfl) rfl h) (by kernel_rfl) ?_
      refine AS.op [] [] [] [2] rfl rfl rfl (by kernel_rfl) (by kernel_rfl) rfl rfl (fun _ _ _ h => AOp.loadE rfl rfl (ltb rfl) rfl agg34 (by simp [GlobsE]) h) (by kernel_rfl) ?_
      refine AS.mid0 [2, 9] [] [2] [] rfl rfl rfl rfl (by kernel_rfl) (by kernel_rfl) rfl rfl (fun _ _ _ h => AOp.store rfl rfl rfl rfl size38 rfl rfl rfl (leb rfl) (AO.dropT h)) (by kernel_rfl) rfl ?_
      refine AS.done ?_
      refine AO.objs (obs' := [.fix 25 [.d (.v (.slice none 0 0))], .fix 4 [.d (dbool false)], .frame fr103 [(2, .d (di .i64 a2)), (6, .ptr 0 0), (7, .ptr 1 0)], .fix 38 [.d (di .i64 a1)], .fix 38 [.d (di .i64 a1)]]) rfl ?_
      refine AO.op rfl (AOp.assign rfl rfl (ltb rfl) rfl ?_)
      refine AO.nil ?_
      change AC _ _ _ _
      refine AC.ret ?_
      refine inlret (ob' := [.fix 25 [.d (.v (.slice none 0 0))], .fix 4 [.d (dbool false)], .dead, .fix 38 [.d (di .i64 a1)], .fix 38 [.d (di .i64 a1)]]) (e' := [(2, .d (di .i64 a2)), (6, .ptr 0 0), (7, .ptr 1 0)]) (r := .tu [.ag [.d (di .i64 a1)], .ifc (errT W 0) (.any)]) rfl rfl rfl ?_
      change AO _ _ _ _ _
      refine AO.op rfl (AOp.move rfl rfl (ltb rfl) rfl ?_)
      first | refine AO.op rfl (AOp.extractD rfl rfl (ltb rfl) rfl rfl ?_) | refine AO.op rfl (AOp.extract rfl rfl (ltb rfl) rfl rfl ?_)
      first | refine AO.op rfl (AOp.extractD rfl rfl (ltb rfl) rfl rfl ?_) | refine AO.op rfl (AOp.extract rfl rfl (ltb rfl) rfl rfl ?_)
      refine AO.op rfl (AOp.alloc rfl rfl (ltb rfl) zero38 rfl ?_)
      refine AO.op rfl (AOp.store rfl rfl rfl rfl size38 rfl rfl rfl (leb rfl) ?_)
      refine AO.op rfl (AOp.assign rfl rfl (ltb rfl) rfl ?_)
      refine AO.nil ?_
      change AC _ _ _ _
      refine AC.seq ?_
      refine AC.seq ?_
      refine AC.region ?_
      refine AO.op rfl (AOp.move rfl rfl (ltb rfl) rfl ?_)
      refine AO.op rfl (AOp.ifcNeq rfl rfl (ltb rfl) rfl rfl imeth34 ?_)
      refine AO.nil ?_
      change AC _ _ _ _
      refine AC.condT rfl rfl ?_
      refine AC.seq ?_
      refine AC.region ?_
      refine AO.op rfl (AOp.store rfl rfl rfl rfl size25 rfl rfl rfl (leb rfl) ?_)
      refine AO.op rfl (AOp.store rfl rfl rfl rfl size4 rfl rfl rfl (leb rfl) ?_)
      refine AO.nil ?_
      change AC _ _ _ _
      refine AC.subO 0 rfl (.cons (SVLe.nil 1) .nil) ?_
      refine AC.ret ?_
      change RetQ _ _ _ .ret _
      obtain rfl := Option.some.inj h0
      refine retq rfl rfl
    replace h0 := cF h0 q104
    refine AC.skip ?_
    change AC _ _ _ _
    refine AC.seq ?_
    refine AC.seq ?_
    refine AC.region ?_
    refine AO.op rfl (AOp.move rfl rfl (ltb rfl) rfl ?_)
    obtain ⟨q105, h0⟩ := need_elim h0
    refine AO.op rfl (AOp.imul rfl rfl (ltb rfl) rfl rfl rfl q105.1 q105.2 ?_)
    refine AO.op rfl (AOp.igeq rfl rfl (ltb rfl) rfl rfl ?_)
    refine AO.nil ?_
    change AC _ _ _ _
    refine AC.cond rfl (fun q106 => ?_) (fun q106 => ?_)
    · replace h0 := cT h0 q106
      refine AC.seq ?_
      refine AC.drawS [0, 1, 2] [2] [3] (fun L => [.fix 25 [.d (.v (.slice none 0 0))], .fix 4 [.d (dbool false)], .frame fr103 [(2, .d (di .i64 a2)), (6, .ptr 0 0), (7, .ptr 1 0)], bif L 2 then .fix 38 [.d (di .i64 a1)] else .fix 38 [.d (di .i64 (0 : Int))], .fix 38 [.d (di .i64 a1)]]) [(2, (fun _ => true))] mixed (by kernel_rfl) (fun L L' h => by simp only [h 2 (by decide)]) rfl ?_
      refine AS.op [4] [] [2] [] rfl rfl rfl (by kernel_rfl) (by kernel_rfl) rfl rfl (fun _ _ _ h => AOp.loadN rfl rfl (ltb rfl) rfl agg38 size38 rfl (leb rfl) rfl h) (by kernel_rfl) ?_
      refine AS.op [] [] [] [2] rfl rfl rfl (by kernel_rfl) (by kernel_rfl) rfl rfl (fun _ _ _ h => AOp.loadE rfl rfl (ltb rfl) rfl agg34 (by simp [GlobsE]) h) (by kernel_rfl) ?_
      refine AS.mid0 [2, 14] [] [2] [] rfl rfl rfl rfl (by kernel_rfl) (by kernel_rfl) rfl rfl (fun _ _ _ h => AOp.store rfl rfl rfl rfl size38 rfl rfl rfl (leb rfl) (AO.dropT h)) (by kernel_rfl) rfl ?_
      refine AS.done ?_
      refine AO.objs (obs' := [.fix 25 [.d (.v (.slice none 0 0))], .fix 4 [.d (dbool false)], .frame fr103 [(2, .d (di .i64 a2)), (6, .ptr 0 0), (7, .ptr 1 0)], .fix 38 [.d (di .i64 a1)], .fix 38 [.d (di .i64 a1)]]) rfl ?_
      refine AO.op rfl (AOp.assign rfl rfl (ltb rfl) rfl ?_)
      refine AO.nil ?_
      change AC _ _ _ _
      refine AC.ret ?_
      refine inlret (ob' := [.fix 25 [.d (.v (.slice none 0 0))], .fix 4 [.d (dbool false)], .dead, .fix 38 [.d (di .i64 a1)], .fix 38 [.d (di .i64 a1)]]) (e' := [(2, .d (di .i64 a2)), (6, .ptr 0 0), (7, .ptr 1 0)]) (r := .tu [.ag [.d (di .i64 a1)], .ifc (errT W 1) (.any)]) rfl rfl rfl ?_
      change AO _ _ _ _ _
      refine AO.op rfl (AOp.move rfl rfl (ltb rfl) rfl ?_)
      first | refine AO.op rfl (AOp.extractD rfl rfl (ltb rfl) rfl rfl ?_) | refine AO.op rfl (AOp.extract rfl rfl (ltb rfl) rfl rfl ?_)
      first | refine AO.op rfl (AOp.extractD rfl rfl (ltb rfl) rfl rfl ?_) | refine AO.op rfl (AOp.extract rfl rfl (ltb rfl) rfl rfl ?_)
      refine AO.op rfl (AOp.alloc rfl rfl (ltb rfl) zero38 rfl ?_)
      refine AO.op rfl (AOp.store rfl rfl rfl rfl size38 rfl rfl rfl (leb rfl) ?_)
      refine AO.op rfl (AOp.assign rfl rfl (ltb rfl) rfl ?_)
      refine AO.nil ?_
      change AC _ _ _ _
      refine AC.seq ?_
      refine AC.seq ?_
      refine AC.region ?_
      refine AO.op rfl (AOp.move rfl rfl (ltb rfl) rfl ?_)
      refine AO.op rfl (AOp.ifcNeq rfl rfl (ltb rfl) rfl rfl imeth34 ?_)
      refine AO.nil ?_
      change AC _ _ _ _
      refine AC.condT rfl rfl ?_
      refine AC.seq ?_
      refine AC.region ?_
      refine AO.op rfl (AOp.store rfl rfl rfl rfl size25 rfl rfl rfl (leb rfl) ?_)
      refine AO.op rfl (AOp.store rfl rfl rfl rfl size4 rfl rfl rfl (leb rfl) ?_)
      refine AO.nil ?_
      change AC _ _ _ _
      refine AC.subO 0 rfl (.cons (SVLe.nil 1) .nil) ?_
      refine AC.ret ?_
      change RetQ _ _ _ .ret _
      obtain rfl := Option.some.inj h0
      refine retq rfl rfl
    replace h0 := cF h0 q106
    refine AC.skip ?_
    change AC _ _ _ _
    refine AC.seq ?_
    refine AC.region ?_
    refine AO.op rfl (AOp.loadN rfl rfl (ltb rfl) rfl agg38 size38 rfl (leb rfl) rfl ?_)
    refine AO.op rfl (AOp.store rfl rfl rfl rfl size38 rfl rfl rfl (leb rfl) ?_)
    refine AO.op rfl (AOp.assign rfl rfl (ltb rfl) rfl ?_)
    refine AO.nil ?_
    change AC _ _ _ _
    refine AC.ret ?_
    refine inlret (ob' := [.fix 25 [.d (.v (.slice none 0 0))], .fix 4 [.d (dbool false)], .dead, .fix 38 [.d (di .i64 a1)], .fix 38 [.d (di .i64 a1)]]) (e' := [(2, .d (di .i64 a2)), (6, .ptr 0 0), (7, .ptr 1 0)]) (r := .tu [.ag [.d (di .i64 a1)], .d (.v (.nilIface))]) rfl rfl rfl ?_
    change AO _ _ _ _ _
    refine AO.op rfl (AOp.move rfl rfl (ltb rfl) rfl ?_)
    first | refine AO.op rfl (AOp.extractD rfl rfl (ltb rfl) rfl rfl ?_) | refine AO.op rfl (AOp.extract rfl rfl (ltb rfl) rfl rfl ?_)
    first | refine AO.op rfl (AOp.extractD rfl rfl (ltb rfl) rfl rfl ?_) | refine AO.op rfl (AOp.extract rfl rfl (ltb rfl) rfl rfl ?_)
    refine AO.op rfl (AOp.alloc rfl rfl (ltb rfl) zero38 rfl ?_)
    refine AO.op rfl (AOp.store rfl rfl rfl rfl size38 rfl rfl rfl (leb rfl) ?_)
    refine AO.op rfl (AOp.assign rfl rfl (ltb rfl) rfl ?_)
    refine AO.nil ?_
    change AC _ _ _ _
    refine AC.seq ?_
    refine AC.seq ?_
    refine AC.region ?_
    refine AO.op rfl (AOp.move rfl rfl (ltb rfl) rfl ?_)
    refine AO.op rfl (AOp.nilNeq rfl rfl (ltb rfl) rfl imeth34 ?_)
    refine AO.nil ?_
    change AC _ _ _ _
    refine AC.condF rfl rfl ?_
    refine AC.skip ?_
    change AC _ _ _ _
    refine AC.seq ?_
    refine AC.region ?_
    refine AO.op rfl (AOp.loadN rfl rfl (ltb rfl) rfl agg38 size38 rfl (leb rfl) rfl ?_)
    refine AO.op rfl (AOp.move rfl rfl (ltb rfl) rfl ?_)
    refine AO.op rfl (AOp.inl [6, 7] (by kernel_rfl) Tryd.func21 rfl Tryd.ntmps21 rfl rfl (ltb rfl) rfl (leb rfl) rfl ?_)
    intro fr107
    refine AC.seq ?_
    refine AC.region ?_
    refine AO.op rfl (AOp.box rfl rfl (ltb rfl) rfl rfl ?_)
    refine AO.op rfl (AOp.assign rfl rfl (ltb rfl) rfl ?_)
    refine AO.nil ?_
    change AC _ _ _ _
    refine AC.seq ?_
    refine AC.seq ?_
    refine AC.region ?_
    refine AO.op rfl (AOp.move rfl rfl (ltb rfl) rfl ?_)
    refine AO.op rfl (AOp.nilEql (f := eS0) (x0 := none) Tryd.underlying25 rfl rfl (ltb rfl) rfl (neO_cons (fun _ _ => ⟨_, _, _, rfl⟩) rfl) ?_)
    refine AO.nil ?_
    change AC _ _ _ _
    refine AC.condT rfl rfl ?_
    refine AC.region ?_
    obtain ⟨q108, h0⟩ := need_elim h0
    refine AO.op rfl (AOp.makeL (f := fun z => SV.d (keS0 z)) (z0 := (0 : Int)) rfl rfl (ltb rfl) rfl rfl el25 info3 rfl rfl (by decide) q108.1 q108.2 rfl ?_)
    refine AO.op rfl (AOp.assign rfl rfl (ltb rfl) rfl ?_)
    refine AO.nil ?_
    change AC _ _ _ _
    refine AC.seq ?_
    refine AC.seq ?_
    refine AC.region ?_
    refine AO.op rfl (AOp.assign rfl rfl (ltb rfl) rfl ?_)
    refine AO.nil ?_
    change AC _ _ _ _
    obtain ⟨o109, l110, h0⟩ := bind_elim h0
    refine AC.joinE (V := (List Int)) [1] [] 9 (fun g111 => []) (fun g111 => [.fix 25 [.d (.v (.slice none 0 0))], .fix 4 [.d (dbool false)], .dead, .fix 38 [.d (di .i64 a1)], .fix 38 [.d (di .i64 a1)], .fix 38 [.d (di .i64 a1)], .frame fr107 [(6, .ptr 0 0), (7, .ptr 1 0)], .fix 38 [.d (di .i64 a1)], .fix 3 (List.map sS0 g111)]) (fun g111 => p_HCoord_k3 g111 = some r0) rfl ?_ ?_
    · refine AC.block ?_
      refine AC.loopP (V := (Int × Int × (List Int))) (p_HCoord_l4 a1) o109 [1, 3] [2, 7] 9 (fun g113 => [(2, .d (di .i64 g113.1)), (7, .d (di .i64 g113.2.1))]) (fun g113 => [.fix 25 [.d (.v (.slice none 0 0))], .fix 4 [.d (dbool false)], .dead, .fix 38 [.d (di .i64 a1)], .fix 38 [.d (di .i64 a1)], .fix 38 [.d (di .i64 a1)], .frame fr107 [(6, .ptr 0 0), (7, .ptr 1 0)], .fix 38 [.d (di .i64 a1)], .fix 3 (List.map sS0 g113.2.2)]) F (a2, (0 : Int), (List.replicate ((3 : Int)).toNat (0 : Int))) l110 rfl rfl (LeL.refl _) rfl (okU_mk rfl (okU_cons rfl (okU_cons rfl (okU_cons rfl (okU_cons rfl (okU_cons rfl (okU_cons rfl (okU_cons rfl (okU_cons rfl (okU_cons (okU_fixl (fun _ => rfl)) okU_nil)))))))))) ?_
      intro n115 g113 h1
      unfold p_HCoord_l4 at h1
      refine AC.seq ?_
      refine AC.seq ?_
      refine AC.region ?_
      refine AO.op rfl (AOp.move rfl rfl (ltb rfl) rfl ?_)
      refine AO.op rfl (AOp.fieldAddr rfl rfl (ltb rfl) rfl fo38_0 ?_)
      refine AO.op rfl (AOp.load1 rfl rfl (ltb rfl) rfl agg3 rfl rfl ?_)
      refine AO.op rfl (AOp.ilss rfl rfl (ltb rfl) rfl rfl ?_)
      refine AO.nil ?_
      change AC _ _ _ _
      refine AC.cond rfl (fun q116 => ?_) (fun q116 => ?_)
      · replace h1 := cT h1 q116
        refine AC.skip ?_
        change AC _ _ _ _
        refine AC.seq ?_
        refine AC.block ?_
        refine AC.seq ?_
        refine AC.region ?_
        refine AO.op rfl (AOp.move rfl rfl (ltb rfl) rfl ?_)
        refine AO.op rfl (AOp.ibits (by simp) rfl rfl (ltb rfl) rfl rfl rfl ?_)
        refine AO.op rfl (AOp.assign rfl rfl (ltb rfl) rfl ?_)
        refine AO.nil ?_
        change AC _ _ _ _
        refine AC.seq ?_
        refine AC.draw 5 mixed (by kernel_rfl) ?_
        refine AD.op [3] rfl (by kernel_rfl) rfl rfl (fun _ _ h => AOp.loadN rfl rfl (ltb rfl) rfl agg38 size38 rfl (leb rfl) rfl h) ?_
        refine AD.op [7] rfl (by kernel_rfl) rfl rfl (fun _ _ h => AOp.move rfl rfl (ltb rfl) rfl h) ?_
        refine AD.op [1] rfl (by kernel_rfl) rfl rfl (fun _ _ h => AOp.move rfl rfl (ltb rfl) rfl h) ?_
        refine AD.op [29] rfl (by kernel_rfl) rfl rfl (fun _ _ h => AOp.sliceFull rfl rfl (ltb rfl) rfl el25 h) ?_
        refine AD.op [8] rfl (by kernel_rfl) rfl rfl (fun _ _ h => AOp.move rfl rfl (ltb rfl) rfl h) ?_
        refine AD.done ?_
        refine AO.op rfl (AOp.inl [1, 2, 3, 7, 8] (by kernel_rfl) Tryd.func24 rfl Tryd.ntmps24 rfl rfl (ltb rfl) rfl (leb rfl) rfl ?_)
        intro fr117
        refine AC.seq ?_
        refine AC.region ?_
        refine AO.op rfl (AOp.box rfl rfl (ltb rfl) rfl rfl ?_)
        refine AO.nil ?_
        change AC _ _ _ _
        refine AC.seq ?_
        refine AC.region ?_
        refine AO.op rfl (AOp.move rfl rfl (ltb rfl) rfl ?_)
        refine AO.nil ?_
        change AC _ _ _ _
        refine AC.block ?_
        refine AC.seq ?_
        refine AC.region ?_
        refine AO.op rfl (AOp.ieql rfl rfl (ltb rfl) rfl rfl ?_)
        refine AO.op rfl (AOp.assign rfl rfl (ltb rfl) rfl ?_)
        refine AO.nil ?_
        change AC _ _ _ _
        refine AC.cond rfl (fun q118 => ?_) (fun q118 => ?_)
        · replace h1 := cT h1 q118
          refine AC.region ?_
          refine AO.op rfl (AOp.move rfl rfl (ltb rfl) rfl ?_)
          refine AO.op rfl (AOp.move rfl rfl (ltb rfl) rfl ?_)
          refine AO.op rfl (AOp.move rfl rfl (ltb rfl) rfl ?_)
          refine AO.op rfl (AOp.build rfl rfl (ltb rfl) zero50 rfl places50 rfl rfl ?_)
          refine AO.op rfl (AOp.build rfl rfl (ltb rfl) zero50 rfl places50 rfl rfl ?_)
          refine AO.op rfl (AOp.inl [] (by kernel_rfl) Tryd.func28 rfl Tryd.ntmps28 rfl rfl (ltb rfl) rfl (leb rfl) rfl ?_)
          intro fr119
          refine AC.seq ?_
          refine AC.region ?_
          refine AO.op rfl (AOp.box rfl rfl (ltb rfl) rfl rfl ?_)
          refine AO.op rfl (AOp.box rfl rfl (ltb rfl) rfl rfl ?_)
          refine AO.nil ?_
          change AC _ _ _ _
          refine AC.seq ?_
          refine AC.region ?_
          refine AO.op rfl (AOp.move rfl rfl (ltb rfl) rfl ?_)
          refine AO.nil ?_
          change AC _ _ _ _
          refine AC.condT rfl rfl ?_
          refine AC.seq ?_
          refine AC.region ?_
          refine AO.op rfl (AOp.loadN rfl rfl (ltb rfl) rfl agg50 size50 rfl (leb rfl) rfl ?_)
          refine AO.op rfl (AOp.makeIfc rfl rfl (ltb rfl) rfl conc50 ?_)
          refine AO.op rfl (AOp.move rfl rfl (ltb rfl) rfl ?_)
          refine AO.op rfl (AOp.move rfl rfl (ltb rfl) rfl ?_)
          refine AO.op rfl (AOp.inlE [1, 2, 8] (EntersS.meth (by kernel_rfl) rfl rfl rfl meth50_pub_orthodrome_pub_gonum_spatial_curve_do rfl rfl) Tryd.func26 rfl Tryd.ntmps26 rfl (ltb rfl) (leb rfl) rfl ?_)
          intro fr120
          refine AC.seq ?_
          refine AC.region ?_
          refine AO.op rfl (AOp.box rfl rfl (ltb rfl) rfl rfl ?_)
          refine AO.nil ?_
          change AC _ _ _ _
          obtain ⟨q121, h1⟩ := need_elim h1
          obtain ⟨x122, q123, h1⟩ := idx_elim h1
          obtain ⟨q124, h1⟩ := need_elim h1
          obtain ⟨x125, q126, h1⟩ := idx_elim h1
          obtain ⟨q127, h1⟩ := need_elim h1
          obtain ⟨q128, h1⟩ := need_elim h1
          refine AC.drawS [0, 1, 2, 3, 4, 5, 6, 7, 8, 9, 10, 11, 12, 13, 14, 15, 16, 17] [17] [18, 19] (fun L => [.fix 25 [.d (.v (.slice none 0 0))], .fix 4 [.d (dbool false)], .dead, .fix 38 [.d (di .i64 a1)], .fix 38 [.d (di .i64 a1)], .fix 38 [.d (di .i64 a1)], .frame fr107 [(6, .ptr 0 0), (7, .ptr 1 0)], .fix 38 [.d (di .i64 a1)], bif L 17 then .fix 3 (List.map sS0 (g113.2.2.set ((0 : Int)).toNat x122)) else .fix 3 (List.map sS0 g113.2.2), .frame fr117 [(1, .sl 8 1 0 (((3 : Int)).toNat) (((3 : Int)).toNat)), (2, .d (di .i64 g113.1)), (3, .ptr 7 0), (7, .d (di .i64 g113.2.1)), (8, .d (di .i64 (bits .and .i64 g113.1 (7 : Int))))], .fix 38 [.d (di .i64 a1)], .frame fr119 [], .fix 50 [.d (di .i64 (1 : Int)), .d (di .i64 (2 : Int))], .fix 50 [.d (di .i64 (0 : Int)), .d (di .i64 (2 : Int))], .frame fr120 [(1, .d (di .i64 g113.2.1)), (2, .sl 8 1 0 (((3 : Int)).toNat) (((3 : Int)).toNat)), (8, .ptr 12 0)], .fix 50 [.d (di .i64 (0 : Int)), .d (di .i64 (2 : Int))]]) [(17, (fun _ => true))] mixed (by kernel_rfl) (fun L L' h => by simp only [h 17 (by decide)]) rfl ?_
          refine AS.op [2] [] [17] [] rfl rfl rfl (by kernel_rfl) (by kernel_rfl) rfl rfl (fun _ _ _ h => AOp.move rfl rfl (ltb rfl) rfl h) (by kernel_rfl) ?_
          refine AS.op [3] [] [17] [] rfl rfl rfl (by kernel_rfl) (by kernel_rfl) rfl rfl (fun _ _ _ h => AOp.fieldAddr rfl rfl (ltb rfl) rfl fo50_0 h) (by kernel_rfl) ?_
          refine AS.op [7] [] [17] [] rfl rfl rfl (by kernel_rfl) (by kernel_rfl) rfl rfl (fun _ _ _ h => AOp.load1 rfl rfl (ltb rfl) rfl agg3 rfl rfl h) (by kernel_rfl) ?_
          refine AS.op [2] [] [] [17] rfl rfl rfl (by kernel_rfl) (by kernel_rfl) rfl rfl (fun _ _ _ h => AOp.move rfl rfl (ltb rfl) rfl h) (by kernel_rfl) ?_
          refine AS.op [3] [] [] [17] rfl rfl rfl (by kernel_rfl) (by kernel_rfl) rfl rfl (fun _ _ _ h => AOp.fieldAddr rfl rfl (ltb rfl) rfl fo50_1 h) (by kernel_rfl) ?_
          refine AS.op [10] [] [] [17] rfl rfl rfl (by kernel_rfl) (by kernel_rfl) rfl rfl (fun _ _ _ h => AOp.load1 rfl rfl (ltb rfl) rfl agg3 rfl rfl h) (by kernel_rfl) ?_
          refine AS.op [2] [] [17] [] rfl rfl rfl (by kernel_rfl) (by kernel_rfl) rfl rfl (fun _ _ _ h => AOp.move rfl rfl (ltb rfl) rfl h) (by kernel_rfl) ?_
          refine AS.op [3] [] [17] [] rfl rfl rfl (by kernel_rfl) (by kernel_rfl) rfl rfl (fun _ _ _ h => AOp.fieldAddr rfl rfl (ltb rfl) rfl fo50_1 h) (by kernel_rfl) ?_
          refine AS.op [13] [] [17] [] rfl rfl rfl (by kernel_rfl) (by kernel_rfl) rfl rfl (fun _ _ _ h => AOp.load1 rfl rfl (ltb rfl) rfl agg3 rfl rfl h) (by kernel_rfl) ?_
          refine AS.op [12, 14] [] [17] [] rfl rfl rfl (by kernel_rfl) (by kernel_rfl) rfl rfl (fun _ _ _ h => AOp.indexSl rfl rfl (ltb rfl) rfl rfl el25 q121.1 q121.2 h) (by kernel_rfl) ?_
          refine AS.op [15] [] [17] [] rfl rfl rfl (by kernel_rfl) (by kernel_rfl) rfl rfl (fun _ _ _ h => AOp.load1 rfl rfl (ltb rfl) rfl agg3 rfl (atO q123.2) h) (by kernel_rfl) ?_
          refine AS.op [2] [] [17] [] rfl rfl rfl (by kernel_rfl) (by kernel_rfl) rfl rfl (fun _ _ _ h => AOp.move rfl rfl (ltb rfl) rfl h) (by kernel_rfl) ?_
          refine AS.op [3] [] [17] [] rfl rfl rfl (by kernel_rfl) (by kernel_rfl) rfl rfl (fun _ _ _ h => AOp.fieldAddr rfl rfl (ltb rfl) rfl fo50_0 h) (by kernel_rfl) ?_
          refine AS.op [18] [] [17] [] rfl rfl rfl (by kernel_rfl) (by kernel_rfl) rfl rfl (fun _ _ _ h => AOp.load1 rfl rfl (ltb rfl) rfl agg3 rfl rfl h) (by kernel_rfl) ?_
          refine AS.op [17, 19] [] [17] [] rfl rfl rfl (by kernel_rfl) (by kernel_rfl) rfl rfl (fun _ _ _ h => AOp.indexSl rfl rfl (ltb rfl) rfl rfl el25 q124.1 q124.2 h) (by kernel_rfl) ?_
          refine AS.op [20] [] [17] [] rfl rfl rfl (by kernel_rfl) (by kernel_rfl) rfl rfl (fun _ _ _ h => AOp.load1 rfl rfl (ltb rfl) rfl agg3 rfl (atO q126.2) h) (by kernel_rfl) ?_
          refine AS.op [6, 8] [] [17] [] rfl rfl rfl (by kernel_rfl) (by kernel_rfl) rfl rfl (fun _ _ _ h => AOp.indexSl rfl rfl (ltb rfl) rfl rfl el25 q127.1 q127.2 h) (by kernel_rfl) ?_
          refine AS.mid0 [16, 22] [] [17] [] rfl rfl rfl rfl (by kernel_rfl) (by kernel_rfl) rfl rfl (fun _ _ _ h => AOp.storeL (f := fun z => SV.d (keS0 z)) (l := g113.2.2) (i := ((0 : Int)).toNat) (v := x122) rfl rfl rfl rfl size3 rfl rfl rfl q128 (AO.dropT h)) (by kernel_rfl) rfl ?_
          refine AS.done ?_
          refine AO.objs (obs' := [.fix 25 [.d (.v (.slice none 0 0))], .fix 4 [.d (dbool false)], .dead, .fix 38 [.d (di .i64 a1)], .fix 38 [.d (di .i64 a1)], .fix 38 [.d (di .i64 a1)], .frame fr107 [(6, .ptr 0 0), (7, .ptr 1 0)], .fix 38 [.d (di .i64 a1)], .fix 3 (List.map sS0 (g113.2.2.set ((0 : Int)).toNat x122)), .frame fr117 [(1, .sl 8 1 0 (((3 : Int)).toNat) (((3 : Int)).toNat)), (2, .d (di .i64 g113.1)), (3, .ptr 7 0), (7, .d (di .i64 g113.2.1)), (8, .d (di .i64 (bits .and .i64 g113.1 (7 : Int))))], .fix 38 [.d (di .i64 a1)], .frame fr119 [], .fix 50 [.d (di .i64 (1 : Int)), .d (di .i64 (2 : Int))], .fix 50 [.d (di .i64 (0 : Int)), .d (di .i64 (2 : Int))], .frame fr120 [(1, .d (di .i64 g113.2.1)), (2, .sl 8 1 0 (((3 : Int)).toNat) (((3 : Int)).toNat)), (8, .ptr 12 0)], .fix 50 [.d (di .i64 (0 : Int)), .d (di .i64 (2 : Int))]]) rfl ?_
          obtain ⟨q129, h1⟩ := need_elim h1
          refine AO.op rfl (AOp.indexSl rfl rfl (ltb rfl) rfl rfl el25 q129.1 q129.2 ?_)
          obtain ⟨q130, h1⟩ := need_elim h1
          refine AO.op rfl (AOp.storeL (f := fun z => SV.d (keS0 z)) (l := (g113.2.2.set ((0 : Int)).toNat x122)) (i := ((2 : Int)).toNat) (v := x125) rfl rfl rfl rfl size3 rfl rfl rfl q130 ?_)
          refine AO.nil ?_
          refine inlend (ob' := [.fix 25 [.d (.v (.slice none 0 0))], .fix 4 [.d (dbool false)], .dead, .fix 38 [.d (di .i64 a1)], .fix 38 [.d (di .i64 a1)], .fix 38 [.d (di .i64 a1)], .frame fr107 [(6, .ptr 0 0), (7, .ptr 1 0)], .fix 38 [.d (di .i64 a1)], .fix 3 (List.map sS0 ((g113.2.2.set ((0 : Int)).toNat x122).set ((2 : Int)).toNat x125)), .frame fr117 [(1, .sl 8 1 0 (((3 : Int)).toNat) (((3 : Int)).toNat)), (2, .d (di .i64 g113.1)), (3, .ptr 7 0), (7, .d (di .i64 g113.2.1)), (8, .d (di .i64 (bits .and .i64 g113.1 (7 : Int))))], .fix 38 [.d (di .i64 a1)], .frame fr119 [], .fix 50 [.d (di .i64 (1 : Int)), .d (di .i64 (2 : Int))], .fix 50 [.d (di .i64 (0 : Int)), .d (di .i64 (2 : Int))], .dead, .fix 50 [.d (di .i64 (0 : Int)), .d (di .i64 (2 : Int))]]) (e' := [(1, .d (di .i64 g113.2.1)), (2, .sl 8 1 0 (((3 : Int)).toNat) (((3 : Int)).toNat)), (8, .ptr 12 0)]) (r := .tu []) rfl rfl rfl ?_
          change AO _ _ _ _ _
          refine AO.nil ?_
          change AC _ _ _ _
          refine AC.region ?_
          refine AO.op rfl (AOp.loadN rfl rfl (ltb rfl) rfl agg50 size50 rfl (leb rfl) rfl ?_)
          refine AO.op rfl (AOp.makeIfc rfl rfl (ltb rfl) rfl conc50 ?_)
          refine AO.op rfl (AOp.move rfl rfl (ltb rfl) rfl ?_)
          refine AO.op rfl (AOp.move rfl rfl (ltb rfl) rfl ?_)
          refine AO.op rfl (AOp.inlE [] (EntersS.meth (by kernel_rfl) rfl rfl rfl meth50_pub_orthodrome_pub_gonum_spatial_curve_do rfl rfl) Tryd.func26 rfl Tryd.ntmps26 rfl (ltb rfl) (leb rfl) rfl ?_)
          intro fr131
          refine AC.seq ?_
          refine AC.region ?_
          refine AO.op rfl (AOp.box rfl rfl (ltb rfl) rfl rfl ?_)
          refine AO.nil ?_
          change AC _ _ _ _
          obtain ⟨q132, h1⟩ := need_elim h1
          obtain ⟨x133, q134, h1⟩ := idx_elim h1
          obtain ⟨q135, h1⟩ := need_elim h1
          obtain ⟨x136, q137, h1⟩ := idx_elim h1
          obtain ⟨q138, h1⟩ := need_elim h1
          obtain ⟨q139, h1⟩ := need_elim h1
          refine AC.drawS [0, 1, 2, 3, 4, 5, 6, 7, 8, 9, 10, 11, 12, 13, 14, 15, 16, 17] [17] [18, 19] (fun L => [.fix 25 [.d (.v (.slice none 0 0))], .fix 4 [.d (dbool false)], .dead, .fix 38 [.d (di .i64 a1)], .fix 38 [.d (di .i64 a1)], .fix 38 [.d (di .i64 a1)], .frame fr107 [(6, .ptr 0 0), (7, .ptr 1 0)], .fix 38 [.d (di .i64 a1)], bif L 17 then .fix 3 (List.map sS0 (((g113.2.2.set ((0 : Int)).toNat x122).set ((2 : Int)).toNat x125).set ((1 : Int)).toNat x133)) else .fix 3 (List.map sS0 ((g113.2.2.set ((0 : Int)).toNat x122).set ((2 : Int)).toNat x125)), .frame fr117 [(1, .sl 8 1 0 (((3 : Int)).toNat) (((3 : Int)).toNat)), (2, .d (di .i64 g113.1)), (3, .ptr 7 0), (7, .d (di .i64 g113.2.1)), (8, .d (di .i64 (bits .and .i64 g113.1 (7 : Int))))], .fix 38 [.d (di .i64 a1)], .frame fr119 [], .fix 50 [.d (di .i64 (1 : Int)), .d (di .i64 (2 : Int))], .fix 50 [.d (di .i64 (0 : Int)), .d (di .i64 (2 : Int))], .dead, .fix 50 [.d (di .i64 (0 : Int)), .d (di .i64 (2 : Int))], .frame fr131 [], .fix 50 [.d (di .i64 (1 : Int)), .d (di .i64 (2 : Int))]]) [(17, (fun _ => true))] mixed (by kernel_rfl) (fun L L' h => by simp only [h 17 (by decide)]) rfl ?_
          refine AS.op [2] [] [17] [] rfl rfl rfl (by kernel_rfl) (by kernel_rfl) rfl rfl (fun _ _ _ h => AOp.move rfl rfl (ltb rfl) rfl h) (by kernel_rfl) ?_
          refine AS.op [3] [] [17] [] rfl rfl rfl (by kernel_rfl) (by kernel_rfl) rfl rfl (fun _ _ _ h => AOp.fieldAddr rfl rfl (ltb rfl) rfl fo50_0 h) (by kernel_rfl) ?_
          refine AS.op [7] [] [17] [] rfl rfl rfl (by kernel_rfl) (by kernel_rfl) rfl rfl (fun _ _ _ h => AOp.load1 rfl rfl (ltb rfl) rfl agg3 rfl rfl h) (by kernel_rfl) ?_
          refine AS.op [2] [] [] [17] rfl rfl rfl (by kernel_rfl) (by kernel_rfl) rfl rfl (fun _ _ _ h => AOp.move rfl rfl (ltb rfl) rfl h) (by kernel_rfl) ?_
          refine AS.op [3] [] [] [17] rfl rfl rfl (by kernel_rfl) (by kernel_rfl) rfl rfl (fun _ _ _ h => AOp.fieldAddr rfl rfl (ltb rfl) rfl fo50_1 h) (by kernel_rfl) ?_
          refine AS.op [10] [] [] [17] rfl rfl rfl (by kernel_rfl) (by kernel_rfl) rfl rfl (fun _ _ _ h => AOp.load1 rfl rfl (ltb rfl) rfl agg3 rfl rfl h) (by kernel_rfl) ?_
          refine AS.op [2] [] [17] [] rfl rfl rfl (by kernel_rfl) (by kernel_rfl) rfl rfl (fun _ _ _ h => AOp.move rfl rfl (ltb rfl) rfl h) (by kernel_rfl) ?_
          refine AS.op [3] [] [17] [] rfl rfl rfl (by kernel_rfl) (by kernel_rfl) rfl rfl (fun _ _ _ h => AOp.fieldAddr rfl rfl (ltb rfl) rfl fo50_1 h) (by kernel_rfl) ?_
          refine AS.op [13] [] [17] [] rfl rfl rfl (by kernel_rfl) (by kernel_rfl) rfl rfl (fun _ _ _ h => AOp.load1 rfl rfl (ltb rfl) rfl agg3 rfl rfl h) (by kernel_rfl) ?_
          refine AS.op [12, 14] [] [17] [] rfl rfl rfl (by kernel_rfl) (by kernel_rfl) rfl rfl (fun _ _ _ h => AOp.indexSl rfl rfl (ltb rfl) rfl rfl el25 q132.1 q132.2 h) (by kernel_rfl) ?_
          refine AS.op [15] [] [17] [] rfl rfl rfl (by kernel_rfl) (by kernel_rfl) rfl rfl (fun _ _ _ h => AOp.load1 rfl rfl (ltb rfl) rfl agg3 rfl (atO q134.2) h) (by kernel_rfl) ?_
          refine AS.op [2] [] [17] [] rfl rfl rfl (by kernel_rfl) (by kernel_rfl) rfl rfl (fun _ _ _ h => AOp.move rfl rfl (ltb rfl) rfl h) (by kernel_rfl) ?_
          refine AS.op [3] [] [17] [] rfl rfl rfl (by kernel_rfl) (by kernel_rfl) rfl rfl (fun _ _ _ h => AOp.fieldAddr rfl rfl (ltb rfl) rfl fo50_0 h) (by kernel_rfl) ?_
          refine AS.op [18] [] [17] [] rfl rfl rfl (by kernel_rfl) (by kernel_rfl) rfl rfl (fun _ _ _ h => AOp.load1 rfl rfl (ltb rfl) rfl agg3 rfl rfl h) (by kernel_rfl) ?_
          refine AS.op [17, 19] [] [17] [] rfl rfl rfl (by kernel_rfl) (by kernel_rfl) rfl rfl (fun _ _ _ h => AOp.indexSl rfl rfl (ltb rfl) rfl rfl el25 q135.1 q135.2 h) (by kernel_rfl) ?_
          refine AS.op [20] [] [17] [] rfl rfl rfl (by kernel_rfl) (by kernel_rfl) rfl rfl (fun _ _ _ h => AOp.load1 rfl rfl (ltb rfl) rfl agg3 rfl (atO q137.2) h) (by kernel_rfl) ?_
          refine AS.op [6, 8] [] [17] [] rfl rfl rfl (by kernel_rfl) (by kernel_rfl) rfl rfl (fun _ _ _ h => AOp.indexSl rfl rfl (ltb rfl) rfl rfl el25 q138.1 q138.2 h) (by kernel_rfl) ?_
          refine AS.mid0 [16, 22] [] [17] [] rfl rfl rfl rfl (by kernel_rfl) (by kernel_rfl) rfl rfl (fun _ _ _ h => AOp.storeL (f := fun z => SV.d (keS0 z)) (l := ((g113.2.2.set ((0 : Int)).toNat x122).set ((2 : Int)).toNat x125)) (i := ((1 : Int)).toNat) (v := x133) rfl rfl rfl rfl size3 rfl rfl rfl q139 (AO.dropT h)) (by kernel_rfl) rfl ?_
          refine AS.done ?_
          refine AO.objs (obs' := [.fix 25 [.d (.v (.slice none 0 0))], .fix 4 [.d (dbool false)], .dead, .fix 38 [.d (di .i64 a1)], .fix 38 [.d (di .i64 a1)], .fix 38 [.d (di .i64 a1)], .frame fr107 [(6, .ptr 0 0), (7, .ptr 1 0)], .fix 38 [.d (di .i64 a1)], .fix 3 (List.map sS0 (((g113.2.2.set ((0 : Int)).toNat x122).set ((2 : Int)).toNat x125).set ((1 : Int)).toNat x133)), .frame fr117 [(1, .sl 8 1 0 (((3 : Int)).toNat) (((3 : Int)).toNat)), (2, .d (di .i64 g113.1)), (3, .ptr 7 0), (7, .d (di .i64 g113.2.1)), (8, .d (di .i64 (bits .and .i64 g113.1 (7 : Int))))], .fix 38 [.d (di .i64 a1)], .frame fr119 [], .fix 50 [.d (di .i64 (1 : Int)), .d (di .i64 (2 : Int))], .fix 50 [.d (di .i64 (0 : Int)), .d (di .i64 (2 : Int))], .dead, .fix 50 [.d (di .i64 (0 : Int)), .d (di .i64 (2 : Int))], .frame fr131 [], .fix 50 [.d (di .i64 (1 : Int)), .d (di .i64 (2 : Int))]]) rfl ?_
          obtain ⟨q140, h1⟩ := need_elim h1
          refine AO.op rfl (AOp.indexSl rfl rfl (ltb rfl) rfl rfl el25 q140.1 q140.2 ?_)
          obtain ⟨q141, h1⟩ := need_elim h1
          refine AO.op rfl (AOp.storeL (f := fun z => SV.d (keS0 z)) (l := (((g113.2.2.set ((0 : Int)).toNat x122).set ((2 : Int)).toNat x125).set ((1 : Int)).toNat x133)) (i := ((2 : Int)).toNat) (v := x136) rfl rfl rfl rfl size3 rfl rfl rfl q141 ?_)
          refine AO.nil ?_
          refine inlend (ob' := [.fix 25 [.d (.v (.slice none 0 0))], .fix 4 [.d (dbool false)], .dead, .fix 38 [.d (di .i64 a1)], .fix 38 [.d (di .i64 a1)], .fix 38 [.d (di .i64 a1)], .frame fr107 [(6, .ptr 0 0), (7, .ptr 1 0)], .fix 38 [.d (di .i64 a1)], .fix 3 (List.map sS0 ((((g113.2.2.set ((0 : Int)).toNat x122).set ((2 : Int)).toNat x125).set ((1 : Int)).toNat x133).set ((2 : Int)).toNat x136)), .frame fr117 [(1, .sl 8 1 0 (((3 : Int)).toNat) (((3 : Int)).toNat)), (2, .d (di .i64 g113.1)), (3, .ptr 7 0), (7, .d (di .i64 g113.2.1)), (8, .d (di .i64 (bits .and .i64 g113.1 (7 : Int))))], .fix 38 [.d (di .i64 a1)], .frame fr119 [], .fix 50 [.d (di .i64 (1 : Int)), .d (di .i64 (2 : Int))], .fix 50 [.d (di .i64 (0 : Int)), .d (di .i64 (2 : Int))], .dead, .fix 50 [.d (di .i64 (0 : Int)), .d (di .i64 (2 : Int))], .dead, .fix 50 [.d (di .i64 (1 : Int)), .d (di .i64 (2 : Int))]]) (e' := []) (r := .tu []) rfl rfl rfl ?_
          change AO _ _ _ _ _
          refine AO.nil ?_
          refine inlend (ob' := [.fix 25 [.d (.v (.slice none 0 0))], .fix 4 [.d (dbool false)], .dead, .fix 38 [.d (di .i64 a1)], .fix 38 [.d (di .i64 a1)], .fix 38 [.d (di .i64 a1)], .frame fr107 [(6, .ptr 0 0), (7, .ptr 1 0)], .fix 38 [.d (di .i64 a1)], .fix 3 (List.map sS0 ((((g113.2.2.set ((0 : Int)).toNat x122).set ((2 : Int)).toNat x125).set ((1 : Int)).toNat x133).set ((2 : Int)).toNat x136)), .frame fr117 [(1, .sl 8 1 0 (((3 : Int)).toNat) (((3 : Int)).toNat)), (2, .d (di .i64 g113.1)), (3, .ptr 7 0), (7, .d (di .i64 g113.2.1)), (8, .d (di .i64 (bits .and .i64 g113.1 (7 : Int))))], .fix 38 [.d (di .i64 a1)], .dead, .fix 50 [.d (di .i64 (1 : Int)), .d (di .i64 (2 : Int))], .fix 50 [.d (di .i64 (0 : Int)), .d (di .i64 (2 : Int))], .dead, .fix 50 [.d (di .i64 (0 : Int)), .d (di .i64 (2 : Int))], .dead, .fix 50 [.d (di .i64 (1 : Int)), .d (di .i64 (2 : Int))]]) (e' := []) (r := .tu []) rfl rfl rfl ?_
          change AO _ _ _ _ _
          refine AO.nil ?_
          refine inlend (ob' := [.fix 25 [.d (.v (.slice none 0 0))], .fix 4 [.d (dbool false)], .dead, .fix 38 [.d (di .i64 a1)], .fix 38 [.d (di .i64 a1)], .fix 38 [.d (di .i64 a1)], .frame fr107 [(6, .ptr 0 0), (7, .ptr 1 0)], .fix 38 [.d (di .i64 a1)], .fix 3 (List.map sS0 ((((g113.2.2.set ((0 : Int)).toNat x122).set ((2 : Int)).toNat x125).set ((1 : Int)).toNat x133).set ((2 : Int)).toNat x136)), .dead, .fix 38 [.d (di .i64 a1)], .dead, .fix 50 [.d (di .i64 (1 : Int)), .d (di .i64 (2 : Int))], .fix 50 [.d (di .i64 (0 : Int)), .d (di .i64 (2 : Int))], .dead, .fix 50 [.d (di .i64 (0 : Int)), .d (di .i64 (2 : Int))], .dead, .fix 50 [.d (di .i64 (1 : Int)), .d (di .i64 (2 : Int))]]) (e' := [(1, .sl 8 1 0 (((3 : Int)).toNat) (((3 : Int)).toNat)), (2, .d (di .i64 g113.1)), (3, .ptr 7 0), (7, .d (di .i64 g113.2.1)), (8, .d (di .i64 (bits .and .i64 g113.1 (7 : Int))))]) (r := .tu []) rfl rfl rfl ?_
          change AO _ _ _ _ _
          refine AO.nil ?_
          change AC _ _ _ _
          refine AC.seq ?_
          refine AC.region ?_
          refine AO.op rfl (AOp.move rfl rfl (ltb rfl) rfl ?_)
          obtain ⟨q142, h1⟩ := need_elim h1
          refine AO.op rfl (AOp.ishr (n := 2) rfl rfl (ltb rfl) rfl rfl (by decide) q142 rfl ?_)
          refine AO.op rfl (AOp.assign rfl rfl (ltb rfl) rfl ?_)
          refine AO.nil ?_
          change AC _ _ _ _
          refine AC.seq ?_
          refine AC.region ?_
          refine AO.op rfl (AOp.move rfl rfl (ltb rfl) rfl ?_)
          obtain ⟨q143, h1⟩ := need_elim h1
          refine AO.op rfl (AOp.ishr (n := 1) rfl rfl (ltb rfl) rfl rfl (by decide) q143 rfl ?_)
          refine AO.op rfl (AOp.move rfl rfl (ltb rfl) rfl ?_)
          obtain ⟨q144, h1⟩ := need_elim h1
          refine AO.op rfl (AOp.ishr (n := 2) rfl rfl (ltb rfl) rfl rfl (by decide) q144 rfl ?_)
          refine AO.op rfl (AOp.ibits (by simp) rfl rfl (ltb rfl) rfl rfl rfl ?_)
          refine AO.op rfl (AOp.ibits (by simp) rfl rfl (ltb rfl) rfl rfl rfl ?_)
          refine AO.op rfl (AOp.assign rfl rfl (ltb rfl) rfl ?_)
          refine AO.nil ?_
          change AC _ _ _ _
          refine AC.seq ?_
          refine AC.region ?_
          refine AO.op rfl (AOp.move rfl rfl (ltb rfl) rfl ?_)
          obtain ⟨q145, h1⟩ := need_elim h1
          refine AO.op rfl (AOp.ishr (n := 0) rfl rfl (ltb rfl) rfl rfl (by decide) q145 rfl ?_)
          refine AO.op rfl (AOp.move rfl rfl (ltb rfl) rfl ?_)
          obtain ⟨q146, h1⟩ := need_elim h1
          refine AO.op rfl (AOp.ishr (n := 1) rfl rfl (ltb rfl) rfl rfl (by decide) q146 rfl ?_)
          refine AO.op rfl (AOp.ibits (by simp) rfl rfl (ltb rfl) rfl rfl rfl ?_)
          refine AO.op rfl (AOp.ibits (by simp) rfl rfl (ltb rfl) rfl rfl rfl ?_)
          refine AO.op rfl (AOp.assign rfl rfl (ltb rfl) rfl ?_)
          refine AO.nil ?_
          change AC _ _ _ _
          refine AC.seq ?_
          refine AC.draw 8 mixed (by kernel_rfl) ?_
          refine AD.op [1] rfl (by kernel_rfl) rfl rfl (fun _ _ h => AOp.move rfl rfl (ltb rfl) rfl h) ?_
          obtain ⟨q147, h1⟩ := need_elim h1
          refine AD.op [47] rfl (by kernel_rfl) rfl rfl (fun _ _ h => AOp.indexSl rfl rfl (ltb rfl) rfl rfl el25 q147.1 q147.2 h) ?_
          obtain ⟨x148, q149, h1⟩ := idx_elim h1
          refine AD.op [48] rfl (by kernel_rfl) rfl rfl (fun _ _ h => AOp.load1 rfl rfl (ltb rfl) rfl agg3 rfl (atO q149.2) h) ?_
          refine AD.op [11] rfl (by kernel_rfl) rfl rfl (fun _ _ h => AOp.move rfl rfl (ltb rfl) rfl h) ?_
          refine AD.op [7] rfl (by kernel_rfl) rfl rfl (fun _ _ h => AOp.move rfl rfl (ltb rfl) rfl h) ?_
          obtain ⟨q150, h1⟩ := need_elim h1
          refine AD.op [50, 51] rfl (by kernel_rfl) rfl rfl (fun _ _ h => AOp.ishl' rfl rfl (ltb rfl) rfl rfl q150 h) ?_
          obtain ⟨q151, h1⟩ := need_elim h1
          refine AD.op [49, 52] rfl (by kernel_rfl) rfl rfl (fun _ _ h => AOp.iadd rfl rfl (ltb rfl) rfl rfl rfl q151.1 q151.2 h) ?_
          obtain ⟨q152, h1⟩ := need_elim h1
          refine AD.op [47] rfl (by kernel_rfl) rfl rfl (fun _ _ h => AOp.indexSl rfl rfl (ltb rfl) rfl rfl el25 q152.1 q152.2 h) ?_
          refine AD.done ?_
          obtain ⟨q153, h1⟩ := need_elim h1
          refine AO.op rfl (AOp.storeL (f := fun z => SV.d (keS0 z)) (l := ((((g113.2.2.set ((0 : Int)).toNat x122).set ((2 : Int)).toNat x125).set ((1 : Int)).toNat x133).set ((2 : Int)).toNat x136)) (i := ((0 : Int)).toNat) (v := (x148 + (IntKind.i64.wrap ((bits .and .i64 (bits .xor .i64 ((bits .and .i64 g113.1 (7 : Int)) / 2 ^ 0) ((bits .and .i64 g113.1 (7 : Int)) / 2 ^ 1)) (1 : Int)) * 2 ^ (g113.2.1).toNat)))) rfl rfl rfl rfl size3 rfl rfl rfl q153 ?_)
          refine AO.nil ?_
          change AC _ _ _ _
          refine AC.seq ?_
          refine AC.draw 8 mixed (by kernel_rfl) ?_
          refine AD.op [1] rfl (by kernel_rfl) rfl rfl (fun _ _ h => AOp.move rfl rfl (ltb rfl) rfl h) ?_
          obtain ⟨q154, h1⟩ := need_elim h1
          refine AD.op [55] rfl (by kernel_rfl) rfl rfl (fun _ _ h => AOp.indexSl rfl rfl (ltb rfl) rfl rfl el25 q154.1 q154.2 h) ?_
          obtain ⟨x155, q156, h1⟩ := idx_elim h1
          refine AD.op [56] rfl (by kernel_rfl) rfl rfl (fun _ _ h => AOp.load1 rfl rfl (ltb rfl) rfl agg3 rfl (atO q156.2) h) ?_
          refine AD.op [10] rfl (by kernel_rfl) rfl rfl (fun _ _ h => AOp.move rfl rfl (ltb rfl) rfl h) ?_
          refine AD.op [7] rfl (by kernel_rfl) rfl rfl (fun _ _ h => AOp.move rfl rfl (ltb rfl) rfl h) ?_
          obtain ⟨q157, h1⟩ := need_elim h1
          refine AD.op [58, 59] rfl (by kernel_rfl) rfl rfl (fun _ _ h => AOp.ishl' rfl rfl (ltb rfl) rfl rfl q157 h) ?_
          obtain ⟨q158, h1⟩ := need_elim h1
          refine AD.op [57, 60] rfl (by kernel_rfl) rfl rfl (fun _ _ h => AOp.iadd rfl rfl (ltb rfl) rfl rfl rfl q158.1 q158.2 h) ?_
          obtain ⟨q159, h1⟩ := need_elim h1
          refine AD.op [55] rfl (by kernel_rfl) rfl rfl (fun _ _ h => AOp.indexSl rfl rfl (ltb rfl) rfl rfl el25 q159.1 q159.2 h) ?_
          refine AD.done ?_
          obtain ⟨q160, h1⟩ := need_elim h1
          refine AO.op rfl (AOp.storeL (f := fun z => SV.d (keS0 z)) (l := (((((g113.2.2.set ((0 : Int)).toNat x122).set ((2 : Int)).toNat x125).set ((1 : Int)).toNat x133).set ((2 : Int)).toNat x136).set ((0 : Int)).toNat (x148 + (IntKind.i64.wrap ((bits .and .i64 (bits .xor .i64 ((bits .and .i64 g113.1 (7 : Int)) / 2 ^ 0) ((bits .and .i64 g113.1 (7 : Int)) / 2 ^ 1)) (1 : Int)) * 2 ^ (g113.2.1).toNat))))) (i := ((1 : Int)).toNat) (v := (x155 + (IntKind.i64.wrap ((bits .and .i64 (bits .xor .i64 ((bits .and .i64 g113.1 (7 : Int)) / 2 ^ 1) ((bits .and .i64 g113.1 (7 : Int)) / 2 ^ 2)) (1 : Int)) * 2 ^ (g113.2.1).toNat)))) rfl rfl rfl rfl size3 rfl rfl rfl q160 ?_)
          refine AO.nil ?_
          change AC _ _ _ _
          refine AC.seq ?_
          refine AC.draw 8 mixed (by kernel_rfl) ?_
          refine AD.op [1] rfl (by kernel_rfl) rfl rfl (fun _ _ h => AOp.move rfl rfl (ltb rfl) rfl h) ?_
          obtain ⟨q161, h1⟩ := need_elim h1
          refine AD.op [63] rfl (by kernel_rfl) rfl rfl (fun _ _ h => AOp.indexSl rfl rfl (ltb rfl) rfl rfl el25 q161.1 q161.2 h) ?_
          obtain ⟨x162, q163, h1⟩ := idx_elim h1
          refine AD.op [64] rfl (by kernel_rfl) rfl rfl (fun _ _ h => AOp.load1 rfl rfl (ltb rfl) rfl agg3 rfl (atO q163.2) h) ?_
          refine AD.op [9] rfl (by kernel_rfl) rfl rfl (fun _ _ h => AOp.move rfl rfl (ltb rfl) rfl h) ?_
          refine AD.op [7] rfl (by kernel_rfl) rfl rfl (fun _ _ h => AOp.move rfl rfl (ltb rfl) rfl h) ?_
          obtain ⟨q164, h1⟩ := need_elim h1
          refine AD.op [66, 67] rfl (by kernel_rfl) rfl rfl (fun _ _ h => AOp.ishl' rfl rfl (ltb rfl) rfl rfl q164 h) ?_
          obtain ⟨q165, h1⟩ := need_elim h1
          refine AD.op [65, 68] rfl (by kernel_rfl) rfl rfl (fun _ _ h => AOp.iadd rfl rfl (ltb rfl) rfl rfl rfl q165.1 q165.2 h) ?_
          obtain ⟨q166, h1⟩ := need_elim h1
          refine AD.op [63] rfl (by kernel_rfl) rfl rfl (fun _ _ h => AOp.indexSl rfl rfl (ltb rfl) rfl rfl el25 q166.1 q166.2 h) ?_
          refine AD.done ?_
          obtain ⟨q167, h1⟩ := need_elim h1
          refine AO.op rfl (AOp.storeL (f := fun z => SV.d (keS0 z)) (l := ((((((g113.2.2.set ((0 : Int)).toNat x122).set ((2 : Int)).toNat x125).set ((1 : Int)).toNat x133).set ((2 : Int)).toNat x136).set ((0 : Int)).toNat (x148 + (IntKind.i64.wrap ((bits .and .i64 (bits .xor .i64 ((bits .and .i64 g113.1 (7 : Int)) / 2 ^ 0) ((bits .and .i64 g113.1 (7 : Int)) / 2 ^ 1)) (1 : Int)) * 2 ^ (g113.2.1).toNat)))).set ((1 : Int)).toNat (x155 + (IntKind.i64.wrap ((bits .and .i64 (bits .xor .i64 ((bits .and .i64 g113.1 (7 : Int)) / 2 ^ 1) ((bits .and .i64 g113.1 (7 : Int)) / 2 ^ 2)) (1 : Int)) * 2 ^ (g113.2.1).toNat))))) (i := ((2 : Int)).toNat) (v := (x162 + (IntKind.i64.wrap (((bits .and .i64 g113.1 (7 : Int)) / 2 ^ 2) * 2 ^ (g113.2.1).toNat)))) rfl rfl rfl rfl size3 rfl rfl rfl q167 ?_)
          refine AO.nil ?_
          change AC _ _ _ _
          refine AC.region ?_
          refine AO.op rfl (AOp.move rfl rfl (ltb rfl) rfl ?_)
          obtain ⟨q168, h1⟩ := need_elim h1
          refine AO.op rfl (AOp.ishr (n := 3) rfl rfl (ltb rfl) rfl rfl (by decide) q168 rfl ?_)
          refine AO.op rfl (AOp.assign rfl rfl (ltb rfl) rfl ?_)
          refine AO.nil ?_
          change AC _ _ _ _
          refine AC.region ?_
          refine AO.op rfl (AOp.move rfl rfl (ltb rfl) rfl ?_)
          obtain ⟨q169, h1⟩ := need_elim h1
          refine AO.op rfl (AOp.iadd rfl rfl (ltb rfl) rfl rfl rfl q169.1 q169.2 ?_)
          refine AO.op rfl (AOp.assign rfl rfl (ltb rfl) rfl ?_)
          refine AO.nil ?_
          exact ⟨((g113.1 / 2 ^ 3), (g113.2.1 + (1 : Int)), (((((((g113.2.2.set ((0 : Int)).toNat x122).set ((2 : Int)).toNat x125).set ((1 : Int)).toNat x133).set ((2 : Int)).toNat x136).set ((0 : Int)).toNat (x148 + (IntKind.i64.wrap ((bits .and .i64 (bits .xor .i64 ((bits .and .i64 g113.1 (7 : Int)) / 2 ^ 0) ((bits .and .i64 g113.1 (7 : Int)) / 2 ^ 1)) (1 : Int)) * 2 ^ (g113.2.1).toNat)))).set ((1 : Int)).toNat (x155 + (IntKind.i64.wrap ((bits .and .i64 (bits .xor .i64 ((bits .and .i64 g113.1 (7 : Int)) / 2 ^ 1) ((bits .and .i64 g113.1 (7 : Int)) / 2 ^ 2)) (1 : Int)) * 2 ^ (g113.2.1).toNat)))).set ((2 : Int)).toNat (x162 + (IntKind.i64.wrap (((bits .and .i64 g113.1 (7 : Int)) / 2 ^ 2) * 2 ^ (g113.2.1).toNat))))), _, rfl, (LeL.refl _), rfl, (okU_mk rfl (okU_cons rfl (okU_cons rfl (okU_cons rfl (okU_cons rfl (okU_cons rfl (okU_cons rfl (okU_cons rfl (okU_cons rfl (okU_cons (okU_fixl (fun _ => rfl)) okU_nil)))))))))), h1⟩
        replace h1 := cF h1 q118
        refine AC.joinP (V := Bool) [1, 2, 3, 10] [19] 11 (fun g170 => [(19, .d (dbool g170))]) (fun g170 => [.fix 25 [.d (.v (.slice none 0 0))], .fix 4 [.d (dbool false)], .dead, .fix 38 [.d (di .i64 a1)], .fix 38 [.d (di .i64 a1)], .fix 38 [.d (di .i64 a1)], .frame fr107 [(6, .ptr 0 0), (7, .ptr 1 0)], .fix 38 [.d (di .i64 a1)], .fix 3 (List.map sS0 g113.2.2), .frame fr117 [(1, .sl 8 1 0 (((3 : Int)).toNat) (((3 : Int)).toNat)), (2, .d (di .i64 g113.1)), (3, .ptr 7 0), (7, .d (di .i64 g113.2.1)), (8, .d (di .i64 (bits .and .i64 g113.1 (7 : Int))))], .fix 38 [.d (di .i64 a1)]]) (fun g170 => (p_HCoord_k5 g113 (iter (p_HCoord_l4 a1) n115)) g170 = some o109) rfl ?_ ?_
        · refine AC.seq ?_
          refine AC.region ?_
          refine AO.op rfl (AOp.ieql rfl rfl (ltb rfl) rfl rfl ?_)
          refine AO.op rfl (AOp.assign rfl rfl (ltb rfl) rfl ?_)
          refine AO.nil ?_
          change AC _ _ _ _
          refine AC.cond rfl (fun q419 => ?_) (fun q419 => ?_)
          · replace h1 := cT h1 q419
            refine AC.skip ?_
            exact ⟨(decide ((bits .and .i64 g113.1 (7 : Int)) = (1 : Int))), _, rfl, (LeL.refl _), rfl, (okU_mk rfl (okU_cons rfl (okU_cons rfl (okU_cons rfl (okU_cons rfl (okU_cons rfl (okU_cons rfl (okU_cons rfl (okU_cons rfl (okU_cons (okU_fixl (fun _ => rfl)) (okU_cons rfl (okU_cons rfl okU_nil)))))))))))), h1⟩
          replace h1 := cF h1 q419
          refine AC.region ?_
          refine AO.op rfl (AOp.ieql rfl rfl (ltb rfl) rfl rfl ?_)
          refine AO.op rfl (AOp.assign rfl rfl (ltb rfl) rfl ?_)
          refine AO.nil ?_
          exact ⟨(decide ((bits .and .i64 g113.1 (7 : Int)) = (2 : Int))), _, rfl, (LeL.refl _), rfl, (okU_mk rfl (okU_cons rfl (okU_cons rfl (okU_cons rfl (okU_cons rfl (okU_cons rfl (okU_cons rfl (okU_cons rfl (okU_cons rfl (okU_cons (okU_fixl (fun _ => rfl)) (okU_cons rfl (okU_cons rfl okU_nil)))))))))))), h1⟩
        intro g170 h1
        unfold p_HCoord_k5 at h1
        refine AC.cond rfl (fun q171 => ?_) (fun q171 => ?_)
        · replace h1 := cT h1 q171
          refine AC.region ?_
          refine AO.op rfl (AOp.move rfl rfl (ltb rfl) rfl ?_)
          refine AO.op rfl (AOp.move rfl rfl (ltb rfl) rfl ?_)
          refine AO.op rfl (AOp.move rfl rfl (ltb rfl) rfl ?_)
          refine AO.op rfl (AOp.build rfl rfl (ltb rfl) zero50 rfl places50 rfl rfl ?_)
          refine AO.op rfl (AOp.build rfl rfl (ltb rfl) zero50 rfl places50 rfl rfl ?_)
          refine AO.op rfl (AOp.inl [] (by kernel_rfl) Tryd.func28 rfl Tryd.ntmps28 rfl rfl (ltb rfl) rfl (leb rfl) rfl ?_)
          intro fr172
          refine AC.seq ?_
          refine AC.region ?_
          refine AO.op rfl (AOp.box rfl rfl (ltb rfl) rfl rfl ?_)
          refine AO.op rfl (AOp.box rfl rfl (ltb rfl) rfl rfl ?_)
          refine AO.nil ?_
          change AC _ _ _ _
          refine AC.seq ?_
          refine AC.region ?_
          refine AO.op rfl (AOp.move rfl rfl (ltb rfl) rfl ?_)
          refine AO.nil ?_
          change AC _ _ _ _
          refine AC.condT rfl rfl ?_
          refine AC.seq ?_
          refine AC.region ?_
          refine AO.op rfl (AOp.loadN rfl rfl (ltb rfl) rfl agg50 size50 rfl (leb rfl) rfl ?_)
          refine AO.op rfl (AOp.makeIfc rfl rfl (ltb rfl) rfl conc50 ?_)
          refine AO.op rfl (AOp.move rfl rfl (ltb rfl) rfl ?_)
          refine AO.op rfl (AOp.move rfl rfl (ltb rfl) rfl ?_)
          refine AO.op rfl (AOp.inlE [1, 2, 8] (EntersS.meth (by kernel_rfl) rfl rfl rfl meth50_pub_orthodrome_pub_gonum_spatial_curve_do rfl rfl) Tryd.func26 rfl Tryd.ntmps26 rfl (ltb rfl) (leb rfl) rfl ?_)
          intro fr173
          refine AC.seq ?_
          refine AC.region ?_
          refine AO.op rfl (AOp.box rfl rfl (ltb rfl) rfl rfl ?_)
          refine AO.nil ?_
          change AC _ _ _ _
          obtain ⟨q174, h1⟩ := need_elim h1
          obtain ⟨x175, q176, h1⟩ := idx_elim h1
          obtain ⟨q177, h1⟩ := need_elim h1
          obtain ⟨x178, q179, h1⟩ := idx_elim h1
          obtain ⟨q180, h1⟩ := need_elim h1
          obtain ⟨q181, h1⟩ := need_elim h1
          refine AC.drawS [0, 1, 2, 3, 4, 5, 6, 7, 8, 9, 10, 11, 12, 13, 14, 15, 16, 17] [17] [18, 19] (fun L => [.fix 25 [.d (.v (.slice none 0 0))], .fix 4 [.d (dbool false)], .dead, .fix 38 [.d (di .i64 a1)], .fix 38 [.d (di .i64 a1)], .fix 38 [.d (di .i64 a1)], .frame fr107 [(6, .ptr 0 0), (7, .ptr 1 0)], .fix 38 [.d (di .i64 a1)], bif L 17 then .fix 3 (List.map sS0 (g113.2.2.set ((1 : Int)).toNat x175)) else .fix 3 (List.map sS0 g113.2.2), .frame fr117 [(1, .sl 8 1 0 (((3 : Int)).toNat) (((3 : Int)).toNat)), (2, .d (di .i64 g113.1)), (3, .ptr 7 0), (7, .d (di .i64 g113.2.1)), (8, .d (di .i64 (bits .and .i64 g113.1 (7 : Int))))], .fix 38 [.d (di .i64 a1)], .frame fr172 [], .fix 50 [.d (di .i64 (0 : Int)), .d (di .i64 (2 : Int))], .fix 50 [.d (di .i64 (1 : Int)), .d (di .i64 (2 : Int))], .frame fr173 [(1, .d (di .i64 g113.2.1)), (2, .sl 8 1 0 (((3 : Int)).toNat) (((3 : Int)).toNat)), (8, .ptr 12 0)], .fix 50 [.d (di .i64 (1 : Int)), .d (di .i64 (2 : Int))]]) [(17, (fun _ => true))] mixed (by kernel_rfl) (fun L L' h => by simp only [h 17 (by decide)]) rfl ?_
          refine AS.op [2] [] [17] [] rfl rfl rfl (by kernel_rfl) (by kernel_rfl) rfl rfl (fun _ _ _ h => AOp.move rfl rfl (ltb rfl) rfl h) (by kernel_rfl) ?_
          refine AS.op [3] [] [17] [] rfl rfl rfl (by kernel_rfl) (by kernel_rfl) rfl rfl (fun _ _ _ h => AOp.fieldAddr rfl rfl (ltb rfl) rfl fo50_0 h) (by kernel_rfl) ?_
          refine AS.op [7] [] [17] [] rfl rfl rfl (by kernel_rfl) (by kernel_rfl) rfl rfl (fun _ _ _ h => AOp.load1 rfl rfl (ltb rfl) rfl agg3 rfl rfl h) (by kernel_rfl) ?_
          refine AS.op [2] [] [] [17] rfl rfl rfl (by kernel_rfl) (by kernel_rfl) rfl rfl (fun _ _ _ h => AOp.move rfl rfl (ltb rfl) rfl h) (by kernel_rfl) ?_
          refine AS.op [3] [] [] [17] rfl rfl rfl (by kernel_rfl) (by kernel_rfl) rfl rfl (fun _ _ _ h => AOp.fieldAddr rfl rfl (ltb rfl) rfl fo50_1 h) (by kernel_rfl) ?_
          refine AS.op [10] [] [] [17] rfl rfl rfl (by kernel_rfl) (by kernel_rfl) rfl rfl (fun _ _ _ h => AOp.load1 rfl rfl (ltb rfl) rfl agg3 rfl rfl h) (by kernel_rfl) ?_
          refine AS.op [2] [] [17] [] rfl rfl rfl (by kernel_rfl) (by kernel_rfl) rfl rfl (fun _ _ _ h => AOp.move rfl rfl (ltb rfl) rfl h) (by kernel_rfl) ?_
          refine AS.op [3] [] [17] [] rfl rfl rfl (by kernel_rfl) (by kernel_rfl) rfl rfl (fun _ _ _ h => AOp.fieldAddr rfl rfl (ltb rfl) rfl fo50_1 h) (by kernel_rfl) ?_
          refine AS.op [13] [] [17] [] rfl rfl rfl (by kernel_rfl) (by kernel_rfl) rfl rfl (fun _ _ _ h => AOp.load1 rfl rfl (ltb rfl) rfl agg3 rfl rfl h) (by kernel_rfl) ?_
          refine AS.op [12, 14] [] [17] [] rfl rfl rfl (by kernel_rfl) (by kernel_rfl) rfl rfl (fun _ _ _ h => AOp.indexSl rfl rfl (ltb rfl) rfl rfl el25 q174.1 q174.2 h) (by kernel_rfl) ?_
          refine AS.op [15] [] [17] [] rfl rfl rfl (by kernel_rfl) (by kernel_rfl) rfl rfl (fun _ _ _ h => AOp.load1 rfl rfl (ltb rfl) rfl agg3 rfl (atO q176.2) h) (by kernel_rfl) ?_
          refine AS.op [2] [] [17] [] rfl rfl rfl (by kernel_rfl) (by kernel_rfl) rfl rfl (fun _ _ _ h => AOp.move rfl rfl (ltb rfl) rfl h) (by kernel_rfl) ?_
          refine AS.op [3] [] [17] [] rfl rfl rfl (by kernel_rfl) (by kernel_rfl) rfl rfl (fun _ _ _ h => AOp.fieldAddr rfl rfl (ltb rfl) rfl fo50_0 h) (by kernel_rfl) ?_
          refine AS.op [18] [] [17] [] rfl rfl rfl (by kernel_rfl) (by kernel_rfl) rfl rfl (fun _ _ _ h => AOp.load1 rfl rfl (ltb rfl) rfl agg3 rfl rfl h) (by kernel_rfl) ?_
          refine AS.op [17, 19] [] [17] [] rfl rfl rfl (by kernel_rfl) (by kernel_rfl) rfl rfl (fun _ _ _ h => AOp.indexSl rfl rfl (ltb rfl) rfl rfl el25 q177.1 q177.2 h) (by kernel_rfl) ?_
          refine AS.op [20] [] [17] [] rfl rfl rfl (by kernel_rfl) (by kernel_rfl) rfl rfl (fun _ _ _ h => AOp.load1 rfl rfl (ltb rfl) rfl agg3 rfl (atO q179.2) h) (by kernel_rfl) ?_
          refine AS.op [6, 8] [] [17] [] rfl rfl rfl (by kernel_rfl) (by kernel_rfl) rfl rfl (fun _ _ _ h => AOp.indexSl rfl rfl (ltb rfl) rfl rfl el25 q180.1 q180.2 h) (by kernel_rfl) ?_
          refine AS.mid0 [16, 22] [] [17] [] rfl rfl rfl rfl (by kernel_rfl) (by kernel_rfl) rfl rfl (fun _ _ _ h => AOp.storeL (f := fun z => SV.d (keS0 z)) (l := g113.2.2) (i := ((1 : Int)).toNat) (v := x175) rfl rfl rfl rfl size3 rfl rfl rfl q181 (AO.dropT h)) (by kernel_rfl) rfl ?_
          refine AS.done ?_
          refine AO.objs (obs' := [.fix 25 [.d (.v (.slice none 0 0))], .fix 4 [.d (dbool false)], .dead, .fix 38 [.d (di .i64 a1)], .fix 38 [.d (di .i64 a1)], .fix 38 [.d (di .i64 a1)], .frame fr107 [(6, .ptr 0 0), (7, .ptr 1 0)], .fix 38 [.d (di .i64 a1)], .fix 3 (List.map sS0 (g113.2.2.set ((1 : Int)).toNat x175)), .frame fr117 [(1, .sl 8 1 0 (((3 : Int)).toNat) (((3 : Int)).toNat)), (2, .d (di .i64 g113.1)), (3, .ptr 7 0), (7, .d (di .i64 g113.2.1)), (8, .d (di .i64 (bits .and .i64 g113.1 (7 : Int))))], .fix 38 [.d (di .i64 a1)], .frame fr172 [], .fix 50 [.d (di .i64 (0 : Int)), .d (di .i64 (2 : Int))], .fix 50 [.d (di .i64 (1 : Int)), .d (di .i64 (2 : Int))], .frame fr173 [(1, .d (di .i64 g113.2.1)), (2, .sl 8 1 0 (((3 : Int)).toNat) (((3 : Int)).toNat)), (8, .ptr 12 0)], .fix 50 [.d (di .i64 (1 : Int)), .d (di .i64 (2 : Int))]]) rfl ?_
          obtain ⟨q182, h1⟩ := need_elim h1
          refine AO.op rfl (AOp.indexSl rfl rfl (ltb rfl) rfl rfl el25 q182.1 q182.2 ?_)
          obtain ⟨q183, h1⟩ := need_elim h1
          refine AO.op rfl (AOp.storeL (f := fun z => SV.d (keS0 z)) (l := (g113.2.2.set ((1 : Int)).toNat x175)) (i := ((2 : Int)).toNat) (v := x178) rfl rfl rfl rfl size3 rfl rfl rfl q183 ?_)
          refine AO.nil ?_
          refine inlend (ob' := [.fix 25 [.d (.v (.slice none 0 0))], .fix 4 [.d (dbool false)], .dead, .fix 38 [.d (di .i64 a1)], .fix 38 [.d (di .i64 a1)], .fix 38 [.d (di .i64 a1)], .frame fr107 [(6, .ptr 0 0), (7, .ptr 1 0)], .fix 38 [.d (di .i64 a1)], .fix 3 (List.map sS0 ((g113.2.2.set ((1 : Int)).toNat x175).set ((2 : Int)).toNat x178)), .frame fr117 [(1, .sl 8 1 0 (((3 : Int)).toNat) (((3 : Int)).toNat)), (2, .d (di .i64 g113.1)), (3, .ptr 7 0), (7, .d (di .i64 g113.2.1)), (8, .d (di .i64 (bits .and .i64 g113.1 (7 : Int))))], .fix 38 [.d (di .i64 a1)], .frame fr172 [], .fix 50 [.d (di .i64 (0 : Int)), .d (di .i64 (2 : Int))], .fix 50 [.d (di .i64 (1 : Int)), .d (di .i64 (2 : Int))], .dead, .fix 50 [.d (di .i64 (1 : Int)), .d (di .i64 (2 : Int))]]) (e' := [(1, .d (di .i64 g113.2.1)), (2, .sl 8 1 0 (((3 : Int)).toNat) (((3 : Int)).toNat)), (8, .ptr 12 0)]) (r := .tu []) rfl rfl rfl ?_
          change AO _ _ _ _ _
          refine AO.nil ?_
          change AC _ _ _ _
          refine AC.region ?_
          refine AO.op rfl (AOp.loadN rfl rfl (ltb rfl) rfl agg50 size50 rfl (leb rfl) rfl ?_)
          refine AO.op rfl (AOp.makeIfc rfl rfl (ltb rfl) rfl conc50 ?_)
          refine AO.op rfl (AOp.move rfl rfl (ltb rfl) rfl ?_)
          refine AO.op rfl (AOp.move rfl rfl (ltb rfl) rfl ?_)
          refine AO.op rfl (AOp.inlE [] (EntersS.meth (by kernel_rfl) rfl rfl rfl meth50_pub_orthodrome_pub_gonum_spatial_curve_do rfl rfl) Tryd.func26 rfl Tryd.ntmps26 rfl (ltb rfl) (leb rfl) rfl ?_)
          intro fr184
          refine AC.seq ?_
          refine AC.region ?_
          refine AO.op rfl (AOp.box rfl rfl (ltb rfl) rfl rfl ?_)
          refine AO.nil ?_
          change AC _ _ _ _
          obtain ⟨q185, h1⟩ := need_elim h1
          obtain ⟨x186, q187, h1⟩ := idx_elim h1
          obtain ⟨q188, h1⟩ := need_elim h1
          obtain ⟨x189, q190, h1⟩ := idx_elim h1
          obtain ⟨q191, h1⟩ := need_elim h1
          obtain ⟨q192, h1⟩ := need_elim h1
          refine AC.drawS [0, 1, 2, 3, 4, 5, 6, 7, 8, 9, 10, 11, 12, 13, 14, 15, 16, 17] [17] [18, 19] (fun L => [.fix 25 [.d (.v (.slice none 0 0))], .fix 4 [.d (dbool false)], .dead, .fix 38 [.d (di .i64 a1)], .fix 38 [.d (di .i64 a1)], .fix 38 [.d (di .i64 a1)], .frame fr107 [(6, .ptr 0 0), (7, .ptr 1 0)], .fix 38 [.d (di .i64 a1)], bif L 17 then .fix 3 (List.map sS0 (((g113.2.2.set ((1 : Int)).toNat x175).set ((2 : Int)).toNat x178).set ((0 : Int)).toNat x186)) else .fix 3 (List.map sS0 ((g113.2.2.set ((1 : Int)).toNat x175).set ((2 : Int)).toNat x178)), .frame fr117 [(1, .sl 8 1 0 (((3 : Int)).toNat) (((3 : Int)).toNat)), (2, .d (di .i64 g113.1)), (3, .ptr 7 0), (7, .d (di .i64 g113.2.1)), (8, .d (di .i64 (bits .and .i64 g113.1 (7 : Int))))], .fix 38 [.d (di .i64 a1)], .frame fr172 [], .fix 50 [.d (di .i64 (0 : Int)), .d (di .i64 (2 : Int))], .fix 50 [.d (di .i64 (1 : Int)), .d (di .i64 (2 : Int))], .dead, .fix 50 [.d (di .i64 (1 : Int)), .d (di .i64 (2 : Int))], .frame fr184 [], .fix 50 [.d (di .i64 (0 : Int)), .d (di .i64 (2 : Int))]]) [(17, (fun _ => true))] mixed (by kernel_rfl) (fun L L' h => by simp only [h 17 (by decide)]) rfl ?_
          refine AS.op [2] [] [17] [] rfl rfl rfl (by kernel_rfl) (by kernel_rfl) rfl rfl (fun _ _ _ h => AOp.move rfl rfl (ltb rfl) rfl h) (by kernel_rfl) ?_
          refine AS.op [3] [] [17] [] rfl rfl rfl (by kernel_rfl) (by kernel_rfl) rfl rfl (fun _ _ _ h => AOp.fieldAddr rfl rfl (ltb rfl) rfl fo50_0 h) (by kernel_rfl) ?_
          refine AS.op [7] [] [17] [] rfl rfl rfl (by kernel_rfl) (by kernel_rfl) rfl rfl (fun _ _ _ h => AOp.load1 rfl rfl (ltb rfl) rfl agg3 rfl rfl h) (by kernel_rfl) ?_
          refine AS.op [2] [] [] [17] rfl rfl rfl (by kernel_rfl) (by kernel_rfl) rfl rfl (fun _ _ _ h => AOp.move rfl rfl (ltb rfl) rfl h) (by kernel_rfl) ?_
          refine AS.op [3] [] [] [17] rfl rfl rfl (by kernel_rfl) (by kernel_rfl) rfl rfl (fun _ _ _ h => AOp.fieldAddr rfl rfl (ltb rfl) rfl fo50_1 h) (by kernel_rfl) ?_
          refine AS.op [10] [] [] [17] rfl rfl rfl (by kernel_rfl) (by kernel_rfl) rfl rfl (fun _ _ _ h => AOp.load1 rfl rfl (ltb rfl) rfl agg3 rfl rfl h) (by kernel_rfl) ?_
          refine AS.op [2] [] [17] [] rfl rfl rfl (by kernel_rfl) (by kernel_rfl) rfl rfl (fun _ _ _ h => AOp.move rfl rfl (ltb rfl) rfl h) (by kernel_rfl) ?_
          refine AS.op [3] [] [17] [] rfl rfl rfl (by kernel_rfl) (by kernel_rfl) rfl rfl (fun _ _ _ h => AOp.fieldAddr rfl rfl (ltb rfl) rfl fo50_1 h) (by kernel_rfl) ?_
          refine AS.op [13] [] [17] [] rfl rfl rfl (by kernel_rfl) (by kernel_rfl) rfl rfl (fun _ _ _ h => AOp.load1 rfl rfl (ltb rfl) rfl agg3 rfl rfl h) (by kernel_rfl) ?_
          refine AS.op [12, 14] [] [17] [] rfl rfl rfl (by kernel_rfl) (by kernel_rfl) rfl rfl (fun _ _ _ h => AOp.indexSl rfl rfl (ltb rfl) rfl rfl el25 q185.1 q185.2 h) (by kernel_rfl) ?_
          refine AS.op [15] [] [17] [] rfl rfl rfl (by kernel_rfl) (by kernel_rfl) rfl rfl (fun _ _ _ h => AOp.load1 rfl rfl (ltb rfl) rfl agg3 rfl (atO q187.2) h) (by kernel_rfl) ?_
          refine AS.op [2] [] [17] [] rfl rfl rfl (by kernel_rfl) (by kernel_rfl) rfl rfl (fun _ _ _ h => AOp.move rfl rfl (ltb rfl) rfl h) (by kernel_rfl) ?_
          refine AS.op [3] [] [17] [] rfl rfl rfl (by kernel_rfl) (by kernel_rfl) rfl rfl (fun _ _ _ h => AOp.fieldAddr rfl rfl (ltb rfl) rfl fo50_0 h) (by kernel_rfl) ?_
          refine AS.op [18] [] [17] [] rfl rfl rfl (by kernel_rfl) (by kernel_rfl) rfl rfl (fun _ _ _ h => AOp.load1 rfl rfl (ltb rfl) rfl agg3 rfl rfl h) (by kernel_rfl) ?_
          refine AS.op [17, 19] [] [17] [] rfl rfl rfl (by kernel_rfl) (by kernel_rfl) rfl rfl (fun _ _ _ h => AOp.indexSl rfl rfl (ltb rfl) rfl rfl el25 q188.1 q188.2 h) (by kernel_rfl) ?_
          refine AS.op [20] [] [17] [] rfl rfl rfl (by kernel_rfl) (by kernel_rfl) rfl rfl (fun _ _ _ h => AOp.load1 rfl rfl (ltb rfl) rfl agg3 rfl (atO q190.2) h) (by kernel_rfl) ?_
          refine AS.op [6, 8] [] [17] [] rfl rfl rfl (by kernel_rfl) (by kernel_rfl) rfl rfl (fun _ _ _ h => AOp.indexSl rfl rfl (ltb rfl) rfl rfl el25 q191.1 q191.2 h) (by kernel_rfl) ?_
          refine AS.mid0 [16, 22] [] [17] [] rfl rfl rfl rfl (by kernel_rfl) (by kernel_rfl) rfl rfl (fun _ _ _ h => AOp.storeL (f := fun z => SV.d (keS0 z)) (l := ((g113.2.2.set ((1 : Int)).toNat x175).set ((2 : Int)).toNat x178)) (i := ((0 : Int)).toNat) (v := x186) rfl rfl rfl rfl size3 rfl rfl rfl q192 (AO.dropT h)) (by kernel_rfl) rfl ?_
          refine AS.done ?_
          refine AO.objs (obs' := [.fix 25 [.d (.v (.slice none 0 0))], .fix 4 [.d (dbool false)], .dead, .fix 38 [.d (di .i64 a1)], .fix 38 [.d (di .i64 a1)], .fix 38 [.d (di .i64 a1)], .frame fr107 [(6, .ptr 0 0), (7, .ptr 1 0)], .fix 38 [.d (di .i64 a1)], .fix 3 (List.map sS0 (((g113.2.2.set ((1 : Int)).toNat x175).set ((2 : Int)).toNat x178).set ((0 : Int)).toNat x186)), .frame fr117 [(1, .sl 8 1 0 (((3 : Int)).toNat) (((3 : Int)).toNat)), (2, .d (di .i64 g113.1)), (3, .ptr 7 0), (7, .d (di .i64 g113.2.1)), (8, .d (di .i64 (bits .and .i64 g113.1 (7 : Int))))], .fix 38 [.d (di .i64 a1)], .frame fr172 [], .fix 50 [.d (di .i64 (0 : Int)), .d (di .i64 (2 : Int))], .fix 50 [.d (di .i64 (1 : Int)), .d (di .i64 (2 : Int))], .dead, .fix 50 [.d (di .i64 (1 : Int)), .d (di .i64 (2 : Int))], .frame fr184 [], .fix 50 [.d (di .i64 (0 : Int)), .d (di .i64 (2 : Int))]]) rfl ?_
          obtain ⟨q193, h1⟩ := need_elim h1
          refine AO.op rfl (AOp.indexSl rfl rfl (ltb rfl) rfl rfl el25 q193.1 q193.2 ?_)
          obtain ⟨q194, h1⟩ := need_elim h1
          refine AO.op rfl (AOp.storeL (f := fun z => SV.d (keS0 z)) (l := (((g113.2.2.set ((1 : Int)).toNat x175).set ((2 : Int)).toNat x178).set ((0 : Int)).toNat x186)) (i := ((2 : Int)).toNat) (v := x189) rfl rfl rfl rfl size3 rfl rfl rfl q194 ?_)
          refine AO.nil ?_
          refine inlend (ob' := [.fix 25 [.d (.v (.slice none 0 0))], .fix 4 [.d (dbool false)], .dead, .fix 38 [.d (di .i64 a1)], .fix 38 [.d (di .i64 a1)], .fix 38 [.d (di .i64 a1)], .frame fr107 [(6, .ptr 0 0), (7, .ptr 1 0)], .fix 38 [.d (di .i64 a1)], .fix 3 (List.map sS0 ((((g113.2.2.set ((1 : Int)).toNat x175).set ((2 : Int)).toNat x178).set ((0 : Int)).toNat x186).set ((2 : Int)).toNat x189)), .frame fr117 [(1, .sl 8 1 0 (((3 : Int)).toNat) (((3 : Int)).toNat)), (2, .d (di .i64 g113.1)), (3, .ptr 7 0), (7, .d (di .i64 g113.2.1)), (8, .d (di .i64 (bits .and .i64 g113.1 (7 : Int))))], .fix 38 [.d (di .i64 a1)], .frame fr172 [], .fix 50 [.d (di .i64 (0 : Int)), .d (di .i64 (2 : Int))], .fix 50 [.d (di .i64 (1 : Int)), .d (di .i64 (2 : Int))], .dead, .fix 50 [.d (di .i64 (1 : Int)), .d (di .i64 (2 : Int))], .dead, .fix 50 [.d (di .i64 (0 : Int)), .d (di .i64 (2 : Int))]]) (e' := []) (r := .tu []) rfl rfl rfl ?_
          change AO _ _ _ _ _
          refine AO.nil ?_
          refine inlend (ob' := [.fix 25 [.d (.v (.slice none 0 0))], .fix 4 [.d (dbool false)], .dead, .fix 38 [.d (di .i64 a1)], .fix 38 [.d (di .i64 a1)], .fix 38 [.d (di .i64 a1)], .frame fr107 [(6, .ptr 0 0), (7, .ptr 1 0)], .fix 38 [.d (di .i64 a1)], .fix 3 (List.map sS0 ((((g113.2.2.set ((1 : Int)).toNat x175).set ((2 : Int)).toNat x178).set ((0 : Int)).toNat x186).set ((2 : Int)).toNat x189)), .frame fr117 [(1, .sl 8 1 0 (((3 : Int)).toNat) (((3 : Int)).toNat)), (2, .d (di .i64 g113.1)), (3, .ptr 7 0), (7, .d (di .i64 g113.2.1)), (8, .d (di .i64 (bits .and .i64 g113.1 (7 : Int))))], .fix 38 [.d (di .i64 a1)], .dead, .fix 50 [.d (di .i64 (0 : Int)), .d (di .i64 (2 : Int))], .fix 50 [.d (di .i64 (1 : Int)), .d (di .i64 (2 : Int))], .dead, .fix 50 [.d (di .i64 (1 : Int)), .d (di .i64 (2 : Int))], .dead, .fix 50 [.d (di .i64 (0 : Int)), .d (di .i64 (2 : Int))]]) (e' := []) (r := .tu []) rfl rfl rfl ?_
          change AO _ _ _ _ _
          refine AO.nil ?_
          refine inlend (ob' := [.fix 25 [.d (.v (.slice none 0 0))], .fix 4 [.d (dbool false)], .dead, .fix 38 [.d (di .i64 a1)], .fix 38 [.d (di .i64 a1)], .fix 38 [.d (di .i64 a1)], .frame fr107 [(6, .ptr 0 0), (7, .ptr 1 0)], .fix 38 [.d (di .i64 a1)], .fix 3 (List.map sS0 ((((g113.2.2.set ((1 : Int)).toNat x175).set ((2 : Int)).toNat x178).set ((0 : Int)).toNat x186).set ((2 : Int)).toNat x189)), .dead, .fix 38 [.d (di .i64 a1)], .dead, .fix 50 [.d (di .i64 (0 : Int)), .d (di .i64 (2 : Int))], .fix 50 [.d (di .i64 (1 : Int)), .d (di .i64 (2 : Int))], .dead, .fix 50 [.d (di .i64 (1 : Int)), .d (di .i64 (2 : Int))], .dead, .fix 50 [.d (di .i64 (0 : Int)), .d (di .i64 (2 : Int))]]) (e' := [(1, .sl 8 1 0 (((3 : Int)).toNat) (((3 : Int)).toNat)), (2, .d (di .i64 g113.1)), (3, .ptr 7 0), (7, .d (di .i64 g113.2.1)), (8, .d (di .i64 (bits .and .i64 g113.1 (7 : Int))))]) (r := .tu []) rfl rfl rfl ?_
          change AO _ _ _ _ _
          refine AO.nil ?_
          change AC _ _ _ _
          refine AC.seq ?_
          refine AC.region ?_
          refine AO.op rfl (AOp.move rfl rfl (ltb rfl) rfl ?_)
          obtain ⟨q195, h1⟩ := need_elim h1
          refine AO.op rfl (AOp.ishr (n := 2) rfl rfl (ltb rfl) rfl rfl (by decide) q195 rfl ?_)
          refine AO.op rfl (AOp.assign rfl rfl (ltb rfl) rfl ?_)
          refine AO.nil ?_
          change AC _ _ _ _
          refine AC.seq ?_
          refine AC.region ?_
          refine AO.op rfl (AOp.move rfl rfl (ltb rfl) rfl ?_)
          obtain ⟨q196, h1⟩ := need_elim h1
          refine AO.op rfl (AOp.ishr (n := 1) rfl rfl (ltb rfl) rfl rfl (by decide) q196 rfl ?_)
          refine AO.op rfl (AOp.move rfl rfl (ltb rfl) rfl ?_)
          obtain ⟨q197, h1⟩ := need_elim h1
          refine AO.op rfl (AOp.ishr (n := 2) rfl rfl (ltb rfl) rfl rfl (by decide) q197 rfl ?_)
          refine AO.op rfl (AOp.ibits (by simp) rfl rfl (ltb rfl) rfl rfl rfl ?_)
          refine AO.op rfl (AOp.ibits (by simp) rfl rfl (ltb rfl) rfl rfl rfl ?_)
          refine AO.op rfl (AOp.assign rfl rfl (ltb rfl) rfl ?_)
          refine AO.nil ?_
          change AC _ _ _ _
          refine AC.seq ?_
          refine AC.region ?_
          refine AO.op rfl (AOp.move rfl rfl (ltb rfl) rfl ?_)
          obtain ⟨q198, h1⟩ := need_elim h1
          refine AO.op rfl (AOp.ishr (n := 0) rfl rfl (ltb rfl) rfl rfl (by decide) q198 rfl ?_)
          refine AO.op rfl (AOp.move rfl rfl (ltb rfl) rfl ?_)
          obtain ⟨q199, h1⟩ := need_elim h1
          refine AO.op rfl (AOp.ishr (n := 1) rfl rfl (ltb rfl) rfl rfl (by decide) q199 rfl ?_)
          refine AO.op rfl (AOp.ibits (by simp) rfl rfl (ltb rfl) rfl rfl rfl ?_)
          refine AO.op rfl (AOp.ibits (by simp) rfl rfl (ltb rfl) rfl rfl rfl ?_)
          refine AO.op rfl (AOp.assign rfl rfl (ltb rfl) rfl ?_)
          refine AO.nil ?_
          change AC _ _ _ _
          refine AC.seq ?_
          refine AC.draw 8 mixed (by kernel_rfl) ?_
          refine AD.op [1] rfl (by kernel_rfl) rfl rfl (fun _ _ h => AOp.move rfl rfl (ltb rfl) rfl h) ?_
          obtain ⟨q200, h1⟩ := need_elim h1
          refine AD.op [47] rfl (by kernel_rfl) rfl rfl (fun _ _ h => AOp.indexSl rfl rfl (ltb rfl) rfl rfl el25 q200.1 q200.2 h) ?_
          obtain ⟨x201, q202, h1⟩ := idx_elim h1
          refine AD.op [48] rfl (by kernel_rfl) rfl rfl (fun _ _ h => AOp.load1 rfl rfl (ltb rfl) rfl agg3 rfl (atO q202.2) h) ?_
          refine AD.op [11] rfl (by kernel_rfl) rfl rfl (fun _ _ h => AOp.move rfl rfl (ltb rfl) rfl h) ?_
          refine AD.op [7] rfl (by kernel_rfl) rfl rfl (fun _ _ h => AOp.move rfl rfl (ltb rfl) rfl h) ?_
          obtain ⟨q203, h1⟩ := need_elim h1
          refine AD.op [50, 51] rfl (by kernel_rfl) rfl rfl (fun _ _ h => AOp.ishl' rfl rfl (ltb rfl) rfl rfl q203 h) ?_
          obtain ⟨q204, h1⟩ := need_elim h1
          refine AD.op [49, 52] rfl (by kernel_rfl) rfl rfl (fun _ _ h => AOp.iadd rfl rfl (ltb rfl) rfl rfl rfl q204.1 q204.2 h) ?_
          obtain ⟨q205, h1⟩ := need_elim h1
          refine AD.op [47] rfl (by kernel_rfl) rfl rfl (fun _ _ h => AOp.indexSl rfl rfl (ltb rfl) rfl rfl el25 q205.1 q205.2 h) ?_
          refine AD.done ?_
          obtain ⟨q206, h1⟩ := need_elim h1
          refine AO.op rfl (AOp.storeL (f := fun z => SV.d (keS0 z)) (l := ((((g113.2.2.set ((1 : Int)).toNat x175).set ((2 : Int)).toNat x178).set ((0 : Int)).toNat x186).set ((2 : Int)).toNat x189)) (i := ((0 : Int)).toNat) (v := (x201 + (IntKind.i64.wrap ((bits .and .i64 (bits .xor .i64 ((bits .and .i64 g113.1 (7 : Int)) / 2 ^ 0) ((bits .and .i64 g113.1 (7 : Int)) / 2 ^ 1)) (1 : Int)) * 2 ^ (g113.2.1).toNat)))) rfl rfl rfl rfl size3 rfl rfl rfl q206 ?_)
          refine AO.nil ?_
          change AC _ _ _ _
          refine AC.seq ?_
          refine AC.draw 8 mixed (by kernel_rfl) ?_
          refine AD.op [1] rfl (by kernel_rfl) rfl rfl (fun _ _ h => AOp.move rfl rfl (ltb rfl) rfl h) ?_
          obtain ⟨q207, h1⟩ := need_elim h1
          refine AD.op [55] rfl (by kernel_rfl) rfl rfl (fun _ _ h => AOp.indexSl rfl rfl (ltb rfl) rfl rfl el25 q207.1 q207.2 h) ?_
          obtain ⟨x208, q209, h1⟩ := idx_elim h1
          refine AD.op [56] rfl (by kernel_rfl) rfl rfl (fun _ _ h => AOp.load1 rfl rfl (ltb rfl) rfl agg3 rfl (atO q209.2) h) ?_
          refine AD.op [10] rfl (by kernel_rfl) rfl rfl (fun _ _ h => AOp.move rfl rfl (ltb rfl) rfl h) ?_
          refine AD.op [7] rfl (by kernel_rfl) rfl rfl (fun _ _ h => AOp.move rfl rfl (ltb rfl) rfl h) ?_
          obtain ⟨q210, h1⟩ := need_elim h1
          refine AD.op [58, 59] rfl (by kernel_rfl) rfl rfl (fun _ _ h => AOp.ishl' rfl rfl (ltb rfl) rfl rfl q210 h) ?_
          obtain ⟨q211, h1⟩ := need_elim h1
          refine AD.op [57, 60] rfl (by kernel_rfl) rfl rfl (fun _ _ h => AOp.iadd rfl rfl (ltb rfl) rfl rfl rfl q211.1 q211.2 h) ?_
          obtain ⟨q212, h1⟩ := need_elim h1
          refine AD.op [55] rfl (by kernel_rfl) rfl rfl (fun _ _ h => AOp.indexSl rfl rfl (ltb rfl) rfl rfl el25 q212.1 q212.2 h) ?_
          refine AD.done ?_
          obtain ⟨q213, h1⟩ := need_elim h1
          refine AO.op rfl (AOp.storeL (f := fun z => SV.d (keS0 z)) (l := (((((g113.2.2.set ((1 : Int)).toNat x175).set ((2 : Int)).toNat x178).set ((0 : Int)).toNat x186).set ((2 : Int)).toNat x189).set ((0 : Int)).toNat (x201 + (IntKind.i64.wrap ((bits .and .i64 (bits .xor .i64 ((bits .and .i64 g113.1 (7 : Int)) / 2 ^ 0) ((bits .and .i64 g113.1 (7 : Int)) / 2 ^ 1)) (1 : Int)) * 2 ^ (g113.2.1).toNat))))) (i := ((1 : Int)).toNat) (v := (x208 + (IntKind.i64.wrap ((bits .and .i64 (bits .xor .i64 ((bits .and .i64 g113.1 (7 : Int)) / 2 ^ 1) ((bits .and .i64 g113.1 (7 : Int)) / 2 ^ 2)) (1 : Int)) * 2 ^ (g113.2.1).toNat)))) rfl rfl rfl rfl size3 rfl rfl rfl q213 ?_)
          refine AO.nil ?_
          change AC _ _ _ _
          refine AC.seq ?_
          refine AC.draw 8 mixed (by kernel_rfl) ?_
          refine AD.op [1] rfl (by kernel_rfl) rfl rfl (fun _ _ h => AOp.move rfl rfl (ltb rfl) rfl h) ?_
          obtain ⟨q214, h1⟩ := need_elim h1
          refine AD.op [63] rfl (by kernel_rfl) rfl rfl (fun _ _ h => AOp.indexSl rfl rfl (ltb rfl) rfl rfl el25 q214.1 q214.2 h) ?_
          obtain ⟨x215, q216, h1⟩ := idx_elim h1
          refine AD.op [64] rfl (by kernel_rfl) rfl rfl (fun _ _ h => AOp.load1 rfl rfl (ltb rfl) rfl agg3 rfl (atO q216.2) h) ?_
          refine AD.op [9] rfl (by kernel_rfl) rfl rfl (fun _ _ h => AOp.move rfl rfl (ltb rfl) rfl h) ?_
          refine AD.op [7] rfl (by kernel_rfl) rfl rfl (fun _ _ h => AOp.move rfl rfl (ltb rfl) rfl h) ?_
          obtain ⟨q217, h1⟩ := need_elim h1
          refine AD.op [66, 67] rfl (by kernel_rfl) rfl rfl (fun _ _ h => AOp.ishl' rfl rfl (ltb rfl) rfl rfl q217 h) ?_
          obtain ⟨q218, h1⟩ := need_elim h1
          refine AD.op [65, 68] rfl (by kernel_rfl) rfl rfl (fun _ _ h => AOp.iadd rfl rfl (ltb rfl) rfl rfl rfl q218.1 q218.2 h) ?_
          obtain ⟨q219, h1⟩ := need_elim h1
          refine AD.op [63] rfl (by kernel_rfl) rfl rfl (fun _ _ h => AOp.indexSl rfl rfl (ltb rfl) rfl rfl el25 q219.1 q219.2 h) ?_
          refine AD.done ?_
          obtain ⟨q220, h1⟩ := need_elim h1
          refine AO.op rfl (AOp.storeL (f := fun z => SV.d (keS0 z)) (l := ((((((g113.2.2.set ((1 : Int)).toNat x175).set ((2 : Int)).toNat x178).set ((0 : Int)).toNat x186).set ((2 : Int)).toNat x189).set ((0 : Int)).toNat (x201 + (IntKind.i64.wrap ((bits .and .i64 (bits .xor .i64 ((bits .and .i64 g113.1 (7 : Int)) / 2 ^ 0) ((bits .and .i64 g113.1 (7 : Int)) / 2 ^ 1)) (1 : Int)) * 2 ^ (g113.2.1).toNat)))).set ((1 : Int)).toNat (x208 + (IntKind.i64.wrap ((bits .and .i64 (bits .xor .i64 ((bits .and .i64 g113.1 (7 : Int)) / 2 ^ 1) ((bits .and .i64 g113.1 (7 : Int)) / 2 ^ 2)) (1 : Int)) * 2 ^ (g113.2.1).toNat))))) (i := ((2 : Int)).toNat) (v := (x215 + (IntKind.i64.wrap (((bits .and .i64 g113.1 (7 : Int)) / 2 ^ 2) * 2 ^ (g113.2.1).toNat)))) rfl rfl rfl rfl size3 rfl rfl rfl q220 ?_)
          refine AO.nil ?_
          change AC _ _ _ _
          refine AC.region ?_
          refine AO.op rfl (AOp.move rfl rfl (ltb rfl) rfl ?_)
          obtain ⟨q221, h1⟩ := need_elim h1
          refine AO.op rfl (AOp.ishr (n := 3) rfl rfl (ltb rfl) rfl rfl (by decide) q221 rfl ?_)
          refine AO.op rfl (AOp.assign rfl rfl (ltb rfl) rfl ?_)
          refine AO.nil ?_
          change AC _ _ _ _
          refine AC.region ?_
          refine AO.op rfl (AOp.move rfl rfl (ltb rfl) rfl ?_)
          obtain ⟨q222, h1⟩ := need_elim h1
          refine AO.op rfl (AOp.iadd rfl rfl (ltb rfl) rfl rfl rfl q222.1 q222.2 ?_)
          refine AO.op rfl (AOp.assign rfl rfl (ltb rfl) rfl ?_)
          refine AO.nil ?_
          exact ⟨((g113.1 / 2 ^ 3), (g113.2.1 + (1 : Int)), (((((((g113.2.2.set ((1 : Int)).toNat x175).set ((2 : Int)).toNat x178).set ((0 : Int)).toNat x186).set ((2 : Int)).toNat x189).set ((0 : Int)).toNat (x201 + (IntKind.i64.wrap ((bits .and .i64 (bits .xor .i64 ((bits .and .i64 g113.1 (7 : Int)) / 2 ^ 0) ((bits .and .i64 g113.1 (7 : Int)) / 2 ^ 1)) (1 : Int)) * 2 ^ (g113.2.1).toNat)))).set ((1 : Int)).toNat (x208 + (IntKind.i64.wrap ((bits .and .i64 (bits .xor .i64 ((bits .and .i64 g113.1 (7 : Int)) / 2 ^ 1) ((bits .and .i64 g113.1 (7 : Int)) / 2 ^ 2)) (1 : Int)) * 2 ^ (g113.2.1).toNat)))).set ((2 : Int)).toNat (x215 + (IntKind.i64.wrap (((bits .and .i64 g113.1 (7 : Int)) / 2 ^ 2) * 2 ^ (g113.2.1).toNat))))), _, rfl, (LeL.refl _), rfl, (okU_mk rfl (okU_cons rfl (okU_cons rfl (okU_cons rfl (okU_cons rfl (okU_cons rfl (okU_cons rfl (okU_cons rfl (okU_cons rfl (okU_cons (okU_fixl (fun _ => rfl)) okU_nil)))))))))), h1⟩
        replace h1 := cF h1 q171
        refine AC.joinP (V := Bool) [1, 2, 3, 10] [28] 11 (fun g223 => [(28, .d (dbool g223))]) (fun g223 => [.fix 25 [.d (.v (.slice none 0 0))], .fix 4 [.d (dbool false)], .dead, .fix 38 [.d (di .i64 a1)], .fix 38 [.d (di .i64 a1)], .fix 38 [.d (di .i64 a1)], .frame fr107 [(6, .ptr 0 0), (7, .ptr 1 0)], .fix 38 [.d (di .i64 a1)], .fix 3 (List.map sS0 g113.2.2), .frame fr117 [(1, .sl 8 1 0 (((3 : Int)).toNat) (((3 : Int)).toNat)), (2, .d (di .i64 g113.1)), (3, .ptr 7 0), (7, .d (di .i64 g113.2.1)), (8, .d (di .i64 (bits .and .i64 g113.1 (7 : Int))))], .fix 38 [.d (di .i64 a1)]]) (fun g223 => (p_HCoord_k6 g113 (iter (p_HCoord_l4 a1) n115)) g223 = some o109) rfl ?_ ?_
        · refine AC.seq ?_
          refine AC.region ?_
          refine AO.op rfl (AOp.ieql rfl rfl (ltb rfl) rfl rfl ?_)
          refine AO.op rfl (AOp.assign rfl rfl (ltb rfl) rfl ?_)
          refine AO.nil ?_
          change AC _ _ _ _
          refine AC.cond rfl (fun q418 => ?_) (fun q418 => ?_)
          · replace h1 := cT h1 q418
            refine AC.skip ?_
            exact ⟨(decide ((bits .and .i64 g113.1 (7 : Int)) = (3 : Int))), _, rfl, (LeL.refl _), rfl, (okU_mk rfl (okU_cons rfl (okU_cons rfl (okU_cons rfl (okU_cons rfl (okU_cons rfl (okU_cons rfl (okU_cons rfl (okU_cons rfl (okU_cons (okU_fixl (fun _ => rfl)) (okU_cons rfl (okU_cons rfl okU_nil)))))))))))), h1⟩
          replace h1 := cF h1 q418
          refine AC.region ?_
          refine AO.op rfl (AOp.ieql rfl rfl (ltb rfl) rfl rfl ?_)
          refine AO.op rfl (AOp.assign rfl rfl (ltb rfl) rfl ?_)
          refine AO.nil ?_
          exact ⟨(decide ((bits .and .i64 g113.1 (7 : Int)) = (4 : Int))), _, rfl, (LeL.refl _), rfl, (okU_mk rfl (okU_cons rfl (okU_cons rfl (okU_cons rfl (okU_cons rfl (okU_cons rfl (okU_cons rfl (okU_cons rfl (okU_cons rfl (okU_cons (okU_fixl (fun _ => rfl)) (okU_cons rfl (okU_cons rfl okU_nil)))))))))))), h1⟩
        intro g223 h1
        unfold p_HCoord_k6 at h1
        refine AC.cond rfl (fun q224 => ?_) (fun q224 => ?_)
        · replace h1 := cT h1 q224
          refine AC.region ?_
          refine AO.op rfl (AOp.build rfl rfl (ltb rfl) zero54 rfl places54 rfl rfl ?_)
          refine AO.op rfl (AOp.move rfl rfl (ltb rfl) rfl ?_)
          refine AO.op rfl (AOp.move rfl rfl (ltb rfl) rfl ?_)
          refine AO.op rfl (AOp.inl [] (by kernel_rfl) Tryd.func29 rfl Tryd.ntmps29 rfl rfl (ltb rfl) rfl (leb rfl) rfl ?_)
          intro fr225
          refine AC.seq ?_
          refine AC.region ?_
          refine AO.op rfl (AOp.box rfl rfl (ltb rfl) rfl rfl ?_)
          refine AO.nil ?_
          change AC _ _ _ _
          obtain ⟨q226, h1⟩ := need_elim h1
          obtain ⟨x227, q228, h1⟩ := idx_elim h1
          obtain ⟨q229, h1⟩ := need_elim h1
          obtain ⟨q230, h1⟩ := need_elim h1
          obtain ⟨q231, h1⟩ := need_elim h1
          obtain ⟨x232, q233, h1⟩ := idx_elim h1
          obtain ⟨q234, h1⟩ := need_elim h1
          obtain ⟨q235, h1⟩ := need_elim h1
          obtain ⟨q236, h1⟩ := need_elim h1
          obtain ⟨q237, h1⟩ := need_elim h1
          refine AC.drawS [0, 1, 2, 3, 4, 5, 6, 7, 8, 9, 10, 11, 12, 13, 14, 15, 16, 17, 18, 19, 20, 21, 22, 23, 24, 25] [25] [26, 27] (fun L => [.fix 25 [.d (.v (.slice none 0 0))], .fix 4 [.d (dbool false)], .dead, .fix 38 [.d (di .i64 a1)], .fix 38 [.d (di .i64 a1)], .fix 38 [.d (di .i64 a1)], .frame fr107 [(6, .ptr 0 0), (7, .ptr 1 0)], .fix 38 [.d (di .i64 a1)], bif L 25 then .fix 3 (List.map sS0 (g113.2.2.set ((0 : Int)).toNat (bits .xor .i64 x227 (m1 g113.2.1)))) else .fix 3 (List.map sS0 g113.2.2), .frame fr117 [(1, .sl 8 1 0 (((3 : Int)).toNat) (((3 : Int)).toNat)), (2, .d (di .i64 g113.1)), (3, .ptr 7 0), (7, .d (di .i64 g113.2.1)), (8, .d (di .i64 (bits .and .i64 g113.1 (7 : Int))))], .fix 38 [.d (di .i64 a1)], .frame fr225 [], .fix 54 [.d (di .i64 (0 : Int)), .d (di .i64 (1 : Int))]]) [(25, (fun _ => true))] mixed (by kernel_rfl) (fun L L' h => by simp only [h 25 (by decide)]) rfl ?_
          refine AS.op [2] [] [25] [] rfl rfl rfl (by kernel_rfl) (by kernel_rfl) rfl rfl (fun _ _ _ h => AOp.move rfl rfl (ltb rfl) rfl h) (by kernel_rfl) ?_
          refine AS.op [3] [] [25] [] rfl rfl rfl (by kernel_rfl) (by kernel_rfl) rfl rfl (fun _ _ _ h => AOp.fieldAddr rfl rfl (ltb rfl) rfl fo54_0 h) (by kernel_rfl) ?_
          refine AS.op [7] [] [25] [] rfl rfl rfl (by kernel_rfl) (by kernel_rfl) rfl rfl (fun _ _ _ h => AOp.load1 rfl rfl (ltb rfl) rfl agg3 rfl rfl h) (by kernel_rfl) ?_
          refine AS.op [2] [] [] [25] rfl rfl rfl (by kernel_rfl) (by kernel_rfl) rfl rfl (fun _ _ _ h => AOp.move rfl rfl (ltb rfl) rfl h) (by kernel_rfl) ?_
          refine AS.op [3] [] [] [25] rfl rfl rfl (by kernel_rfl) (by kernel_rfl) rfl rfl (fun _ _ _ h => AOp.fieldAddr rfl rfl (ltb rfl) rfl fo54_1 h) (by kernel_rfl) ?_
          refine AS.op [10] [] [] [25] rfl rfl rfl (by kernel_rfl) (by kernel_rfl) rfl rfl (fun _ _ _ h => AOp.load1 rfl rfl (ltb rfl) rfl agg3 rfl rfl h) (by kernel_rfl) ?_
          refine AS.op [2] [] [25] [] rfl rfl rfl (by kernel_rfl) (by kernel_rfl) rfl rfl (fun _ _ _ h => AOp.move rfl rfl (ltb rfl) rfl h) (by kernel_rfl) ?_
          refine AS.op [3] [] [25] [] rfl rfl rfl (by kernel_rfl) (by kernel_rfl) rfl rfl (fun _ _ _ h => AOp.fieldAddr rfl rfl (ltb rfl) rfl fo54_0 h) (by kernel_rfl) ?_
          refine AS.op [13] [] [25] [] rfl rfl rfl (by kernel_rfl) (by kernel_rfl) rfl rfl (fun _ _ _ h => AOp.load1 rfl rfl (ltb rfl) rfl agg3 rfl rfl h) (by kernel_rfl) ?_
          refine AS.op [12, 14] [] [25] [] rfl rfl rfl (by kernel_rfl) (by kernel_rfl) rfl rfl (fun _ _ _ h => AOp.indexSl rfl rfl (ltb rfl) rfl rfl el25 q226.1 q226.2 h) (by kernel_rfl) ?_
          refine AS.op [15] [] [25] [] rfl rfl rfl (by kernel_rfl) (by kernel_rfl) rfl rfl (fun _ _ _ h => AOp.load1 rfl rfl (ltb rfl) rfl agg3 rfl (atO q228.2) h) (by kernel_rfl) ?_
          refine AS.op [1] [] [25] [] rfl rfl rfl (by kernel_rfl) (by kernel_rfl) rfl rfl (fun _ _ _ h => AOp.move rfl rfl (ltb rfl) rfl h) (by kernel_rfl) ?_
          refine AS.op [17] [] [25] [] rfl rfl rfl (by kernel_rfl) (by kernel_rfl) rfl rfl (fun _ _ _ h => AOp.ishl' rfl rfl (ltb rfl) rfl rfl q229 h) (by kernel_rfl) ?_
          refine AS.op [18] [] [25] [] rfl rfl rfl (by kernel_rfl) (by kernel_rfl) rfl rfl (fun _ _ _ h => AOp.isub rfl rfl (ltb rfl) rfl rfl rfl q230.1 q230.2 h) (by kernel_rfl) ?_
          refine AS.op [16, 19] [] [25] [] rfl rfl rfl (by kernel_rfl) (by kernel_rfl) rfl rfl (fun _ _ _ h => AOp.ibits (by simp) rfl rfl (ltb rfl) rfl rfl rfl h) (by kernel_rfl) ?_
          refine AS.op [2] [] [25] [] rfl rfl rfl (by kernel_rfl) (by kernel_rfl) rfl rfl (fun _ _ _ h => AOp.move rfl rfl (ltb rfl) rfl h) (by kernel_rfl) ?_
          refine AS.op [3] [] [25] [] rfl rfl rfl (by kernel_rfl) (by kernel_rfl) rfl rfl (fun _ _ _ h => AOp.fieldAddr rfl rfl (ltb rfl) rfl fo54_1 h) (by kernel_rfl) ?_
          refine AS.op [22] [] [25] [] rfl rfl rfl (by kernel_rfl) (by kernel_rfl) rfl rfl (fun _ _ _ h => AOp.load1 rfl rfl (ltb rfl) rfl agg3 rfl rfl h) (by kernel_rfl) ?_
          refine AS.op [21, 23] [] [25] [] rfl rfl rfl (by kernel_rfl) (by kernel_rfl) rfl rfl (fun _ _ _ h => AOp.indexSl rfl rfl (ltb rfl) rfl rfl el25 q231.1 q231.2 h) (by kernel_rfl) ?_
          refine AS.op [24] [] [25] [] rfl rfl rfl (by kernel_rfl) (by kernel_rfl) rfl rfl (fun _ _ _ h => AOp.load1 rfl rfl (ltb rfl) rfl agg3 rfl (atO q233.2) h) (by kernel_rfl) ?_
          refine AS.op [1] [] [] [25] rfl rfl rfl (by kernel_rfl) (by kernel_rfl) rfl rfl (fun _ _ _ h => AOp.move rfl rfl (ltb rfl) rfl h) (by kernel_rfl) ?_
          refine AS.op [26] [] [] [25] rfl rfl rfl (by kernel_rfl) (by kernel_rfl) rfl rfl (fun _ _ _ h => AOp.ishl' rfl rfl (ltb rfl) rfl rfl q234 h) (by kernel_rfl) ?_
          refine AS.op [27] [] [] [25] rfl rfl rfl (by kernel_rfl) (by kernel_rfl) rfl rfl (fun _ _ _ h => AOp.isub rfl rfl (ltb rfl) rfl rfl rfl q235.1 q235.2 h) (by kernel_rfl) ?_
          refine AS.op [25, 28] [] [] [25] rfl rfl rfl (by kernel_rfl) (by kernel_rfl) rfl rfl (fun _ _ _ h => AOp.ibits (by simp) rfl rfl (ltb rfl) rfl rfl rfl h) (by kernel_rfl) ?_
          refine AS.op [6, 8] [] [25] [] rfl rfl rfl (by kernel_rfl) (by kernel_rfl) rfl rfl (fun _ _ _ h => AOp.indexSl rfl rfl (ltb rfl) rfl rfl el25 q236.1 q236.2 h) (by kernel_rfl) ?_
          refine AS.mid0 [20, 30] [] [25] [] rfl rfl rfl rfl (by kernel_rfl) (by kernel_rfl) rfl rfl (fun _ _ _ h => AOp.storeL (f := fun z => SV.d (keS0 z)) (l := g113.2.2) (i := ((0 : Int)).toNat) (v := (bits .xor .i64 x227 (m1 g113.2.1))) rfl rfl rfl rfl size3 rfl rfl rfl q237 (AO.dropT h)) (by kernel_rfl) rfl ?_
          refine AS.done ?_
          refine AO.objs (obs' := [.fix 25 [.d (.v (.slice none 0 0))], .fix 4 [.d (dbool false)], .dead, .fix 38 [.d (di .i64 a1)], .fix 38 [.d (di .i64 a1)], .fix 38 [.d (di .i64 a1)], .frame fr107 [(6, .ptr 0 0), (7, .ptr 1 0)], .fix 38 [.d (di .i64 a1)], .fix 3 (List.map sS0 (g113.2.2.set ((0 : Int)).toNat (bits .xor .i64 x227 (m1 g113.2.1)))), .frame fr117 [(1, .sl 8 1 0 (((3 : Int)).toNat) (((3 : Int)).toNat)), (2, .d (di .i64 g113.1)), (3, .ptr 7 0), (7, .d (di .i64 g113.2.1)), (8, .d (di .i64 (bits .and .i64 g113.1 (7 : Int))))], .fix 38 [.d (di .i64 a1)], .frame fr225 [], .fix 54 [.d (di .i64 (0 : Int)), .d (di .i64 (1 : Int))]]) rfl ?_
          obtain ⟨q238, h1⟩ := need_elim h1
          refine AO.op rfl (AOp.indexSl rfl rfl (ltb rfl) rfl rfl el25 q238.1 q238.2 ?_)
          obtain ⟨q239, h1⟩ := need_elim h1
          refine AO.op rfl (AOp.storeL (f := fun z => SV.d (keS0 z)) (l := (g113.2.2.set ((0 : Int)).toNat (bits .xor .i64 x227 (m1 g113.2.1)))) (i := ((1 : Int)).toNat) (v := (bits .xor .i64 x232 (m1 g113.2.1))) rfl rfl rfl rfl size3 rfl rfl rfl q239 ?_)
          refine AO.nil ?_
          refine inlend (ob' := [.fix 25 [.d (.v (.slice none 0 0))], .fix 4 [.d (dbool false)], .dead, .fix 38 [.d (di .i64 a1)], .fix 38 [.d (di .i64 a1)], .fix 38 [.d (di .i64 a1)], .frame fr107 [(6, .ptr 0 0), (7, .ptr 1 0)], .fix 38 [.d (di .i64 a1)], .fix 3 (List.map sS0 ((g113.2.2.set ((0 : Int)).toNat (bits .xor .i64 x227 (m1 g113.2.1))).set ((1 : Int)).toNat (bits .xor .i64 x232 (m1 g113.2.1)))), .frame fr117 [(1, .sl 8 1 0 (((3 : Int)).toNat) (((3 : Int)).toNat)), (2, .d (di .i64 g113.1)), (3, .ptr 7 0), (7, .d (di .i64 g113.2.1)), (8, .d (di .i64 (bits .and .i64 g113.1 (7 : Int))))], .fix 38 [.d (di .i64 a1)], .dead, .fix 54 [.d (di .i64 (0 : Int)), .d (di .i64 (1 : Int))]]) (e' := []) (r := .tu []) rfl rfl rfl ?_
          change AO _ _ _ _ _
          refine AO.nil ?_
          refine inlend (ob' := [.fix 25 [.d (.v (.slice none 0 0))], .fix 4 [.d (dbool false)], .dead, .fix 38 [.d (di .i64 a1)], .fix 38 [.d (di .i64 a1)], .fix 38 [.d (di .i64 a1)], .frame fr107 [(6, .ptr 0 0), (7, .ptr 1 0)], .fix 38 [.d (di .i64 a1)], .fix 3 (List.map sS0 ((g113.2.2.set ((0 : Int)).toNat (bits .xor .i64 x227 (m1 g113.2.1))).set ((1 : Int)).toNat (bits .xor .i64 x232 (m1 g113.2.1)))), .dead, .fix 38 [.d (di .i64 a1)], .dead, .fix 54 [.d (di .i64 (0 : Int)), .d (di .i64 (1 : Int))]]) (e' := [(1, .sl 8 1 0 (((3 : Int)).toNat) (((3 : Int)).toNat)), (2, .d (di .i64 g113.1)), (3, .ptr 7 0), (7, .d (di .i64 g113.2.1)), (8, .d (di .i64 (bits .and .i64 g113.1 (7 : Int))))]) (r := .tu []) rfl rfl rfl ?_
          change AO _ _ _ _ _
          refine AO.nil ?_
          change AC _ _ _ _
          refine AC.seq ?_
          refine AC.region ?_
          refine AO.op rfl (AOp.move rfl rfl (ltb rfl) rfl ?_)
          obtain ⟨q240, h1⟩ := need_elim h1
          refine AO.op rfl (AOp.ishr (n := 2) rfl rfl (ltb rfl) rfl rfl (by decide) q240 rfl ?_)
          refine AO.op rfl (AOp.assign rfl rfl (ltb rfl) rfl ?_)
          refine AO.nil ?_
          change AC _ _ _ _
          refine AC.seq ?_
          refine AC.region ?_
          refine AO.op rfl (AOp.move rfl rfl (ltb rfl) rfl ?_)
          obtain ⟨q241, h1⟩ := need_elim h1
          refine AO.op rfl (AOp.ishr (n := 1) rfl rfl (ltb rfl) rfl rfl (by decide) q241 rfl ?_)
          refine AO.op rfl (AOp.move rfl rfl (ltb rfl) rfl ?_)
          obtain ⟨q242, h1⟩ := need_elim h1
          refine AO.op rfl (AOp.ishr (n := 2) rfl rfl (ltb rfl) rfl rfl (by decide) q242 rfl ?_)
          refine AO.op rfl (AOp.ibits (by simp) rfl rfl (ltb rfl) rfl rfl rfl ?_)
          refine AO.op rfl (AOp.ibits (by simp) rfl rfl (ltb rfl) rfl rfl rfl ?_)
          refine AO.op rfl (AOp.assign rfl rfl (ltb rfl) rfl ?_)
          refine AO.nil ?_
          change AC _ _ _ _
          refine AC.seq ?_
          refine AC.region ?_
          refine AO.op rfl (AOp.move rfl rfl (ltb rfl) rfl ?_)
          obtain ⟨q243, h1⟩ := need_elim h1
          refine AO.op rfl (AOp.ishr (n := 0) rfl rfl (ltb rfl) rfl rfl (by decide) q243 rfl ?_)
          refine AO.op rfl (AOp.move rfl rfl (ltb rfl) rfl ?_)
          obtain ⟨q244, h1⟩ := need_elim h1
          refine AO.op rfl (AOp.ishr (n := 1) rfl rfl (ltb rfl) rfl rfl (by decide) q244 rfl ?_)
          refine AO.op rfl (AOp.ibits (by simp) rfl rfl (ltb rfl) rfl rfl rfl ?_)
          refine AO.op rfl (AOp.ibits (by simp) rfl rfl (ltb rfl) rfl rfl rfl ?_)
          refine AO.op rfl (AOp.assign rfl rfl (ltb rfl) rfl ?_)
          refine AO.nil ?_
          change AC _ _ _ _
          refine AC.seq ?_
          refine AC.draw 8 mixed (by kernel_rfl) ?_
          refine AD.op [1] rfl (by kernel_rfl) rfl rfl (fun _ _ h => AOp.move rfl rfl (ltb rfl) rfl h) ?_
          obtain ⟨q245, h1⟩ := need_elim h1
          refine AD.op [47] rfl (by kernel_rfl) rfl rfl (fun _ _ h => AOp.indexSl rfl rfl (ltb rfl) rfl rfl el25 q245.1 q245.2 h) ?_
          obtain ⟨x246, q247, h1⟩ := idx_elim h1
          refine AD.op [48] rfl (by kernel_rfl) rfl rfl (fun _ _ h => AOp.load1 rfl rfl (ltb rfl) rfl agg3 rfl (atO q247.2) h) ?_
          refine AD.op [11] rfl (by kernel_rfl) rfl rfl (fun _ _ h => AOp.move rfl rfl (ltb rfl) rfl h) ?_
          refine AD.op [7] rfl (by kernel_rfl) rfl rfl (fun _ _ h => AOp.move rfl rfl (ltb rfl) rfl h) ?_
          obtain ⟨q248, h1⟩ := need_elim h1
          refine AD.op [50, 51] rfl (by kernel_rfl) rfl rfl (fun _ _ h => AOp.ishl' rfl rfl (ltb rfl) rfl rfl q248 h) ?_
          obtain ⟨q249, h1⟩ := need_elim h1
          refine AD.op [49, 52] rfl (by kernel_rfl) rfl rfl (fun _ _ h => AOp.iadd rfl rfl (ltb rfl) rfl rfl rfl q249.1 q249.2 h) ?_
          obtain ⟨q250, h1⟩ := need_elim h1
          refine AD.op [47] rfl (by kernel_rfl) rfl rfl (fun _ _ h => AOp.indexSl rfl rfl (ltb rfl) rfl rfl el25 q250.1 q250.2 h) ?_
          refine AD.done ?_
          obtain ⟨q251, h1⟩ := need_elim h1
          refine AO.op rfl (AOp.storeL (f := fun z => SV.d (keS0 z)) (l := ((g113.2.2.set ((0 : Int)).toNat (bits .xor .i64 x227 (m1 g113.2.1))).set ((1 : Int)).toNat (bits .xor .i64 x232 (m1 g113.2.1)))) (i := ((0 : Int)).toNat) (v := (x246 + (IntKind.i64.wrap ((bits .and .i64 (bits .xor .i64 ((bits .and .i64 g113.1 (7 : Int)) / 2 ^ 0) ((bits .and .i64 g113.1 (7 : Int)) / 2 ^ 1)) (1 : Int)) * 2 ^ (g113.2.1).toNat)))) rfl rfl rfl rfl size3 rfl rfl rfl q251 ?_)
          refine AO.nil ?_
          change AC _ _ _ _
          refine AC.seq ?_
          refine AC.draw 8 mixed (by kernel_rfl) ?_
          refine AD.op [1] rfl (by kernel_rfl) rfl rfl (fun _ _ h => AOp.move rfl rfl (ltb rfl) rfl h) ?_
          obtain ⟨q252, h1⟩ := need_elim h1
          refine AD.op [55] rfl (by kernel_rfl) rfl rfl (fun _ _ h => AOp.indexSl rfl rfl (ltb rfl) rfl rfl el25 q252.1 q252.2 h) ?_
          obtain ⟨x253, q254, h1⟩ := idx_elim h1
          refine AD.op [56] rfl (by kernel_rfl) rfl rfl (fun _ _ h => AOp.load1 rfl rfl (ltb rfl) rfl agg3 rfl (atO q254.2) h) ?_
          refine AD.op [10] rfl (by kernel_rfl) rfl rfl (fun _ _ h => AOp.move rfl rfl (ltb rfl) rfl h) ?_
          refine AD.op [7] rfl (by kernel_rfl) rfl rfl (fun _ _ h => AOp.move rfl rfl (ltb rfl) rfl h) ?_
          obtain ⟨q255, h1⟩ := need_elim h1
          refine AD.op [58, 59] rfl (by kernel_rfl) rfl rfl (fun _ _ h => AOp.ishl' rfl rfl (ltb rfl) rfl rfl q255 h) ?_
          obtain ⟨q256, h1⟩ := need_elim h1
          refine AD.op [57, 60] rfl (by kernel_rfl) rfl rfl (fun _ _ h => AOp.iadd rfl rfl (ltb rfl) rfl rfl rfl q256.1 q256.2 h) ?_
          obtain ⟨q257, h1⟩ := need_elim h1
          refine AD.op [55] rfl (by kernel_rfl) rfl rfl (fun _ _ h => AOp.indexSl rfl rfl (ltb rfl) rfl rfl el25 q257.1 q257.2 h) ?_
          refine AD.done ?_
          obtain ⟨q258, h1⟩ := need_elim h1
          refine AO.op rfl (AOp.storeL (f := fun z => SV.d (keS0 z)) (l := (((g113.2.2.set ((0 : Int)).toNat (bits .xor .i64 x227 (m1 g113.2.1))).set ((1 : Int)).toNat (bits .xor .i64 x232 (m1 g113.2.1))).set ((0 : Int)).toNat (x246 + (IntKind.i64.wrap ((bits .and .i64 (bits .xor .i64 ((bits .and .i64 g113.1 (7 : Int)) / 2 ^ 0) ((bits .and .i64 g113.1 (7 : Int)) / 2 ^ 1)) (1 : Int)) * 2 ^ (g113.2.1).toNat))))) (i := ((1 : Int)).toNat) (v := (x253 + (IntKind.i64.wrap ((bits .and .i64 (bits .xor .i64 ((bits .and .i64 g113.1 (7 : Int)) / 2 ^ 1) ((bits .and .i64 g113.1 (7 : Int)) / 2 ^ 2)) (1 : Int)) * 2 ^ (g113.2.1).toNat)))) rfl rfl rfl rfl size3 rfl rfl rfl q258 ?_)
          refine AO.nil ?_
          change AC _ _ _ _
          refine AC.seq ?_
          refine AC.draw 8 mixed (by kernel_rfl) ?_
          refine AD.op [1] rfl (by kernel_rfl) rfl rfl (fun _ _ h => AOp.move rfl rfl (ltb rfl) rfl h) ?_
          obtain ⟨q259, h1⟩ := need_elim h1
          refine AD.op [63] rfl (by kernel_rfl) rfl rfl (fun _ _ h => AOp.indexSl rfl rfl (ltb rfl) rfl rfl el25 q259.1 q259.2 h) ?_
          obtain ⟨x260, q261, h1⟩ := idx_elim h1
          refine AD.op [64] rfl (by kernel_rfl) rfl rfl (fun _ _ h => AOp.load1 rfl rfl (ltb rfl) rfl agg3 rfl (atO q261.2) h) ?_
          refine AD.op [9] rfl (by kernel_rfl) rfl rfl (fun _ _ h => AOp.move rfl rfl (ltb rfl) rfl h) ?_
          refine AD.op [7] rfl (by kernel_rfl) rfl rfl (fun _ _ h => AOp.move rfl rfl (ltb rfl) rfl h) ?_
          obtain ⟨q262, h1⟩ := need_elim h1
          refine AD.op [66, 67] rfl (by kernel_rfl) rfl rfl (fun _ _ h => AOp.ishl' rfl rfl (ltb rfl) rfl rfl q262 h) ?_
          obtain ⟨q263, h1⟩ := need_elim h1
          refine AD.op [65, 68] rfl (by kernel_rfl) rfl rfl (fun _ _ h => AOp.iadd rfl rfl (ltb rfl) rfl rfl rfl q263.1 q263.2 h) ?_
          obtain ⟨q264, h1⟩ := need_elim h1
          refine AD.op [63] rfl (by kernel_rfl) rfl rfl (fun _ _ h => AOp.indexSl rfl rfl (ltb rfl) rfl rfl el25 q264.1 q264.2 h) ?_
          refine AD.done ?_
          obtain ⟨q265, h1⟩ := need_elim h1
          refine AO.op rfl (AOp.storeL (f := fun z => SV.d (keS0 z)) (l := ((((g113.2.2.set ((0 : Int)).toNat (bits .xor .i64 x227 (m1 g113.2.1))).set ((1 : Int)).toNat (bits .xor .i64 x232 (m1 g113.2.1))).set ((0 : Int)).toNat (x246 + (IntKind.i64.wrap ((bits .and .i64 (bits .xor .i64 ((bits .and .i64 g113.1 (7 : Int)) / 2 ^ 0) ((bits .and .i64 g113.1 (7 : Int)) / 2 ^ 1)) (1 : Int)) * 2 ^ (g113.2.1).toNat)))).set ((1 : Int)).toNat (x253 + (IntKind.i64.wrap ((bits .and .i64 (bits .xor .i64 ((bits .and .i64 g113.1 (7 : Int)) / 2 ^ 1) ((bits .and .i64 g113.1 (7 : Int)) / 2 ^ 2)) (1 : Int)) * 2 ^ (g113.2.1).toNat))))) (i := ((2 : Int)).toNat) (v := (x260 + (IntKind.i64.wrap (((bits .and .i64 g113.1 (7 : Int)) / 2 ^ 2) * 2 ^ (g113.2.1).toNat)))) rfl rfl rfl rfl size3 rfl rfl rfl q265 ?_)
          refine AO.nil ?_
          change AC _ _ _ _
          refine AC.region ?_
          refine AO.op rfl (AOp.move rfl rfl (ltb rfl) rfl ?_)
          obtain ⟨q266, h1⟩ := need_elim h1
          refine AO.op rfl (AOp.ishr (n := 3) rfl rfl (ltb rfl) rfl rfl (by decide) q266 rfl ?_)
          refine AO.op rfl (AOp.assign rfl rfl (ltb rfl) rfl ?_)
          refine AO.nil ?_
          change AC _ _ _ _
          refine AC.region ?_
          refine AO.op rfl (AOp.move rfl rfl (ltb rfl) rfl ?_)
          obtain ⟨q267, h1⟩ := need_elim h1
          refine AO.op rfl (AOp.iadd rfl rfl (ltb rfl) rfl rfl rfl q267.1 q267.2 ?_)
          refine AO.op rfl (AOp.assign rfl rfl (ltb rfl) rfl ?_)
          refine AO.nil ?_
          exact ⟨((g113.1 / 2 ^ 3), (g113.2.1 + (1 : Int)), (((((g113.2.2.set ((0 : Int)).toNat (bits .xor .i64 x227 (m1 g113.2.1))).set ((1 : Int)).toNat (bits .xor .i64 x232 (m1 g113.2.1))).set ((0 : Int)).toNat (x246 + (IntKind.i64.wrap ((bits .and .i64 (bits .xor .i64 ((bits .and .i64 g113.1 (7 : Int)) / 2 ^ 0) ((bits .and .i64 g113.1 (7 : Int)) / 2 ^ 1)) (1 : Int)) * 2 ^ (g113.2.1).toNat)))).set ((1 : Int)).toNat (x253 + (IntKind.i64.wrap ((bits .and .i64 (bits .xor .i64 ((bits .and .i64 g113.1 (7 : Int)) / 2 ^ 1) ((bits .and .i64 g113.1 (7 : Int)) / 2 ^ 2)) (1 : Int)) * 2 ^ (g113.2.1).toNat)))).set ((2 : Int)).toNat (x260 + (IntKind.i64.wrap (((bits .and .i64 g113.1 (7 : Int)) / 2 ^ 2) * 2 ^ (g113.2.1).toNat))))), _, rfl, (LeL.refl _), rfl, (okU_mk rfl (okU_cons rfl (okU_cons rfl (okU_cons rfl (okU_cons rfl (okU_cons rfl (okU_cons rfl (okU_cons rfl (okU_cons rfl (okU_cons (okU_fixl (fun _ => rfl)) okU_nil)))))))))), h1⟩
        replace h1 := cF h1 q224
        refine AC.joinP (V := Bool) [1, 2, 3, 10] [35] 11 (fun g268 => [(35, .d (dbool g268))]) (fun g268 => [.fix 25 [.d (.v (.slice none 0 0))], .fix 4 [.d (dbool false)], .dead, .fix 38 [.d (di .i64 a1)], .fix 38 [.d (di .i64 a1)], .fix 38 [.d (di .i64 a1)], .frame fr107 [(6, .ptr 0 0), (7, .ptr 1 0)], .fix 38 [.d (di .i64 a1)], .fix 3 (List.map sS0 g113.2.2), .frame fr117 [(1, .sl 8 1 0 (((3 : Int)).toNat) (((3 : Int)).toNat)), (2, .d (di .i64 g113.1)), (3, .ptr 7 0), (7, .d (di .i64 g113.2.1)), (8, .d (di .i64 (bits .and .i64 g113.1 (7 : Int))))], .fix 38 [.d (di .i64 a1)]]) (fun g268 => (p_HCoord_k7 g113 (iter (p_HCoord_l4 a1) n115)) g268 = some o109) rfl ?_ ?_
        · refine AC.seq ?_
          refine AC.region ?_
          refine AO.op rfl (AOp.ieql rfl rfl (ltb rfl) rfl rfl ?_)
          refine AO.op rfl (AOp.assign rfl rfl (ltb rfl) rfl ?_)
          refine AO.nil ?_
          change AC _ _ _ _
          refine AC.cond rfl (fun q417 => ?_) (fun q417 => ?_)
          · replace h1 := cT h1 q417
            refine AC.skip ?_
            exact ⟨(decide ((bits .and .i64 g113.1 (7 : Int)) = (5 : Int))), _, rfl, (LeL.refl _), rfl, (okU_mk rfl (okU_cons rfl (okU_cons rfl (okU_cons rfl (okU_cons rfl (okU_cons rfl (okU_cons rfl (okU_cons rfl (okU_cons rfl (okU_cons (okU_fixl (fun _ => rfl)) (okU_cons rfl (okU_cons rfl okU_nil)))))))))))), h1⟩
          replace h1 := cF h1 q417
          refine AC.region ?_
          refine AO.op rfl (AOp.ieql rfl rfl (ltb rfl) rfl rfl ?_)
          refine AO.op rfl (AOp.assign rfl rfl (ltb rfl) rfl ?_)
          refine AO.nil ?_
          exact ⟨(decide ((bits .and .i64 g113.1 (7 : Int)) = (6 : Int))), _, rfl, (LeL.refl _), rfl, (okU_mk rfl (okU_cons rfl (okU_cons rfl (okU_cons rfl (okU_cons rfl (okU_cons rfl (okU_cons rfl (okU_cons rfl (okU_cons rfl (okU_cons (okU_fixl (fun _ => rfl)) (okU_cons rfl (okU_cons rfl okU_nil)))))))))))), h1⟩
        intro g268 h1
        unfold p_HCoord_k7 at h1
        refine AC.cond rfl (fun q269 => ?_) (fun q269 => ?_)
        · replace h1 := cT h1 q269
          refine AC.region ?_
          refine AO.op rfl (AOp.move rfl rfl (ltb rfl) rfl ?_)
          refine AO.op rfl (AOp.move rfl rfl (ltb rfl) rfl ?_)
          refine AO.op rfl (AOp.move rfl rfl (ltb rfl) rfl ?_)
          refine AO.op rfl (AOp.build rfl rfl (ltb rfl) zero52 rfl places52 rfl rfl ?_)
          refine AO.op rfl (AOp.build rfl rfl (ltb rfl) zero52 rfl places52 rfl rfl ?_)
          refine AO.op rfl (AOp.inl [] (by kernel_rfl) Tryd.func30 rfl Tryd.ntmps30 rfl rfl (ltb rfl) rfl (leb rfl) rfl ?_)
          intro fr270
          refine AC.seq ?_
          refine AC.region ?_
          refine AO.op rfl (AOp.box rfl rfl (ltb rfl) rfl rfl ?_)
          refine AO.op rfl (AOp.box rfl rfl (ltb rfl) rfl rfl ?_)
          refine AO.nil ?_
          change AC _ _ _ _
          refine AC.seq ?_
          refine AC.region ?_
          refine AO.op rfl (AOp.move rfl rfl (ltb rfl) rfl ?_)
          refine AO.nil ?_
          change AC _ _ _ _
          refine AC.condT rfl rfl ?_
          refine AC.seq ?_
          refine AC.region ?_
          refine AO.op rfl (AOp.loadN rfl rfl (ltb rfl) rfl agg52 size52 rfl (leb rfl) rfl ?_)
          refine AO.op rfl (AOp.makeIfc rfl rfl (ltb rfl) rfl conc52 ?_)
          refine AO.op rfl (AOp.move rfl rfl (ltb rfl) rfl ?_)
          refine AO.op rfl (AOp.move rfl rfl (ltb rfl) rfl ?_)
          refine AO.op rfl (AOp.inlE [1, 2, 8] (EntersS.meth (by kernel_rfl) rfl rfl rfl meth52_pub_orthodrome_pub_gonum_spatial_curve_do rfl rfl) Tryd.func27 rfl Tryd.ntmps27 rfl (ltb rfl) (leb rfl) rfl ?_)
          intro fr271
          refine AC.seq ?_
          refine AC.region ?_
          refine AO.op rfl (AOp.box rfl rfl (ltb rfl) rfl rfl ?_)
          refine AO.nil ?_
          change AC _ _ _ _
          obtain ⟨q272, h1⟩ := need_elim h1
          obtain ⟨x273, q274, h1⟩ := idx_elim h1
          obtain ⟨q275, h1⟩ := need_elim h1
          obtain ⟨q276, h1⟩ := need_elim h1
          obtain ⟨q277, h1⟩ := need_elim h1
          obtain ⟨x278, q279, h1⟩ := idx_elim h1
          obtain ⟨q280, h1⟩ := need_elim h1
          obtain ⟨q281, h1⟩ := need_elim h1
          obtain ⟨q282, h1⟩ := need_elim h1
          obtain ⟨q283, h1⟩ := need_elim h1
          refine AC.drawS [0, 1, 2, 3, 4, 5, 6, 7, 8, 9, 10, 11, 12, 13, 14, 15, 16, 17, 18, 19, 20, 21, 22, 23, 24, 25] [25] [26, 27] (fun L => [.fix 25 [.d (.v (.slice none 0 0))], .fix 4 [.d (dbool false)], .dead, .fix 38 [.d (di .i64 a1)], .fix 38 [.d (di .i64 a1)], .fix 38 [.d (di .i64 a1)], .frame fr107 [(6, .ptr 0 0), (7, .ptr 1 0)], .fix 38 [.d (di .i64 a1)], bif L 25 then .fix 3 (List.map sS0 (g113.2.2.set ((1 : Int)).toNat (bits .xor .i64 x273 (m1 g113.2.1)))) else .fix 3 (List.map sS0 g113.2.2), .frame fr117 [(1, .sl 8 1 0 (((3 : Int)).toNat) (((3 : Int)).toNat)), (2, .d (di .i64 g113.1)), (3, .ptr 7 0), (7, .d (di .i64 g113.2.1)), (8, .d (di .i64 (bits .and .i64 g113.1 (7 : Int))))], .fix 38 [.d (di .i64 a1)], .frame fr270 [], .fix 52 [.d (di .i64 (0 : Int)), .d (di .i64 (2 : Int))], .fix 52 [.d (di .i64 (1 : Int)), .d (di .i64 (2 : Int))], .frame fr271 [(1, .d (di .i64 g113.2.1)), (2, .sl 8 1 0 (((3 : Int)).toNat) (((3 : Int)).toNat)), (8, .ptr 12 0)], .fix 52 [.d (di .i64 (1 : Int)), .d (di .i64 (2 : Int))]]) [(25, (fun _ => true))] mixed (by kernel_rfl) (fun L L' h => by simp only [h 25 (by decide)]) rfl ?_
          refine AS.op [2] [] [25] [] rfl rfl rfl (by kernel_rfl) (by kernel_rfl) rfl rfl (fun _ _ _ h => AOp.move rfl rfl (ltb rfl) rfl h) (by kernel_rfl) ?_
          refine AS.op [3] [] [25] [] rfl rfl rfl (by kernel_rfl) (by kernel_rfl) rfl rfl (fun _ _ _ h => AOp.fieldAddr rfl rfl (ltb rfl) rfl fo52_0 h) (by kernel_rfl) ?_
          refine AS.op [7] [] [25] [] rfl rfl rfl (by kernel_rfl) (by kernel_rfl) rfl rfl (fun _ _ _ h => AOp.load1 rfl rfl (ltb rfl) rfl agg3 rfl rfl h) (by kernel_rfl) ?_
          refine AS.op [2] [] [] [25] rfl rfl rfl (by kernel_rfl) (by kernel_rfl) rfl rfl (fun _ _ _ h => AOp.move rfl rfl (ltb rfl) rfl h) (by kernel_rfl) ?_
          refine AS.op [3] [] [] [25] rfl rfl rfl (by kernel_rfl) (by kernel_rfl) rfl rfl (fun _ _ _ h => AOp.fieldAddr rfl rfl (ltb rfl) rfl fo52_1 h) (by kernel_rfl) ?_
          refine AS.op [10] [] [] [25] rfl rfl rfl (by kernel_rfl) (by kernel_rfl) rfl rfl (fun _ _ _ h => AOp.load1 rfl rfl (ltb rfl) rfl agg3 rfl rfl h) (by kernel_rfl) ?_
          refine AS.op [2] [] [25] [] rfl rfl rfl (by kernel_rfl) (by kernel_rfl) rfl rfl (fun _ _ _ h => AOp.move rfl rfl (ltb rfl) rfl h) (by kernel_rfl) ?_
          refine AS.op [3] [] [25] [] rfl rfl rfl (by kernel_rfl) (by kernel_rfl) rfl rfl (fun _ _ _ h => AOp.fieldAddr rfl rfl (ltb rfl) rfl fo52_1 h) (by kernel_rfl) ?_
          refine AS.op [13] [] [25] [] rfl rfl rfl (by kernel_rfl) (by kernel_rfl) rfl rfl (fun _ _ _ h => AOp.load1 rfl rfl (ltb rfl) rfl agg3 rfl rfl h) (by kernel_rfl) ?_
          refine AS.op [12, 14] [] [25] [] rfl rfl rfl (by kernel_rfl) (by kernel_rfl) rfl rfl (fun _ _ _ h => AOp.indexSl rfl rfl (ltb rfl) rfl rfl el25 q272.1 q272.2 h) (by kernel_rfl) ?_
          refine AS.op [15] [] [25] [] rfl rfl rfl (by kernel_rfl) (by kernel_rfl) rfl rfl (fun _ _ _ h => AOp.load1 rfl rfl (ltb rfl) rfl agg3 rfl (atO q274.2) h) (by kernel_rfl) ?_
          refine AS.op [1] [] [25] [] rfl rfl rfl (by kernel_rfl) (by kernel_rfl) rfl rfl (fun _ _ _ h => AOp.move rfl rfl (ltb rfl) rfl h) (by kernel_rfl) ?_
          refine AS.op [17] [] [25] [] rfl rfl rfl (by kernel_rfl) (by kernel_rfl) rfl rfl (fun _ _ _ h => AOp.ishl' rfl rfl (ltb rfl) rfl rfl q275 h) (by kernel_rfl) ?_
          refine AS.op [18] [] [25] [] rfl rfl rfl (by kernel_rfl) (by kernel_rfl) rfl rfl (fun _ _ _ h => AOp.isub rfl rfl (ltb rfl) rfl rfl rfl q276.1 q276.2 h) (by kernel_rfl) ?_
          refine AS.op [16, 19] [] [25] [] rfl rfl rfl (by kernel_rfl) (by kernel_rfl) rfl rfl (fun _ _ _ h => AOp.ibits (by simp) rfl rfl (ltb rfl) rfl rfl rfl h) (by kernel_rfl) ?_
          refine AS.op [2] [] [25] [] rfl rfl rfl (by kernel_rfl) (by kernel_rfl) rfl rfl (fun _ _ _ h => AOp.move rfl rfl (ltb rfl) rfl h) (by kernel_rfl) ?_
          refine AS.op [3] [] [25] [] rfl rfl rfl (by kernel_rfl) (by kernel_rfl) rfl rfl (fun _ _ _ h => AOp.fieldAddr rfl rfl (ltb rfl) rfl fo52_0 h) (by kernel_rfl) ?_
          refine AS.op [22] [] [25] [] rfl rfl rfl (by kernel_rfl) (by kernel_rfl) rfl rfl (fun _ _ _ h => AOp.load1 rfl rfl (ltb rfl) rfl agg3 rfl rfl h) (by kernel_rfl) ?_
          refine AS.op [21, 23] [] [25] [] rfl rfl rfl (by kernel_rfl) (by kernel_rfl) rfl rfl (fun _ _ _ h => AOp.indexSl rfl rfl (ltb rfl) rfl rfl el25 q277.1 q277.2 h) (by kernel_rfl) ?_
          refine AS.op [24] [] [25] [] rfl rfl rfl (by kernel_rfl) (by kernel_rfl) rfl rfl (fun _ _ _ h => AOp.load1 rfl rfl (ltb rfl) rfl agg3 rfl (atO q279.2) h) (by kernel_rfl) ?_
          refine AS.op [1] [] [] [25] rfl rfl rfl (by kernel_rfl) (by kernel_rfl) rfl rfl (fun _ _ _ h => AOp.move rfl rfl (ltb rfl) rfl h) (by kernel_rfl) ?_
          refine AS.op [26] [] [] [25] rfl rfl rfl (by kernel_rfl) (by kernel_rfl) rfl rfl (fun _ _ _ h => AOp.ishl' rfl rfl (ltb rfl) rfl rfl q280 h) (by kernel_rfl) ?_
          refine AS.op [27] [] [] [25] rfl rfl rfl (by kernel_rfl) (by kernel_rfl) rfl rfl (fun _ _ _ h => AOp.isub rfl rfl (ltb rfl) rfl rfl rfl q281.1 q281.2 h) (by kernel_rfl) ?_
          refine AS.op [25, 28] [] [] [25] rfl rfl rfl (by kernel_rfl) (by kernel_rfl) rfl rfl (fun _ _ _ h => AOp.ibits (by simp) rfl rfl (ltb rfl) rfl rfl rfl h) (by kernel_rfl) ?_
          refine AS.op [6, 8] [] [25] [] rfl rfl rfl (by kernel_rfl) (by kernel_rfl) rfl rfl (fun _ _ _ h => AOp.indexSl rfl rfl (ltb rfl) rfl rfl el25 q282.1 q282.2 h) (by kernel_rfl) ?_
          refine AS.mid0 [20, 30] [] [25] [] rfl rfl rfl rfl (by kernel_rfl) (by kernel_rfl) rfl rfl (fun _ _ _ h => AOp.storeL (f := fun z => SV.d (keS0 z)) (l := g113.2.2) (i := ((1 : Int)).toNat) (v := (bits .xor .i64 x273 (m1 g113.2.1))) rfl rfl rfl rfl size3 rfl rfl rfl q283 (AO.dropT h)) (by kernel_rfl) rfl ?_
          refine AS.done ?_
          refine AO.objs (obs' := [.fix 25 [.d (.v (.slice none 0 0))], .fix 4 [.d (dbool false)], .dead, .fix 38 [.d (di .i64 a1)], .fix 38 [.d (di .i64 a1)], .fix 38 [.d (di .i64 a1)], .frame fr107 [(6, .ptr 0 0), (7, .ptr 1 0)], .fix 38 [.d (di .i64 a1)], .fix 3 (List.map sS0 (g113.2.2.set ((1 : Int)).toNat (bits .xor .i64 x273 (m1 g113.2.1)))), .frame fr117 [(1, .sl 8 1 0 (((3 : Int)).toNat) (((3 : Int)).toNat)), (2, .d (di .i64 g113.1)), (3, .ptr 7 0), (7, .d (di .i64 g113.2.1)), (8, .d (di .i64 (bits .and .i64 g113.1 (7 : Int))))], .fix 38 [.d (di .i64 a1)], .frame fr270 [], .fix 52 [.d (di .i64 (0 : Int)), .d (di .i64 (2 : Int))], .fix 52 [.d (di .i64 (1 : Int)), .d (di .i64 (2 : Int))], .frame fr271 [(1, .d (di .i64 g113.2.1)), (2, .sl 8 1 0 (((3 : Int)).toNat) (((3 : Int)).toNat)), (8, .ptr 12 0)], .fix 52 [.d (di .i64 (1 : Int)), .d (di .i64 (2 : Int))]]) rfl ?_
          obtain ⟨q284, h1⟩ := need_elim h1
          refine AO.op rfl (AOp.indexSl rfl rfl (ltb rfl) rfl rfl el25 q284.1 q284.2 ?_)
          obtain ⟨q285, h1⟩ := need_elim h1
          refine AO.op rfl (AOp.storeL (f := fun z => SV.d (keS0 z)) (l := (g113.2.2.set ((1 : Int)).toNat (bits .xor .i64 x273 (m1 g113.2.1)))) (i := ((2 : Int)).toNat) (v := (bits .xor .i64 x278 (m1 g113.2.1))) rfl rfl rfl rfl size3 rfl rfl rfl q285 ?_)
          refine AO.nil ?_
          refine inlend (ob' := [.fix 25 [.d (.v (.slice none 0 0))], .fix 4 [.d (dbool false)], .dead, .fix 38 [.d (di .i64 a1)], .fix 38 [.d (di .i64 a1)], .fix 38 [.d (di .i64 a1)], .frame fr107 [(6, .ptr 0 0), (7, .ptr 1 0)], .fix 38 [.d (di .i64 a1)], .fix 3 (List.map sS0 ((g113.2.2.set ((1 : Int)).toNat (bits .xor .i64 x273 (m1 g113.2.1))).set ((2 : Int)).toNat (bits .xor .i64 x278 (m1 g113.2.1)))), .frame fr117 [(1, .sl 8 1 0 (((3 : Int)).toNat) (((3 : Int)).toNat)), (2, .d (di .i64 g113.1)), (3, .ptr 7 0), (7, .d (di .i64 g113.2.1)), (8, .d (di .i64 (bits .and .i64 g113.1 (7 : Int))))], .fix 38 [.d (di .i64 a1)], .frame fr270 [], .fix 52 [.d (di .i64 (0 : Int)), .d (di .i64 (2 : Int))], .fix 52 [.d (di .i64 (1 : Int)), .d (di .i64 (2 : Int))], .dead, .fix 52 [.d (di .i64 (1 : Int)), .d (di .i64 (2 : Int))]]) (e' := [(1, .d (di .i64 g113.2.1)), (2, .sl 8 1 0 (((3 : Int)).toNat) (((3 : Int)).toNat)), (8, .ptr 12 0)]) (r := .tu []) rfl rfl rfl ?_
          change AO _ _ _ _ _
          refine AO.nil ?_
          change AC _ _ _ _
          refine AC.region ?_
          refine AO.op rfl (AOp.loadN rfl rfl (ltb rfl) rfl agg52 size52 rfl (leb rfl) rfl ?_)
          refine AO.op rfl (AOp.makeIfc rfl rfl (ltb rfl) rfl conc52 ?_)
          refine AO.op rfl (AOp.move rfl rfl (ltb rfl) rfl ?_)
          refine AO.op rfl (AOp.move rfl rfl (ltb rfl) rfl ?_)
          refine AO.op rfl (AOp.inlE [] (EntersS.meth (by kernel_rfl) rfl rfl rfl meth52_pub_orthodrome_pub_gonum_spatial_curve_do rfl rfl) Tryd.func27 rfl Tryd.ntmps27 rfl (ltb rfl) (leb rfl) rfl ?_)
          intro fr286
          refine AC.seq ?_
          refine AC.region ?_
          refine AO.op rfl (AOp.box rfl rfl (ltb rfl) rfl rfl ?_)
          refine AO.nil ?_
          change AC _ _ _ _
          obtain ⟨q287, h1⟩ := need_elim h1
          obtain ⟨x288, q289, h1⟩ := idx_elim h1
          obtain ⟨q290, h1⟩ := need_elim h1
          obtain ⟨q291, h1⟩ := need_elim h1
          obtain ⟨q292, h1⟩ := need_elim h1
          obtain ⟨x293, q294, h1⟩ := idx_elim h1
          obtain ⟨q295, h1⟩ := need_elim h1
          obtain ⟨q296, h1⟩ := need_elim h1
          obtain ⟨q297, h1⟩ := need_elim h1
          obtain ⟨q298, h1⟩ := need_elim h1
          refine AC.drawS [0, 1, 2, 3, 4, 5, 6, 7, 8, 9, 10, 11, 12, 13, 14, 15, 16, 17, 18, 19, 20, 21, 22, 23, 24, 25] [25] [26, 27] (fun L => [.fix 25 [.d (.v (.slice none 0 0))], .fix 4 [.d (dbool false)], .dead, .fix 38 [.d (di .i64 a1)], .fix 38 [.d (di .i64 a1)], .fix 38 [.d (di .i64 a1)], .frame fr107 [(6, .ptr 0 0), (7, .ptr 1 0)], .fix 38 [.d (di .i64 a1)], bif L 25 then .fix 3 (List.map sS0 (((g113.2.2.set ((1 : Int)).toNat (bits .xor .i64 x273 (m1 g113.2.1))).set ((2 : Int)).toNat (bits .xor .i64 x278 (m1 g113.2.1))).set ((0 : Int)).toNat (bits .xor .i64 x288 (m1 g113.2.1)))) else .fix 3 (List.map sS0 ((g113.2.2.set ((1 : Int)).toNat (bits .xor .i64 x273 (m1 g113.2.1))).set ((2 : Int)).toNat (bits .xor .i64 x278 (m1 g113.2.1)))), .frame fr117 [(1, .sl 8 1 0 (((3 : Int)).toNat) (((3 : Int)).toNat)), (2, .d (di .i64 g113.1)), (3, .ptr 7 0), (7, .d (di .i64 g113.2.1)), (8, .d (di .i64 (bits .and .i64 g113.1 (7 : Int))))], .fix 38 [.d (di .i64 a1)], .frame fr270 [], .fix 52 [.d (di .i64 (0 : Int)), .d (di .i64 (2 : Int))], .fix 52 [.d (di .i64 (1 : Int)), .d (di .i64 (2 : Int))], .dead, .fix 52 [.d (di .i64 (1 : Int)), .d (di .i64 (2 : Int))], .frame fr286 [], .fix 52 [.d (di .i64 (0 : Int)), .d (di .i64 (2 : Int))]]) [(25, (fun _ => true))] mixed (by kernel_rfl) (fun L L' h => by simp only [h 25 (by decide)]) rfl ?_
          refine AS.op [2] [] [25] [] rfl rfl rfl (by kernel_rfl) (by kernel_rfl) rfl rfl (fun _ _ _ h => AOp.move rfl rfl (ltb rfl) rfl h) (by kernel_rfl) ?_
          refine AS.op [3] [] [25] [] rfl rfl rfl (by kernel_rfl) (by kernel_rfl) rfl rfl (fun _ _ _ h => AOp.fieldAddr rfl rfl (ltb rfl) rfl fo52_0 h) (by kernel_rfl) ?_
          refine AS.op [7] [] [25] [] rfl rfl rfl (by kernel_rfl) (by kernel_rfl) rfl rfl (fun _ _ _ h => AOp.load1 rfl rfl (ltb rfl) rfl agg3 rfl rfl h) (by kernel_rfl) ?_
          refine AS.op [2] [] [] [25] rfl rfl rfl (by kernel_rfl) (by kernel_rfl) rfl rfl (fun _ _ _ h => AOp.move rfl rfl (ltb rfl) rfl h) (by kernel_rfl) ?_
          refine AS.op [3] [] [] [25] rfl rfl rfl (by kernel_rfl) (by kernel_rfl) rfl rfl (fun _ _ _ h => AOp.fieldAddr rfl rfl (ltb rfl) rfl fo52_1 h) (by kernel_rfl) ?_
          refine AS.op [10] [] [] [25] rfl rfl rfl (by kernel_rfl) (by kernel_rfl) rfl rfl (fun _ _ _ h => AOp.load1 rfl rfl (ltb rfl) rfl agg3 rfl rfl h) (by kernel_rfl) ?_
          refine AS.op [2] [] [25] [] rfl rfl rfl (by kernel_rfl) (by kernel_rfl) rfl rfl (fun _ _ _ h => AOp.move rfl rfl (ltb rfl) rfl h) (by kernel_rfl) ?_
          refine AS.op [3] [] [25] [] rfl rfl rfl (by kernel_rfl) (by kernel_rfl) rfl rfl (fun _ _ _ h => AOp.fieldAddr rfl rfl (ltb rfl) rfl fo52_1 h) (by kernel_rfl) ?_
          refine AS.op [13] [] [25] [] rfl rfl rfl (by kernel_rfl) (by kernel_rfl) rfl rfl (fun _ _ _ h => AOp.load1 rfl rfl (ltb rfl) rfl agg3 rfl rfl h) (by kernel_rfl) ?_
          refine AS.op [12, 14] [] [25] [] rfl rfl rfl (by kernel_rfl) (by kernel_rfl) rfl rfl (fun _ _ _ h => AOp.indexSl rfl rfl (ltb rfl) rfl rfl el25 q287.1 q287.2 h) (by kernel_rfl) ?_
          refine AS.op [15] [] [25] [] rfl rfl rfl (by kernel_rfl) (by kernel_rfl) rfl rfl (fun _ _ _ h => AOp.load1 rfl rfl (ltb rfl) rfl agg3 rfl (atO q289.2) h) (by kernel_rfl) ?_
          refine AS.op [1] [] [25] [] rfl rfl rfl (by kernel_rfl) (by kernel_rfl) rfl rfl (fun _ _ _ h => AOp.move rfl rfl (ltb rfl) rfl h) (by kernel_rfl) ?_
          refine AS.op [17] [] [25] [] rfl rfl rfl (by kernel_rfl) (by kernel_rfl) rfl rfl (fun _ _ _ h => AOp.ishl' rfl rfl (ltb rfl) rfl rfl q290 h) (by kernel_rfl) ?_
          refine AS.op [18] [] [25] [] rfl rfl rfl (by kernel_rfl) (by kernel_rfl) rfl rfl (fun _ _ _ h => AOp.isub rfl rfl (ltb rfl) rfl rfl rfl q291.1 q291.2 h) (by kernel_rfl) ?_
          refine AS.op [16, 19] [] [25] [] rfl rfl rfl (by kernel_rfl) (by kernel_rfl) rfl rfl (fun _ _ _ h => AOp.ibits (by simp) rfl rfl (ltb rfl) rfl rfl rfl h) (by kernel_rfl) ?_
          refine AS.op [2] [] [25] [] rfl rfl rfl (by kernel_rfl) (by kernel_rfl) rfl rfl (fun _ _ _ h => AOp.move rfl rfl (ltb rfl) rfl h) (by kernel_rfl) ?_
          refine AS.op [3] [] [25] [] rfl rfl rfl (by kernel_rfl) (by kernel_rfl) rfl rfl (fun _ _ _ h => AOp.fieldAddr rfl rfl (ltb rfl) rfl fo52_0 h) (by kernel_rfl) ?_
          refine AS.op [22] [] [25] [] rfl rfl rfl (by kernel_rfl) (by kernel_rfl) rfl rfl (fun _ _ _ h => AOp.load1 rfl rfl (ltb rfl) rfl agg3 rfl rfl h) (by kernel_rfl) ?_
          refine AS.op [21, 23] [] [25] [] rfl rfl rfl (by kernel_rfl) (by kernel_rfl) rfl rfl (fun _ _ _ h => AOp.indexSl rfl rfl (ltb rfl) rfl rfl el25 q292.1 q292.2 h) (by kernel_rfl) ?_
          refine AS.op [24] [] [25] [] rfl rfl rfl (by kernel_rfl) (by kernel_rfl) rfl rfl (fun _ _ _ h => AOp.load1 rfl rfl (ltb rfl) rfl agg3 rfl (atO q294.2) h) (by kernel_rfl) ?_
          refine AS.op [1] [] [] [25] rfl rfl rfl (by kernel_rfl) (by kernel_rfl) rfl rfl (fun _ _ _ h => AOp.move rfl rfl (ltb rfl) rfl h) (by kernel_rfl) ?_
          refine AS.op [26] [] [] [25] rfl rfl rfl (by kernel_rfl) (by kernel_rfl) rfl rfl (fun _ _ _ h => AOp.ishl' rfl rfl (ltb rfl) rfl rfl q295 h) (by kernel_rfl) ?_
          refine AS.op [27] [] [] [25] rfl rfl rfl (by kernel_rfl) (by kernel_rfl) rfl rfl (fun _ _ _ h => AOp.isub rfl rfl (ltb rfl) rfl rfl rfl q296.1 q296.2 h) (by kernel_rfl) ?_
          refine AS.op [25, 28] [] [] [25] rfl rfl rfl (by kernel_rfl) (by kernel_rfl) rfl rfl (fun _ _ _ h => AOp.ibits (by simp) rfl rfl (ltb rfl) rfl rfl rfl h) (by kernel_rfl) ?_
          refine AS.op [6, 8] [] [25] [] rfl rfl rfl (by kernel_rfl) (by kernel_rfl) rfl rfl (fun _ _ _ h => AOp.indexSl rfl rfl (ltb rfl) rfl rfl el25 q297.1 q297.2 h) (by kernel_rfl) ?_
          refine AS.mid0 [20, 30] [] [25] [] rfl rfl rfl rfl (by kernel_rfl) (by kernel_rfl) rfl rfl (fun _ _ _ h => AOp.storeL (f := fun z => SV.d (keS0 z)) (l := ((g113.2.2.set ((1 : Int)).toNat (bits .xor .i64 x273 (m1 g113.2.1))).set ((2 : Int)).toNat (bits .xor .i64 x278 (m1 g113.2.1)))) (i := ((0 : Int)).toNat) (v := (bits .xor .i64 x288 (m1 g113.2.1))) rfl rfl rfl rfl size3 rfl rfl rfl q298 (AO.dropT h)) (by kernel_rfl) rfl ?_
          refine AS.done ?_
          refine AO.objs (obs' := [.fix 25 [.d (.v (.slice none 0 0))], .fix 4 [.d (dbool false)], .dead, .fix 38 [.d (di .i64 a1)], .fix 38 [.d (di .i64 a1)], .fix 38 [.d (di .i64 a1)], .frame fr107 [(6, .ptr 0 0), (7, .ptr 1 0)], .fix 38 [.d (di .i64 a1)], .fix 3 (List.map sS0 (((g113.2.2.set ((1 : Int)).toNat (bits .xor .i64 x273 (m1 g113.2.1))).set ((2 : Int)).toNat (bits .xor .i64 x278 (m1 g113.2.1))).set ((0 : Int)).toNat (bits .xor .i64 x288 (m1 g113.2.1)))), .frame fr117 [(1, .sl 8 1 0 (((3 : Int)).toNat) (((3 : Int)).toNat)), (2, .d (di .i64 g113.1)), (3, .ptr 7 0), (7, .d (di .i64 g113.2.1)), (8, .d (di .i64 (bits .and .i64 g113.1 (7 : Int))))], .fix 38 [.d (di .i64 a1)], .frame fr270 [], .fix 52 [.d (di .i64 (0 : Int)), .d (di .i64 (2 : Int))], .fix 52 [.d (di .i64 (1 : Int)), .d (di .i64 (2 : Int))], .dead, .fix 52 [.d (di .i64 (1 : Int)), .d (di .i64 (2 : Int))], .frame fr286 [], .fix 52 [.d (di .i64 (0 : Int)), .d (di .i64 (2 : Int))]]) rfl ?_
          obtain ⟨q299, h1⟩ := need_elim h1
          refine AO.op rfl (AOp.indexSl rfl rfl (ltb rfl) rfl rfl el25 q299.1 q299.2 ?_)
          obtain ⟨q300, h1⟩ := need_elim h1
          refine AO.op rfl (AOp.storeL (f := fun z => SV.d (keS0 z)) (l := (((g113.2.2.set ((1 : Int)).toNat (bits .xor .i64 x273 (m1 g113.2.1))).set ((2 : Int)).toNat (bits .xor .i64 x278 (m1 g113.2.1))).set ((0 : Int)).toNat (bits .xor .i64 x288 (m1 g113.2.1)))) (i := ((2 : Int)).toNat) (v := (bits .xor .i64 x293 (m1 g113.2.1))) rfl rfl rfl rfl size3 rfl rfl rfl q300 ?_)
          refine AO.nil ?_
          refine inlend (ob' := [.fix 25 [.d (.v (.slice none 0 0))], .fix 4 [.d (dbool false)], .dead, .fix 38 [.d (di .i64 a1)], .fix 38 [.d (di .i64 a1)], .fix 38 [.d (di .i64 a1)], .frame fr107 [(6, .ptr 0 0), (7, .ptr 1 0)], .fix 38 [.d (di .i64 a1)], .fix 3 (List.map sS0 ((((g113.2.2.set ((1 : Int)).toNat (bits .xor .i64 x273 (m1 g113.2.1))).set ((2 : Int)).toNat (bits .xor .i64 x278 (m1 g113.2.1))).set ((0 : Int)).toNat (bits .xor .i64 x288 (m1 g113.2.1))).set ((2 : Int)).toNat (bits .xor .i64 x293 (m1 g113.2.1)))), .frame fr117 [(1, .sl 8 1 0 (((3 : Int)).toNat) (((3 : Int)).toNat)), (2, .d (di .i64 g113.1)), (3, .ptr 7 0), (7, .d (di .i64 g113.2.1)), (8, .d (di .i64 (bits .and .i64 g113.1 (7 : Int))))], .fix 38 [.d (di .i64 a1)], .frame fr270 [], .fix 52 [.d (di .i64 (0 : Int)), .d (di .i64 (2 : Int))], .fix 52 [.d (di .i64 (1 : Int)), .d (di .i64 (2 : Int))], .dead, .fix 52 [.d (di .i64 (1 : Int)), .d (di .i64 (2 : Int))], .dead, .fix 52 [.d (di .i64 (0 : Int)), .d (di .i64 (2 : Int))]]) (e' := []) (r := .tu []) rfl rfl rfl ?_
          change AO _ _ _ _ _
          refine AO.nil ?_
          refine inlend (ob' := [.fix 25 [.d (.v (.slice none 0 0))], .fix 4 [.d (dbool false)], .dead, .fix 38 [.d (di .i64 a1)], .fix 38 [.d (di .i64 a1)], .fix 38 [.d (di .i64 a1)], .frame fr107 [(6, .ptr 0 0), (7, .ptr 1 0)], .fix 38 [.d (di .i64 a1)], .fix 3 (List.map sS0 ((((g113.2.2.set ((1 : Int)).toNat (bits .xor .i64 x273 (m1 g113.2.1))).set ((2 : Int)).toNat (bits .xor .i64 x278 (m1 g113.2.1))).set ((0 : Int)).toNat (bits .xor .i64 x288 (m1 g113.2.1))).set ((2 : Int)).toNat (bits .xor .i64 x293 (m1 g113.2.1)))), .frame fr117 [(1, .sl 8 1 0 (((3 : Int)).toNat) (((3 : Int)).toNat)), (2, .d (di .i64 g113.1)), (3, .ptr 7 0), (7, .d (di .i64 g113.2.1)), (8, .d (di .i64 (bits .and .i64 g113.1 (7 : Int))))], .fix 38 [.d (di .i64 a1)], .dead, .fix 52 [.d (di .i64 (0 : Int)), .d (di .i64 (2 : Int))], .fix 52 [.d (di .i64 (1 : Int)), .d (di .i64 (2 : Int))], .dead, .fix 52 [.d (di .i64 (1 : Int)), .d (di .i64 (2 : Int))], .dead, .fix 52 [.d (di .i64 (0 : Int)), .d (di .i64 (2 : Int))]]) (e' := []) (r := .tu []) rfl rfl rfl ?_
          change AO _ _ _ _ _
          refine AO.nil ?_
          refine inlend (ob' := [.fix 25 [.d (.v (.slice none 0 0))], .fix 4 [.d (dbool false)], .dead, .fix 38 [.d (di .i64 a1)], .fix 38 [.d (di .i64 a1)], .fix 38 [.d (di .i64 a1)], .frame fr107 [(6, .ptr 0 0), (7, .ptr 1 0)], .fix 38 [.d (di .i64 a1)], .fix 3 (List.map sS0 ((((g113.2.2.set ((1 : Int)).toNat (bits .xor .i64 x273 (m1 g113.2.1))).set ((2 : Int)).toNat (bits .xor .i64 x278 (m1 g113.2.1))).set ((0 : Int)).toNat (bits .xor .i64 x288 (m1 g113.2.1))).set ((2 : Int)).toNat (bits .xor .i64 x293 (m1 g113.2.1)))), .dead, .fix 38 [.d (di .i64 a1)], .dead, .fix 52 [.d (di .i64 (0 : Int)), .d (di .i64 (2 : Int))], .fix 52 [.d (di .i64 (1 : Int)), .d (di .i64 (2 : Int))], .dead, .fix 52 [.d (di .i64 (1 : Int)), .d (di .i64 (2 : Int))], .dead, .fix 52 [.d (di .i64 (0 : Int)), .d (di .i64 (2 : Int))]]) (e' := [(1, .sl 8 1 0 (((3 : Int)).toNat) (((3 : Int)).toNat)), (2, .d (di .i64 g113.1)), (3, .ptr 7 0), (7, .d (di .i64 g113.2.1)), (8, .d (di .i64 (bits .and .i64 g113.1 (7 : Int))))]) (r := .tu []) rfl rfl rfl ?_
          change AO _ _ _ _ _
          refine AO.nil ?_
          change AC _ _ _ _
          refine AC.seq ?_
          refine AC.region ?_
          refine AO.op rfl (AOp.move rfl rfl (ltb rfl) rfl ?_)
          obtain ⟨q301, h1⟩ := need_elim h1
          refine AO.op rfl (AOp.ishr (n := 2) rfl rfl (ltb rfl) rfl rfl (by decide) q301 rfl ?_)
          refine AO.op rfl (AOp.assign rfl rfl (ltb rfl) rfl ?_)
          refine AO.nil ?_
          change AC _ _ _ _
          refine AC.seq ?_
          refine AC.region ?_
          refine AO.op rfl (AOp.move rfl rfl (ltb rfl) rfl ?_)
          obtain ⟨q302, h1⟩ := need_elim h1
          refine AO.op rfl (AOp.ishr (n := 1) rfl rfl (ltb rfl) rfl rfl (by decide) q302 rfl ?_)
          refine AO.op rfl (AOp.move rfl rfl (ltb rfl) rfl ?_)
          obtain ⟨q303, h1⟩ := need_elim h1
          refine AO.op rfl (AOp.ishr (n := 2) rfl rfl (ltb rfl) rfl rfl (by decide) q303 rfl ?_)
          refine AO.op rfl (AOp.ibits (by simp) rfl rfl (ltb rfl) rfl rfl rfl ?_)
          refine AO.op rfl (AOp.ibits (by simp) rfl rfl (ltb rfl) rfl rfl rfl ?_)
          refine AO.op rfl (AOp.assign rfl rfl (ltb rfl) rfl ?_)
          refine AO.nil ?_
          change AC _ _ _ _
          refine AC.seq ?_
          refine AC.region ?_
          refine AO.op rfl (AOp.move rfl rfl (ltb rfl) rfl ?_)
          obtain ⟨q304, h1⟩ := need_elim h1
          refine AO.op rfl (AOp.ishr (n := 0) rfl rfl (ltb rfl) rfl rfl (by decide) q304 rfl ?_)
          refine AO.op rfl (AOp.move rfl rfl (ltb rfl) rfl ?_)
          obtain ⟨q305, h1⟩ := need_elim h1
          refine AO.op rfl (AOp.ishr (n := 1) rfl rfl (ltb rfl) rfl rfl (by decide) q305 rfl ?_)
          refine AO.op rfl (AOp.ibits (by simp) rfl rfl (ltb rfl) rfl rfl rfl ?_)
          refine AO.op rfl (AOp.ibits (by simp) rfl rfl (ltb rfl) rfl rfl rfl ?_)
          refine AO.op rfl (AOp.assign rfl rfl (ltb rfl) rfl ?_)
          refine AO.nil ?_
          change AC _ _ _ _
          refine AC.seq ?_
          refine AC.draw 8 mixed (by kernel_rfl) ?_
          refine AD.op [1] rfl (by kernel_rfl) rfl rfl (fun _ _ h => AOp.move rfl rfl (ltb rfl) rfl h) ?_
          obtain ⟨q306, h1⟩ := need_elim h1
          refine AD.op [47] rfl (by kernel_rfl) rfl rfl (fun _ _ h => AOp.indexSl rfl rfl (ltb rfl) rfl rfl el25 q306.1 q306.2 h) ?_
          obtain ⟨x307, q308, h1⟩ := idx_elim h1
          refine AD.op [48] rfl (by kernel_rfl) rfl rfl (fun _ _ h => AOp.load1 rfl rfl (ltb rfl) rfl agg3 rfl (atO q308.2) h) ?_
          refine AD.op [11] rfl (by kernel_rfl) rfl rfl (fun _ _ h => AOp.move rfl rfl (ltb rfl) rfl h) ?_
          refine AD.op [7] rfl (by kernel_rfl) rfl rfl (fun _ _ h => AOp.move rfl rfl (ltb rfl) rfl h) ?_
          obtain ⟨q309, h1⟩ := need_elim h1
          refine AD.op [50, 51] rfl (by kernel_rfl) rfl rfl (fun _ _ h => AOp.ishl' rfl rfl (ltb rfl) rfl rfl q309 h) ?_
          obtain ⟨q310, h1⟩ := need_elim h1
          refine AD.op [49, 52] rfl (by kernel_rfl) rfl rfl (fun _ _ h => AOp.iadd rfl rfl (ltb rfl) rfl rfl rfl q310.1 q310.2 h) ?_
          obtain ⟨q311, h1⟩ := need_elim h1
          refine AD.op [47] rfl (by kernel_rfl) rfl rfl (fun _ _ h => AOp.indexSl rfl rfl (ltb rfl) rfl rfl el25 q311.1 q311.2 h) ?_
          refine AD.done ?_
          obtain ⟨q312, h1⟩ := need_elim h1
          refine AO.op rfl (AOp.storeL (f := fun z => SV.d (keS0 z)) (l := ((((g113.2.2.set ((1 : Int)).toNat (bits .xor .i64 x273 (m1 g113.2.1))).set ((2 : Int)).toNat (bits .xor .i64 x278 (m1 g113.2.1))).set ((0 : Int)).toNat (bits .xor .i64 x288 (m1 g113.2.1))).set ((2 : Int)).toNat (bits .xor .i64 x293 (m1 g113.2.1)))) (i := ((0 : Int)).toNat) (v := (x307 + (IntKind.i64.wrap ((bits .and .i64 (bits .xor .i64 ((bits .and .i64 g113.1 (7 : Int)) / 2 ^ 0) ((bits .and .i64 g113.1 (7 : Int)) / 2 ^ 1)) (1 : Int)) * 2 ^ (g113.2.1).toNat)))) rfl rfl rfl rfl size3 rfl rfl rfl q312 ?_)
          refine AO.nil ?_
          change AC _ _ _ _
          refine AC.seq ?_
          refine AC.draw 8 mixed (by kernel_rfl) ?_
          refine AD.op [1] rfl (by kernel_rfl) rfl rfl (fun _ _ h => AOp.move rfl rfl (ltb rfl) rfl h) ?_
          obtain ⟨q313, h1⟩ := need_elim h1
          refine AD.op [55] rfl (by kernel_rfl) rfl rfl (fun _ _ h => AOp.indexSl rfl rfl (ltb rfl) rfl rfl el25 q313.1 q313.2 h) ?_
          obtain ⟨x314, q315, h1⟩ := idx_elim h1
          refine AD.op [56] rfl (by kernel_rfl) rfl rfl (fun _ _ h => AOp.load1 rfl rfl (ltb rfl) rfl agg3 rfl (atO q315.2) h) ?_
          refine AD.op [10] rfl (by kernel_rfl) rfl rfl (fun _ _ h => AOp.move rfl rfl (ltb rfl) rfl h) ?_
          refine AD.op [7] rfl (by kernel_rfl) rfl rfl (fun _ _ h => AOp.move rfl rfl (ltb rfl) rfl h) ?_
          obtain ⟨q316, h1⟩ := need_elim h1
          refine AD.op [58, 59] rfl (by kernel_rfl) rfl rfl (fun _ _ h => AOp.ishl' rfl rfl (ltb rfl) rfl rfl q316 h) ?_
          obtain ⟨q317, h1⟩ := need_elim h1
          refine AD.op [57, 60] rfl (by kernel_rfl) rfl rfl (fun _ _ h => AOp.iadd rfl rfl (ltb rfl) rfl rfl rfl q317.1 q317.2 h) ?_
          obtain ⟨q318, h1⟩ := need_elim h1
          refine AD.op [55] rfl (by kernel_rfl) rfl rfl (fun _ _ h => AOp.indexSl rfl rfl (ltb rfl) rfl rfl el25 q318.1 q318.2 h) ?_
          refine AD.done ?_
          obtain ⟨q319, h1⟩ := need_elim h1
          refine AO.op rfl (AOp.storeL (f := fun z => SV.d (keS0 z)) (l := (((((g113.2.2.set ((1 : Int)).toNat (bits .xor .i64 x273 (m1 g113.2.1))).set ((2 : Int)).toNat (bits .xor .i64 x278 (m1 g113.2.1))).set ((0 : Int)).toNat (bits .xor .i64 x288 (m1 g113.2.1))).set ((2 : Int)).toNat (bits .xor .i64 x293 (m1 g113.2.1))).set ((0 : Int)).toNat (x307 + (IntKind.i64.wrap ((bits .and .i64 (bits .xor .i64 ((bits .and .i64 g113.1 (7 : Int)) / 2 ^ 0) ((bits .and .i64 g113.1 (7 : Int)) / 2 ^ 1)) (1 : Int)) * 2 ^ (g113.2.1).toNat))))) (i := ((1 : Int)).toNat) (v := (x314 + (IntKind.i64.wrap ((bits .and .i64 (bits .xor .i64 ((bits .and .i64 g113.1 (7 : Int)) / 2 ^ 1) ((bits .and .i64 g113.1 (7 : Int)) / 2 ^ 2)) (1 : Int)) * 2 ^ (g113.2.1).toNat)))) rfl rfl rfl rfl size3 rfl rfl rfl q319 ?_)
          refine AO.nil ?_
          change AC _ _ _ _
          refine AC.seq ?_
          refine AC.draw 8 mixed (by kernel_rfl) ?_
          refine AD.op [1] rfl (by kernel_rfl) rfl rfl (fun _ _ h => AOp.move rfl rfl (ltb rfl) rfl h) ?_
          obtain ⟨q320, h1⟩ := need_elim h1
          refine AD.op [63] rfl (by kernel_rfl) rfl rfl (fun _ _ h => AOp.indexSl rfl rfl (ltb rfl) rfl rfl el25 q320.1 q320.2 h) ?_
          obtain ⟨x321, q322, h1⟩ := idx_elim h1
          refine AD.op [64] rfl (by kernel_rfl) rfl rfl (fun _ _ h => AOp.load1 rfl rfl (ltb rfl) rfl agg3 rfl (atO q322.2) h) ?_
          refine AD.op [9] rfl (by kernel_rfl) rfl rfl (fun _ _ h => AOp.move rfl rfl (ltb rfl) rfl h) ?_
          refine AD.op [7] rfl (by kernel_rfl) rfl rfl (fun _ _ h => AOp.move rfl rfl (ltb rfl) rfl h) ?_
          obtain ⟨q323, h1⟩ := need_elim h1
          refine AD.op [66, 67] rfl (by kernel_rfl) rfl rfl (fun _ _ h => AOp.ishl' rfl rfl (ltb rfl) rfl rfl q323 h) ?_
          obtain ⟨q324, h1⟩ := need_elim h1
          refine AD.op [65, 68] rfl (by kernel_rfl) rfl rfl (fun _ _ h => AOp.iadd rfl rfl (ltb rfl) rfl rfl rfl q324.1 q324.2 h) ?_
          obtain ⟨q325, h1⟩ := need_elim h1
          refine AD.op [63] rfl (by kernel_rfl) rfl rfl (fun _ _ h => AOp.indexSl rfl rfl (ltb rfl) rfl rfl el25 q325.1 q325.2 h) ?_
          refine AD.done ?_
          obtain ⟨q326, h1⟩ := need_elim h1
          refine AO.op rfl (AOp.storeL (f := fun z => SV.d (keS0 z)) (l := ((((((g113.2.2.set ((1 : Int)).toNat (bits .xor .i64 x273 (m1 g113.2.1))).set ((2 : Int)).toNat (bits .xor .i64 x278 (m1 g113.2.1))).set ((0 : Int)).toNat (bits .xor .i64 x288 (m1 g113.2.1))).set ((2 : Int)).toNat (bits .xor .i64 x293 (m1 g113.2.1))).set ((0 : Int)).toNat (x307 + (IntKind.i64.wrap ((bits .and .i64 (bits .xor .i64 ((bits .and .i64 g113.1 (7 : Int)) / 2 ^ 0) ((bits .and .i64 g113.1 (7 : Int)) / 2 ^ 1)) (1 : Int)) * 2 ^ (g113.2.1).toNat)))).set ((1 : Int)).toNat (x314 + (IntKind.i64.wrap ((bits .and .i64 (bits .xor .i64 ((bits .and .i64 g113.1 (7 : Int)) / 2 ^ 1) ((bits .and .i64 g113.1 (7 : Int)) / 2 ^ 2)) (1 : Int)) * 2 ^ (g113.2.1).toNat))))) (i := ((2 : Int)).toNat) (v := (x321 + (IntKind.i64.wrap (((bits .and .i64 g113.1 (7 : Int)) / 2 ^ 2) * 2 ^ (g113.2.1).toNat)))) rfl rfl rfl rfl size3 rfl rfl rfl q326 ?_)
          refine AO.nil ?_
          change AC _ _ _ _
          refine AC.region ?_
          refine AO.op rfl (AOp.move rfl rfl (ltb rfl) rfl ?_)
          obtain ⟨q327, h1⟩ := need_elim h1
          refine AO.op rfl (AOp.ishr (n := 3) rfl rfl (ltb rfl) rfl rfl (by decide) q327 rfl ?_)
          refine AO.op rfl (AOp.assign rfl rfl (ltb rfl) rfl ?_)
          refine AO.nil ?_
          change AC _ _ _ _
          refine AC.region ?_
          refine AO.op rfl (AOp.move rfl rfl (ltb rfl) rfl ?_)
          obtain ⟨q328, h1⟩ := need_elim h1
          refine AO.op rfl (AOp.iadd rfl rfl (ltb rfl) rfl rfl rfl q328.1 q328.2 ?_)
          refine AO.op rfl (AOp.assign rfl rfl (ltb rfl) rfl ?_)
          refine AO.nil ?_
          exact ⟨((g113.1 / 2 ^ 3), (g113.2.1 + (1 : Int)), (((((((g113.2.2.set ((1 : Int)).toNat (bits .xor .i64 x273 (m1 g113.2.1))).set ((2 : Int)).toNat (bits .xor .i64 x278 (m1 g113.2.1))).set ((0 : Int)).toNat (bits .xor .i64 x288 (m1 g113.2.1))).set ((2 : Int)).toNat (bits .xor .i64 x293 (m1 g113.2.1))).set ((0 : Int)).toNat (x307 + (IntKind.i64.wrap ((bits .and .i64 (bits .xor .i64 ((bits .and .i64 g113.1 (7 : Int)) / 2 ^ 0) ((bits .and .i64 g113.1 (7 : Int)) / 2 ^ 1)) (1 : Int)) * 2 ^ (g113.2.1).toNat)))).set ((1 : Int)).toNat (x314 + (IntKind.i64.wrap ((bits .and .i64 (bits .xor .i64 ((bits .and .i64 g113.1 (7 : Int)) / 2 ^ 1) ((bits .and .i64 g113.1 (7 : Int)) / 2 ^ 2)) (1 : Int)) * 2 ^ (g113.2.1).toNat)))).set ((2 : Int)).toNat (x321 + (IntKind.i64.wrap (((bits .and .i64 g113.1 (7 : Int)) / 2 ^ 2) * 2 ^ (g113.2.1).toNat))))), _, rfl, (LeL.refl _), rfl, (okU_mk rfl (okU_cons rfl (okU_cons rfl (okU_cons rfl (okU_cons rfl (okU_cons rfl (okU_cons rfl (okU_cons rfl (okU_cons rfl (okU_cons (okU_fixl (fun _ => rfl)) okU_nil)))))))))), h1⟩
        replace h1 := cF h1 q269
        refine AC.seq ?_
        refine AC.region ?_
        refine AO.op rfl (AOp.ieql rfl rfl (ltb rfl) rfl rfl ?_)
        refine AO.op rfl (AOp.assign rfl rfl (ltb rfl) rfl ?_)
        refine AO.nil ?_
        change AC _ _ _ _
        refine AC.cond rfl (fun q329 => ?_) (fun q329 => ?_)
        · replace h1 := cT h1 q329
          refine AC.region ?_
          refine AO.op rfl (AOp.move rfl rfl (ltb rfl) rfl ?_)
          refine AO.op rfl (AOp.move rfl rfl (ltb rfl) rfl ?_)
          refine AO.op rfl (AOp.move rfl rfl (ltb rfl) rfl ?_)
          refine AO.op rfl (AOp.build rfl rfl (ltb rfl) zero52 rfl places52 rfl rfl ?_)
          refine AO.op rfl (AOp.build rfl rfl (ltb rfl) zero52 rfl places52 rfl rfl ?_)
          refine AO.op rfl (AOp.inl [] (by kernel_rfl) Tryd.func30 rfl Tryd.ntmps30 rfl rfl (ltb rfl) rfl (leb rfl) rfl ?_)
          intro fr330
          refine AC.seq ?_
          refine AC.region ?_
          refine AO.op rfl (AOp.box rfl rfl (ltb rfl) rfl rfl ?_)
          refine AO.op rfl (AOp.box rfl rfl (ltb rfl) rfl rfl ?_)
          refine AO.nil ?_
          change AC _ _ _ _
          refine AC.seq ?_
          refine AC.region ?_
          refine AO.op rfl (AOp.move rfl rfl (ltb rfl) rfl ?_)
          refine AO.nil ?_
          change AC _ _ _ _
          refine AC.condT rfl rfl ?_
          refine AC.seq ?_
          refine AC.region ?_
          refine AO.op rfl (AOp.loadN rfl rfl (ltb rfl) rfl agg52 size52 rfl (leb rfl) rfl ?_)
          refine AO.op rfl (AOp.makeIfc rfl rfl (ltb rfl) rfl conc52 ?_)
          refine AO.op rfl (AOp.move rfl rfl (ltb rfl) rfl ?_)
          refine AO.op rfl (AOp.move rfl rfl (ltb rfl) rfl ?_)
          refine AO.op rfl (AOp.inlE [1, 2, 8] (EntersS.meth (by kernel_rfl) rfl rfl rfl meth52_pub_orthodrome_pub_gonum_spatial_curve_do rfl rfl) Tryd.func27 rfl Tryd.ntmps27 rfl (ltb rfl) (leb rfl) rfl ?_)
          intro fr331
          refine AC.seq ?_
          refine AC.region ?_
          refine AO.op rfl (AOp.box rfl rfl (ltb rfl) rfl rfl ?_)
          refine AO.nil ?_
          change AC _ _ _ _
          obtain ⟨q332, h1⟩ := need_elim h1
          obtain ⟨x333, q334, h1⟩ := idx_elim h1
          obtain ⟨q335, h1⟩ := need_elim h1
          obtain ⟨q336, h1⟩ := need_elim h1
          obtain ⟨q337, h1⟩ := need_elim h1
          obtain ⟨x338, q339, h1⟩ := idx_elim h1
          obtain ⟨q340, h1⟩ := need_elim h1
          obtain ⟨q341, h1⟩ := need_elim h1
          obtain ⟨q342, h1⟩ := need_elim h1
          obtain ⟨q343, h1⟩ := need_elim h1
          refine AC.drawS [0, 1, 2, 3, 4, 5, 6, 7, 8, 9, 10, 11, 12, 13, 14, 15, 16, 17, 18, 19, 20, 21, 22, 23, 24, 25] [25] [26, 27] (fun L => [.fix 25 [.d (.v (.slice none 0 0))], .fix 4 [.d (dbool false)], .dead, .fix 38 [.d (di .i64 a1)], .fix 38 [.d (di .i64 a1)], .fix 38 [.d (di .i64 a1)], .frame fr107 [(6, .ptr 0 0), (7, .ptr 1 0)], .fix 38 [.d (di .i64 a1)], bif L 25 then .fix 3 (List.map sS0 (g113.2.2.set ((0 : Int)).toNat (bits .xor .i64 x333 (m1 g113.2.1)))) else .fix 3 (List.map sS0 g113.2.2), .frame fr117 [(1, .sl 8 1 0 (((3 : Int)).toNat) (((3 : Int)).toNat)), (2, .d (di .i64 g113.1)), (3, .ptr 7 0), (7, .d (di .i64 g113.2.1)), (8, .d (di .i64 (bits .and .i64 g113.1 (7 : Int))))], .fix 38 [.d (di .i64 a1)], .frame fr330 [], .fix 52 [.d (di .i64 (1 : Int)), .d (di .i64 (2 : Int))], .fix 52 [.d (di .i64 (0 : Int)), .d (di .i64 (2 : Int))], .frame fr331 [(1, .d (di .i64 g113.2.1)), (2, .sl 8 1 0 (((3 : Int)).toNat) (((3 : Int)).toNat)), (8, .ptr 12 0)], .fix 52 [.d (di .i64 (0 : Int)), .d (di .i64 (2 : Int))]]) [(25, (fun _ => true))] mixed (by kernel_rfl) (fun L L' h => by simp only [h 25 (by decide)]) rfl ?_
          refine AS.op [2] [] [25] [] rfl rfl rfl (by kernel_rfl) (by kernel_rfl) rfl rfl (fun _ _ _ h => AOp.move rfl rfl (ltb rfl) rfl h) (by kernel_rfl) ?_
          refine AS.op [3] [] [25] [] rfl rfl rfl (by kernel_rfl) (by kernel_rfl) rfl rfl (fun _ _ _ h => AOp.fieldAddr rfl rfl (ltb rfl) rfl fo52_0 h) (by kernel_rfl) ?_
          refine AS.op [7] [] [25] [] rfl rfl rfl (by kernel_rfl) (by kernel_rfl) rfl rfl (fun _ _ _ h => AOp.load1 rfl rfl (ltb rfl) rfl agg3 rfl rfl h) (by kernel_rfl) ?_
          refine AS.op [2] [] [] [25] rfl rfl rfl (by kernel_rfl) (by kernel_rfl) rfl rfl (fun _ _ _ h => AOp.move rfl rfl (ltb rfl) rfl h) (by kernel_rfl) ?_
          refine AS.op [3] [] [] [25] rfl rfl rfl (by kernel_rfl) (by kernel_rfl) rfl rfl (fun _ _ _ h => AOp.fieldAddr rfl rfl (ltb rfl) rfl fo52_1 h) (by kernel_rfl) ?_
          refine AS.op [10] [] [] [25] rfl rfl rfl (by kernel_rfl) (by kernel_rfl) rfl rfl (fun _ _ _ h => AOp.load1 rfl rfl (ltb rfl) rfl agg3 rfl rfl h) (by kernel_rfl) ?_
          refine AS.op [2] [] [25] [] rfl rfl rfl (by kernel_rfl) (by kernel_rfl) rfl rfl (fun _ _ _ h => AOp.move rfl rfl (ltb rfl) rfl h) (by kernel_rfl) ?_
          refine AS.op [3] [] [25] [] rfl rfl rfl (by kernel_rfl) (by kernel_rfl) rfl rfl (fun _ _ _ h => AOp.fieldAddr rfl rfl (ltb rfl) rfl fo52_1 h) (by kernel_rfl) ?_
          refine AS.op [13] [] [25] [] rfl rfl rfl (by kernel_rfl) (by kernel_rfl) rfl rfl (fun _ _ _ h => AOp.load1 rfl rfl (ltb rfl) rfl agg3 rfl rfl h) (by kernel_rfl) ?_
          refine AS.op [12, 14] [] [25] [] rfl rfl rfl (by kernel_rfl) (by kernel_rfl) rfl rfl (fun _ _ _ h => AOp.indexSl rfl rfl (ltb rfl) rfl rfl el25 q332.1 q332.2 h) (by kernel_rfl) ?_
          refine AS.op [15] [] [25] [] rfl rfl rfl (by kernel_rfl) (by kernel_rfl) rfl rfl (fun _ _ _ h => AOp.load1 rfl rfl (ltb rfl) rfl agg3 rfl (atO q334.2) h) (by kernel_rfl) ?_
          refine AS.op [1] [] [25] [] rfl rfl rfl (by kernel_rfl) (by kernel_rfl) rfl rfl (fun _ _ _ h => AOp.move rfl rfl (ltb rfl) rfl h) (by kernel_rfl) ?_
          refine AS.op [17] [] [25] [] rfl rfl rfl (by kernel_rfl) (by kernel_rfl) rfl rfl (fun _ _ _ h => AOp.ishl' rfl rfl (ltb rfl) rfl rfl q335 h) (by kernel_rfl) ?_
          refine AS.op [18] [] [25] [] rfl rfl rfl (by kernel_rfl) (by kernel_rfl) rfl rfl (fun _ _ _ h => AOp.isub rfl rfl (ltb rfl) rfl rfl rfl q336.1 q336.2 h) (by kernel_rfl) ?_
          refine AS.op [16, 19] [] [25] [] rfl rfl rfl (by kernel_rfl) (by kernel_rfl) rfl rfl (fun _ _ _ h => AOp.ibits (by simp) rfl rfl (ltb rfl) rfl rfl rfl h) (by kernel_rfl) ?_
          refine AS.op [2] [] [25] [] rfl rfl rfl (by kernel_rfl) (by kernel_rfl) rfl rfl (fun _ _ _ h => AOp.move rfl rfl (ltb rfl) rfl h) (by kernel_rfl) ?_
          refine AS.op [3] [] [25] [] rfl rfl rfl (by kernel_rfl) (by kernel_rfl) rfl rfl (fun _ _ _ h => AOp.fieldAddr rfl rfl (ltb rfl) rfl fo52_0 h) (by kernel_rfl) ?_
          refine AS.op [22] [] [25] [] rfl rfl rfl (by kernel_rfl) (by kernel_rfl) rfl rfl (fun _ _ _ h => AOp.load1 rfl rfl (ltb rfl) rfl agg3 rfl rfl h) (by kernel_rfl) ?_
          refine AS.op [21, 23] [] [25] [] rfl rfl rfl (by kernel_rfl) (by kernel_rfl) rfl rfl (fun _ _ _ h => AOp.indexSl rfl rfl (ltb rfl) rfl rfl el25 q337.1 q337.2 h) (by kernel_rfl) ?_
          refine AS.op [24] [] [25] [] rfl rfl rfl (by kernel_rfl) (by kernel_rfl) rfl rfl (fun _ _ _ h => AOp.load1 rfl rfl (ltb rfl) rfl agg3 rfl (atO q339.2) h) (by kernel_rfl) ?_
          refine AS.op [1] [] [] [25] rfl rfl rfl (by kernel_rfl) (by kernel_rfl) rfl rfl (fun _ _ _ h => AOp.move rfl rfl (ltb rfl) rfl h) (by kernel_rfl) ?_
          refine AS.op [26] [] [] [25] rfl rfl rfl (by kernel_rfl) (by kernel_rfl) rfl rfl (fun _ _ _ h => AOp.ishl' rfl rfl (ltb rfl) rfl rfl q340 h) (by kernel_rfl) ?_
          refine AS.op [27] [] [] [25] rfl rfl rfl (by kernel_rfl) (by kernel_rfl) rfl rfl (fun _ _ _ h => AOp.isub rfl rfl (ltb rfl) rfl rfl rfl q341.1 q341.2 h) (by kernel_rfl) ?_
          refine AS.op [25, 28] [] [] [25] rfl rfl rfl (by kernel_rfl) (by kernel_rfl) rfl rfl (fun _ _ _ h => AOp.ibits (by simp) rfl rfl (ltb rfl) rfl rfl rfl h) (by kernel_rfl) ?_
          refine AS.op [6, 8] [] [25] [] rfl rfl rfl (by kernel_rfl) (by kernel_rfl) rfl rfl (fun _ _ _ h => AOp.indexSl rfl rfl (ltb rfl) rfl rfl el25 q342.1 q342.2 h) (by kernel_rfl) ?_
          refine AS.mid0 [20, 30] [] [25] [] rfl rfl rfl rfl (by kernel_rfl) (by kernel_rfl) rfl rfl (fun _ _ _ h => AOp.storeL (f := fun z => SV.d (keS0 z)) (l := g113.2.2) (i := ((0 : Int)).toNat) (v := (bits .xor .i64 x333 (m1 g113.2.1))) rfl rfl rfl rfl size3 rfl rfl rfl q343 (AO.dropT h)) (by kernel_rfl) rfl ?_
          refine AS.done ?_
          refine AO.objs (obs' := [.fix 25 [.d (.v (.slice none 0 0))], .fix 4 [.d (dbool false)], .dead, .fix 38 [.d (di .i64 a1)], .fix 38 [.d (di .i64 a1)], .fix 38 [.d (di .i64 a1)], .frame fr107 [(6, .ptr 0 0), (7, .ptr 1 0)], .fix 38 [.d (di .i64 a1)], .fix 3 (List.map sS0 (g113.2.2.set ((0 : Int)).toNat (bits .xor .i64 x333 (m1 g113.2.1)))), .frame fr117 [(1, .sl 8 1 0 (((3 : Int)).toNat) (((3 : Int)).toNat)), (2, .d (di .i64 g113.1)), (3, .ptr 7 0), (7, .d (di .i64 g113.2.1)), (8, .d (di .i64 (bits .and .i64 g113.1 (7 : Int))))], .fix 38 [.d (di .i64 a1)], .frame fr330 [], .fix 52 [.d (di .i64 (1 : Int)), .d (di .i64 (2 : Int))], .fix 52 [.d (di .i64 (0 : Int)), .d (di .i64 (2 : Int))], .frame fr331 [(1, .d (di .i64 g113.2.1)), (2, .sl 8 1 0 (((3 : Int)).toNat) (((3 : Int)).toNat)), (8, .ptr 12 0)], .fix 52 [.d (di .i64 (0 : Int)), .d (di .i64 (2 : Int))]]) rfl ?_
          obtain ⟨q344, h1⟩ := need_elim h1
          refine AO.op rfl (AOp.indexSl rfl rfl (ltb rfl) rfl rfl el25 q344.1 q344.2 ?_)
          obtain ⟨q345, h1⟩ := need_elim h1
          refine AO.op rfl (AOp.storeL (f := fun z => SV.d (keS0 z)) (l := (g113.2.2.set ((0 : Int)).toNat (bits .xor .i64 x333 (m1 g113.2.1)))) (i := ((2 : Int)).toNat) (v := (bits .xor .i64 x338 (m1 g113.2.1))) rfl rfl rfl rfl size3 rfl rfl rfl q345 ?_)
          refine AO.nil ?_
          refine inlend (ob' := [.fix 25 [.d (.v (.slice none 0 0))], .fix 4 [.d (dbool false)], .dead, .fix 38 [.d (di .i64 a1)], .fix 38 [.d (di .i64 a1)], .fix 38 [.d (di .i64 a1)], .frame fr107 [(6, .ptr 0 0), (7, .ptr 1 0)], .fix 38 [.d (di .i64 a1)], .fix 3 (List.map sS0 ((g113.2.2.set ((0 : Int)).toNat (bits .xor .i64 x333 (m1 g113.2.1))).set ((2 : Int)).toNat (bits .xor .i64 x338 (m1 g113.2.1)))), .frame fr117 [(1, .sl 8 1 0 (((3 : Int)).toNat) (((3 : Int)).toNat)), (2, .d (di .i64 g113.1)), (3, .ptr 7 0), (7, .d (di .i64 g113.2.1)), (8, .d (di .i64 (bits .and .i64 g113.1 (7 : Int))))], .fix 38 [.d (di .i64 a1)], .frame fr330 [], .fix 52 [.d (di .i64 (1 : Int)), .d (di .i64 (2 : Int))], .fix 52 [.d (di .i64 (0 : Int)), .d (di .i64 (2 : Int))], .dead, .fix 52 [.d (di .i64 (0 : Int)), .d (di .i64 (2 : Int))]]) (e' := [(1, .d (di .i64 g113.2.1)), (2, .sl 8 1 0 (((3 : Int)).toNat) (((3 : Int)).toNat)), (8, .ptr 12 0)]) (r := .tu []) rfl rfl rfl ?_
          change AO _ _ _ _ _
          refine AO.nil ?_
          change AC _ _ _ _
          refine AC.region ?_
          refine AO.op rfl (AOp.loadN rfl rfl (ltb rfl) rfl agg52 size52 rfl (leb rfl) rfl ?_)
          refine AO.op rfl (AOp.makeIfc rfl rfl (ltb rfl) rfl conc52 ?_)
          refine AO.op rfl (AOp.move rfl rfl (ltb rfl) rfl ?_)
          refine AO.op rfl (AOp.move rfl rfl (ltb rfl) rfl ?_)
          refine AO.op rfl (AOp.inlE [] (EntersS.meth (by kernel_rfl) rfl rfl rfl meth52_pub_orthodrome_pub_gonum_spatial_curve_do rfl rfl) Tryd.func27 rfl Tryd.ntmps27 rfl (ltb rfl) (leb rfl) rfl ?_)
          intro fr346
          refine AC.seq ?_
          refine AC.region ?_
          refine AO.op rfl (AOp.box rfl rfl (ltb rfl) rfl rfl ?_)
          refine AO.nil ?_
          change AC _ _ _ _
          obtain ⟨q347, h1⟩ := need_elim h1
          obtain ⟨x348, q349, h1⟩ := idx_elim h1
          obtain ⟨q350, h1⟩ := need_elim h1
          obtain ⟨q351, h1⟩ := need_elim h1
          obtain ⟨q352, h1⟩ := need_elim h1
          obtain ⟨x353, q354, h1⟩ := idx_elim h1
          obtain ⟨q355, h1⟩ := need_elim h1
          obtain ⟨q356, h1⟩ := need_elim h1
          obtain ⟨q357, h1⟩ := need_elim h1
          obtain ⟨q358, h1⟩ := need_elim h1
          refine AC.drawS [0, 1, 2, 3, 4, 5, 6, 7, 8, 9, 10, 11, 12, 13, 14, 15, 16, 17, 18, 19, 20, 21, 22, 23, 24, 25] [25] [26, 27] (fun L => [.fix 25 [.d (.v (.slice none 0 0))], .fix 4 [.d (dbool false)], .dead, .fix 38 [.d (di .i64 a1)], .fix 38 [.d (di .i64 a1)], .fix 38 [.d (di .i64 a1)], .frame fr107 [(6, .ptr 0 0), (7, .ptr 1 0)], .fix 38 [.d (di .i64 a1)], bif L 25 then .fix 3 (List.map sS0 (((g113.2.2.set ((0 : Int)).toNat (bits .xor .i64 x333 (m1 g113.2.1))).set ((2 : Int)).toNat (bits .xor .i64 x338 (m1 g113.2.1))).set ((1 : Int)).toNat (bits .xor .i64 x348 (m1 g113.2.1)))) else .fix 3 (List.map sS0 ((g113.2.2.set ((0 : Int)).toNat (bits .xor .i64 x333 (m1 g113.2.1))).set ((2 : Int)).toNat (bits .xor .i64 x338 (m1 g113.2.1)))), .frame fr117 [(1, .sl 8 1 0 (((3 : Int)).toNat) (((3 : Int)).toNat)), (2, .d (di .i64 g113.1)), (3, .ptr 7 0), (7, .d (di .i64 g113.2.1)), (8, .d (di .i64 (bits .and .i64 g113.1 (7 : Int))))], .fix 38 [.d (di .i64 a1)], .frame fr330 [], .fix 52 [.d (di .i64 (1 : Int)), .d (di .i64 (2 : Int))], .fix 52 [.d (di .i64 (0 : Int)), .d (di .i64 (2 : Int))], .dead, .fix 52 [.d (di .i64 (0 : Int)), .d (di .i64 (2 : Int))], .frame fr346 [], .fix 52 [.d (di .i64 (1 : Int)), .d (di .i64 (2 : Int))]]) [(25, (fun _ => true))] mixed (by kernel_rfl) (fun L L' h => by simp only [h 25 (by decide)]) rfl ?_
          refine AS.op [2] [] [25] [] rfl rfl rfl (by kernel_rfl) (by kernel_rfl) rfl rfl (fun _ _ _ h => AOp.move rfl rfl (ltb rfl) rfl h) (by kernel_rfl) ?_
          refine AS.op [3] [] [25] [] rfl rfl rfl (by kernel_rfl) (by kernel_rfl) rfl rfl (fun _ _ _ h => AOp.fieldAddr rfl rfl (ltb rfl) rfl fo52_0 h) (by kernel_rfl) ?_
          refine AS.op [7] [] [25] [] rfl rfl rfl (by kernel_rfl) (by kernel_rfl) rfl rfl (fun _ _ _ h => AOp.load1 rfl rfl (ltb rfl) rfl agg3 rfl rfl h) (by kernel_rfl) ?_
          refine AS.op [2] [] [] [25] rfl rfl rfl (by kernel_rfl) (by kernel_rfl) rfl rfl (fun _ _ _ h => AOp.move rfl rfl (ltb rfl) rfl h) (by kernel_rfl) ?_
          refine AS.op [3] [] [] [25] rfl rfl rfl (by kernel_rfl) (by kernel_rfl) rfl rfl (fun _ _ _ h => AOp.fieldAddr rfl rfl (ltb rfl) rfl fo52_1 h) (by kernel_rfl) ?_
          refine AS.op [10] [] [] [25] rfl rfl rfl (by kernel_rfl) (by kernel_rfl) rfl rfl (fun _ _ _ h => AOp.load1 rfl rfl (ltb rfl) rfl agg3 rfl rfl h) (by kernel_rfl) ?_
          refine AS.op [2] [] [25] [] rfl rfl rfl (by kernel_rfl) (by kernel_rfl) rfl rfl (fun _ _ _ h => AOp.move rfl rfl (ltb rfl) rfl h) (by kernel_rfl) ?_
          refine AS.op [3] [] [25] [] rfl rfl rfl (by kernel_rfl) (by kernel_rfl) rfl rfl (fun _ _ _ h => AOp.fieldAddr rfl rfl (ltb rfl) rfl fo52_1 h) (by kernel_rfl) ?_
          refine AS.op [13] [] [25] [] rfl rfl rfl (by kernel_rfl) (by kernel_rfl) rfl rfl (fun _ _ _ h => AOp.load1 rfl rfl (ltb rfl) rfl agg3 rfl rfl h) (by kernel_rfl) ?_
          refine AS.op [12, 14] [] [25] [] rfl rfl rfl (by kernel_rfl) (by kernel_rfl) rfl rfl (fun _ _ _ h => AOp.indexSl rfl rfl (ltb rfl) rfl rfl el25 q347.1 q347.2 h) (by kernel_rfl) ?_
          refine AS.op [15] [] [25] [] rfl rfl rfl (by kernel_rfl) (by kernel_rfl) rfl rfl (fun _ _ _ h => AOp.load1 rfl rfl (ltb rfl) rfl agg3 rfl (atO q349.2) h) (by kernel_rfl) ?_
          refine AS.op [1] [] [25] [] rfl rfl rfl (by kernel_rfl) (by kernel_rfl) rfl rfl (fun _ _ _ h => AOp.move rfl rfl (ltb rfl) rfl h) (by kernel_rfl) ?_
          refine AS.op [17] [] [25] [] rfl rfl rfl (by kernel_rfl) (by kernel_rfl) rfl rfl (fun _ _ _ h => AOp.ishl' rfl rfl (ltb rfl) rfl rfl q350 h) (by kernel_rfl) ?_
          refine AS.op [18] [] [25] [] rfl rfl rfl (by kernel_rfl) (by kernel_rfl) rfl rfl (fun _ _ _ h => AOp.isub rfl rfl (ltb rfl) rfl rfl rfl q351.1 q351.2 h) (by kernel_rfl) ?_
          refine AS.op [16, 19] [] [25] [] rfl rfl rfl (by kernel_rfl) (by kernel_rfl) rfl rfl (fun _ _ _ h => AOp.ibits (by simp) rfl rfl (ltb rfl) rfl rfl rfl h) (by kernel_rfl) ?_
          refine AS.op [2] [] [25] [] rfl rfl rfl (by kernel_rfl) (by kernel_rfl) rfl rfl (fun _ _ _ h => AOp.move rfl rfl (ltb rfl) rfl h) (by kernel_rfl) ?_
          refine AS.op [3] [] [25] [] rfl rfl rfl (by kernel_rfl) (by kernel_rfl) rfl rfl (fun _ _ _ h => AOp.fieldAddr rfl rfl (ltb rfl) rfl fo52_0 h) (by kernel_rfl) ?_
          refine AS.op [22] [] [25] [] rfl rfl rfl (by kernel_rfl) (by kernel_rfl) rfl rfl (fun _ _ _ h => AOp.load1 rfl rfl (ltb rfl) rfl agg3 rfl rfl h) (by kernel_rfl) ?_
          refine AS.op [21, 23] [] [25] [] rfl rfl rfl (by kernel_rfl) (by kernel_rfl) rfl rfl (fun _ _ _ h => AOp.indexSl rfl rfl (ltb rfl) rfl rfl el25 q352.1 q352.2 h) (by kernel_rfl) ?_
          refine AS.op [24] [] [25] [] rfl rfl rfl (by kernel_rfl) (by kernel_rfl) rfl rfl (fun _ _ _ h => AOp.load1 rfl rfl (ltb rfl) rfl agg3 rfl (atO q354.2) h) (by kernel_rfl) ?_
          refine AS.op [1] [] [] [25] rfl rfl rfl (by kernel_rfl) (by kernel_rfl) rfl rfl (fun _ _ _ h => AOp.move rfl rfl (ltb rfl) rfl h) (by kernel_rfl) ?_
          refine AS.op [26] [] [] [25] rfl rfl rfl (by kernel_rfl) (by kernel_rfl) rfl rfl (fun _ _ _ h => AOp.ishl' rfl rfl (ltb rfl) rfl rfl q355 h) (by kernel_rfl) ?_
          refine AS.op [27] [] [] [25] rfl rfl rfl (by kernel_rfl) (by kernel_rfl) rfl rfl (fun _ _ _ h => AOp.isub rfl rfl (ltb rfl) rfl rfl rfl q356.1 q356.2 h) (by kernel_rfl) ?_
          refine AS.op [25, 28] [] [] [25] rfl rfl rfl (by kernel_rfl) (by kernel_rfl) rfl rfl (fun _ _ _ h => AOp.ibits (by simp) rfl rfl (ltb rfl) rfl rfl rfl h) (by kernel_rfl) ?_
          refine AS.op [6, 8] [] [25] [] rfl rfl rfl (by kernel_rfl) (by kernel_rfl) rfl rfl (fun _ _ _ h => AOp.indexSl rfl rfl (ltb rfl) rfl rfl el25 q357.1 q357.2 h) (by kernel_rfl) ?_
          refine AS.mid0 [20, 30] [] [25] [] rfl rfl rfl rfl (by kernel_rfl) (by kernel_rfl) rfl rfl (fun _ _ _ h => AOp.storeL (f := fun z => SV.d (keS0 z)) (l := ((g113.2.2.set ((0 : Int)).toNat (bits .xor .i64 x333 (m1 g113.2.1))).set ((2 : Int)).toNat (bits .xor .i64 x338 (m1 g113.2.1)))) (i := ((1 : Int)).toNat) (v := (bits .xor .i64 x348 (m1 g113.2.1))) rfl rfl rfl rfl size3 rfl rfl rfl q358 (AO.dropT h)) (by kernel_rfl) rfl ?_
          refine AS.done ?_
          refine AO.objs (obs' := [.fix 25 [.d (.v (.slice none 0 0))], .fix 4 [.d (dbool false)], .dead, .fix 38 [.d (di .i64 a1)], .fix 38 [.d (di .i64 a1)], .fix 38 [.d (di .i64 a1)], .frame fr107 [(6, .ptr 0 0), (7, .ptr 1 0)], .fix 38 [.d (di .i64 a1)], .fix 3 (List.map sS0 (((g113.2.2.set ((0 : Int)).toNat (bits .xor .i64 x333 (m1 g113.2.1))).set ((2 : Int)).toNat (bits .xor .i64 x338 (m1 g113.2.1))).set ((1 : Int)).toNat (bits .xor .i64 x348 (m1 g113.2.1)))), .frame fr117 [(1, .sl 8 1 0 (((3 : Int)).toNat) (((3 : Int)).toNat)), (2, .d (di .i64 g113.1)), (3, .ptr 7 0), (7, .d (di .i64 g113.2.1)), (8, .d (di .i64 (bits .and .i64 g113.1 (7 : Int))))], .fix 38 [.d (di .i64 a1)], .frame fr330 [], .fix 52 [.d (di .i64 (1 : Int)), .d (di .i64 (2 : Int))], .fix 52 [.d (di .i64 (0 : Int)), .d (di .i64 (2 : Int))], .dead, .fix 52 [.d (di .i64 (0 : Int)), .d (di .i64 (2 : Int))], .frame fr346 [], .fix 52 [.d (di .i64 (1 : Int)), .d (di .i64 (2 : Int))]]) rfl ?_
          obtain ⟨q359, h1⟩ := need_elim h1
          refine AO.op rfl (AOp.indexSl rfl rfl (ltb rfl) rfl rfl el25 q359.1 q359.2 ?_)
          obtain ⟨q360, h1⟩ := need_elim h1
          refine AO.op rfl (AOp.storeL (f := fun z => SV.d (keS0 z)) (l := (((g113.2.2.set ((0 : Int)).toNat (bits .xor .i64 x333 (m1 g113.2.1))).set ((2 : Int)).toNat (bits .xor .i64 x338 (m1 g113.2.1))).set ((1 : Int)).toNat (bits .xor .i64 x348 (m1 g113.2.1)))) (i := ((2 : Int)).toNat) (v := (bits .xor .i64 x353 (m1 g113.2.1))) rfl rfl rfl rfl size3 rfl rfl rfl q360 ?_)
          refine AO.nil ?_
          refine inlend (ob' := [.fix 25 [.d (.v (.slice none 0 0))], .fix 4 [.d (dbool false)], .dead, .fix 38 [.d (di .i64 a1)], .fix 38 [.d (di .i64 a1)], .fix 38 [.d (di .i64 a1)], .frame fr107 [(6, .ptr 0 0), (7, .ptr 1 0)], .fix 38 [.d (di .i64 a1)], .fix 3 (List.map sS0 ((((g113.2.2.set ((0 : Int)).toNat (bits .xor .i64 x333 (m1 g113.2.1))).set ((2 : Int)).toNat (bits .xor .i64 x338 (m1 g113.2.1))).set ((1 : Int)).toNat (bits .xor .i64 x348 (m1 g113.2.1))).set ((2 : Int)).toNat (bits .xor .i64 x353 (m1 g113.2.1)))), .frame fr117 [(1, .sl 8 1 0 (((3 : Int)).toNat) (((3 : Int)).toNat)), (2, .d (di .i64 g113.1)), (3, .ptr 7 0), (7, .d (di .i64 g113.2.1)), (8, .d (di .i64 (bits .and .i64 g113.1 (7 : Int))))], .fix 38 [.d (di .i64 a1)], .frame fr330 [], .fix 52 [.d (di .i64 (1 : Int)), .d (di .i64 (2 : Int))], .fix 52 [.d (di .i64 (0 : Int)), .d (di .i64 (2 : Int))], .dead, .fix 52 [.d (di .i64 (0 : Int)), .d (di .i64 (2 : Int))], .dead, .fix 52 [.d (di .i64 (1 : Int)), .d (di .i64 (2 : Int))]]) (e' := []) (r := .tu []) rfl rfl rfl ?_
          change AO _ _ _ _ _
          refine AO.nil ?_
          refine inlend (ob' := [.fix 25 [.d (.v (.slice none 0 0))], .fix 4 [.d (dbool false)], .dead, .fix 38 [.d (di .i64 a1)], .fix 38 [.d (di .i64 a1)], .fix 38 [.d (di .i64 a1)], .frame fr107 [(6, .ptr 0 0), (7, .ptr 1 0)], .fix 38 [.d (di .i64 a1)], .fix 3 (List.map sS0 ((((g113.2.2.set ((0 : Int)).toNat (bits .xor .i64 x333 (m1 g113.2.1))).set ((2 : Int)).toNat (bits .xor .i64 x338 (m1 g113.2.1))).set ((1 : Int)).toNat (bits .xor .i64 x348 (m1 g113.2.1))).set ((2 : Int)).toNat (bits .xor .i64 x353 (m1 g113.2.1)))), .frame fr117 [(1, .sl 8 1 0 (((3 : Int)).toNat) (((3 : Int)).toNat)), (2, .d (di .i64 g113.1)), (3, .ptr 7 0), (7, .d (di .i64 g113.2.1)), (8, .d (di .i64 (bits .and .i64 g113.1 (7 : Int))))], .fix 38 [.d (di .i64 a1)], .dead, .fix 52 [.d (di .i64 (1 : Int)), .d (di .i64 (2 : Int))], .fix 52 [.d (di .i64 (0 : Int)), .d (di .i64 (2 : Int))], .dead, .fix 52 [.d (di .i64 (0 : Int)), .d (di .i64 (2 : Int))], .dead, .fix 52 [.d (di .i64 (1 : Int)), .d (di .i64 (2 : Int))]]) (e' := []) (r := .tu []) rfl rfl rfl ?_
          change AO _ _ _ _ _
          refine AO.nil ?_
          refine inlend (ob' := [.fix 25 [.d (.v (.slice none 0 0))], .fix 4 [.d (dbool false)], .dead, .fix 38 [.d (di .i64 a1)], .fix 38 [.d (di .i64 a1)], .fix 38 [.d (di .i64 a1)], .frame fr107 [(6, .ptr 0 0), (7, .ptr 1 0)], .fix 38 [.d (di .i64 a1)], .fix 3 (List.map sS0 ((((g113.2.2.set ((0 : Int)).toNat (bits .xor .i64 x333 (m1 g113.2.1))).set ((2 : Int)).toNat (bits .xor .i64 x338 (m1 g113.2.1))).set ((1 : Int)).toNat (bits .xor .i64 x348 (m1 g113.2.1))).set ((2 : Int)).toNat (bits .xor .i64 x353 (m1 g113.2.1)))), .dead, .fix 38 [.d (di .i64 a1)], .dead, .fix 52 [.d (di .i64 (1 : Int)), .d (di .i64 (2 : Int))], .fix 52 [.d (di .i64 (0 : Int)), .d (di .i64 (2 : Int))], .dead, .fix 52 [.d (di .i64 (0 : Int)), .d (di .i64 (2 : Int))], .dead, .fix 52 [.d (di .i64 (1 : Int)), .d (di .i64 (2 : Int))]]) (e' := [(1, .sl 8 1 0 (((3 : Int)).toNat) (((3 : Int)).toNat)), (2, .d (di .i64 g113.1)), (3, .ptr 7 0), (7, .d (di .i64 g113.2.1)), (8, .d (di .i64 (bits .and .i64 g113.1 (7 : Int))))]) (r := .tu []) rfl rfl rfl ?_
          change AO _ _ _ _ _
          refine AO.nil ?_
          change AC _ _ _ _
          refine AC.seq ?_
          refine AC.region ?_
          refine AO.op rfl (AOp.move rfl rfl (ltb rfl) rfl ?_)
          obtain ⟨q361, h1⟩ := need_elim h1
          refine AO.op rfl (AOp.ishr (n := 2) rfl rfl (ltb rfl) rfl rfl (by decide) q361 rfl ?_)
          refine AO.op rfl (AOp.assign rfl rfl (ltb rfl) rfl ?_)
          refine AO.nil ?_
          change AC _ _ _ _
          refine AC.seq ?_
          refine AC.region ?_
          refine AO.op rfl (AOp.move rfl rfl (ltb rfl) rfl ?_)
          obtain ⟨q362, h1⟩ := need_elim h1
          refine AO.op rfl (AOp.ishr (n := 1) rfl rfl (ltb rfl) rfl rfl (by decide) q362 rfl ?_)
          refine AO.op rfl (AOp.move rfl rfl (ltb rfl) rfl ?_)
          obtain ⟨q363, h1⟩ := need_elim h1
          refine AO.op rfl (AOp.ishr (n := 2) rfl rfl (ltb rfl) rfl rfl (by decide) q363 rfl ?_)
          refine AO.op rfl (AOp.ibits (by simp) rfl rfl (ltb rfl) rfl rfl rfl ?_)
          refine AO.op rfl (AOp.ibits (by simp) rfl rfl (ltb rfl) rfl rfl rfl ?_)
          refine AO.op rfl (AOp.assign rfl rfl (ltb rfl) rfl ?_)
          refine AO.nil ?_
          change AC _ _ _ _
          refine AC.seq ?_
          refine AC.region ?_
          refine AO.op rfl (AOp.move rfl rfl (ltb rfl) rfl ?_)
          obtain ⟨q364, h1⟩ := need_elim h1
          refine AO.op rfl (AOp.ishr (n := 0) rfl rfl (ltb rfl) rfl rfl (by decide) q364 rfl ?_)
          refine AO.op rfl (AOp.move rfl rfl (ltb rfl) rfl ?_)
          obtain ⟨q365, h1⟩ := need_elim h1
          refine AO.op rfl (AOp.ishr (n := 1) rfl rfl (ltb rfl) rfl rfl (by decide) q365 rfl ?_)
          refine AO.op rfl (AOp.ibits (by simp) rfl rfl (ltb rfl) rfl rfl rfl ?_)
          refine AO.op rfl (AOp.ibits (by simp) rfl rfl (ltb rfl) rfl rfl rfl ?_)
          refine AO.op rfl (AOp.assign rfl rfl (ltb rfl) rfl ?_)
          refine AO.nil ?_
          change AC _ _ _ _
          refine AC.seq ?_
          refine AC.draw 8 mixed (by kernel_rfl) ?_
          refine AD.op [1] rfl (by kernel_rfl) rfl rfl (fun _ _ h => AOp.move rfl rfl (ltb rfl) rfl h) ?_
          obtain ⟨q366, h1⟩ := need_elim h1
          refine AD.op [47] rfl (by kernel_rfl) rfl rfl (fun _ _ h => AOp.indexSl rfl rfl (ltb rfl) rfl rfl el25 q366.1 q366.2 h) ?_
          obtain ⟨x367, q368, h1⟩ := idx_elim h1
          refine AD.op [48] rfl (by kernel_rfl) rfl rfl (fun _ _ h => AOp.load1 rfl rfl (ltb rfl) rfl agg3 rfl (atO q368.2) h) ?_
          refine AD.op [11] rfl (by kernel_rfl) rfl rfl (fun _ _ h => AOp.move rfl rfl (ltb rfl) rfl h) ?_
          refine AD.op [7] rfl (by kernel_rfl) rfl rfl (fun _ _ h => AOp.move rfl rfl (ltb rfl) rfl h) ?_
          obtain ⟨q369, h1⟩ := need_elim h1
          refine AD.op [50, 51] rfl (by kernel_rfl) rfl rfl (fun _ _ h => AOp.ishl' rfl rfl (ltb rfl) rfl rfl q369 h) ?_
          obtain ⟨q370, h1⟩ := need_elim h1
          refine AD.op [49, 52] rfl (by kernel_rfl) rfl rfl (fun _ _ h => AOp.iadd rfl rfl (ltb rfl) rfl rfl rfl q370.1 q370.2 h) ?_
          obtain ⟨q371, h1⟩ := need_elim h1
          refine AD.op [47] rfl (by kernel_rfl) rfl rfl (fun _ _ h => AOp.indexSl rfl rfl (ltb rfl) rfl rfl el25 q371.1 q371.2 h) ?_
          refine AD.done ?_
          obtain ⟨q372, h1⟩ := need_elim h1
          refine AO.op rfl (AOp.storeL (f := fun z => SV.d (keS0 z)) (l := ((((g113.2.2.set ((0 : Int)).toNat (bits .xor .i64 x333 (m1 g113.2.1))).set ((2 : Int)).toNat (bits .xor .i64 x338 (m1 g113.2.1))).set ((1 : Int)).toNat (bits .xor .i64 x348 (m1 g113.2.1))).set ((2 : Int)).toNat (bits .xor .i64 x353 (m1 g113.2.1)))) (i := ((0 : Int)).toNat) (v := (x367 + (IntKind.i64.wrap ((bits .and .i64 (bits .xor .i64 ((bits .and .i64 g113.1 (7 : Int)) / 2 ^ 0) ((bits .and .i64 g113.1 (7 : Int)) / 2 ^ 1)) (1 : Int)) * 2 ^ (g113.2.1).toNat)))) rfl rfl rfl rfl size3 rfl rfl rfl q372 ?_)
          refine AO.nil ?_
          change AC _ _ _ _
          refine AC.seq ?_
          refine AC.draw 8 mixed (by kernel_rfl) ?_
          refine AD.op [1] rfl (by kernel_rfl) rfl rfl (fun _ _ h => AOp.move rfl rfl (ltb rfl) rfl h) ?_
          obtain ⟨q373, h1⟩ := need_elim h1
          refine AD.op [55] rfl (by kernel_rfl) rfl rfl (fun _ _ h => AOp.indexSl rfl rfl (ltb rfl) rfl rfl el25 q373.1 q373.2 h) ?_
          obtain ⟨x374, q375, h1⟩ := idx_elim h1
          refine AD.op [56] rfl (by kernel_rfl) rfl rfl (fun _ _ h => AOp.load1 rfl rfl (ltb rfl) rfl agg3 rfl (atO q375.2) h) ?_
          refine AD.op [10] rfl (by kernel_rfl) rfl rfl (fun _ _ h => AOp.move rfl rfl (ltb rfl) rfl h) ?_
          refine AD.op [7] rfl (by kernel_rfl) rfl rfl (fun _ _ h => AOp.move rfl rfl (ltb rfl) rfl h) ?_
          obtain ⟨q376, h1⟩ := need_elim h1
          refine AD.op [58, 59] rfl (by kernel_rfl) rfl rfl (fun _ _ h => AOp.ishl' rfl rfl (ltb rfl) rfl rfl q376 h) ?_
          obtain ⟨q377, h1⟩ := need_elim h1
          refine AD.op [57, 60] rfl (by kernel_rfl) rfl rfl (fun _ _ h => AOp.iadd rfl rfl (ltb rfl) rfl rfl rfl q377.1 q377.2 h) ?_
          obtain ⟨q378, h1⟩ := need_elim h1
          refine AD.op [55] rfl (by kernel_rfl) rfl rfl (fun _ _ h => AOp.indexSl rfl rfl (ltb rfl) rfl rfl el25 q378.1 q378.2 h) ?_
          refine AD.done ?_
          obtain ⟨q379, h1⟩ := need_elim h1
          refine AO.op rfl (AOp.storeL (f := fun z => SV.d (keS0 z)) (l := (((((g113.2.2.set ((0 : Int)).toNat (bits .xor .i64 x333 (m1 g113.2.1))).set ((2 : Int)).toNat (bits .xor .i64 x338 (m1 g113.2.1))).set ((1 : Int)).toNat (bits .xor .i64 x348 (m1 g113.2.1))).set ((2 : Int)).toNat (bits .xor .i64 x353 (m1 g113.2.1))).set ((0 : Int)).toNat (x367 + (IntKind.i64.wrap ((bits .and .i64 (bits .xor .i64 ((bits .and .i64 g113.1 (7 : Int)) / 2 ^ 0) ((bits .and .i64 g113.1 (7 : Int)) / 2 ^ 1)) (1 : Int)) * 2 ^ (g113.2.1).toNat))))) (i := ((1 : Int)).toNat) (v := (x374 + (IntKind.i64.wrap ((bits .and .i64 (bits .xor .i64 ((bits .and .i64 g113.1 (7 : Int)) / 2 ^ 1) ((bits .and .i64 g113.1 (7 : Int)) / 2 ^ 2)) (1 : Int)) * 2 ^ (g113.2.1).toNat)))) rfl rfl rfl rfl size3 rfl rfl rfl q379 ?_)
          refine AO.nil ?_
          change AC _ _ _ _
          refine AC.seq ?_
          refine AC.draw 8 mixed (by kernel_rfl) ?_
          refine AD.op [1] rfl (by kernel_rfl) rfl rfl (fun _ _ h => AOp.move rfl rfl (ltb rfl) rfl h) ?_
          obtain ⟨q380, h1⟩ := need_elim h1
          refine AD.op [63] rfl (by kernel_rfl) rfl rfl (fun _ _ h => AOp.indexSl rfl rfl (ltb rfl) rfl rfl el25 q380.1 q380.2 h) ?_
          obtain ⟨x381, q382, h1⟩ := idx_elim h1
          refine AD.op [64] rfl (by kernel_rfl) rfl rfl (fun _ _ h => AOp.load1 rfl rfl (ltb rfl) rfl agg3 rfl (atO q382.2) h) ?_
          refine AD.op [9] rfl (by kernel_rfl) rfl rfl (fun _ _ h => AOp.move rfl rfl (ltb rfl) rfl h) ?_
          refine AD.op [7] rfl (by kernel_rfl) rfl rfl (fun _ _ h => AOp.move rfl rfl (ltb rfl) rfl h) ?_
          obtain ⟨q383, h1⟩ := need_elim h1
          refine AD.op [66, 67] rfl (by kernel_rfl) rfl rfl (fun _ _ h => AOp.ishl' rfl rfl (ltb rfl) rfl rfl q383 h) ?_
          obtain ⟨q384, h1⟩ := need_elim h1
          refine AD.op [65, 68] rfl (by kernel_rfl) rfl rfl (fun _ _ h => AOp.iadd rfl rfl (ltb rfl) rfl rfl rfl q384.1 q384.2 h) ?_
          obtain ⟨q385, h1⟩ := need_elim h1
          refine AD.op [63] rfl (by kernel_rfl) rfl rfl (fun _ _ h => AOp.indexSl rfl rfl (ltb rfl) rfl rfl el25 q385.1 q385.2 h) ?_
          refine AD.done ?_
          obtain ⟨q386, h1⟩ := need_elim h1
          refine AO.op rfl (AOp.storeL (f := fun z => SV.d (keS0 z)) (l := ((((((g113.2.2.set ((0 : Int)).toNat (bits .xor .i64 x333 (m1 g113.2.1))).set ((2 : Int)).toNat (bits .xor .i64 x338 (m1 g113.2.1))).set ((1 : Int)).toNat (bits .xor .i64 x348 (m1 g113.2.1))).set ((2 : Int)).toNat (bits .xor .i64 x353 (m1 g113.2.1))).set ((0 : Int)).toNat (x367 + (IntKind.i64.wrap ((bits .and .i64 (bits .xor .i64 ((bits .and .i64 g113.1 (7 : Int)) / 2 ^ 0) ((bits .and .i64 g113.1 (7 : Int)) / 2 ^ 1)) (1 : Int)) * 2 ^ (g113.2.1).toNat)))).set ((1 : Int)).toNat (x374 + (IntKind.i64.wrap ((bits .and .i64 (bits .xor .i64 ((bits .and .i64 g113.1 (7 : Int)) / 2 ^ 1) ((bits .and .i64 g113.1 (7 : Int)) / 2 ^ 2)) (1 : Int)) * 2 ^ (g113.2.1).toNat))))) (i := ((2 : Int)).toNat) (v := (x381 + (IntKind.i64.wrap (((bits .and .i64 g113.1 (7 : Int)) / 2 ^ 2) * 2 ^ (g113.2.1).toNat)))) rfl rfl rfl rfl size3 rfl rfl rfl q386 ?_)
          refine AO.nil ?_
          change AC _ _ _ _
          refine AC.region ?_
          refine AO.op rfl (AOp.move rfl rfl (ltb rfl) rfl ?_)
          obtain ⟨q387, h1⟩ := need_elim h1
          refine AO.op rfl (AOp.ishr (n := 3) rfl rfl (ltb rfl) rfl rfl (by decide) q387 rfl ?_)
          refine AO.op rfl (AOp.assign rfl rfl (ltb rfl) rfl ?_)
          refine AO.nil ?_
          change AC _ _ _ _
          refine AC.region ?_
          refine AO.op rfl (AOp.move rfl rfl (ltb rfl) rfl ?_)
          obtain ⟨q388, h1⟩ := need_elim h1
          refine AO.op rfl (AOp.iadd rfl rfl (ltb rfl) rfl rfl rfl q388.1 q388.2 ?_)
          refine AO.op rfl (AOp.assign rfl rfl (ltb rfl) rfl ?_)
          refine AO.nil ?_
          exact ⟨((g113.1 / 2 ^ 3), (g113.2.1 + (1 : Int)), (((((((g113.2.2.set ((0 : Int)).toNat (bits .xor .i64 x333 (m1 g113.2.1))).set ((2 : Int)).toNat (bits .xor .i64 x338 (m1 g113.2.1))).set ((1 : Int)).toNat (bits .xor .i64 x348 (m1 g113.2.1))).set ((2 : Int)).toNat (bits .xor .i64 x353 (m1 g113.2.1))).set ((0 : Int)).toNat (x367 + (IntKind.i64.wrap ((bits .and .i64 (bits .xor .i64 ((bits .and .i64 g113.1 (7 : Int)) / 2 ^ 0) ((bits .and .i64 g113.1 (7 : Int)) / 2 ^ 1)) (1 : Int)) * 2 ^ (g113.2.1).toNat)))).set ((1 : Int)).toNat (x374 + (IntKind.i64.wrap ((bits .and .i64 (bits .xor .i64 ((bits .and .i64 g113.1 (7 : Int)) / 2 ^ 1) ((bits .and .i64 g113.1 (7 : Int)) / 2 ^ 2)) (1 : Int)) * 2 ^ (g113.2.1).toNat)))).set ((2 : Int)).toNat (x381 + (IntKind.i64.wrap (((bits .and .i64 g113.1 (7 : Int)) / 2 ^ 2) * 2 ^ (g113.2.1).toNat))))), _, rfl, (LeL.refl _), rfl, (okU_mk rfl (okU_cons rfl (okU_cons rfl (okU_cons rfl (okU_cons rfl (okU_cons rfl (okU_cons rfl (okU_cons rfl (okU_cons rfl (okU_cons (okU_fixl (fun _ => rfl)) okU_nil)))))))))), h1⟩
        replace h1 := cF h1 q329
        refine AC.skip ?_
        refine inlend (ob' := [.fix 25 [.d (.v (.slice none 0 0))], .fix 4 [.d (dbool false)], .dead, .fix 38 [.d (di .i64 a1)], .fix 38 [.d (di .i64 a1)], .fix 38 [.d (di .i64 a1)], .frame fr107 [(6, .ptr 0 0), (7, .ptr 1 0)], .fix 38 [.d (di .i64 a1)], .fix 3 (List.map sS0 g113.2.2), .dead, .fix 38 [.d (di .i64 a1)]]) (e' := [(1, .sl 8 1 0 (((3 : Int)).toNat) (((3 : Int)).toNat)), (2, .d (di .i64 g113.1)), (3, .ptr 7 0), (7, .d (di .i64 g113.2.1)), (8, .d (di .i64 (bits .and .i64 g113.1 (7 : Int))))]) (r := .tu []) rfl rfl rfl ?_
        change AO _ _ _ _ _
        refine AO.nil ?_
        change AC _ _ _ _
        refine AC.seq ?_
        refine AC.region ?_
        refine AO.op rfl (AOp.move rfl rfl (ltb rfl) rfl ?_)
        obtain ⟨q389, h1⟩ := need_elim h1
        refine AO.op rfl (AOp.ishr (n := 2) rfl rfl (ltb rfl) rfl rfl (by decide) q389 rfl ?_)
        refine AO.op rfl (AOp.assign rfl rfl (ltb rfl) rfl ?_)
        refine AO.nil ?_
        change AC _ _ _ _
        refine AC.seq ?_
        refine AC.region ?_
        refine AO.op rfl (AOp.move rfl rfl (ltb rfl) rfl ?_)
        obtain ⟨q390, h1⟩ := need_elim h1
        refine AO.op rfl (AOp.ishr (n := 1) rfl rfl (ltb rfl) rfl rfl (by decide) q390 rfl ?_)
        refine AO.op rfl (AOp.move rfl rfl (ltb rfl) rfl ?_)
        obtain ⟨q391, h1⟩ := need_elim h1
        refine AO.op rfl (AOp.ishr (n := 2) rfl rfl (ltb rfl) rfl rfl (by decide) q391 rfl ?_)
        refine AO.op rfl (AOp.ibits (by simp) rfl rfl (ltb rfl) rfl rfl rfl ?_)
        refine AO.op rfl (AOp.ibits (by simp) rfl rfl (ltb rfl) rfl rfl rfl ?_)
        refine AO.op rfl (AOp.assign rfl rfl (ltb rfl) rfl ?_)
        refine AO.nil ?_
        change AC _ _ _ _
        refine AC.seq ?_
        refine AC.region ?_
        refine AO.op rfl (AOp.move rfl rfl (ltb rfl) rfl ?_)
        obtain ⟨q392, h1⟩ := need_elim h1
        refine AO.op rfl (AOp.ishr (n := 0) rfl rfl (ltb rfl) rfl rfl (by decide) q392 rfl ?_)
        refine AO.op rfl (AOp.move rfl rfl (ltb rfl) rfl ?_)
        obtain ⟨q393, h1⟩ := need_elim h1
        refine AO.op rfl (AOp.ishr (n := 1) rfl rfl (ltb rfl) rfl rfl (by decide) q393 rfl ?_)
        refine AO.op rfl (AOp.ibits (by simp) rfl rfl (ltb rfl) rfl rfl rfl ?_)
        refine AO.op rfl (AOp.ibits (by simp) rfl rfl (ltb rfl) rfl rfl rfl ?_)
        refine AO.op rfl (AOp.assign rfl rfl (ltb rfl) rfl ?_)
        refine AO.nil ?_
        change AC _ _ _ _
        refine AC.seq ?_
        refine AC.draw 8 mixed (by kernel_rfl) ?_
        refine AD.op [1] rfl (by kernel_rfl) rfl rfl (fun _ _ h => AOp.move rfl rfl (ltb rfl) rfl h) ?_
        obtain ⟨q394, h1⟩ := need_elim h1
        refine AD.op [47] rfl (by kernel_rfl) rfl rfl (fun _ _ h => AOp.indexSl rfl rfl (ltb rfl) rfl rfl el25 q394.1 q394.2 h) ?_
        obtain ⟨x395, q396, h1⟩ := idx_elim h1
        refine AD.op [48] rfl (by kernel_rfl) rfl rfl (fun _ _ h => AOp.load1 rfl rfl (ltb rfl) rfl agg3 rfl (atO q396.2) h) ?_
        refine AD.op [11] rfl (by kernel_rfl) rfl rfl (fun _ _ h => AOp.move rfl rfl (ltb rfl) rfl h) ?_
        refine AD.op [7] rfl (by kernel_rfl) rfl rfl (fun _ _ h => AOp.move rfl rfl (ltb rfl) rfl h) ?_
        obtain ⟨q397, h1⟩ := need_elim h1
        refine AD.op [50, 51] rfl (by kernel_rfl) rfl rfl (fun _ _ h => AOp.ishl' rfl rfl (ltb rfl) rfl rfl q397 h) ?_
        obtain ⟨q398, h1⟩ := need_elim h1
        refine AD.op [49, 52] rfl (by kernel_rfl) rfl rfl (fun _ _ h => AOp.iadd rfl rfl (ltb rfl) rfl rfl rfl q398.1 q398.2 h) ?_
        obtain ⟨q399, h1⟩ := need_elim h1
        refine AD.op [47] rfl (by kernel_rfl) rfl rfl (fun _ _ h => AOp.indexSl rfl rfl (ltb rfl) rfl rfl el25 q399.1 q399.2 h) ?_
        refine AD.done ?_
        obtain ⟨q400, h1⟩ := need_elim h1
        refine AO.op rfl (AOp.storeL (f := fun z => SV.d (keS0 z)) (l := g113.2.2) (i := ((0 : Int)).toNat) (v := (x395 + (IntKind.i64.wrap ((bits .and .i64 (bits .xor .i64 ((bits .and .i64 g113.1 (7 : Int)) / 2 ^ 0) ((bits .and .i64 g113.1 (7 : Int)) / 2 ^ 1)) (1 : Int)) * 2 ^ (g113.2.1).toNat)))) rfl rfl rfl rfl size3 rfl rfl rfl q400 ?_)
        refine AO.nil ?_
        change AC _ _ _ _
        refine AC.seq ?_
        refine AC.draw 8 mixed (by kernel_rfl) ?_
        refine AD.op [1] rfl (by kernel_rfl) rfl rfl (fun _ _ h => AOp.move rfl rfl (ltb rfl) rfl h) ?_
        obtain ⟨q401, h1⟩ := need_elim h1
        refine AD.op [55] rfl (by kernel_rfl) rfl rfl (fun _ _ h => AOp.indexSl rfl rfl (ltb rfl) rfl rfl el25 q401.1 q401.2 h) ?_
        obtain ⟨x402, q403, h1⟩ := idx_elim h1
        refine AD.op [56] rfl (by kernel_rfl) rfl rfl (fun _ _ h => AOp.load1 rfl rfl (ltb rfl) rfl agg3 rfl (atO q403.2) h) ?_
        refine AD.op [10] rfl (by kernel_rfl) rfl rfl (fun _ _ h => AOp.move rfl rfl (ltb rfl) rfl h) ?_
        refine AD.op [7] rfl (by kernel_rfl) rfl rfl (fun _ _ h => AOp.move rfl rfl (ltb rfl) rfl h) ?_
        obtain ⟨q404, h1⟩ := need_elim h1
        refine AD.op [58, 59] rfl (by kernel_rfl) rfl rfl (fun _ _ h => AOp.ishl' rfl rfl (ltb rfl) rfl rfl q404 h) ?_
        obtain ⟨q405, h1⟩ := need_elim h1
        refine AD.op [57, 60] rfl (by kernel_rfl) rfl rfl (fun _ _ h => AOp.iadd rfl rfl (ltb rfl) rfl rfl rfl q405.1 q405.2 h) ?_
        obtain ⟨q406, h1⟩ := need_elim h1
        refine AD.op [55] rfl (by kernel_rfl) rfl rfl (fun _ _ h => AOp.indexSl rfl rfl (ltb rfl) rfl rfl el25 q406.1 q406.2 h) ?_
        refine AD.done ?_
        obtain ⟨q407, h1⟩ := need_elim h1
        refine AO.op rfl (AOp.storeL (f := fun z => SV.d (keS0 z)) (l := (g113.2.2.set ((0 : Int)).toNat (x395 + (IntKind.i64.wrap ((bits .and .i64 (bits .xor .i64 ((bits .and .i64 g113.1 (7 : Int)) / 2 ^ 0) ((bits .and .i64 g113.1 (7 : Int)) / 2 ^ 1)) (1 : Int)) * 2 ^ (g113.2.1).toNat))))) (i := ((1 : Int)).toNat) (v := (x402 + (IntKind.i64.wrap ((bits .and .i64 (bits .xor .i64 ((bits .and .i64 g113.1 (7 : Int)) / 2 ^ 1) ((bits .and .i64 g113.1 (7 : Int)) / 2 ^ 2)) (1 : Int)) * 2 ^ (g113.2.1).toNat)))) rfl rfl rfl rfl size3 rfl rfl rfl q407 ?_)
        refine AO.nil ?_
        change AC _ _ _ _
        refine AC.seq ?_
        refine AC.draw 8 mixed (by kernel_rfl) ?_
        refine AD.op [1] rfl (by kernel_rfl) rfl rfl (fun _ _ h => AOp.move rfl rfl (ltb rfl) rfl h) ?_
        obtain ⟨q408, h1⟩ := need_elim h1
        refine AD.op [63] rfl (by kernel_rfl) rfl rfl (fun _ _ h => AOp.indexSl rfl rfl (ltb rfl) rfl rfl el25 q408.1 q408.2 h) ?_
        obtain ⟨x409, q410, h1⟩ := idx_elim h1
        refine AD.op [64] rfl (by kernel_rfl) rfl rfl (fun _ _ h => AOp.load1 rfl rfl (ltb rfl) rfl agg3 rfl (atO q410.2) h) ?_
        refine AD.op [9] rfl (by kernel_rfl) rfl rfl (fun _ _ h => AOp.move rfl rfl (ltb rfl) rfl h) ?_
        refine AD.op [7] rfl (by kernel_rfl) rfl rfl (fun _ _ h => AOp.move rfl rfl (ltb rfl) rfl h) ?_
        obtain ⟨q411, h1⟩ := need_elim h1
        refine AD.op [66, 67] rfl (by kernel_rfl) rfl rfl (fun _ _ h => AOp.ishl' rfl rfl (ltb rfl) rfl rfl q411 h) ?_
        obtain ⟨q412, h1⟩ := need_elim h1
        refine AD.op [65, 68] rfl (by kernel_rfl) rfl rfl (fun _ _ h => AOp.iadd rfl rfl (ltb rfl) rfl rfl rfl q412.1 q412.2 h) ?_
        obtain ⟨q413, h1⟩ := need_elim h1
        refine AD.op [63] rfl (by kernel_rfl) rfl rfl (fun _ _ h => AOp.indexSl rfl rfl (ltb rfl) rfl rfl el25 q413.1 q413.2 h) ?_
        refine AD.done ?_
        obtain ⟨q414, h1⟩ := need_elim h1
        refine AO.op rfl (AOp.storeL (f := fun z => SV.d (keS0 z)) (l := ((g113.2.2.set ((0 : Int)).toNat (x395 + (IntKind.i64.wrap ((bits .and .i64 (bits .xor .i64 ((bits .and .i64 g113.1 (7 : Int)) / 2 ^ 0) ((bits .and .i64 g113.1 (7 : Int)) / 2 ^ 1)) (1 : Int)) * 2 ^ (g113.2.1).toNat)))).set ((1 : Int)).toNat (x402 + (IntKind.i64.wrap ((bits .and .i64 (bits .xor .i64 ((bits .and .i64 g113.1 (7 : Int)) / 2 ^ 1) ((bits .and .i64 g113.1 (7 : Int)) / 2 ^ 2)) (1 : Int)) * 2 ^ (g113.2.1).toNat))))) (i := ((2 : Int)).toNat) (v := (x409 + (IntKind.i64.wrap (((bits .and .i64 g113.1 (7 : Int)) / 2 ^ 2) * 2 ^ (g113.2.1).toNat)))) rfl rfl rfl rfl size3 rfl rfl rfl q414 ?_)
        refine AO.nil ?_
        change AC _ _ _ _
        refine AC.region ?_
        refine AO.op rfl (AOp.move rfl rfl (ltb rfl) rfl ?_)
        obtain ⟨q415, h1⟩ := need_elim h1
        refine AO.op rfl (AOp.ishr (n := 3) rfl rfl (ltb rfl) rfl rfl (by decide) q415 rfl ?_)
        refine AO.op rfl (AOp.assign rfl rfl (ltb rfl) rfl ?_)
        refine AO.nil ?_
        change AC _ _ _ _
        refine AC.region ?_
        refine AO.op rfl (AOp.move rfl rfl (ltb rfl) rfl ?_)
        obtain ⟨q416, h1⟩ := need_elim h1
        refine AO.op rfl (AOp.iadd rfl rfl (ltb rfl) rfl rfl rfl q416.1 q416.2 ?_)
        refine AO.op rfl (AOp.assign rfl rfl (ltb rfl) rfl ?_)
        refine AO.nil ?_
        exact ⟨((g113.1 / 2 ^ 3), (g113.2.1 + (1 : Int)), (((g113.2.2.set ((0 : Int)).toNat (x395 + (IntKind.i64.wrap ((bits .and .i64 (bits .xor .i64 ((bits .and .i64 g113.1 (7 : Int)) / 2 ^ 0) ((bits .and .i64 g113.1 (7 : Int)) / 2 ^ 1)) (1 : Int)) * 2 ^ (g113.2.1).toNat)))).set ((1 : Int)).toNat (x402 + (IntKind.i64.wrap ((bits .and .i64 (bits .xor .i64 ((bits .and .i64 g113.1 (7 : Int)) / 2 ^ 1) ((bits .and .i64 g113.1 (7 : Int)) / 2 ^ 2)) (1 : Int)) * 2 ^ (g113.2.1).toNat)))).set ((2 : Int)).toNat (x409 + (IntKind.i64.wrap (((bits .and .i64 g113.1 (7 : Int)) / 2 ^ 2) * 2 ^ (g113.2.1).toNat))))), _, rfl, (LeL.refl _), rfl, (okU_mk rfl (okU_cons rfl (okU_cons rfl (okU_cons rfl (okU_cons rfl (okU_cons rfl (okU_cons rfl (okU_cons rfl (okU_cons rfl (okU_cons (okU_fixl (fun _ => rfl)) okU_nil)))))))))), h1⟩
      replace h1 := cF h1 q116
      refine AC.exit ?_
      obtain rfl := Option.some.inj h1
      exact ⟨g113.2.2, _, rfl, (LeL.refl _), rfl, (okU_mk rfl (okU_cons rfl (okU_cons rfl (okU_cons rfl (okU_cons rfl (okU_cons rfl (okU_cons rfl (okU_cons rfl (okU_cons rfl (okU_cons (okU_fixl (fun _ => rfl)) okU_nil)))))))))), aftL h0⟩
    intro g111 h0
    unfold p_HCoord_k3 at h0
    change AC _ _ _ _
    refine AC.seq ?_
    refine AC.region ?_
    refine AO.op rfl (AOp.move rfl rfl (ltb rfl) rfl ?_)
    refine AO.op rfl (AOp.assign rfl rfl (ltb rfl) rfl ?_)
    refine AO.nil ?_
    change AC _ _ _ _
    refine AC.ret ?_
    refine inlret (ob' := [.fix 25 [.d (.v (.slice none 0 0))], .fix 4 [.d (dbool false)], .dead, .fix 38 [.d (di .i64 a1)], .fix 38 [.d (di .i64 a1)], .fix 38 [.d (di .i64 a1)], .dead, .fix 38 [.d (di .i64 a1)], .fix 3 (List.map sS0 g111)]) (e' := [(6, .ptr 0 0), (7, .ptr 1 0)]) (r := .sl 8 1 0 (((3 : Int)).toNat) (((3 : Int)).toNat)) rfl rfl rfl ?_
    change AO _ _ _ _ _
    obtain ⟨q112, h0⟩ := need_elim h0
    refine AO.freezeF (ds := (List.map keS0 g111)) 39 8 rfl rfl rfl (by rw [List.map_map]; rfl) (lenq q112 (len1 _ _)) (Nat.le_refl _) ?_
    refine AO.op rfl (AOp.store rfl rfl rfl rfl size25 rfl rfl rfl (leb rfl) ?_)
    refine AO.op rfl (AOp.store rfl rfl rfl rfl size4 rfl rfl rfl (leb rfl) ?_)
    refine AO.nil ?_
    change AC _ _ _ _
    refine AC.ret ?_
    change RetQ _ _ _ .ret _
    obtain rfl := Option.some.inj h0
    refine retq rfl rfl
  exact absurd (hp1.symm.trans q102) (by decide)

end Go.Proofs.YtkajoiehicpnlaaDoor.Wk
