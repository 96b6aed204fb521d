/- Proved: functions of the program compute what the printed functions say, wherever these say something. -/
import Derived.Test.YtkajoiehicpnlaaDoorPHs
import Derived.Test.YtkajoiehicpnlaaDoorVmDraw4
import Derived.Test.YtkajoiehicpnlaaDoorVmIfc
import Derived.Test.YtkajoiehicpnlaaDoorVmNaN
import Derived.Test.YtkajoiehicpnlaaDoorFltDy
import Derived.Test.YtkajoiehicpnlaaDoorFltMin
import Derived.Test.YtkajoiehicpnlaaDoorVmFin
import Derived.Test.YtkajoiehicpnlaaDoorProg
namespace Go.Proofs.YtkajoiehicpnlaaDoor.Wk
open Go.Vm
set_option linter.unusedVariables false
set_option linter.unusedSimpArgs false
theorem agg3 : aggT Tryd.prog 3 = some false := by kernel_rfl
theorem agg32 : aggT Tryd.prog 32 = some true := by kernel_rfl
theorem agg34 : aggT Tryd.prog 34 = some false := by kernel_rfl
theorem agg38 : aggT Tryd.prog 38 = some true := by kernel_rfl
theorem agg41 : aggT Tryd.prog 41 = some true := by kernel_rfl
theorem el25 : elemT Tryd.prog 25 = some (3, 1) := by kernel_rfl
theorem fo32_0 : fieldOff Tryd.prog 32 0 = some 0 := by kernel_rfl
theorem fo38_0 : fieldOff Tryd.prog 38 0 = some 0 := by kernel_rfl
theorem fo41_0 : fieldOff Tryd.prog 41 0 = some 0 := by kernel_rfl
theorem imeth34 : Tryd.prog.underlying 34 = some (.interface (Tryd.prog.methodsAt 34)) := by kernel_rfl
theorem mixed : Tryd.prog.follows .mixedOrders = true := by kernel_rfl
def pl32 : Nat → Option (Nat × Nat) := fun i => ([(0, 1)] : List (Nat × Nat))[i]?
theorem places32 : placesT Tryd.prog 32 = some pl32 := by kernel_rfl
def pl38 : Nat → Option (Nat × Nat) := fun i => ([(0, 1)] : List (Nat × Nat))[i]?
theorem places38 : placesT Tryd.prog 38 = some pl38 := by kernel_rfl
def pl41 : Nat → Option (Nat × Nat) := fun i => ([(0, 1)] : List (Nat × Nat))[i]?
theorem places41 : placesT Tryd.prog 41 = some pl41 := by kernel_rfl
theorem size32 : sizeT Tryd.prog 32 = some 1 := by kernel_rfl
theorem size38 : sizeT Tryd.prog 38 = some 1 := by kernel_rfl
theorem size41 : sizeT Tryd.prog 41 = some 1 := by kernel_rfl
theorem zero3 : (Tryd.prog.info? 3).map (·.zero) = some (some (.int .i64 0)) := by kernel_rfl
theorem zero32 : (Tryd.prog.info? 32).map (·.zero) = some (some (.agg #[.int .i64 0])) := by kernel_rfl
theorem zero38 : (Tryd.prog.info? 38).map (·.zero) = some (some (.agg #[.int .i64 0])) := by kernel_rfl
theorem zero41 : (Tryd.prog.info? 41).map (·.zero) = some (some (.agg #[.int .i64 0])) := by kernel_rfl
set_option maxRecDepth 100000 in
set_option maxHeartbeats 1000000 in
/-- pub-orthodrome/laws.orders -/
theorem w_orders (a0 : Int) (r0 : Int) (h0 : p_orders a0 = some r0) : FnD Tryd.prog 5 [di .i64 a0] (fun r => r = di .i64 r0) := by
  refine FnD.of (by kernel_rfl) Tryd.func5 rfl Tryd.ntmps5 rfl (leb rfl) fun W ok => ?_
  unfold p_orders at h0
  refine AC.seq ?_
  refine AC.region ?_
  refine AO.op rfl (AOp.assign rfl rfl (ltb rfl) rfl ?_)
  refine AO.nil ?_
  change AC _ _ _ _
  refine AC.seq ?_
  refine AC.seq ?_
  refine AC.region ?_
  refine AO.op rfl (AOp.move rfl rfl (ltb rfl) rfl ?_)
  refine AO.op rfl (AOp.ieql rfl rfl (ltb rfl) rfl rfl ?_)
  refine AO.nil ?_
  change AC _ _ _ _
  refine AC.cond rfl (fun q1 => ?_) (fun q1 => ?_)
  · replace h0 := cT h0 q1
    refine AC.seq ?_
    refine AC.region ?_
    refine AO.op rfl (AOp.assign rfl rfl (ltb rfl) rfl ?_)
    refine AO.nil ?_
    change AC _ _ _ _
    refine AC.ret ?_
    change RetQ _ _ _ .ret _
    obtain rfl := Option.some.inj h0
    refine retq rfl rfl
  · replace h0 := cF h0 q1
    refine AC.skip ?_
    change AC _ _ _ _
    refine AC.seq ?_
    refine AC.region ?_
    refine AO.op rfl (AOp.move rfl rfl (ltb rfl) rfl ?_)
    obtain ⟨q2, h0⟩ := need_elim h0
    refine AO.op rfl (AOp.iquo rfl rfl (ltb rfl) rfl rfl q2.1 rfl q2.2.1 q2.2.2 ?_)
    refine AO.op rfl (AOp.assign rfl rfl (ltb rfl) rfl ?_)
    refine AO.nil ?_
    change AC _ _ _ _
    refine AC.ret ?_
    change RetQ _ _ _ .ret _
    obtain rfl := Option.some.inj h0
    refine retq rfl rfl

set_option maxRecDepth 100000 in
set_option maxHeartbeats 1000000 in
/-- (pub-orthodrome/pub/gonum/spatial/curve.Hilbert2D).Len -/
theorem w_Hilbert2D_Len (a0 : TCurve_Hilbert2D) (r0 : Int) (h0 : p_Hilbert2D_Len a0 = some r0) : FnD Tryd.prog 11 [e_TCurve_Hilbert2D a0] (fun r => r = di .i64 r0) := by
  refine FnD.of (by kernel_rfl) Tryd.func11 rfl Tryd.ntmps11 rfl (leb rfl) fun W ok => ?_
  unfold p_Hilbert2D_Len at h0
  refine AC.seq ?_
  refine AC.region ?_
  refine AO.op rfl (AOp.box rfl rfl (ltb rfl) rfl rfl ?_)
  refine AO.op rfl (AOp.assign rfl rfl (ltb rfl) rfl ?_)
  refine AO.nil ?_
  change AC _ _ _ _
  refine AC.seq ?_
  refine AC.region ?_
  refine AO.op rfl (AOp.fieldAddr rfl rfl (ltb rfl) rfl fo32_0 ?_)
  refine AO.op rfl (AOp.load1 rfl rfl (ltb rfl) rfl agg3 rfl rfl ?_)
  obtain ⟨q1, h0⟩ := need_elim h0
  refine AO.op rfl (AOp.imul rfl rfl (ltb rfl) rfl rfl rfl q1.1 q1.2 ?_)
  obtain ⟨q2, h0⟩ := need_elim h0
  refine AO.op rfl (AOp.ishl' rfl rfl (ltb rfl) rfl rfl q2 ?_)
  refine AO.op rfl (AOp.assign rfl rfl (ltb rfl) rfl ?_)
  refine AO.nil ?_
  change AC _ _ _ _
  refine AC.ret ?_
  change RetQ _ _ _ .ret _
  obtain rfl := Option.some.inj h0
  refine retq rfl rfl

set_option maxRecDepth 100000 in
set_option maxHeartbeats 1000000 in
/-- (pub-orthodrome/pub/gonum/spatial/curve.Hilbert3D).Len -/
theorem w_Hilbert3D_Len (a0 : TCurve_Hilbert2D) (r0 : Int) (h0 : p_Hilbert3D_Len a0 = some r0) : FnD Tryd.prog 13 [e_TCurve_Hilbert2D a0] (fun r => r = di .i64 r0) := by
  refine FnD.of (by kernel_rfl) Tryd.func13 rfl Tryd.ntmps13 rfl (leb rfl) fun W ok => ?_
  unfold p_Hilbert3D_Len at h0
  refine AC.seq ?_
  refine AC.region ?_
  refine AO.op rfl (AOp.box rfl rfl (ltb rfl) rfl rfl ?_)
  refine AO.op rfl (AOp.assign rfl rfl (ltb rfl) rfl ?_)
  refine AO.nil ?_
  change AC _ _ _ _
  refine AC.seq ?_
  refine AC.region ?_
  refine AO.op rfl (AOp.fieldAddr rfl rfl (ltb rfl) rfl fo38_0 ?_)
  refine AO.op rfl (AOp.load1 rfl rfl (ltb rfl) rfl agg3 rfl rfl ?_)
  obtain ⟨q1, h0⟩ := need_elim h0
  refine AO.op rfl (AOp.imul rfl rfl (ltb rfl) rfl rfl rfl q1.1 q1.2 ?_)
  obtain ⟨q2, h0⟩ := need_elim h0
  refine AO.op rfl (AOp.ishl' rfl rfl (ltb rfl) rfl rfl q2 ?_)
  refine AO.op rfl (AOp.assign rfl rfl (ltb rfl) rfl ?_)
  refine AO.nil ?_
  change AC _ _ _ _
  refine AC.ret ?_
  change RetQ _ _ _ .ret _
  obtain rfl := Option.some.inj h0
  refine retq rfl rfl

set_option maxRecDepth 100000 in
set_option maxHeartbeats 1000000 in
/-- (pub-orthodrome/pub/gonum/spatial/curve.Hilbert4D).Len -/
theorem w_Hilbert4D_Len (a0 : TCurve_Hilbert2D) (r0 : Int) (h0 : p_Hilbert4D_Len a0 = some r0) : FnD Tryd.prog 15 [e_TCurve_Hilbert2D a0] (fun r => r = di .i64 r0) := by
  refine FnD.of (by kernel_rfl) Tryd.func15 rfl Tryd.ntmps15 rfl (leb rfl) fun W ok => ?_
  unfold p_Hilbert4D_Len at h0
  refine AC.seq ?_
  refine AC.region ?_
  refine AO.op rfl (AOp.box rfl rfl (ltb rfl) rfl rfl ?_)
  refine AO.op rfl (AOp.assign rfl rfl (ltb rfl) rfl ?_)
  refine AO.nil ?_
  change AC _ _ _ _
  refine AC.seq ?_
  refine AC.region ?_
  refine AO.op rfl (AOp.fieldAddr rfl rfl (ltb rfl) rfl fo41_0 ?_)
  refine AO.op rfl (AOp.load1 rfl rfl (ltb rfl) rfl agg3 rfl rfl ?_)
  obtain ⟨q1, h0⟩ := need_elim h0
  refine AO.op rfl (AOp.imul rfl rfl (ltb rfl) rfl rfl rfl q1.1 q1.2 ?_)
  obtain ⟨q2, h0⟩ := need_elim h0
  refine AO.op rfl (AOp.ishl' rfl rfl (ltb rfl) rfl rfl q2 ?_)
  refine AO.op rfl (AOp.assign rfl rfl (ltb rfl) rfl ?_)
  refine AO.nil ?_
  change AC _ _ _ _
  refine AC.ret ?_
  change RetQ _ _ _ .ret _
  obtain rfl := Option.some.inj h0
  refine retq rfl rfl

set_option maxRecDepth 100000 in
set_option maxHeartbeats 1000000 in
/-- pub-orthodrome/impl.HLen -/
theorem w_HLen (a0 : Int) (a1 : Int) (r0 : (Int × Bool)) (h0 : p_HLen a0 a1 = some r0) : FnD Tryd.prog 6 [di .i64 a0, di .i64 a1] (fun r => r = .tu [di .i64 r0.1, dbool r0.2]) := by
  refine FnD.of (by kernel_rfl) Tryd.func6 rfl Tryd.ntmps6 rfl (leb rfl) fun W ok => ?_
  unfold p_HLen at h0
  refine AC.seq ?_
  refine AC.region ?_
  refine AO.op rfl (AOp.assign rfl rfl (ltb rfl) rfl ?_)
  refine AO.op rfl (AOp.assign rfl rfl (ltb rfl) rfl ?_)
  refine AO.nil ?_
  change AC _ _ _ _
  refine AC.seq ?_
  refine AC.seq ?_
  refine AC.region ?_
  refine AO.op rfl (AOp.move rfl rfl (ltb rfl) rfl ?_)
  refine AO.nil ?_
  change AC _ _ _ _
  refine AC.block ?_
  refine AC.seq ?_
  refine AC.region ?_
  refine AO.op rfl (AOp.ieql rfl rfl (ltb rfl) rfl rfl ?_)
  refine AO.op rfl (AOp.assign rfl rfl (ltb rfl) rfl ?_)
  refine AO.nil ?_
  change AC _ _ _ _
  refine AC.cond rfl (fun q1 => ?_) (fun q1 => ?_)
  · replace h0 := cT h0 q1
    refine AC.seq ?_
    refine AC.region ?_
    refine AO.op rfl (AOp.move rfl rfl (ltb rfl) rfl ?_)
    refine AO.op rfl (AOp.inl [] (by kernel_rfl) Tryd.func10 rfl Tryd.ntmps10 rfl rfl (ltb rfl) rfl (leb rfl) rfl ?_)
    intro fr2
    refine AC.seq ?_
    refine AC.region ?_
    refine AO.op rfl (AOp.alloc rfl rfl (ltb rfl) zero32 rfl ?_)
    refine AO.op rfl (AOp.assign rfl rfl (ltb rfl) rfl ?_)
    refine AO.nil ?_
    change AC _ _ _ _
    refine AC.seq ?_
    refine AC.region ?_
    refine AO.op rfl (AOp.move rfl rfl (ltb rfl) rfl ?_)
    refine AO.op rfl (AOp.build rfl rfl (ltb rfl) zero32 rfl places32 rfl rfl ?_)
    refine AO.op rfl (AOp.alloc rfl rfl (ltb rfl) zero32 rfl ?_)
    refine AO.op rfl (AOp.store rfl rfl rfl rfl size32 rfl rfl rfl (leb rfl) ?_)
    refine AO.nil ?_
    change AC _ _ _ _
    refine AC.seq ?_
    refine AC.seq ?_
    refine AC.region ?_
    refine AO.op rfl (AOp.move rfl rfl (ltb rfl) rfl ?_)
    refine AO.op rfl (AOp.ilss rfl rfl (ltb rfl) rfl rfl ?_)
    refine AO.nil ?_
    change AC _ _ _ _
    refine AC.cond rfl (fun q3 => ?_) (fun q3 => ?_)
    · replace h0 := cT h0 q3
      refine AC.seq ?_
      refine AC.drawS [0, 1, 2] [2] [3] (fun L => [.frame fr2 [], bif L 2 then .fix 32 [.d (di .i64 a1)] else .fix 32 [.d (di .i64 (0 : Int))], .fix 32 [.d (di .i64 a1)]]) [(2, (fun _ => true))] mixed (by kernel_rfl) (fun L L' h => by simp only [h 2 (by decide)]) rfl ?_
      refine AS.op [4] [] [2] [] rfl rfl rfl (by kernel_rfl) (by kernel_rfl) rfl rfl (fun _ _ _ h => AOp.loadN rfl rfl (ltb rfl) rfl agg32 size32 rfl (leb rfl) rfl h) (by kernel_rfl) ?_
      refine AS.op [] [] [] [2] rfl rfl rfl (by kernel_rfl) (by kernel_rfl) rfl rfl (fun _ _ _ h => AOp.loadE rfl rfl (ltb rfl) rfl agg34 (by simp [GlobsE]) h) (by kernel_rfl) ?_
      refine AS.mid0 [2, 9] [] [2] [] rfl rfl rfl rfl (by kernel_rfl) (by kernel_rfl) rfl rfl (fun _ _ _ h => AOp.store rfl rfl rfl rfl size32 rfl rfl rfl (leb rfl) (AO.dropT h)) (by kernel_rfl) rfl ?_
      refine AS.done ?_
      refine AO.objs (obs' := [.frame fr2 [], .fix 32 [.d (di .i64 a1)], .fix 32 [.d (di .i64 a1)]]) rfl ?_
      refine AO.op rfl (AOp.assign rfl rfl (ltb rfl) rfl ?_)
      refine AO.nil ?_
      change AC _ _ _ _
      refine AC.ret ?_
      refine inlret (ob' := [.dead, .fix 32 [.d (di .i64 a1)], .fix 32 [.d (di .i64 a1)]]) (e' := []) (r := .tu [.ag [.d (di .i64 a1)], .ifc (errT W 0) (.any)]) rfl rfl rfl ?_
      change AO _ _ _ _ _
      refine AO.op rfl (AOp.move rfl rfl (ltb rfl) rfl ?_)
      first | refine AO.op rfl (AOp.extractD rfl rfl (ltb rfl) rfl rfl ?_) | refine AO.op rfl (AOp.extract rfl rfl (ltb rfl) rfl rfl ?_)
      first | refine AO.op rfl (AOp.extractD rfl rfl (ltb rfl) rfl rfl ?_) | refine AO.op rfl (AOp.extract rfl rfl (ltb rfl) rfl rfl ?_)
      refine AO.op rfl (AOp.alloc rfl rfl (ltb rfl) zero32 rfl ?_)
      refine AO.op rfl (AOp.store rfl rfl rfl rfl size32 rfl rfl rfl (leb rfl) ?_)
      refine AO.op rfl (AOp.assign rfl rfl (ltb rfl) rfl ?_)
      refine AO.nil ?_
      change AC _ _ _ _
      refine AC.seq ?_
      refine AC.seq ?_
      refine AC.region ?_
      refine AO.op rfl (AOp.move rfl rfl (ltb rfl) rfl ?_)
      refine AO.op rfl (AOp.ifcNeq rfl rfl (ltb rfl) rfl rfl imeth34 ?_)
      refine AO.nil ?_
      change AC _ _ _ _
      refine AC.condT rfl rfl ?_
      refine AC.seq ?_
      refine AC.region ?_
      refine AO.op rfl (AOp.assign rfl rfl (ltb rfl) rfl ?_)
      refine AO.op rfl (AOp.assign rfl rfl (ltb rfl) rfl ?_)
      refine AO.nil ?_
      change AC _ _ _ _
      refine AC.ret ?_
      change RetQ _ _ _ .ret _
      obtain rfl := Option.some.inj h0
      refine retq rfl rfl
    · replace h0 := cF h0 q3
      refine AC.skip ?_
      change AC _ _ _ _
      refine AC.seq ?_
      refine AC.seq ?_
      refine AC.region ?_
      refine AO.op rfl (AOp.move rfl rfl (ltb rfl) rfl ?_)
      obtain ⟨q4, h0⟩ := need_elim h0
      refine AO.op rfl (AOp.imul rfl rfl (ltb rfl) rfl rfl rfl q4.1 q4.2 ?_)
      refine AO.op rfl (AOp.igeq rfl rfl (ltb rfl) rfl rfl ?_)
      refine AO.nil ?_
      change AC _ _ _ _
      refine AC.cond rfl (fun q5 => ?_) (fun q5 => ?_)
      · replace h0 := cT h0 q5
        refine AC.seq ?_
        refine AC.drawS [0, 1, 2] [2] [3] (fun L => [.frame fr2 [], bif L 2 then .fix 32 [.d (di .i64 a1)] else .fix 32 [.d (di .i64 (0 : Int))], .fix 32 [.d (di .i64 a1)]]) [(2, (fun _ => true))] mixed (by kernel_rfl) (fun L L' h => by simp only [h 2 (by decide)]) rfl ?_
        refine AS.op [4] [] [2] [] rfl rfl rfl (by kernel_rfl) (by kernel_rfl) rfl rfl (fun _ _ _ h => AOp.loadN rfl rfl (ltb rfl) rfl agg32 size32 rfl (leb rfl) rfl h) (by kernel_rfl) ?_
        refine AS.op [] [] [] [2] rfl rfl rfl (by kernel_rfl) (by kernel_rfl) rfl rfl (fun _ _ _ h => AOp.loadE rfl rfl (ltb rfl) rfl agg34 (by simp [GlobsE]) h) (by kernel_rfl) ?_
        refine AS.mid0 [2, 14] [] [2] [] rfl rfl rfl rfl (by kernel_rfl) (by kernel_rfl) rfl rfl (fun _ _ _ h => AOp.store rfl rfl rfl rfl size32 rfl rfl rfl (leb rfl) (AO.dropT h)) (by kernel_rfl) rfl ?_
        refine AS.done ?_
        refine AO.objs (obs' := [.frame fr2 [], .fix 32 [.d (di .i64 a1)], .fix 32 [.d (di .i64 a1)]]) rfl ?_
        refine AO.op rfl (AOp.assign rfl rfl (ltb rfl) rfl ?_)
        refine AO.nil ?_
        change AC _ _ _ _
        refine AC.ret ?_
        refine inlret (ob' := [.dead, .fix 32 [.d (di .i64 a1)], .fix 32 [.d (di .i64 a1)]]) (e' := []) (r := .tu [.ag [.d (di .i64 a1)], .ifc (errT W 1) (.any)]) rfl rfl rfl ?_
        change AO _ _ _ _ _
        refine AO.op rfl (AOp.move rfl rfl (ltb rfl) rfl ?_)
        first | refine AO.op rfl (AOp.extractD rfl rfl (ltb rfl) rfl rfl ?_) | refine AO.op rfl (AOp.extract rfl rfl (ltb rfl) rfl rfl ?_)
        first | refine AO.op rfl (AOp.extractD rfl rfl (ltb rfl) rfl rfl ?_) | refine AO.op rfl (AOp.extract rfl rfl (ltb rfl) rfl rfl ?_)
        refine AO.op rfl (AOp.alloc rfl rfl (ltb rfl) zero32 rfl ?_)
        refine AO.op rfl (AOp.store rfl rfl rfl rfl size32 rfl rfl rfl (leb rfl) ?_)
        refine AO.op rfl (AOp.assign rfl rfl (ltb rfl) rfl ?_)
        refine AO.nil ?_
        change AC _ _ _ _
        refine AC.seq ?_
        refine AC.seq ?_
        refine AC.region ?_
        refine AO.op rfl (AOp.move rfl rfl (ltb rfl) rfl ?_)
        refine AO.op rfl (AOp.ifcNeq rfl rfl (ltb rfl) rfl rfl imeth34 ?_)
        refine AO.nil ?_
        change AC _ _ _ _
        refine AC.condT rfl rfl ?_
        refine AC.seq ?_
        refine AC.region ?_
        refine AO.op rfl (AOp.assign rfl rfl (ltb rfl) rfl ?_)
        refine AO.op rfl (AOp.assign rfl rfl (ltb rfl) rfl ?_)
        refine AO.nil ?_
        change AC _ _ _ _
        refine AC.ret ?_
        change RetQ _ _ _ .ret _
        obtain rfl := Option.some.inj h0
        refine retq rfl rfl
      · replace h0 := cF h0 q5
        refine AC.skip ?_
        change AC _ _ _ _
        refine AC.seq ?_
        refine AC.region ?_
        refine AO.op rfl (AOp.loadN rfl rfl (ltb rfl) rfl agg32 size32 rfl (leb rfl) rfl ?_)
        refine AO.op rfl (AOp.store rfl rfl rfl rfl size32 rfl rfl rfl (leb rfl) ?_)
        refine AO.op rfl (AOp.assign rfl rfl (ltb rfl) rfl ?_)
        refine AO.nil ?_
        change AC _ _ _ _
        refine AC.ret ?_
        refine inlret (ob' := [.dead, .fix 32 [.d (di .i64 a1)], .fix 32 [.d (di .i64 a1)]]) (e' := []) (r := .tu [.ag [.d (di .i64 a1)], .d (.v (.nilIface))]) rfl rfl rfl ?_
        change AO _ _ _ _ _
        refine AO.op rfl (AOp.move rfl rfl (ltb rfl) rfl ?_)
        first | refine AO.op rfl (AOp.extractD rfl rfl (ltb rfl) rfl rfl ?_) | refine AO.op rfl (AOp.extract rfl rfl (ltb rfl) rfl rfl ?_)
        first | refine AO.op rfl (AOp.extractD rfl rfl (ltb rfl) rfl rfl ?_) | refine AO.op rfl (AOp.extract rfl rfl (ltb rfl) rfl rfl ?_)
        refine AO.op rfl (AOp.alloc rfl rfl (ltb rfl) zero32 rfl ?_)
        refine AO.op rfl (AOp.store rfl rfl rfl rfl size32 rfl rfl rfl (leb rfl) ?_)
        refine AO.op rfl (AOp.assign rfl rfl (ltb rfl) rfl ?_)
        refine AO.nil ?_
        change AC _ _ _ _
        refine AC.seq ?_
        refine AC.seq ?_
        refine AC.region ?_
        refine AO.op rfl (AOp.move rfl rfl (ltb rfl) rfl ?_)
        refine AO.op rfl (AOp.nilNeq rfl rfl (ltb rfl) rfl imeth34 ?_)
        refine AO.nil ?_
        change AC _ _ _ _
        refine AC.condF rfl rfl ?_
        refine AC.skip ?_
        change AC _ _ _ _
        refine AC.seq ?_
        refine AC.region ?_
        refine AO.op rfl (AOp.loadN rfl rfl (ltb rfl) rfl agg32 size32 rfl (leb rfl) rfl ?_)
        obtain ⟨y6, q7, h0⟩ := bind_elim h0
        refine AO.op rfl (AOp.callD rfl rfl (ltb rfl) rfl rfl (w_Hilbert2D_Len (TCurve_Hilbert2D.mk a1) y6 q7) ?_)
        rintro _ rfl
        refine AO.op rfl (AOp.assign rfl rfl (ltb rfl) rfl ?_)
        refine AO.op rfl (AOp.assign rfl rfl (ltb rfl) rfl ?_)
        refine AO.nil ?_
        change AC _ _ _ _
        refine AC.ret ?_
        change RetQ _ _ _ .ret _
        obtain rfl := Option.some.inj h0
        refine retq rfl rfl
  · replace h0 := cF h0 q1
    refine AC.seq ?_
    refine AC.region ?_
    refine AO.op rfl (AOp.ieql rfl rfl (ltb rfl) rfl rfl ?_)
    refine AO.op rfl (AOp.assign rfl rfl (ltb rfl) rfl ?_)
    refine AO.nil ?_
    change AC _ _ _ _
    refine AC.cond rfl (fun q8 => ?_) (fun q8 => ?_)
    · replace h0 := cT h0 q8
      refine AC.seq ?_
      refine AC.region ?_
      refine AO.op rfl (AOp.move rfl rfl (ltb rfl) rfl ?_)
      refine AO.op rfl (AOp.inl [] (by kernel_rfl) Tryd.func12 rfl Tryd.ntmps12 rfl rfl (ltb rfl) rfl (leb rfl) rfl ?_)
      intro fr9
      refine AC.seq ?_
      refine AC.region ?_
      refine AO.op rfl (AOp.alloc rfl rfl (ltb rfl) zero38 rfl ?_)
      refine AO.op rfl (AOp.assign rfl rfl (ltb rfl) rfl ?_)
      refine AO.nil ?_
      change AC _ _ _ _
      refine AC.seq ?_
      refine AC.region ?_
      refine AO.op rfl (AOp.move rfl rfl (ltb rfl) rfl ?_)
      refine AO.op rfl (AOp.build rfl rfl (ltb rfl) zero38 rfl places38 rfl rfl ?_)
      refine AO.op rfl (AOp.alloc rfl rfl (ltb rfl) zero38 rfl ?_)
      refine AO.op rfl (AOp.store rfl rfl rfl rfl size38 rfl rfl rfl (leb rfl) ?_)
      refine AO.nil ?_
      change AC _ _ _ _
      refine AC.seq ?_
      refine AC.seq ?_
      refine AC.region ?_
      refine AO.op rfl (AOp.move rfl rfl (ltb rfl) rfl ?_)
      refine AO.op rfl (AOp.ilss rfl rfl (ltb rfl) rfl rfl ?_)
      refine AO.nil ?_
      change AC _ _ _ _
      refine AC.cond rfl (fun q10 => ?_) (fun q10 => ?_)
      · replace h0 := cT h0 q10
        refine AC.seq ?_
        refine AC.drawS [0, 1, 2] [2] [3] (fun L => [.frame fr9 [], bif L 2 then .fix 38 [.d (di .i64 a1)] else .fix 38 [.d (di .i64 (0 : Int))], .fix 38 [.d (di .i64 a1)]]) [(2, (fun _ => true))] mixed (by kernel_rfl) (fun L L' h => by simp only [h 2 (by decide)]) rfl ?_
        refine AS.op [4] [] [2] [] rfl rfl rfl (by kernel_rfl) (by kernel_rfl) rfl rfl (fun _ _ _ h => AOp.loadN rfl rfl (ltb rfl) rfl agg38 size38 rfl (leb rfl) rfl h) (by kernel_rfl) ?_
        refine AS.op [] [] [] [2] rfl rfl rfl (by kernel_rfl) (by kernel_rfl) rfl rfl (fun _ _ _ h => AOp.loadE rfl rfl (ltb rfl) rfl agg34 (by simp [GlobsE]) h) (by kernel_rfl) ?_
        refine AS.mid0 [2, 9] [] [2] [] rfl rfl rfl rfl (by kernel_rfl) (by kernel_rfl) rfl rfl (fun _ _ _ h => AOp.store rfl rfl rfl rfl size38 rfl rfl rfl (leb rfl) (AO.dropT h)) (by kernel_rfl) rfl ?_
        refine AS.done ?_
        refine AO.objs (obs' := [.frame fr9 [], .fix 38 [.d (di .i64 a1)], .fix 38 [.d (di .i64 a1)]]) rfl ?_
        refine AO.op rfl (AOp.assign rfl rfl (ltb rfl) rfl ?_)
        refine AO.nil ?_
        change AC _ _ _ _
        refine AC.ret ?_
        refine inlret (ob' := [.dead, .fix 38 [.d (di .i64 a1)], .fix 38 [.d (di .i64 a1)]]) (e' := []) (r := .tu [.ag [.d (di .i64 a1)], .ifc (errT W 0) (.any)]) rfl rfl rfl ?_
        change AO _ _ _ _ _
        refine AO.op rfl (AOp.move rfl rfl (ltb rfl) rfl ?_)
        first | refine AO.op rfl (AOp.extractD rfl rfl (ltb rfl) rfl rfl ?_) | refine AO.op rfl (AOp.extract rfl rfl (ltb rfl) rfl rfl ?_)
        first | refine AO.op rfl (AOp.extractD rfl rfl (ltb rfl) rfl rfl ?_) | refine AO.op rfl (AOp.extract rfl rfl (ltb rfl) rfl rfl ?_)
        refine AO.op rfl (AOp.alloc rfl rfl (ltb rfl) zero38 rfl ?_)
        refine AO.op rfl (AOp.store rfl rfl rfl rfl size38 rfl rfl rfl (leb rfl) ?_)
        refine AO.op rfl (AOp.assign rfl rfl (ltb rfl) rfl ?_)
        refine AO.nil ?_
        change AC _ _ _ _
        refine AC.seq ?_
        refine AC.seq ?_
        refine AC.region ?_
        refine AO.op rfl (AOp.move rfl rfl (ltb rfl) rfl ?_)
        refine AO.op rfl (AOp.ifcNeq rfl rfl (ltb rfl) rfl rfl imeth34 ?_)
        refine AO.nil ?_
        change AC _ _ _ _
        refine AC.condT rfl rfl ?_
        refine AC.seq ?_
        refine AC.region ?_
        refine AO.op rfl (AOp.assign rfl rfl (ltb rfl) rfl ?_)
        refine AO.op rfl (AOp.assign rfl rfl (ltb rfl) rfl ?_)
        refine AO.nil ?_
        change AC _ _ _ _
        refine AC.ret ?_
        change RetQ _ _ _ .ret _
        obtain rfl := Option.some.inj h0
        refine retq rfl rfl
      · replace h0 := cF h0 q10
        refine AC.skip ?_
        change AC _ _ _ _
        refine AC.seq ?_
        refine AC.seq ?_
        refine AC.region ?_
        refine AO.op rfl (AOp.move rfl rfl (ltb rfl) rfl ?_)
        obtain ⟨q11, h0⟩ := need_elim h0
        refine AO.op rfl (AOp.imul rfl rfl (ltb rfl) rfl rfl rfl q11.1 q11.2 ?_)
        refine AO.op rfl (AOp.igeq rfl rfl (ltb rfl) rfl rfl ?_)
        refine AO.nil ?_
        change AC _ _ _ _
        refine AC.cond rfl (fun q12 => ?_) (fun q12 => ?_)
        · replace h0 := cT h0 q12
          refine AC.seq ?_
          refine AC.drawS [0, 1, 2] [2] [3] (fun L => [.frame fr9 [], bif L 2 then .fix 38 [.d (di .i64 a1)] else .fix 38 [.d (di .i64 (0 : Int))], .fix 38 [.d (di .i64 a1)]]) [(2, (fun _ => true))] mixed (by kernel_rfl) (fun L L' h => by simp only [h 2 (by decide)]) rfl ?_
          refine AS.op [4] [] [2] [] rfl rfl rfl (by kernel_rfl) (by kernel_rfl) rfl rfl (fun _ _ _ h => AOp.loadN rfl rfl (ltb rfl) rfl agg38 size38 rfl (leb rfl) rfl h) (by kernel_rfl) ?_
          refine AS.op [] [] [] [2] rfl rfl rfl (by kernel_rfl) (by kernel_rfl) rfl rfl (fun _ _ _ h => AOp.loadE rfl rfl (ltb rfl) rfl agg34 (by simp [GlobsE]) h) (by kernel_rfl) ?_
          refine AS.mid0 [2, 14] [] [2] [] rfl rfl rfl rfl (by kernel_rfl) (by kernel_rfl) rfl rfl (fun _ _ _ h => AOp.store rfl rfl rfl rfl size38 rfl rfl rfl (leb rfl) (AO.dropT h)) (by kernel_rfl) rfl ?_
          refine AS.done ?_
          refine AO.objs (obs' := [.frame fr9 [], .fix 38 [.d (di .i64 a1)], .fix 38 [.d (di .i64 a1)]]) rfl ?_
          refine AO.op rfl (AOp.assign rfl rfl (ltb rfl) rfl ?_)
          refine AO.nil ?_
          change AC _ _ _ _
          refine AC.ret ?_
          refine inlret (ob' := [.dead, .fix 38 [.d (di .i64 a1)], .fix 38 [.d (di .i64 a1)]]) (e' := []) (r := .tu [.ag [.d (di .i64 a1)], .ifc (errT W 1) (.any)]) rfl rfl rfl ?_
          change AO _ _ _ _ _
          refine AO.op rfl (AOp.move rfl rfl (ltb rfl) rfl ?_)
          first | refine AO.op rfl (AOp.extractD rfl rfl (ltb rfl) rfl rfl ?_) | refine AO.op rfl (AOp.extract rfl rfl (ltb rfl) rfl rfl ?_)
          first | refine AO.op rfl (AOp.extractD rfl rfl (ltb rfl) rfl rfl ?_) | refine AO.op rfl (AOp.extract rfl rfl (ltb rfl) rfl rfl ?_)
          refine AO.op rfl (AOp.alloc rfl rfl (ltb rfl) zero38 rfl ?_)
          refine AO.op rfl (AOp.store rfl rfl rfl rfl size38 rfl rfl rfl (leb rfl) ?_)
          refine AO.op rfl (AOp.assign rfl rfl (ltb rfl) rfl ?_)
          refine AO.nil ?_
          change AC _ _ _ _
          refine AC.seq ?_
          refine AC.seq ?_
          refine AC.region ?_
          refine AO.op rfl (AOp.move rfl rfl (ltb rfl) rfl ?_)
          refine AO.op rfl (AOp.ifcNeq rfl rfl (ltb rfl) rfl rfl imeth34 ?_)
          refine AO.nil ?_
          change AC _ _ _ _
          refine AC.condT rfl rfl ?_
          refine AC.seq ?_
          refine AC.region ?_
          refine AO.op rfl (AOp.assign rfl rfl (ltb rfl) rfl ?_)
          refine AO.op rfl (AOp.assign rfl rfl (ltb rfl) rfl ?_)
          refine AO.nil ?_
          change AC _ _ _ _
          refine AC.ret ?_
          change RetQ _ _ _ .ret _
          obtain rfl := Option.some.inj h0
          refine retq rfl rfl
        · replace h0 := cF h0 q12
          refine AC.skip ?_
          change AC _ _ _ _
          refine AC.seq ?_
          refine AC.region ?_
          refine AO.op rfl (AOp.loadN rfl rfl (ltb rfl) rfl agg38 size38 rfl (leb rfl) rfl ?_)
          refine AO.op rfl (AOp.store rfl rfl rfl rfl size38 rfl rfl rfl (leb rfl) ?_)
          refine AO.op rfl (AOp.assign rfl rfl (ltb rfl) rfl ?_)
          refine AO.nil ?_
          change AC _ _ _ _
          refine AC.ret ?_
          refine inlret (ob' := [.dead, .fix 38 [.d (di .i64 a1)], .fix 38 [.d (di .i64 a1)]]) (e' := []) (r := .tu [.ag [.d (di .i64 a1)], .d (.v (.nilIface))]) rfl rfl rfl ?_
          change AO _ _ _ _ _
          refine AO.op rfl (AOp.move rfl rfl (ltb rfl) rfl ?_)
          first | refine AO.op rfl (AOp.extractD rfl rfl (ltb rfl) rfl rfl ?_) | refine AO.op rfl (AOp.extract rfl rfl (ltb rfl) rfl rfl ?_)
          first | refine AO.op rfl (AOp.extractD rfl rfl (ltb rfl) rfl rfl ?_) | refine AO.op rfl (AOp.extract rfl rfl (ltb rfl) rfl rfl ?_)
          refine AO.op rfl (AOp.alloc rfl rfl (ltb rfl) zero38 rfl ?_)
          refine AO.op rfl (AOp.store rfl rfl rfl rfl size38 rfl rfl rfl (leb rfl) ?_)
          refine AO.op rfl (AOp.assign rfl rfl (ltb rfl) rfl ?_)
          refine AO.nil ?_
          change AC _ _ _ _
          refine AC.seq ?_
          refine AC.seq ?_
          refine AC.region ?_
          refine AO.op rfl (AOp.move rfl rfl (ltb rfl) rfl ?_)
          refine AO.op rfl (AOp.nilNeq rfl rfl (ltb rfl) rfl imeth34 ?_)
          refine AO.nil ?_
          change AC _ _ _ _
          refine AC.condF rfl rfl ?_
          refine AC.skip ?_
          change AC _ _ _ _
          refine AC.seq ?_
          refine AC.region ?_
          refine AO.op rfl (AOp.loadN rfl rfl (ltb rfl) rfl agg38 size38 rfl (leb rfl) rfl ?_)
          obtain ⟨y13, q14, h0⟩ := bind_elim h0
          refine AO.op rfl (AOp.callD rfl rfl (ltb rfl) rfl rfl (w_Hilbert3D_Len (TCurve_Hilbert2D.mk a1) y13 q14) ?_)
          rintro _ rfl
          refine AO.op rfl (AOp.assign rfl rfl (ltb rfl) rfl ?_)
          refine AO.op rfl (AOp.assign rfl rfl (ltb rfl) rfl ?_)
          refine AO.nil ?_
          change AC _ _ _ _
          refine AC.ret ?_
          change RetQ _ _ _ .ret _
          obtain rfl := Option.some.inj h0
          refine retq rfl rfl
    · replace h0 := cF h0 q8
      refine AC.seq ?_
      refine AC.region ?_
      refine AO.op rfl (AOp.ieql rfl rfl (ltb rfl) rfl rfl ?_)
      refine AO.op rfl (AOp.assign rfl rfl (ltb rfl) rfl ?_)
      refine AO.nil ?_
      change AC _ _ _ _
      refine AC.cond rfl (fun q15 => ?_) (fun q15 => ?_)
      · replace h0 := cT h0 q15
        refine AC.seq ?_
        refine AC.region ?_
        refine AO.op rfl (AOp.move rfl rfl (ltb rfl) rfl ?_)
        refine AO.op rfl (AOp.inl [] (by kernel_rfl) Tryd.func14 rfl Tryd.ntmps14 rfl rfl (ltb rfl) rfl (leb rfl) rfl ?_)
        intro fr16
        refine AC.seq ?_
        refine AC.region ?_
        refine AO.op rfl (AOp.alloc rfl rfl (ltb rfl) zero41 rfl ?_)
        refine AO.op rfl (AOp.assign rfl rfl (ltb rfl) rfl ?_)
        refine AO.nil ?_
        change AC _ _ _ _
        refine AC.seq ?_
        refine AC.region ?_
        refine AO.op rfl (AOp.move rfl rfl (ltb rfl) rfl ?_)
        refine AO.op rfl (AOp.build rfl rfl (ltb rfl) zero41 rfl places41 rfl rfl ?_)
        refine AO.op rfl (AOp.alloc rfl rfl (ltb rfl) zero41 rfl ?_)
        refine AO.op rfl (AOp.store rfl rfl rfl rfl size41 rfl rfl rfl (leb rfl) ?_)
        refine AO.nil ?_
        change AC _ _ _ _
        refine AC.seq ?_
        refine AC.seq ?_
        refine AC.region ?_
        refine AO.op rfl (AOp.move rfl rfl (ltb rfl) rfl ?_)
        refine AO.op rfl (AOp.ilss rfl rfl (ltb rfl) rfl rfl ?_)
        refine AO.nil ?_
        change AC _ _ _ _
        refine AC.cond rfl (fun q17 => ?_) (fun q17 => ?_)
        · replace h0 := cT h0 q17
          refine AC.seq ?_
          refine AC.drawS [0, 1, 2] [2] [3] (fun L => [.frame fr16 [], bif L 2 then .fix 41 [.d (di .i64 a1)] else .fix 41 [.d (di .i64 (0 : Int))], .fix 41 [.d (di .i64 a1)]]) [(2, (fun _ => true))] mixed (by kernel_rfl) (fun L L' h => by simp only [h 2 (by decide)]) rfl ?_
          refine AS.op [4] [] [2] [] rfl rfl rfl (by kernel_rfl) (by kernel_rfl) rfl rfl (fun _ _ _ h => AOp.loadN rfl rfl (ltb rfl) rfl agg41 size41 rfl (leb rfl) rfl h) (by kernel_rfl) ?_
          refine AS.op [] [] [] [2] rfl rfl rfl (by kernel_rfl) (by kernel_rfl) rfl rfl (fun _ _ _ h => AOp.loadE rfl rfl (ltb rfl) rfl agg34 (by simp [GlobsE]) h) (by kernel_rfl) ?_
          refine AS.mid0 [2, 9] [] [2] [] rfl rfl rfl rfl (by kernel_rfl) (by kernel_rfl) rfl rfl (fun _ _ _ h => AOp.store rfl rfl rfl rfl size41 rfl rfl rfl (leb rfl) (AO.dropT h)) (by kernel_rfl) rfl ?_
          refine AS.done ?_
          refine AO.objs (obs' := [.frame fr16 [], .fix 41 [.d (di .i64 a1)], .fix 41 [.d (di .i64 a1)]]) rfl ?_
          refine AO.op rfl (AOp.assign rfl rfl (ltb rfl) rfl ?_)
          refine AO.nil ?_
          change AC _ _ _ _
          refine AC.ret ?_
          refine inlret (ob' := [.dead, .fix 41 [.d (di .i64 a1)], .fix 41 [.d (di .i64 a1)]]) (e' := []) (r := .tu [.ag [.d (di .i64 a1)], .ifc (errT W 0) (.any)]) rfl rfl rfl ?_
          change AO _ _ _ _ _
          refine AO.op rfl (AOp.move rfl rfl (ltb rfl) rfl ?_)
          first | refine AO.op rfl (AOp.extractD rfl rfl (ltb rfl) rfl rfl ?_) | refine AO.op rfl (AOp.extract rfl rfl (ltb rfl) rfl rfl ?_)
          first | refine AO.op rfl (AOp.extractD rfl rfl (ltb rfl) rfl rfl ?_) | refine AO.op rfl (AOp.extract rfl rfl (ltb rfl) rfl rfl ?_)
          refine AO.op rfl (AOp.alloc rfl rfl (ltb rfl) zero41 rfl ?_)
          refine AO.op rfl (AOp.store rfl rfl rfl rfl size41 rfl rfl rfl (leb rfl) ?_)
          refine AO.op rfl (AOp.assign rfl rfl (ltb rfl) rfl ?_)
          refine AO.nil ?_
          change AC _ _ _ _
          refine AC.seq ?_
          refine AC.seq ?_
          refine AC.region ?_
          refine AO.op rfl (AOp.move rfl rfl (ltb rfl) rfl ?_)
          refine AO.op rfl (AOp.ifcNeq rfl rfl (ltb rfl) rfl rfl imeth34 ?_)
          refine AO.nil ?_
          change AC _ _ _ _
          refine AC.condT rfl rfl ?_
          refine AC.seq ?_
          refine AC.region ?_
          refine AO.op rfl (AOp.assign rfl rfl (ltb rfl) rfl ?_)
          refine AO.op rfl (AOp.assign rfl rfl (ltb rfl) rfl ?_)
          refine AO.nil ?_
          change AC _ _ _ _
          refine AC.ret ?_
          change RetQ _ _ _ .ret _
          obtain rfl := Option.some.inj h0
          refine retq rfl rfl
        · replace h0 := cF h0 q17
          refine AC.skip ?_
          change AC _ _ _ _
          refine AC.seq ?_
          refine AC.seq ?_
          refine AC.region ?_
          refine AO.op rfl (AOp.move rfl rfl (ltb rfl) rfl ?_)
          obtain ⟨q18, h0⟩ := need_elim h0
          refine AO.op rfl (AOp.imul rfl rfl (ltb rfl) rfl rfl rfl q18.1 q18.2 ?_)
          refine AO.op rfl (AOp.igeq rfl rfl (ltb rfl) rfl rfl ?_)
          refine AO.nil ?_
          change AC _ _ _ _
          refine AC.cond rfl (fun q19 => ?_) (fun q19 => ?_)
          · replace h0 := cT h0 q19
            refine AC.seq ?_
            refine AC.drawS [0, 1, 2] [2] [3] (fun L => [.frame fr16 [], bif L 2 then .fix 41 [.d (di .i64 a1)] else .fix 41 [.d (di .i64 (0 : Int))], .fix 41 [.d (di .i64 a1)]]) [(2, (fun _ => true))] mixed (by kernel_rfl) (fun L L' h => by simp only [h 2 (by decide)]) rfl ?_
            refine AS.op [4] [] [2] [] rfl rfl rfl (by kernel_rfl) (by kernel_rfl) rfl rfl (fun _ _ _ h => AOp.loadN rfl rfl (ltb rfl) rfl agg41 size41 rfl (leb rfl) rfl h) (by kernel_rfl) ?_
            refine AS.op [] [] [] [2] rfl rfl rfl (by kernel_rfl) (by kernel_rfl) rfl rfl (fun _ _ _ h => AOp.loadE rfl rfl (ltb rfl) rfl agg34 (by simp [GlobsE]) h) (by kernel_rfl) ?_
            refine AS.mid0 [2, 14] [] [2] [] rfl rfl rfl rfl (by kernel_rfl) (by kernel_rfl) rfl rfl (fun _ _ _ h => AOp.store rfl rfl rfl rfl size41 rfl rfl rfl (leb rfl) (AO.dropT h)) (by kernel_rfl) rfl ?_
            refine AS.done ?_
            refine AO.objs (obs' := [.frame fr16 [], .fix 41 [.d (di .i64 a1)], .fix 41 [.d (di .i64 a1)]]) rfl ?_
            refine AO.op rfl (AOp.assign rfl rfl (ltb rfl) rfl ?_)
            refine AO.nil ?_
            change AC _ _ _ _
            refine AC.ret ?_
            refine inlret (ob' := [.dead, .fix 41 [.d (di .i64 a1)], .fix 41 [.d (di .i64 a1)]]) (e' := []) (r := .tu [.ag [.d (di .i64 a1)], .ifc (errT W 1) (.any)]) rfl rfl rfl ?_
            change AO _ _ _ _ _
            refine AO.op rfl (AOp.move rfl rfl (ltb rfl) rfl ?_)
            first | refine AO.op rfl (AOp.extractD rfl rfl (ltb rfl) rfl rfl ?_) | refine AO.op rfl (AOp.extract rfl rfl (ltb rfl) rfl rfl ?_)
            first | refine AO.op rfl (AOp.extractD rfl rfl (ltb rfl) rfl rfl ?_) | refine AO.op rfl (AOp.extract rfl rfl (ltb rfl) rfl rfl ?_)
            refine AO.op rfl (AOp.alloc rfl rfl (ltb rfl) zero41 rfl ?_)
            refine AO.op rfl (AOp.store rfl rfl rfl rfl size41 rfl rfl rfl (leb rfl) ?_)
            refine AO.op rfl (AOp.assign rfl rfl (ltb rfl) rfl ?_)
            refine AO.nil ?_
            change AC _ _ _ _
            refine AC.seq ?_
            refine AC.seq ?_
            refine AC.region ?_
            refine AO.op rfl (AOp.move rfl rfl (ltb rfl) rfl ?_)
            refine AO.op rfl (AOp.ifcNeq rfl rfl (ltb rfl) rfl rfl imeth34 ?_)
            refine AO.nil ?_
            change AC _ _ _ _
            refine AC.condT rfl rfl ?_
            refine AC.seq ?_
            refine AC.region ?_
            refine AO.op rfl (AOp.assign rfl rfl (ltb rfl) rfl ?_)
            refine AO.op rfl (AOp.assign rfl rfl (ltb rfl) rfl ?_)
            refine AO.nil ?_
            change AC _ _ _ _
            refine AC.ret ?_
            change RetQ _ _ _ .ret _
            obtain rfl := Option.some.inj h0
            refine retq rfl rfl
          · replace h0 := cF h0 q19
            refine AC.skip ?_
            change AC _ _ _ _
            refine AC.seq ?_
            refine AC.region ?_
            refine AO.op rfl (AOp.loadN rfl rfl (ltb rfl) rfl agg41 size41 rfl (leb rfl) rfl ?_)
            refine AO.op rfl (AOp.store rfl rfl rfl rfl size41 rfl rfl rfl (leb rfl) ?_)
            refine AO.op rfl (AOp.assign rfl rfl (ltb rfl) rfl ?_)
            refine AO.nil ?_
            change AC _ _ _ _
            refine AC.ret ?_
            refine inlret (ob' := [.dead, .fix 41 [.d (di .i64 a1)], .fix 41 [.d (di .i64 a1)]]) (e' := []) (r := .tu [.ag [.d (di .i64 a1)], .d (.v (.nilIface))]) rfl rfl rfl ?_
            change AO _ _ _ _ _
            refine AO.op rfl (AOp.move rfl rfl (ltb rfl) rfl ?_)
            first | refine AO.op rfl (AOp.extractD rfl rfl (ltb rfl) rfl rfl ?_) | refine AO.op rfl (AOp.extract rfl rfl (ltb rfl) rfl rfl ?_)
            first | refine AO.op rfl (AOp.extractD rfl rfl (ltb rfl) rfl rfl ?_) | refine AO.op rfl (AOp.extract rfl rfl (ltb rfl) rfl rfl ?_)
            refine AO.op rfl (AOp.alloc rfl rfl (ltb rfl) zero41 rfl ?_)
            refine AO.op rfl (AOp.store rfl rfl rfl rfl size41 rfl rfl rfl (leb rfl) ?_)
            refine AO.op rfl (AOp.assign rfl rfl (ltb rfl) rfl ?_)
            refine AO.nil ?_
            change AC _ _ _ _
            refine AC.seq ?_
            refine AC.seq ?_
            refine AC.region ?_
            refine AO.op rfl (AOp.move rfl rfl (ltb rfl) rfl ?_)
            refine AO.op rfl (AOp.nilNeq rfl rfl (ltb rfl) rfl imeth34 ?_)
            refine AO.nil ?_
            change AC _ _ _ _
            refine AC.condF rfl rfl ?_
            refine AC.skip ?_
            change AC _ _ _ _
            refine AC.seq ?_
            refine AC.region ?_
            refine AO.op rfl (AOp.loadN rfl rfl (ltb rfl) rfl agg41 size41 rfl (leb rfl) rfl ?_)
            obtain ⟨y20, q21, h0⟩ := bind_elim h0
            refine AO.op rfl (AOp.callD rfl rfl (ltb rfl) rfl rfl (w_Hilbert4D_Len (TCurve_Hilbert2D.mk a1) y20 q21) ?_)
            rintro _ rfl
            refine AO.op rfl (AOp.assign rfl rfl (ltb rfl) rfl ?_)
            refine AO.op rfl (AOp.assign rfl rfl (ltb rfl) rfl ?_)
            refine AO.nil ?_
            change AC _ _ _ _
            refine AC.ret ?_
            change RetQ _ _ _ .ret _
            obtain rfl := Option.some.inj h0
            refine retq rfl rfl
      · replace h0 := cF h0 q15
        refine AC.skip ?_
        change AC _ _ _ _
        refine AC.seq ?_
        refine AC.region ?_
        refine AO.op rfl (AOp.assign rfl rfl (ltb rfl) rfl ?_)
        refine AO.op rfl (AOp.assign rfl rfl (ltb rfl) rfl ?_)
        refine AO.nil ?_
        change AC _ _ _ _
        refine AC.ret ?_
        change RetQ _ _ _ .ret _
        obtain rfl := Option.some.inj h0
        refine retq rfl rfl

set_option maxRecDepth 100000 in
set_option maxHeartbeats 1000000 in
/-- (pub-orthodrome/pub/gonum/spatial/curve.Hilbert2D).Dims -/
theorem w_Hilbert2D_Dims (a0 : TCurve_Hilbert2D) (r0 : (List Int)) (h0 : p_Hilbert2D_Dims a0 = some r0) : FnD Tryd.prog 16 [e_TCurve_Hilbert2D a0] (fun r => r = eS0 r0) := by
  refine FnD.of (by kernel_rfl) Tryd.func16 rfl Tryd.ntmps16 rfl (leb rfl) fun W ok => ?_
  unfold p_Hilbert2D_Dims at h0
  refine AC.seq ?_
  refine AC.region ?_
  refine AO.op rfl (AOp.box rfl rfl (ltb rfl) rfl rfl ?_)
  refine AO.op rfl (AOp.assign rfl rfl (ltb rfl) rfl ?_)
  refine AO.nil ?_
  change AC _ _ _ _
  refine AC.seq ?_
  refine AC.draw 8 mixed (by kernel_rfl) ?_
  refine AD.op [1] rfl (by kernel_rfl) rfl rfl (fun _ _ h => AOp.fieldAddr rfl rfl (ltb rfl) rfl fo32_0 h) ?_
  refine AD.op [3] rfl (by kernel_rfl) rfl rfl (fun _ _ h => AOp.load1 rfl rfl (ltb rfl) rfl agg3 rfl rfl h) ?_
  obtain ⟨q1, h0⟩ := need_elim h0
  refine AD.op [4] rfl (by kernel_rfl) rfl rfl (fun _ _ h => AOp.ishl' rfl rfl (ltb rfl) rfl rfl q1 h) ?_
  refine AD.op [1] rfl (by kernel_rfl) rfl rfl (fun _ _ h => AOp.fieldAddr rfl rfl (ltb rfl) rfl fo32_0 h) ?_
  refine AD.op [6] rfl (by kernel_rfl) rfl rfl (fun _ _ h => AOp.load1 rfl rfl (ltb rfl) rfl agg3 rfl rfl h) ?_
  obtain ⟨q2, h0⟩ := need_elim h0
  refine AD.op [7] rfl (by kernel_rfl) rfl rfl (fun _ _ h => AOp.ishl' rfl rfl (ltb rfl) rfl rfl q2 h) ?_
  refine AD.op [5, 8] rfl (by kernel_rfl) rfl rfl (fun _ _ h => AOp.buildSliceD rfl rfl (ltb rfl) el25 zero3 rfl (leb rfl) rfl rfl rfl rfl h) ?_
  refine AD.op [9] rfl (by kernel_rfl) rfl rfl (fun _ _ h => AOp.assign rfl rfl (ltb rfl) rfl h) ?_
  refine AD.done ?_
  refine AO.nil ?_
  change AC _ _ _ _
  refine AC.ret ?_
  change RetQ _ _ _ .ret _
  obtain rfl := Option.some.inj h0
  refine retq rfl rfl

set_option maxRecDepth 100000 in
set_option maxHeartbeats 1000000 in
/-- (pub-orthodrome/pub/gonum/spatial/curve.Hilbert3D).Dims -/
theorem w_Hilbert3D_Dims (a0 : TCurve_Hilbert2D) (r0 : (List Int)) (h0 : p_Hilbert3D_Dims a0 = some r0) : FnD Tryd.prog 17 [e_TCurve_Hilbert2D a0] (fun r => r = eS0 r0) := by
  refine FnD.of (by kernel_rfl) Tryd.func17 rfl Tryd.ntmps17 rfl (leb rfl) fun W ok => ?_
  unfold p_Hilbert3D_Dims at h0
  refine AC.seq ?_
  refine AC.region ?_
  refine AO.op rfl (AOp.box rfl rfl (ltb rfl) rfl rfl ?_)
  refine AO.op rfl (AOp.assign rfl rfl (ltb rfl) rfl ?_)
  refine AO.nil ?_
  change AC _ _ _ _
  refine AC.seq ?_
  refine AC.draw 11 mixed (by kernel_rfl) ?_
  refine AD.op [1] rfl (by kernel_rfl) rfl rfl (fun _ _ h => AOp.fieldAddr rfl rfl (ltb rfl) rfl fo38_0 h) ?_
  refine AD.op [3] rfl (by kernel_rfl) rfl rfl (fun _ _ h => AOp.load1 rfl rfl (ltb rfl) rfl agg3 rfl rfl h) ?_
  obtain ⟨q1, h0⟩ := need_elim h0
  refine AD.op [4] rfl (by kernel_rfl) rfl rfl (fun _ _ h => AOp.ishl' rfl rfl (ltb rfl) rfl rfl q1 h) ?_
  refine AD.op [1] rfl (by kernel_rfl) rfl rfl (fun _ _ h => AOp.fieldAddr rfl rfl (ltb rfl) rfl fo38_0 h) ?_
  refine AD.op [6] rfl (by kernel_rfl) rfl rfl (fun _ _ h => AOp.load1 rfl rfl (ltb rfl) rfl agg3 rfl rfl h) ?_
  obtain ⟨q2, h0⟩ := need_elim h0
  refine AD.op [7] rfl (by kernel_rfl) rfl rfl (fun _ _ h => AOp.ishl' rfl rfl (ltb rfl) rfl rfl q2 h) ?_
  refine AD.op [1] rfl (by kernel_rfl) rfl rfl (fun _ _ h => AOp.fieldAddr rfl rfl (ltb rfl) rfl fo38_0 h) ?_
  refine AD.op [9] rfl (by kernel_rfl) rfl rfl (fun _ _ h => AOp.load1 rfl rfl (ltb rfl) rfl agg3 rfl rfl h) ?_
  obtain ⟨q3, h0⟩ := need_elim h0
  refine AD.op [10] rfl (by kernel_rfl) rfl rfl (fun _ _ h => AOp.ishl' rfl rfl (ltb rfl) rfl rfl q3 h) ?_
  refine AD.op [5, 8, 11] rfl (by kernel_rfl) rfl rfl (fun _ _ h => AOp.buildSliceD rfl rfl (ltb rfl) el25 zero3 rfl (leb rfl) rfl rfl rfl rfl h) ?_
  refine AD.op [12] rfl (by kernel_rfl) rfl rfl (fun _ _ h => AOp.assign rfl rfl (ltb rfl) rfl h) ?_
  refine AD.done ?_
  refine AO.nil ?_
  change AC _ _ _ _
  refine AC.ret ?_
  change RetQ _ _ _ .ret _
  obtain rfl := Option.some.inj h0
  refine retq rfl rfl

set_option maxRecDepth 100000 in
set_option maxHeartbeats 1000000 in
/-- (pub-orthodrome/pub/gonum/spatial/curve.Hilbert4D).Dims -/
theorem w_Hilbert4D_Dims (a0 : TCurve_Hilbert2D) (r0 : (List Int)) (h0 : p_Hilbert4D_Dims a0 = some r0) : FnD Tryd.prog 18 [e_TCurve_Hilbert2D a0] (fun r => r = eS0 r0) := by
  refine FnD.of (by kernel_rfl) Tryd.func18 rfl Tryd.ntmps18 rfl (leb rfl) fun W ok => ?_
  unfold p_Hilbert4D_Dims at h0
  refine AC.seq ?_
  refine AC.region ?_
  refine AO.op rfl (AOp.box rfl rfl (ltb rfl) rfl rfl ?_)
  refine AO.op rfl (AOp.assign rfl rfl (ltb rfl) rfl ?_)
  refine AO.nil ?_
  change AC _ _ _ _
  refine AC.seq ?_
  refine AC.draw 14 mixed (by kernel_rfl) ?_
  refine AD.op [1] rfl (by kernel_rfl) rfl rfl (fun _ _ h => AOp.fieldAddr rfl rfl (ltb rfl) rfl fo41_0 h) ?_
  refine AD.op [3] rfl (by kernel_rfl) rfl rfl (fun _ _ h => AOp.load1 rfl rfl (ltb rfl) rfl agg3 rfl rfl h) ?_
  obtain ⟨q1, h0⟩ := need_elim h0
  refine AD.op [4] rfl (by kernel_rfl) rfl rfl (fun _ _ h => AOp.ishl' rfl rfl (ltb rfl) rfl rfl q1 h) ?_
  refine AD.op [1] rfl (by kernel_rfl) rfl rfl (fun _ _ h => AOp.fieldAddr rfl rfl (ltb rfl) rfl fo41_0 h) ?_
  refine AD.op [6] rfl (by kernel_rfl) rfl rfl (fun _ _ h => AOp.load1 rfl rfl (ltb rfl) rfl agg3 rfl rfl h) ?_
  obtain ⟨q2, h0⟩ := need_elim h0
  refine AD.op [7] rfl (by kernel_rfl) rfl rfl (fun _ _ h => AOp.ishl' rfl rfl (ltb rfl) rfl rfl q2 h) ?_
  refine AD.op [1] rfl (by kernel_rfl) rfl rfl (fun _ _ h => AOp.fieldAddr rfl rfl (ltb rfl) rfl fo41_0 h) ?_
  refine AD.op [9] rfl (by kernel_rfl) rfl rfl (fun _ _ h => AOp.load1 rfl rfl (ltb rfl) rfl agg3 rfl rfl h) ?_
  obtain ⟨q3, h0⟩ := need_elim h0
  refine AD.op [10] rfl (by kernel_rfl) rfl rfl (fun _ _ h => AOp.ishl' rfl rfl (ltb rfl) rfl rfl q3 h) ?_
  refine AD.op [1] rfl (by kernel_rfl) rfl rfl (fun _ _ h => AOp.fieldAddr rfl rfl (ltb rfl) rfl fo41_0 h) ?_
  refine AD.op [12] rfl (by kernel_rfl) rfl rfl (fun _ _ h => AOp.load1 rfl rfl (ltb rfl) rfl agg3 rfl rfl h) ?_
  obtain ⟨q4, h0⟩ := need_elim h0
  refine AD.op [13] rfl (by kernel_rfl) rfl rfl (fun _ _ h => AOp.ishl' rfl rfl (ltb rfl) rfl rfl q4 h) ?_
  refine AD.op [5, 8, 11, 14] rfl (by kernel_rfl) rfl rfl (fun _ _ h => AOp.buildSliceD rfl rfl (ltb rfl) el25 zero3 rfl (leb rfl) rfl rfl rfl rfl h) ?_
  refine AD.op [15] rfl (by kernel_rfl) rfl rfl (fun _ _ h => AOp.assign rfl rfl (ltb rfl) rfl h) ?_
  refine AD.done ?_
  refine AO.nil ?_
  change AC _ _ _ _
  refine AC.ret ?_
  change RetQ _ _ _ .ret _
  obtain rfl := Option.some.inj h0
  refine retq rfl rfl

set_option maxRecDepth 100000 in
set_option maxHeartbeats 1000000 in
/-- pub-orthodrome/impl.HDims -/
theorem w_HDims (a0 : Int) (a1 : Int) (r0 : ((List Int) × Bool)) (h0 : p_HDims a0 a1 = some r0) : FnD Tryd.prog 7 [di .i64 a0, di .i64 a1] (fun r => r = .tu [eS0 r0.1, dbool r0.2]) := by
  refine FnD.of (by kernel_rfl) Tryd.func7 rfl Tryd.ntmps7 rfl (leb rfl) fun W ok => ?_
  unfold p_HDims at h0
  refine AC.seq ?_
  refine AC.region ?_
  refine AO.op rfl (AOp.assign rfl rfl (ltb rfl) rfl ?_)
  refine AO.op rfl (AOp.assign rfl rfl (ltb rfl) rfl ?_)
  refine AO.nil ?_
  change AC _ _ _ _
  refine AC.seq ?_
  refine AC.seq ?_
  refine AC.region ?_
  refine AO.op rfl (AOp.move rfl rfl (ltb rfl) rfl ?_)
  refine AO.nil ?_
  change AC _ _ _ _
  refine AC.block ?_
  refine AC.seq ?_
  refine AC.region ?_
  refine AO.op rfl (AOp.ieql rfl rfl (ltb rfl) rfl rfl ?_)
  refine AO.op rfl (AOp.assign rfl rfl (ltb rfl) rfl ?_)
  refine AO.nil ?_
  change AC _ _ _ _
  refine AC.cond rfl (fun q1 => ?_) (fun q1 => ?_)
  · replace h0 := cT h0 q1
    refine AC.seq ?_
    refine AC.region ?_
    refine AO.op rfl (AOp.move rfl rfl (ltb rfl) rfl ?_)
    refine AO.op rfl (AOp.inl [] (by kernel_rfl) Tryd.func10 rfl Tryd.ntmps10 rfl rfl (ltb rfl) rfl (leb rfl) rfl ?_)
    intro fr2
    refine AC.seq ?_
    refine AC.region ?_
    refine AO.op rfl (AOp.alloc rfl rfl (ltb rfl) zero32 rfl ?_)
    refine AO.op rfl (AOp.assign rfl rfl (ltb rfl) rfl ?_)
    refine AO.nil ?_
    change AC _ _ _ _
    refine AC.seq ?_
    refine AC.region ?_
    refine AO.op rfl (AOp.move rfl rfl (ltb rfl) rfl ?_)
    refine AO.op rfl (AOp.build rfl rfl (ltb rfl) zero32 rfl places32 rfl rfl ?_)
    refine AO.op rfl (AOp.alloc rfl rfl (ltb rfl) zero32 rfl ?_)
    refine AO.op rfl (AOp.store rfl rfl rfl rfl size32 rfl rfl rfl (leb rfl) ?_)
    refine AO.nil ?_
    change AC _ _ _ _
    refine AC.seq ?_
    refine AC.seq ?_
    refine AC.region ?_
    refine AO.op rfl (AOp.move rfl rfl (ltb rfl) rfl ?_)
    refine AO.op rfl (AOp.ilss rfl rfl (ltb rfl) rfl rfl ?_)
    refine AO.nil ?_
    change AC _ _ _ _
    refine AC.cond rfl (fun q3 => ?_) (fun q3 => ?_)
    · replace h0 := cT h0 q3
      refine AC.seq ?_
      refine AC.drawS [0, 1, 2] [2] [3] (fun L => [.frame fr2 [], bif L 2 then .fix 32 [.d (di .i64 a1)] else .fix 32 [.d (di .i64 (0 : Int))], .fix 32 [.d (di .i64 a1)]]) [(2, (fun _ => true))] mixed (by kernel_rfl) (fun L L' h => by simp only [h 2 (by decide)]) rfl ?_
      refine AS.op [4] [] [2] [] rfl rfl rfl (by kernel_rfl) (by kernel_rfl) rfl rfl (fun _ _ _ h => AOp.loadN rfl rfl (ltb rfl) rfl agg32 size32 rfl (leb rfl) rfl h) (by kernel_rfl) ?_
      refine AS.op [] [] [] [2] rfl rfl rfl (by kernel_rfl) (by kernel_rfl) rfl rfl (fun _ _ _ h => AOp.loadE rfl rfl (ltb rfl) rfl agg34 (by simp [GlobsE]) h) (by kernel_rfl) ?_
      refine AS.mid0 [2, 9] [] [2] [] rfl rfl rfl rfl (by kernel_rfl) (by kernel_rfl) rfl rfl (fun _ _ _ h => AOp.store rfl rfl rfl rfl size32 rfl rfl rfl (leb rfl) (AO.dropT h)) (by kernel_rfl) rfl ?_
      refine AS.done ?_
      refine AO.objs (obs' := [.frame fr2 [], .fix 32 [.d (di .i64 a1)], .fix 32 [.d (di .i64 a1)]]) rfl ?_
      refine AO.op rfl (AOp.assign rfl rfl (ltb rfl) rfl ?_)
      refine AO.nil ?_
      change AC _ _ _ _
      refine AC.ret ?_
      refine inlret (ob' := [.dead, .fix 32 [.d (di .i64 a1)], .fix 32 [.d (di .i64 a1)]]) (e' := []) (r := .tu [.ag [.d (di .i64 a1)], .ifc (errT W 0) (.any)]) rfl rfl rfl ?_
      change AO _ _ _ _ _
      refine AO.op rfl (AOp.move rfl rfl (ltb rfl) rfl ?_)
      first | refine AO.op rfl (AOp.extractD rfl rfl (ltb rfl) rfl rfl ?_) | refine AO.op rfl (AOp.extract rfl rfl (ltb rfl) rfl rfl ?_)
      first | refine AO.op rfl (AOp.extractD rfl rfl (ltb rfl) rfl rfl ?_) | refine AO.op rfl (AOp.extract rfl rfl (ltb rfl) rfl rfl ?_)
      refine AO.op rfl (AOp.alloc rfl rfl (ltb rfl) zero32 rfl ?_)
      refine AO.op rfl (AOp.store rfl rfl rfl rfl size32 rfl rfl rfl (leb rfl) ?_)
      refine AO.op rfl (AOp.assign rfl rfl (ltb rfl) rfl ?_)
      refine AO.nil ?_
      change AC _ _ _ _
      refine AC.seq ?_
      refine AC.seq ?_
      refine AC.region ?_
      refine AO.op rfl (AOp.move rfl rfl (ltb rfl) rfl ?_)
      refine AO.op rfl (AOp.ifcNeq rfl rfl (ltb rfl) rfl rfl imeth34 ?_)
      refine AO.nil ?_
      change AC _ _ _ _
      refine AC.condT rfl rfl ?_
      refine AC.seq ?_
      refine AC.region ?_
      refine AO.op rfl (AOp.assign rfl rfl (ltb rfl) rfl ?_)
      refine AO.op rfl (AOp.assign rfl rfl (ltb rfl) rfl ?_)
      refine AO.nil ?_
      change AC _ _ _ _
      refine AC.sub 4 rfl (SVLe.nil 1) ?_
      refine AC.ret ?_
      change RetQ _ _ _ .ret _
      obtain rfl := Option.some.inj h0
      refine retq rfl rfl
    · replace h0 := cF h0 q3
      refine AC.skip ?_
      change AC _ _ _ _
      refine AC.seq ?_
      refine AC.seq ?_
      refine AC.region ?_
      refine AO.op rfl (AOp.move rfl rfl (ltb rfl) rfl ?_)
      obtain ⟨q4, h0⟩ := need_elim h0
      refine AO.op rfl (AOp.imul rfl rfl (ltb rfl) rfl rfl rfl q4.1 q4.2 ?_)
      refine AO.op rfl (AOp.igeq rfl rfl (ltb rfl) rfl rfl ?_)
      refine AO.nil ?_
      change AC _ _ _ _
      refine AC.cond rfl (fun q5 => ?_) (fun q5 => ?_)
      · replace h0 := cT h0 q5
        refine AC.seq ?_
        refine AC.drawS [0, 1, 2] [2] [3] (fun L => [.frame fr2 [], bif L 2 then .fix 32 [.d (di .i64 a1)] else .fix 32 [.d (di .i64 (0 : Int))], .fix 32 [.d (di .i64 a1)]]) [(2, (fun _ => true))] mixed (by kernel_rfl) (fun L L' h => by simp only [h 2 (by decide)]) rfl ?_
        refine AS.op [4] [] [2] [] rfl rfl rfl (by kernel_rfl) (by kernel_rfl) rfl rfl (fun _ _ _ h => AOp.loadN rfl rfl (ltb rfl) rfl agg32 size32 rfl (leb rfl) rfl h) (by kernel_rfl) ?_
        refine AS.op [] [] [] [2] rfl rfl rfl (by kernel_rfl) (by kernel_rfl) rfl rfl (fun _ _ _ h => AOp.loadE rfl rfl (ltb rfl) rfl agg34 (by simp [GlobsE]) h) (by kernel_rfl) ?_
        refine AS.mid0 [2, 14] [] [2] [] rfl rfl rfl rfl (by kernel_rfl) (by kernel_rfl) rfl rfl (fun _ _ _ h => AOp.store rfl rfl rfl rfl size32 rfl rfl rfl (leb rfl) (AO.dropT h)) (by kernel_rfl) rfl ?_
        refine AS.done ?_
        refine AO.objs (obs' := [.frame fr2 [], .fix 32 [.d (di .i64 a1)], .fix 32 [.d (di .i64 a1)]]) rfl ?_
        refine AO.op rfl (AOp.assign rfl rfl (ltb rfl) rfl ?_)
        refine AO.nil ?_
        change AC _ _ _ _
        refine AC.ret ?_
        refine inlret (ob' := [.dead, .fix 32 [.d (di .i64 a1)], .fix 32 [.d (di .i64 a1)]]) (e' := []) (r := .tu [.ag [.d (di .i64 a1)], .ifc (errT W 1) (.any)]) rfl rfl rfl ?_
        change AO _ _ _ _ _
        refine AO.op rfl (AOp.move rfl rfl (ltb rfl) rfl ?_)
        first | refine AO.op rfl (AOp.extractD rfl rfl (ltb rfl) rfl rfl ?_) | refine AO.op rfl (AOp.extract rfl rfl (ltb rfl) rfl rfl ?_)
        first | refine AO.op rfl (AOp.extractD rfl rfl (ltb rfl) rfl rfl ?_) | refine AO.op rfl (AOp.extract rfl rfl (ltb rfl) rfl rfl ?_)
        refine AO.op rfl (AOp.alloc rfl rfl (ltb rfl) zero32 rfl ?_)
        refine AO.op rfl (AOp.store rfl rfl rfl rfl size32 rfl rfl rfl (leb rfl) ?_)
        refine AO.op rfl (AOp.assign rfl rfl (ltb rfl) rfl ?_)
        refine AO.nil ?_
        change AC _ _ _ _
        refine AC.seq ?_
        refine AC.seq ?_
        refine AC.region ?_
        refine AO.op rfl (AOp.move rfl rfl (ltb rfl) rfl ?_)
        refine AO.op rfl (AOp.ifcNeq rfl rfl (ltb rfl) rfl rfl imeth34 ?_)
        refine AO.nil ?_
        change AC _ _ _ _
        refine AC.condT rfl rfl ?_
        refine AC.seq ?_
        refine AC.region ?_
        refine AO.op rfl (AOp.assign rfl rfl (ltb rfl) rfl ?_)
        refine AO.op rfl (AOp.assign rfl rfl (ltb rfl) rfl ?_)
        refine AO.nil ?_
        change AC _ _ _ _
        refine AC.sub 4 rfl (SVLe.nil 1) ?_
        refine AC.ret ?_
        change RetQ _ _ _ .ret _
        obtain rfl := Option.some.inj h0
        refine retq rfl rfl
      · replace h0 := cF h0 q5
        refine AC.skip ?_
        change AC _ _ _ _
        refine AC.seq ?_
        refine AC.region ?_
        refine AO.op rfl (AOp.loadN rfl rfl (ltb rfl) rfl agg32 size32 rfl (leb rfl) rfl ?_)
        refine AO.op rfl (AOp.store rfl rfl rfl rfl size32 rfl rfl rfl (leb rfl) ?_)
        refine AO.op rfl (AOp.assign rfl rfl (ltb rfl) rfl ?_)
        refine AO.nil ?_
        change AC _ _ _ _
        refine AC.ret ?_
        refine inlret (ob' := [.dead, .fix 32 [.d (di .i64 a1)], .fix 32 [.d (di .i64 a1)]]) (e' := []) (r := .tu [.ag [.d (di .i64 a1)], .d (.v (.nilIface))]) rfl rfl rfl ?_
        change AO _ _ _ _ _
        refine AO.op rfl (AOp.move rfl rfl (ltb rfl) rfl ?_)
        first | refine AO.op rfl (AOp.extractD rfl rfl (ltb rfl) rfl rfl ?_) | refine AO.op rfl (AOp.extract rfl rfl (ltb rfl) rfl rfl ?_)
        first | refine AO.op rfl (AOp.extractD rfl rfl (ltb rfl) rfl rfl ?_) | refine AO.op rfl (AOp.extract rfl rfl (ltb rfl) rfl rfl ?_)
        refine AO.op rfl (AOp.alloc rfl rfl (ltb rfl) zero32 rfl ?_)
        refine AO.op rfl (AOp.store rfl rfl rfl rfl size32 rfl rfl rfl (leb rfl) ?_)
        refine AO.op rfl (AOp.assign rfl rfl (ltb rfl) rfl ?_)
        refine AO.nil ?_
        change AC _ _ _ _
        refine AC.seq ?_
        refine AC.seq ?_
        refine AC.region ?_
        refine AO.op rfl (AOp.move rfl rfl (ltb rfl) rfl ?_)
        refine AO.op rfl (AOp.nilNeq rfl rfl (ltb rfl) rfl imeth34 ?_)
        refine AO.nil ?_
        change AC _ _ _ _
        refine AC.condF rfl rfl ?_
        refine AC.skip ?_
        change AC _ _ _ _
        refine AC.seq ?_
        refine AC.region ?_
        refine AO.op rfl (AOp.loadN rfl rfl (ltb rfl) rfl agg32 size32 rfl (leb rfl) rfl ?_)
        obtain ⟨y6, q7, h0⟩ := bind_elim h0
        refine AO.op rfl (AOp.callD rfl rfl (ltb rfl) rfl rfl (w_Hilbert2D_Dims (TCurve_Hilbert2D.mk a1) y6 q7) ?_)
        rintro _ rfl
        refine AO.op rfl (AOp.assign rfl rfl (ltb rfl) rfl ?_)
        refine AO.op rfl (AOp.assign rfl rfl (ltb rfl) rfl ?_)
        refine AO.nil ?_
        change AC _ _ _ _
        refine AC.ret ?_
        change RetQ _ _ _ .ret _
        obtain rfl := Option.some.inj h0
        refine retq rfl rfl
  · replace h0 := cF h0 q1
    refine AC.seq ?_
    refine AC.region ?_
    refine AO.op rfl (AOp.ieql rfl rfl (ltb rfl) rfl rfl ?_)
    refine AO.op rfl (AOp.assign rfl rfl (ltb rfl) rfl ?_)
    refine AO.nil ?_
    change AC _ _ _ _
    refine AC.cond rfl (fun q8 => ?_) (fun q8 => ?_)
    · replace h0 := cT h0 q8
      refine AC.seq ?_
      refine AC.region ?_
      refine AO.op rfl (AOp.move rfl rfl (ltb rfl) rfl ?_)
      refine AO.op rfl (AOp.inl [] (by kernel_rfl) Tryd.func12 rfl Tryd.ntmps12 rfl rfl (ltb rfl) rfl (leb rfl) rfl ?_)
      intro fr9
      refine AC.seq ?_
      refine AC.region ?_
      refine AO.op rfl (AOp.alloc rfl rfl (ltb rfl) zero38 rfl ?_)
      refine AO.op rfl (AOp.assign rfl rfl (ltb rfl) rfl ?_)
      refine AO.nil ?_
      change AC _ _ _ _
      refine AC.seq ?_
      refine AC.region ?_
      refine AO.op rfl (AOp.move rfl rfl (ltb rfl) rfl ?_)
      refine AO.op rfl (AOp.build rfl rfl (ltb rfl) zero38 rfl places38 rfl rfl ?_)
      refine AO.op rfl (AOp.alloc rfl rfl (ltb rfl) zero38 rfl ?_)
      refine AO.op rfl (AOp.store rfl rfl rfl rfl size38 rfl rfl rfl (leb rfl) ?_)
      refine AO.nil ?_
      change AC _ _ _ _
      refine AC.seq ?_
      refine AC.seq ?_
      refine AC.region ?_
      refine AO.op rfl (AOp.move rfl rfl (ltb rfl) rfl ?_)
      refine AO.op rfl (AOp.ilss rfl rfl (ltb rfl) rfl rfl ?_)
      refine AO.nil ?_
      change AC _ _ _ _
      refine AC.cond rfl (fun q10 => ?_) (fun q10 => ?_)
      · replace h0 := cT h0 q10
        refine AC.seq ?_
        refine AC.drawS [0, 1, 2] [2] [3] (fun L => [.frame fr9 [], bif L 2 then .fix 38 [.d (di .i64 a1)] else .fix 38 [.d (di .i64 (0 : Int))], .fix 38 [.d (di .i64 a1)]]) [(2, (fun _ => true))] mixed (by kernel_rfl) (fun L L' h => by simp only [h 2 (by decide)]) rfl ?_
        refine AS.op [4] [] [2] [] rfl rfl rfl (by kernel_rfl) (by kernel_rfl) rfl rfl (fun _ _ _ h => AOp.loadN rfl rfl (ltb rfl) rfl agg38 size38 rfl (leb rfl) rfl h) (by kernel_rfl) ?_
        refine AS.op [] [] [] [2] rfl rfl rfl (by kernel_rfl) (by kernel_rfl) rfl rfl (fun _ _ _ h => AOp.loadE rfl rfl (ltb rfl) rfl agg34 (by simp [GlobsE]) h) (by kernel_rfl) ?_
        refine AS.mid0 [2, 9] [] [2] [] rfl rfl rfl rfl (by kernel_rfl) (by kernel_rfl) rfl rfl (fun _ _ _ h => AOp.store rfl rfl rfl rfl size38 rfl rfl rfl (leb rfl) (AO.dropT h)) (by kernel_rfl) rfl ?_
        refine AS.done ?_
        refine AO.objs (obs' := [.frame fr9 [], .fix 38 [.d (di .i64 a1)], .fix 38 [.d (di .i64 a1)]]) rfl ?_
        refine AO.op rfl (AOp.assign rfl rfl (ltb rfl) rfl ?_)
        refine AO.nil ?_
        change AC _ _ _ _
        refine AC.ret ?_
        refine inlret (ob' := [.dead, .fix 38 [.d (di .i64 a1)], .fix 38 [.d (di .i64 a1)]]) (e' := []) (r := .tu [.ag [.d (di .i64 a1)], .ifc (errT W 0) (.any)]) rfl rfl rfl ?_
        change AO _ _ _ _ _
        refine AO.op rfl (AOp.move rfl rfl (ltb rfl) rfl ?_)
        first | refine AO.op rfl (AOp.extractD rfl rfl (ltb rfl) rfl rfl ?_) | refine AO.op rfl (AOp.extract rfl rfl (ltb rfl) rfl rfl ?_)
        first | refine AO.op rfl (AOp.extractD rfl rfl (ltb rfl) rfl rfl ?_) | refine AO.op rfl (AOp.extract rfl rfl (ltb rfl) rfl rfl ?_)
        refine AO.op rfl (AOp.alloc rfl rfl (ltb rfl) zero38 rfl ?_)
        refine AO.op rfl (AOp.store rfl rfl rfl rfl size38 rfl rfl rfl (leb rfl) ?_)
        refine AO.op rfl (AOp.assign rfl rfl (ltb rfl) rfl ?_)
        refine AO.nil ?_
        change AC _ _ _ _
        refine AC.seq ?_
        refine AC.seq ?_
        refine AC.region ?_
        refine AO.op rfl (AOp.move rfl rfl (ltb rfl) rfl ?_)
        refine AO.op rfl (AOp.ifcNeq rfl rfl (ltb rfl) rfl rfl imeth34 ?_)
        refine AO.nil ?_
        change AC _ _ _ _
        refine AC.condT rfl rfl ?_
        refine AC.seq ?_
        refine AC.region ?_
        refine AO.op rfl (AOp.assign rfl rfl (ltb rfl) rfl ?_)
        refine AO.op rfl (AOp.assign rfl rfl (ltb rfl) rfl ?_)
        refine AO.nil ?_
        change AC _ _ _ _
        refine AC.sub 4 rfl (SVLe.nil 1) ?_
        refine AC.ret ?_
        change RetQ _ _ _ .ret _
        obtain rfl := Option.some.inj h0
        refine retq rfl rfl
      · replace h0 := cF h0 q10
        refine AC.skip ?_
        change AC _ _ _ _
        refine AC.seq ?_
        refine AC.seq ?_
        refine AC.region ?_
        refine AO.op rfl (AOp.move rfl rfl (ltb rfl) rfl ?_)
        obtain ⟨q11, h0⟩ := need_elim h0
        refine AO.op rfl (AOp.imul rfl rfl (ltb rfl) rfl rfl rfl q11.1 q11.2 ?_)
        refine AO.op rfl (AOp.igeq rfl rfl (ltb rfl) rfl rfl ?_)
        refine AO.nil ?_
        change AC _ _ _ _
        refine AC.cond rfl (fun q12 => ?_) (fun q12 => ?_)
        · replace h0 := cT h0 q12
          refine AC.seq ?_
          refine AC.drawS [0, 1, 2] [2] [3] (fun L => [.frame fr9 [], bif L 2 then .fix 38 [.d (di .i64 a1)] else .fix 38 [.d (di .i64 (0 : Int))], .fix 38 [.d (di .i64 a1)]]) [(2, (fun _ => true))] mixed (by kernel_rfl) (fun L L' h => by simp only [h 2 (by decide)]) rfl ?_
          refine AS.op [4] [] [2] [] rfl rfl rfl (by kernel_rfl) (by kernel_rfl) rfl rfl (fun _ _ _ h => AOp.loadN rfl rfl (ltb rfl) rfl agg38 size38 rfl (leb rfl) rfl h) (by kernel_rfl) ?_
          refine AS.op [] [] [] [2] rfl rfl rfl (by kernel_rfl) (by kernel_rfl) rfl rfl (fun _ _ _ h => AOp.loadE rfl rfl (ltb rfl) rfl agg34 (by simp [GlobsE]) h) (by kernel_rfl) ?_
          refine AS.mid0 [2, 14] [] [2] [] rfl rfl rfl rfl (by kernel_rfl) (by kernel_rfl) rfl rfl (fun _ _ _ h => AOp.store rfl rfl rfl rfl size38 rfl rfl rfl (leb rfl) (AO.dropT h)) (by kernel_rfl) rfl ?_
          refine AS.done ?_
          refine AO.objs (obs' := [.frame fr9 [], .fix 38 [.d (di .i64 a1)], .fix 38 [.d (di .i64 a1)]]) rfl ?_
          refine AO.op rfl (AOp.assign rfl rfl (ltb rfl) rfl ?_)
          refine AO.nil ?_
          change AC _ _ _ _
          refine AC.ret ?_
          refine inlret (ob' := [.dead, .fix 38 [.d (di .i64 a1)], .fix 38 [.d (di .i64 a1)]]) (e' := []) (r := .tu [.ag [.d (di .i64 a1)], .ifc (errT W 1) (.any)]) rfl rfl rfl ?_
          change AO _ _ _ _ _
          refine AO.op rfl (AOp.move rfl rfl (ltb rfl) rfl ?_)
          first | refine AO.op rfl (AOp.extractD rfl rfl (ltb rfl) rfl rfl ?_) | refine AO.op rfl (AOp.extract rfl rfl (ltb rfl) rfl rfl ?_)
          first | refine AO.op rfl (AOp.extractD rfl rfl (ltb rfl) rfl rfl ?_) | refine AO.op rfl (AOp.extract rfl rfl (ltb rfl) rfl rfl ?_)
          refine AO.op rfl (AOp.alloc rfl rfl (ltb rfl) zero38 rfl ?_)
          refine AO.op rfl (AOp.store rfl rfl rfl rfl size38 rfl rfl rfl (leb rfl) ?_)
          refine AO.op rfl (AOp.assign rfl rfl (ltb rfl) rfl ?_)
          refine AO.nil ?_
          change AC _ _ _ _
          refine AC.seq ?_
          refine AC.seq ?_
          refine AC.region ?_
          refine AO.op rfl (AOp.move rfl rfl (ltb rfl) rfl ?_)
          refine AO.op rfl (AOp.ifcNeq rfl rfl (ltb rfl) rfl rfl imeth34 ?_)
          refine AO.nil ?_
          change AC _ _ _ _
          refine AC.condT rfl rfl ?_
          refine AC.seq ?_
          refine AC.region ?_
          refine AO.op rfl (AOp.assign rfl rfl (ltb rfl) rfl ?_)
          refine AO.op rfl (AOp.assign rfl rfl (ltb rfl) rfl ?_)
          refine AO.nil ?_
          change AC _ _ _ _
          refine AC.sub 4 rfl (SVLe.nil 1) ?_
          refine AC.ret ?_
          change RetQ _ _ _ .ret _
          obtain rfl := Option.some.inj h0
          refine retq rfl rfl
        · replace h0 := cF h0 q12
          refine AC.skip ?_
          change AC _ _ _ _
          refine AC.seq ?_
          refine AC.region ?_
          refine AO.op rfl (AOp.loadN rfl rfl (ltb rfl) rfl agg38 size38 rfl (leb rfl) rfl ?_)
          refine AO.op rfl (AOp.store rfl rfl rfl rfl size38 rfl rfl rfl (leb rfl) ?_)
          refine AO.op rfl (AOp.assign rfl rfl (ltb rfl) rfl ?_)
          refine AO.nil ?_
          change AC _ _ _ _
          refine AC.ret ?_
          refine inlret (ob' := [.dead, .fix 38 [.d (di .i64 a1)], .fix 38 [.d (di .i64 a1)]]) (e' := []) (r := .tu [.ag [.d (di .i64 a1)], .d (.v (.nilIface))]) rfl rfl rfl ?_
          change AO _ _ _ _ _
          refine AO.op rfl (AOp.move rfl rfl (ltb rfl) rfl ?_)
          first | refine AO.op rfl (AOp.extractD rfl rfl (ltb rfl) rfl rfl ?_) | refine AO.op rfl (AOp.extract rfl rfl (ltb rfl) rfl rfl ?_)
          first | refine AO.op rfl (AOp.extractD rfl rfl (ltb rfl) rfl rfl ?_) | refine AO.op rfl (AOp.extract rfl rfl (ltb rfl) rfl rfl ?_)
          refine AO.op rfl (AOp.alloc rfl rfl (ltb rfl) zero38 rfl ?_)
          refine AO.op rfl (AOp.store rfl rfl rfl rfl size38 rfl rfl rfl (leb rfl) ?_)
          refine AO.op rfl (AOp.assign rfl rfl (ltb rfl) rfl ?_)
          refine AO.nil ?_
          change AC _ _ _ _
          refine AC.seq ?_
          refine AC.seq ?_
          refine AC.region ?_
          refine AO.op rfl (AOp.move rfl rfl (ltb rfl) rfl ?_)
          refine AO.op rfl (AOp.nilNeq rfl rfl (ltb rfl) rfl imeth34 ?_)
          refine AO.nil ?_
          change AC _ _ _ _
          refine AC.condF rfl rfl ?_
          refine AC.skip ?_
          change AC _ _ _ _
          refine AC.seq ?_
          refine AC.region ?_
          refine AO.op rfl (AOp.loadN rfl rfl (ltb rfl) rfl agg38 size38 rfl (leb rfl) rfl ?_)
          obtain ⟨y13, q14, h0⟩ := bind_elim h0
          refine AO.op rfl (AOp.callD rfl rfl (ltb rfl) rfl rfl (w_Hilbert3D_Dims (TCurve_Hilbert2D.mk a1) y13 q14) ?_)
          rintro _ rfl
          refine AO.op rfl (AOp.assign rfl rfl (ltb rfl) rfl ?_)
          refine AO.op rfl (AOp.assign rfl rfl (ltb rfl) rfl ?_)
          refine AO.nil ?_
          change AC _ _ _ _
          refine AC.ret ?_
          change RetQ _ _ _ .ret _
          obtain rfl := Option.some.inj h0
          refine retq rfl rfl
    · replace h0 := cF h0 q8
      refine AC.seq ?_
      refine AC.region ?_
      refine AO.op rfl (AOp.ieql rfl rfl (ltb rfl) rfl rfl ?_)
      refine AO.op rfl (AOp.assign rfl rfl (ltb rfl) rfl ?_)
      refine AO.nil ?_
      change AC _ _ _ _
      refine AC.cond rfl (fun q15 => ?_) (fun q15 => ?_)
      · replace h0 := cT h0 q15
        refine AC.seq ?_
        refine AC.region ?_
        refine AO.op rfl (AOp.move rfl rfl (ltb rfl) rfl ?_)
        refine AO.op rfl (AOp.inl [] (by kernel_rfl) Tryd.func14 rfl Tryd.ntmps14 rfl rfl (ltb rfl) rfl (leb rfl) rfl ?_)
        intro fr16
        refine AC.seq ?_
        refine AC.region ?_
        refine AO.op rfl (AOp.alloc rfl rfl (ltb rfl) zero41 rfl ?_)
        refine AO.op rfl (AOp.assign rfl rfl (ltb rfl) rfl ?_)
        refine AO.nil ?_
        change AC _ _ _ _
        refine AC.seq ?_
        refine AC.region ?_
        refine AO.op rfl (AOp.move rfl rfl (ltb rfl) rfl ?_)
        refine AO.op rfl (AOp.build rfl rfl (ltb rfl) zero41 rfl places41 rfl rfl ?_)
        refine AO.op rfl (AOp.alloc rfl rfl (ltb rfl) zero41 rfl ?_)
        refine AO.op rfl (AOp.store rfl rfl rfl rfl size41 rfl rfl rfl (leb rfl) ?_)
        refine AO.nil ?_
        change AC _ _ _ _
        refine AC.seq ?_
        refine AC.seq ?_
        refine AC.region ?_
        refine AO.op rfl (AOp.move rfl rfl (ltb rfl) rfl ?_)
        refine AO.op rfl (AOp.ilss rfl rfl (ltb rfl) rfl rfl ?_)
        refine AO.nil ?_
        change AC _ _ _ _
        refine AC.cond rfl (fun q17 => ?_) (fun q17 => ?_)
        · replace h0 := cT h0 q17
          refine AC.seq ?_
          refine AC.drawS [0, 1, 2] [2] [3] (fun L => [.frame fr16 [], bif L 2 then .fix 41 [.d (di .i64 a1)] else .fix 41 [.d (di .i64 (0 : Int))], .fix 41 [.d (di .i64 a1)]]) [(2, (fun _ => true))] mixed (by kernel_rfl) (fun L L' h => by simp only [h 2 (by decide)]) rfl ?_
          refine AS.op [4] [] [2] [] rfl rfl rfl (by kernel_rfl) (by kernel_rfl) rfl rfl (fun _ _ _ h => AOp.loadN rfl rfl (ltb rfl) rfl agg41 size41 rfl (leb rfl) rfl h) (by kernel_rfl) ?_
          refine AS.op [] [] [] [2] rfl rfl rfl (by kernel_rfl) (by kernel_rfl) rfl rfl (fun _ _ _ h => AOp.loadE rfl rfl (ltb rfl) rfl agg34 (by simp [GlobsE]) h) (by kernel_rfl) ?_
          refine AS.mid0 [2, 9] [] [2] [] rfl rfl rfl rfl (by kernel_rfl) (by kernel_rfl) rfl rfl (fun _ _ _ h => AOp.store rfl rfl rfl rfl size41 rfl rfl rfl (leb rfl) (AO.dropT h)) (by kernel_rfl) rfl ?_
          refine AS.done ?_
          refine AO.objs (obs' := [.frame fr16 [], .fix 41 [.d (di .i64 a1)], .fix 41 [.d (di .i64 a1)]]) rfl ?_
          refine AO.op rfl (AOp.assign rfl rfl (ltb rfl) rfl ?_)
          refine AO.nil ?_
          change AC _ _ _ _
          refine AC.ret ?_
          refine inlret (ob' := [.dead, .fix 41 [.d (di .i64 a1)], .fix 41 [.d (di .i64 a1)]]) (e' := []) (r := .tu [.ag [.d (di .i64 a1)], .ifc (errT W 0) (.any)]) rfl rfl rfl ?_
          change AO _ _ _ _ _
          refine AO.op rfl (AOp.move rfl rfl (ltb rfl) rfl ?_)
          first | refine AO.op rfl (AOp.extractD rfl rfl (ltb rfl) rfl rfl ?_) | refine AO.op rfl (AOp.extract rfl rfl (ltb rfl) rfl rfl ?_)
          first | refine AO.op rfl (AOp.extractD rfl rfl (ltb rfl) rfl rfl ?_) | refine AO.op rfl (AOp.extract rfl rfl (ltb rfl) rfl rfl ?_)
          refine AO.op rfl (AOp.alloc rfl rfl (ltb rfl) zero41 rfl ?_)
          refine AO.op rfl (AOp.store rfl rfl rfl rfl size41 rfl rfl rfl (leb rfl) ?_)
          refine AO.op rfl (AOp.assign rfl rfl (ltb rfl) rfl ?_)
          refine AO.nil ?_
          change AC _ _ _ _
          refine AC.seq ?_
          refine AC.seq ?_
          refine AC.region ?_
          refine AO.op rfl (AOp.move rfl rfl (ltb rfl) rfl ?_)
          refine AO.op rfl (AOp.ifcNeq rfl rfl (ltb rfl) rfl rfl imeth34 ?_)
          refine AO.nil ?_
          change AC _ _ _ _
          refine AC.condT rfl rfl ?_
          refine AC.seq ?_
          refine AC.region ?_
          refine AO.op rfl (AOp.assign rfl rfl (ltb rfl) rfl ?_)
          refine AO.op rfl (AOp.assign rfl rfl (ltb rfl) rfl ?_)
          refine AO.nil ?_
          change AC _ _ _ _
          refine AC.sub 4 rfl (SVLe.nil 1) ?_
          refine AC.ret ?_
          change RetQ _ _ _ .ret _
          obtain rfl := Option.some.inj h0
          refine retq rfl rfl
        · replace h0 := cF h0 q17
          refine AC.skip ?_
          change AC _ _ _ _
          refine AC.seq ?_
          refine AC.seq ?_
          refine AC.region ?_
          refine AO.op rfl (AOp.move rfl rfl (ltb rfl) rfl ?_)
          obtain ⟨q18, h0⟩ := need_elim h0
          refine AO.op rfl (AOp.imul rfl rfl (ltb rfl) rfl rfl rfl q18.1 q18.2 ?_)
          refine AO.op rfl (AOp.igeq rfl rfl (ltb rfl) rfl rfl ?_)
          refine AO.nil ?_
          change AC _ _ _ _
          refine AC.cond rfl (fun q19 => ?_) (fun q19 => ?_)
          · replace h0 := cT h0 q19
            refine AC.seq ?_
            refine AC.drawS [0, 1, 2] [2] [3] (fun L => [.frame fr16 [], bif L 2 then .fix 41 [.d (di .i64 a1)] else .fix 41 [.d (di .i64 (0 : Int))], .fix 41 [.d (di .i64 a1)]]) [(2, (fun _ => true))] mixed (by kernel_rfl) (fun L L' h => by simp only [h 2 (by decide)]) rfl ?_
            refine AS.op [4] [] [2] [] rfl rfl rfl (by kernel_rfl) (by kernel_rfl) rfl rfl (fun _ _ _ h => AOp.loadN rfl rfl (ltb rfl) rfl agg41 size41 rfl (leb rfl) rfl h) (by kernel_rfl) ?_
            refine AS.op [] [] [] [2] rfl rfl rfl (by kernel_rfl) (by kernel_rfl) rfl rfl (fun _ _ _ h => AOp.loadE rfl rfl (ltb rfl) rfl agg34 (by simp [GlobsE]) h) (by kernel_rfl) ?_
            refine AS.mid0 [2, 14] [] [2] [] rfl rfl rfl rfl (by kernel_rfl) (by kernel_rfl) rfl rfl (fun _ _ _ h => AOp.store rfl rfl rfl rfl size41 rfl rfl rfl (leb rfl) (AO.dropT h)) (by kernel_rfl) rfl ?_
            refine AS.done ?_
            refine AO.objs (obs' := [.frame fr16 [], .fix 41 [.d (di .i64 a1)], .fix 41 [.d (di .i64 a1)]]) rfl ?_
            refine AO.op rfl (AOp.assign rfl rfl (ltb rfl) rfl ?_)
            refine AO.nil ?_
            change AC _ _ _ _
            refine AC.ret ?_
            refine inlret (ob' := [.dead, .fix 41 [.d (di .i64 a1)], .fix 41 [.d (di .i64 a1)]]) (e' := []) (r := .tu [.ag [.d (di .i64 a1)], .ifc (errT W 1) (.any)]) rfl rfl rfl ?_
            change AO _ _ _ _ _
            refine AO.op rfl (AOp.move rfl rfl (ltb rfl) rfl ?_)
            first | refine AO.op rfl (AOp.extractD rfl rfl (ltb rfl) rfl rfl ?_) | refine AO.op rfl (AOp.extract rfl rfl (ltb rfl) rfl rfl ?_)
            first | refine AO.op rfl (AOp.extractD rfl rfl (ltb rfl) rfl rfl ?_) | refine AO.op rfl (AOp.extract rfl rfl (ltb rfl) rfl rfl ?_)
            refine AO.op rfl (AOp.alloc rfl rfl (ltb rfl) zero41 rfl ?_)
            refine AO.op rfl (AOp.store rfl rfl rfl rfl size41 rfl rfl rfl (leb rfl) ?_)
            refine AO.op rfl (AOp.assign rfl rfl (ltb rfl) rfl ?_)
            refine AO.nil ?_
            change AC _ _ _ _
            refine AC.seq ?_
            refine AC.seq ?_
            refine AC.region ?_
            refine AO.op rfl (AOp.move rfl rfl (ltb rfl) rfl ?_)
            refine AO.op rfl (AOp.ifcNeq rfl rfl (ltb rfl) rfl rfl imeth34 ?_)
            refine AO.nil ?_
            change AC _ _ _ _
            refine AC.condT rfl rfl ?_
            refine AC.seq ?_
            refine AC.region ?_
            refine AO.op rfl (AOp.assign rfl rfl (ltb rfl) rfl ?_)
            refine AO.op rfl (AOp.assign rfl rfl (ltb rfl) rfl ?_)
            refine AO.nil ?_
            change AC _ _ _ _
            refine AC.sub 4 rfl (SVLe.nil 1) ?_
            refine AC.ret ?_
            change RetQ _ _ _ .ret _
            obtain rfl := Option.some.inj h0
            refine retq rfl rfl
          · replace h0 := cF h0 q19
            refine AC.skip ?_
            change AC _ _ _ _
            refine AC.seq ?_
            refine AC.region ?_
            refine AO.op rfl (AOp.loadN rfl rfl (ltb rfl) rfl agg41 size41 rfl (leb rfl) rfl ?_)
            refine AO.op rfl (AOp.store rfl rfl rfl rfl size41 rfl rfl rfl (leb rfl) ?_)
            refine AO.op rfl (AOp.assign rfl rfl (ltb rfl) rfl ?_)
            refine AO.nil ?_
            change AC _ _ _ _
            refine AC.ret ?_
            refine inlret (ob' := [.dead, .fix 41 [.d (di .i64 a1)], .fix 41 [.d (di .i64 a1)]]) (e' := []) (r := .tu [.ag [.d (di .i64 a1)], .d (.v (.nilIface))]) rfl rfl rfl ?_
            change AO _ _ _ _ _
            refine AO.op rfl (AOp.move rfl rfl (ltb rfl) rfl ?_)
            first | refine AO.op rfl (AOp.extractD rfl rfl (ltb rfl) rfl rfl ?_) | refine AO.op rfl (AOp.extract rfl rfl (ltb rfl) rfl rfl ?_)
            first | refine AO.op rfl (AOp.extractD rfl rfl (ltb rfl) rfl rfl ?_) | refine AO.op rfl (AOp.extract rfl rfl (ltb rfl) rfl rfl ?_)
            refine AO.op rfl (AOp.alloc rfl rfl (ltb rfl) zero41 rfl ?_)
            refine AO.op rfl (AOp.store rfl rfl rfl rfl size41 rfl rfl rfl (leb rfl) ?_)
            refine AO.op rfl (AOp.assign rfl rfl (ltb rfl) rfl ?_)
            refine AO.nil ?_
            change AC _ _ _ _
            refine AC.seq ?_
            refine AC.seq ?_
            refine AC.region ?_
            refine AO.op rfl (AOp.move rfl rfl (ltb rfl) rfl ?_)
            refine AO.op rfl (AOp.nilNeq rfl rfl (ltb rfl) rfl imeth34 ?_)
            refine AO.nil ?_
            change AC _ _ _ _
            refine AC.condF rfl rfl ?_
            refine AC.skip ?_
            change AC _ _ _ _
            refine AC.seq ?_
            refine AC.region ?_
            refine AO.op rfl (AOp.loadN rfl rfl (ltb rfl) rfl agg41 size41 rfl (leb rfl) rfl ?_)
            obtain ⟨y20, q21, h0⟩ := bind_elim h0
            refine AO.op rfl (AOp.callD rfl rfl (ltb rfl) rfl rfl (w_Hilbert4D_Dims (TCurve_Hilbert2D.mk a1) y20 q21) ?_)
            rintro _ rfl
            refine AO.op rfl (AOp.assign rfl rfl (ltb rfl) rfl ?_)
            refine AO.op rfl (AOp.assign rfl rfl (ltb rfl) rfl ?_)
            refine AO.nil ?_
            change AC _ _ _ _
            refine AC.ret ?_
            change RetQ _ _ _ .ret _
            obtain rfl := Option.some.inj h0
            refine retq rfl rfl
      · replace h0 := cF h0 q15
        refine AC.skip ?_
        change AC _ _ _ _
        refine AC.seq ?_
        refine AC.region ?_
        refine AO.op rfl (AOp.assign rfl rfl (ltb rfl) rfl ?_)
        refine AO.op rfl (AOp.assign rfl rfl (ltb rfl) rfl ?_)
        refine AO.nil ?_
        change AC _ _ _ _
        refine AC.sub 4 rfl (SVLe.nil 1) ?_
        refine AC.ret ?_
        change RetQ _ _ _ .ret _
        obtain rfl := Option.some.inj h0
        refine retq rfl rfl

set_option maxRecDepth 100000 in
set_option maxHeartbeats 1000000 in
/-- pub-orthodrome/laws.FnHilbertSize -/
theorem w_FnHilbertSize (F : Nat) (a0 : Int) (a1 : Int) (r0 : Bool) (h0 : p_FnHilbertSize F a0 a1 = some r0) : FnD Tryd.prog 3 [di .i64 a0, di .i64 a1] (fun r => r = dbool r0) := by
  refine FnD.of (by kernel_rfl) Tryd.func3 rfl Tryd.ntmps3 rfl (leb rfl) fun W ok => ?_
  unfold p_FnHilbertSize at h0
  refine AC.seq ?_
  refine AC.region ?_
  refine AO.op rfl (AOp.assign rfl rfl (ltb rfl) rfl ?_)
  refine AO.nil ?_
  change AC _ _ _ _
  refine AC.seq ?_
  refine AC.joinP (V := Bool) [0, 1] [22] 0 (fun g1 => [(22, .d (dbool g1))]) (fun g1 => []) (fun g1 => (p_FnHilbertSize_k1 a0 a1 F) g1 = some r0) rfl ?_ ?_
  · refine AC.region ?_
    refine AO.op rfl (AOp.move rfl rfl (ltb rfl) rfl ?_)
    refine AO.op rfl (AOp.ilss rfl rfl (ltb rfl) rfl rfl ?_)
    refine AO.op rfl (AOp.move rfl rfl (ltb rfl) rfl ?_)
    refine AO.dec (decide (a0 < (2 : Int))) (fun q29 => ?_) (fun q29 => ?_)
    · replace h0 := cT h0 q29
      refine AO.guardN rfl rfl rfl (ltb rfl) rfl q29 ?_
      refine AO.guardN rfl rfl rfl (ltb rfl) rfl q29 ?_
      refine AO.op rfl (AOp.pick rfl rfl (ltb rfl) rfl q29 rfl ?_)
      refine AO.op rfl (AOp.move rfl rfl (ltb rfl) rfl ?_)
      refine AO.guardN rfl rfl rfl (ltb rfl) rfl rfl ?_
      refine AO.guardN rfl rfl rfl (ltb rfl) rfl rfl ?_
      refine AO.guardN rfl rfl rfl (ltb rfl) rfl rfl ?_
      refine AO.guardN rfl rfl rfl (ltb rfl) rfl rfl ?_
      refine AO.op rfl (AOp.pick rfl rfl (ltb rfl) rfl rfl rfl ?_)
      refine AO.nil ?_
      exact ⟨true, _, rfl, (LeL.refl _), rfl, rfl, h0⟩
    · replace h0 := cF h0 q29
      refine AO.guardY rfl rfl rfl q29 (AOp.move rfl rfl (ltb rfl) rfl ?_)
      refine AO.guardY rfl rfl rfl q29 (AOp.igtr rfl rfl (ltb rfl) rfl rfl ?_)
      refine AO.op rfl (AOp.pickN rfl rfl (ltb rfl) rfl q29 rfl ?_)
      refine AO.op rfl (AOp.move rfl rfl (ltb rfl) rfl ?_)
      refine AO.dec (decide ((4 : Int) < a0)) (fun q30 => ?_) (fun q30 => ?_)
      · replace h0 := cT h0 q30
        refine AO.guardN rfl rfl rfl (ltb rfl) rfl q30 ?_
        refine AO.guardN rfl rfl rfl (ltb rfl) rfl q30 ?_
        refine AO.guardN rfl rfl rfl (ltb rfl) rfl q30 ?_
        refine AO.guardN rfl rfl rfl (ltb rfl) rfl q30 ?_
        refine AO.op rfl (AOp.pick rfl rfl (ltb rfl) rfl q30 rfl ?_)
        refine AO.nil ?_
        exact ⟨true, _, rfl, (LeL.refl _), rfl, rfl, h0⟩
      · replace h0 := cF h0 q30
        refine AO.guardY rfl rfl rfl q30 (AOp.move rfl rfl (ltb rfl) rfl ?_)
        refine AO.guardY rfl rfl rfl q30 (AOp.move rfl rfl (ltb rfl) rfl ?_)
        obtain ⟨y31, q32, h0⟩ := bind_elim h0
        refine AO.guardY rfl rfl rfl q30 (AOp.callD rfl rfl (ltb rfl) rfl rfl (w_orders a0 y31 q32) ?_)
        rintro _ rfl
        refine AO.guardY rfl rfl rfl q30 (AOp.igtr rfl rfl (ltb rfl) rfl rfl ?_)
        refine AO.op rfl (AOp.pickN rfl rfl (ltb rfl) rfl q30 rfl ?_)
        refine AO.nil ?_
        exact ⟨(decide (y31 < a1)), _, rfl, (LeL.refl _), rfl, rfl, h0⟩
  · intro g1 h0
    unfold p_FnHilbertSize_k1 at h0
    refine AC.cond rfl (fun q2 => ?_) (fun q2 => ?_)
    · replace h0 := cT h0 q2
      refine AC.seq ?_
      refine AC.region ?_
      refine AO.op rfl (AOp.assign rfl rfl (ltb rfl) rfl ?_)
      refine AO.nil ?_
      change AC _ _ _ _
      refine AC.ret ?_
      change RetQ _ _ _ .ret _
      obtain rfl := Option.some.inj h0
      refine retq rfl rfl
    · replace h0 := cF h0 q2
      refine AC.skip ?_
      change AC _ _ _ _
      refine AC.seq ?_
      refine AC.region ?_
      refine AO.op rfl (AOp.move rfl rfl (ltb rfl) rfl ?_)
      refine AO.op rfl (AOp.move rfl rfl (ltb rfl) rfl ?_)
      obtain ⟨y3, q4, h0⟩ := bind_elim h0
      refine AO.op rfl (AOp.callD rfl rfl (ltb rfl) rfl rfl (w_HLen a0 a1 y3 q4) ?_)
      rintro _ rfl
      refine AO.op rfl (AOp.move rfl rfl (ltb rfl) rfl ?_)
      first | refine AO.op rfl (AOp.extractD rfl rfl (ltb rfl) rfl rfl ?_) | refine AO.op rfl (AOp.extract rfl rfl (ltb rfl) rfl rfl ?_)
      first | refine AO.op rfl (AOp.extractD rfl rfl (ltb rfl) rfl rfl ?_) | refine AO.op rfl (AOp.extract rfl rfl (ltb rfl) rfl rfl ?_)
      refine AO.op rfl (AOp.assign rfl rfl (ltb rfl) rfl ?_)
      refine AO.op rfl (AOp.assign rfl rfl (ltb rfl) rfl ?_)
      refine AO.nil ?_
      change AC _ _ _ _
      refine AC.seq ?_
      refine AC.region ?_
      refine AO.op rfl (AOp.move rfl rfl (ltb rfl) rfl ?_)
      refine AO.op rfl (AOp.move rfl rfl (ltb rfl) rfl ?_)
      obtain ⟨y5, q6, h0⟩ := bind_elim h0
      refine AO.op rfl (AOp.callD rfl rfl (ltb rfl) rfl rfl (w_HDims a0 a1 y5 q6) ?_)
      rintro _ rfl
      refine AO.op rfl (AOp.move rfl rfl (ltb rfl) rfl ?_)
      first | refine AO.op rfl (AOp.extractD rfl rfl (ltb rfl) rfl rfl ?_) | refine AO.op rfl (AOp.extract rfl rfl (ltb rfl) rfl rfl ?_)
      first | refine AO.op rfl (AOp.extractD rfl rfl (ltb rfl) rfl rfl ?_) | refine AO.op rfl (AOp.extract rfl rfl (ltb rfl) rfl rfl ?_)
      refine AO.op rfl (AOp.assign rfl rfl (ltb rfl) rfl ?_)
      refine AO.op rfl (AOp.assign rfl rfl (ltb rfl) rfl ?_)
      refine AO.nil ?_
      change AC _ _ _ _
      refine AC.seq ?_
      refine AC.seq ?_
      refine AC.region ?_
      refine AO.op rfl (AOp.move rfl rfl (ltb rfl) rfl ?_)
      refine AO.op rfl (AOp.ilss rfl rfl (ltb rfl) rfl rfl ?_)
      refine AO.nil ?_
      change AC _ _ _ _
      refine AC.cond rfl (fun q7 => ?_) (fun q7 => ?_)
      · replace h0 := cT h0 q7
        refine AC.joinP (V := Bool) [] [4] 0 (fun g8 => [(4, .d (dbool g8))]) (fun g8 => []) (fun g8 => p_FnHilbertSize_k2 g8 = some r0) rfl ?_ ?_
        · refine AC.region ?_
          refine AO.op rfl (AOp.move rfl rfl (ltb rfl) rfl ?_)
          refine AO.op rfl (AOp.bnot rfl rfl (ltb rfl) rfl ?_)
          refine AO.op rfl (AOp.move rfl rfl (ltb rfl) rfl ?_)
          refine AO.dec (!y3.2) (fun q9 => ?_) (fun q9 => ?_)
          · replace h0 := cT h0 q9
            refine AO.guardY rfl rfl rfl q9 (AOp.move rfl rfl (ltb rfl) rfl ?_)
            refine AO.guardY rfl rfl rfl q9 (AOp.bnot rfl rfl (ltb rfl) rfl ?_)
            refine AO.op rfl (AOp.pick rfl rfl (ltb rfl) rfl q9 rfl ?_)
            refine AO.op rfl (AOp.assign rfl rfl (ltb rfl) rfl ?_)
            refine AO.nil ?_
            exact ⟨(!y5.2), _, rfl, (LeL.refl _), rfl, rfl, h0⟩
          · replace h0 := cF h0 q9
            refine AO.guardN rfl rfl rfl (ltb rfl) rfl q9 ?_
            refine AO.guardN rfl rfl rfl (ltb rfl) rfl q9 ?_
            refine AO.op rfl (AOp.pickN rfl rfl (ltb rfl) rfl q9 rfl ?_)
            refine AO.op rfl (AOp.assign rfl rfl (ltb rfl) rfl ?_)
            refine AO.nil ?_
            exact ⟨false, _, rfl, (LeL.refl _), rfl, rfl, h0⟩
        · intro g8 h0
          unfold p_FnHilbertSize_k2 at h0
          refine AC.ret ?_
          change RetQ _ _ _ .ret _
          obtain rfl := Option.some.inj h0
          refine retq rfl rfl
      · replace h0 := cF h0 q7
        refine AC.skip ?_
        change AC _ _ _ _
        refine AC.seq ?_
        refine AC.joinP (V := Bool) [1, 7] [62] 0 (fun g10 => [(62, .d (dbool g10))]) (fun g10 => []) (fun g10 => (p_FnHilbertSize_k3 a1 F y5) g10 = some r0) rfl ?_ ?_
        · refine AC.region ?_
          refine AO.op rfl (AOp.move rfl rfl (ltb rfl) rfl ?_)
          refine AO.op rfl (AOp.bnot rfl rfl (ltb rfl) rfl ?_)
          refine AO.op rfl (AOp.move rfl rfl (ltb rfl) rfl ?_)
          refine AO.dec (!y3.2) (fun q24 => ?_) (fun q24 => ?_)
          · replace h0 := cT h0 q24
            refine AO.guardN rfl rfl rfl (ltb rfl) rfl q24 ?_
            refine AO.guardN rfl rfl rfl (ltb rfl) rfl q24 ?_
            refine AO.op rfl (AOp.pick rfl rfl (ltb rfl) rfl q24 rfl ?_)
            refine AO.op rfl (AOp.move rfl rfl (ltb rfl) rfl ?_)
            refine AO.guardN rfl rfl rfl (ltb rfl) rfl rfl ?_
            refine AO.guardN rfl rfl rfl (ltb rfl) rfl rfl ?_
            refine AO.guardN rfl rfl rfl (ltb rfl) rfl rfl ?_
            refine AO.guardN rfl rfl rfl (ltb rfl) rfl rfl ?_
            refine AO.guardN rfl rfl rfl (ltb rfl) rfl rfl ?_
            refine AO.guardN rfl rfl rfl (ltb rfl) rfl rfl ?_
            refine AO.op rfl (AOp.pick rfl rfl (ltb rfl) rfl rfl rfl ?_)
            refine AO.op rfl (AOp.move rfl rfl (ltb rfl) rfl ?_)
            refine AO.guardN rfl rfl rfl (ltb rfl) rfl rfl ?_
            refine AO.guardN rfl rfl rfl (ltb rfl) rfl rfl ?_
            refine AO.guardN rfl rfl rfl (ltb rfl) rfl rfl ?_
            refine AO.guardN rfl rfl rfl (ltb rfl) rfl rfl ?_
            refine AO.op rfl (AOp.pick rfl rfl (ltb rfl) rfl rfl rfl ?_)
            refine AO.nil ?_
            exact ⟨true, _, rfl, (LeL.refl _), rfl, rfl, h0⟩
          · replace h0 := cF h0 q24
            refine AO.guardY rfl rfl rfl q24 (AOp.move rfl rfl (ltb rfl) rfl ?_)
            refine AO.guardY rfl rfl rfl q24 (AOp.bnot rfl rfl (ltb rfl) rfl ?_)
            refine AO.op rfl (AOp.pickN rfl rfl (ltb rfl) rfl q24 rfl ?_)
            refine AO.op rfl (AOp.move rfl rfl (ltb rfl) rfl ?_)
            refine AO.dec (!y5.2) (fun q25 => ?_) (fun q25 => ?_)
            · replace h0 := cT h0 q25
              refine AO.guardN rfl rfl rfl (ltb rfl) rfl q25 ?_
              refine AO.guardN rfl rfl rfl (ltb rfl) rfl q25 ?_
              refine AO.guardN rfl rfl rfl (ltb rfl) rfl q25 ?_
              refine AO.guardN rfl rfl rfl (ltb rfl) rfl q25 ?_
              refine AO.guardN rfl rfl rfl (ltb rfl) rfl q25 ?_
              refine AO.guardN rfl rfl rfl (ltb rfl) rfl q25 ?_
              refine AO.op rfl (AOp.pick rfl rfl (ltb rfl) rfl q25 rfl ?_)
              refine AO.op rfl (AOp.move rfl rfl (ltb rfl) rfl ?_)
              refine AO.guardN rfl rfl rfl (ltb rfl) rfl rfl ?_
              refine AO.guardN rfl rfl rfl (ltb rfl) rfl rfl ?_
              refine AO.guardN rfl rfl rfl (ltb rfl) rfl rfl ?_
              refine AO.guardN rfl rfl rfl (ltb rfl) rfl rfl ?_
              refine AO.op rfl (AOp.pick rfl rfl (ltb rfl) rfl rfl rfl ?_)
              refine AO.nil ?_
              exact ⟨true, _, rfl, (LeL.refl _), rfl, rfl, h0⟩
            · replace h0 := cF h0 q25
              refine AO.guardY rfl rfl rfl q25 (AOp.move rfl rfl (ltb rfl) rfl ?_)
              refine AO.guardY rfl rfl rfl q25 (AOp.move rfl rfl (ltb rfl) rfl ?_)
              refine AO.guardY rfl rfl rfl q25 (AOp.move rfl rfl (ltb rfl) rfl ?_)
              obtain ⟨q26, h0⟩ := need_elim h0
              refine AO.guardY rfl rfl rfl q25 (AOp.imul rfl rfl (ltb rfl) rfl rfl rfl q26.1 q26.2 ?_)
              obtain ⟨q27, h0⟩ := need_elim h0
              refine AO.guardY rfl rfl rfl q25 (AOp.ishl' rfl rfl (ltb rfl) rfl rfl q27 ?_)
              refine AO.guardY rfl rfl rfl q25 (AOp.ineq rfl rfl (ltb rfl) rfl rfl ?_)
              refine AO.op rfl (AOp.pickN rfl rfl (ltb rfl) rfl q25 rfl ?_)
              refine AO.op rfl (AOp.move rfl rfl (ltb rfl) rfl ?_)
              refine AO.dec (!decide (y3.1 = (IntKind.i64.wrap ((1 : Int) * 2 ^ ((a0 * a1)).toNat)))) (fun q28 => ?_) (fun q28 => ?_)
              · replace h0 := cT h0 q28
                refine AO.guardN rfl rfl rfl (ltb rfl) rfl q28 ?_
                refine AO.guardN rfl rfl rfl (ltb rfl) rfl q28 ?_
                refine AO.guardN rfl rfl rfl (ltb rfl) rfl q28 ?_
                refine AO.guardN rfl rfl rfl (ltb rfl) rfl q28 ?_
                refine AO.op rfl (AOp.pick rfl rfl (ltb rfl) rfl q28 rfl ?_)
                refine AO.nil ?_
                exact ⟨true, _, rfl, (LeL.refl _), rfl, rfl, h0⟩
              · replace h0 := cF h0 q28
                refine AO.guardY rfl rfl rfl q28 (AOp.move rfl rfl (ltb rfl) rfl ?_)
                refine AO.guardY rfl rfl rfl q28 (AOp.lenDs (n := y5.1.length) (cells := (List.map keS0 y5.1)) rfl rfl (ltb rfl) rfl el25 (by decide) (len1 _ _) ?_)
                refine AO.guardY rfl rfl rfl q28 (AOp.move rfl rfl (ltb rfl) rfl ?_)
                refine AO.guardY rfl rfl rfl q28 (AOp.ineq rfl rfl (ltb rfl) rfl rfl ?_)
                refine AO.op rfl (AOp.pickN rfl rfl (ltb rfl) rfl q28 rfl ?_)
                refine AO.nil ?_
                exact ⟨(!decide (((y5.1.length : Nat) : Int) = a0)), _, rfl, (LeL.refl _), rfl, rfl, h0⟩
        · intro g10 h0
          unfold p_FnHilbertSize_k3 at h0
          refine AC.cond rfl (fun q11 => ?_) (fun q11 => ?_)
          · replace h0 := cT h0 q11
            refine AC.seq ?_
            refine AC.region ?_
            refine AO.op rfl (AOp.assign rfl rfl (ltb rfl) rfl ?_)
            refine AO.nil ?_
            change AC _ _ _ _
            refine AC.ret ?_
            change RetQ _ _ _ .ret _
            obtain rfl := Option.some.inj h0
            refine retq rfl rfl
          · replace h0 := cF h0 q11
            refine AC.skip ?_
            change AC _ _ _ _
            refine AC.seq ?_
            refine AC.seq ?_
            refine AC.region ?_
            refine AO.op rfl (AOp.move rfl rfl (ltb rfl) rfl ?_)
            refine AO.op rfl (AOp.lenDs (n := y5.1.length) (cells := (List.map keS0 y5.1)) rfl rfl (ltb rfl) rfl el25 (by decide) (len1 _ _) ?_)
            refine AO.op rfl (AOp.move rfl rfl (ltb rfl) rfl ?_)
            refine AO.nil ?_
            change AC _ _ _ _
            obtain ⟨o12, l13, h0⟩ := bind_elim h0
            refine AC.joinE (V := Unit) [] [] 0 (fun g14 => []) (fun g14 => []) (fun g14 => p_FnHilbertSize_k4 g14 = some r0) rfl ?_ ?_
            · refine AC.block ?_
              refine AC.loopP (V := Int) (p_FnHilbertSize_l5 a1 y5) o12 [1, 63, 64] [65] 0 (fun g15 => [(65, .d (di .i64 g15))]) (fun g15 => []) F (0 : Int) l13 rfl rfl (LeL.refl _) rfl rfl ?_
              intro n17 g15 h1
              unfold p_FnHilbertSize_l5 at h1
              refine AC.seq ?_
              refine AC.region ?_
              refine AO.op rfl (AOp.ilss rfl rfl (ltb rfl) rfl rfl ?_)
              refine AO.nil ?_
              change AC _ _ _ _
              refine AC.seq ?_
              refine AC.cond rfl (fun q18 => ?_) (fun q18 => ?_)
              · replace h1 := cT h1 q18
                refine AC.skip ?_
                change AC _ _ _ _
                refine AC.seq ?_
                refine AC.block ?_
                refine AC.seq ?_
                refine AC.region ?_
                obtain ⟨x19, q20, h1⟩ := idx_elim h1
                refine AO.op rfl (AOp.indexDs (cells := (List.map keS0 y5.1)) rfl rfl (ltb rfl) rfl rfl el25 (by decide) q20.1 (lt1 q20.2) ?_)
                refine AO.op rfl (AOp.loadEp rfl rfl (ltb rfl) rfl agg3 (at1 q20.2) ?_)
                refine AO.op rfl (AOp.assign rfl rfl (ltb rfl) rfl ?_)
                refine AO.nil ?_
                change AC _ _ _ _
                refine AC.seq ?_
                refine AC.region ?_
                refine AO.op rfl (AOp.move rfl rfl (ltb rfl) rfl ?_)
                refine AO.op rfl (AOp.move rfl rfl (ltb rfl) rfl ?_)
                obtain ⟨q21, h1⟩ := need_elim h1
                refine AO.op rfl (AOp.ishl' rfl rfl (ltb rfl) rfl rfl q21 ?_)
                refine AO.op rfl (AOp.ineq rfl rfl (ltb rfl) rfl rfl ?_)
                refine AO.nil ?_
                change AC _ _ _ _
                refine AC.cond rfl (fun q22 => ?_) (fun q22 => ?_)
                · replace h1 := cT h1 q22
                  refine AC.seq ?_
                  refine AC.region ?_
                  refine AO.op rfl (AOp.assign rfl rfl (ltb rfl) rfl ?_)
                  refine AO.nil ?_
                  change AC _ _ _ _
                  refine AC.ret ?_
                  change RetQ _ _ _ .ret _
                  obtain rfl := Option.some.inj h1
                  replace h0 := aftR h0
                  obtain rfl := Option.some.inj h0
                  refine retq rfl rfl
                · replace h1 := cF h1 q22
                  refine AC.skip ?_
                  change AC _ _ _ _
                  refine AC.region ?_
                  obtain ⟨q23, h1⟩ := need_elim h1
                  refine AO.op rfl (AOp.iadd rfl rfl (ltb rfl) rfl rfl rfl q23.1 q23.2 ?_)
                  refine AO.op rfl (AOp.move rfl rfl (ltb rfl) rfl ?_)
                  refine AO.nil ?_
                  exact ⟨(g15 + (1 : Int)), _, rfl, (LeL.refl _), rfl, rfl, h1⟩
              · replace h1 := cF h1 q18
                refine AC.exit ?_
                obtain rfl := Option.some.inj h1
                exact ⟨(), _, rfl, (LeL.refl _), rfl, rfl, aftL h0⟩
            · intro g14 h0
              unfold p_FnHilbertSize_k4 at h0
              change AC _ _ _ _
              refine AC.seq ?_
              refine AC.region ?_
              refine AO.op rfl (AOp.assign rfl rfl (ltb rfl) rfl ?_)
              refine AO.nil ?_
              change AC _ _ _ _
              refine AC.ret ?_
              change RetQ _ _ _ .ret _
              obtain rfl := Option.some.inj h0
              refine retq rfl rfl

end Go.Proofs.YtkajoiehicpnlaaDoor.Wk
