/- Printed: what functions of the program compute, as functions of Lean. No condition is laid on their arguments. -/
import Derived.Test.YtkajoiehicpnlaaDoorPureKit
namespace Go.Proofs.YtkajoiehicpnlaaDoor.Wk
open Go.Vm
set_option linter.unusedVariables false
structure TCurve_Hilbert2D where
  mk ::
  (order : Int)
abbrev c_TCurve_Hilbert2D (x : TCurve_Hilbert2D) : List D := [di .i64 x.order]
abbrev e_TCurve_Hilbert2D (x : TCurve_Hilbert2D) : D := .ag (c_TCurve_Hilbert2D x)
abbrev keS0 (x : Int) : D := di .i64 x
abbrev eS0 (l : List Int) : D := .ds 1 (l.map keS0)
/-- pub-orthodrome/laws.orders -/
def p_orders (a0 : Int) : Option Int := (cond (decide (a0 = (2 : Int))) (some (31 : Int)) (need (a0 ≠ 0 ∧ inI .i64 (Int.tdiv (62 : Int) a0)) (some (Int.tdiv (62 : Int) a0))))

/-- (pub-orthodrome/pub/gonum/spatial/curve.Hilbert2D).Len -/
def p_Hilbert2D_Len (a0 : TCurve_Hilbert2D) : Option Int := need (inI .i64 ((2 : Int) * a0.order)) (need (0 ≤ ((2 : Int) * a0.order) ∧ ((2 : Int) * a0.order) ≤ (IntKind.i64.bits : Int)) (some (IntKind.i64.wrap ((1 : Int) * 2 ^ (((2 : Int) * a0.order)).toNat))))

/-- (pub-orthodrome/pub/gonum/spatial/curve.Hilbert3D).Len -/
def p_Hilbert3D_Len (a0 : TCurve_Hilbert2D) : Option Int := need (inI .i64 ((3 : Int) * a0.order)) (need (0 ≤ ((3 : Int) * a0.order) ∧ ((3 : Int) * a0.order) ≤ (IntKind.i64.bits : Int)) (some (IntKind.i64.wrap ((1 : Int) * 2 ^ (((3 : Int) * a0.order)).toNat))))

/-- (pub-orthodrome/pub/gonum/spatial/curve.Hilbert4D).Len -/
def p_Hilbert4D_Len (a0 : TCurve_Hilbert2D) : Option Int := need (inI .i64 ((4 : Int) * a0.order)) (need (0 ≤ ((4 : Int) * a0.order) ∧ ((4 : Int) * a0.order) ≤ (IntKind.i64.bits : Int)) (some (IntKind.i64.wrap ((1 : Int) * 2 ^ (((4 : Int) * a0.order)).toNat))))

/-- pub-orthodrome/impl.HLen -/
def p_HLen (a0 : Int) (a1 : Int) : Option (Int × Bool) := (cond (decide (a0 = (2 : Int))) (cond (decide (a1 < (1 : Int))) (some ((0 : Int), false)) (need (inI .i64 (a1 * (2 : Int))) ((cond (decide ((64 : Int) ≤ (a1 * (2 : Int)))) (some ((0 : Int), false)) ((p_Hilbert2D_Len (TCurve_Hilbert2D.mk a1)).bind fun y6 => (some (y6, true))))))) (cond (decide (a0 = (3 : Int))) (cond (decide (a1 < (1 : Int))) (some ((0 : Int), false)) (need (inI .i64 (a1 * (3 : Int))) ((cond (decide ((64 : Int) ≤ (a1 * (3 : Int)))) (some ((0 : Int), false)) ((p_Hilbert3D_Len (TCurve_Hilbert2D.mk a1)).bind fun y13 => (some (y13, true))))))) (cond (decide (a0 = (4 : Int))) (cond (decide (a1 < (1 : Int))) (some ((0 : Int), false)) (need (inI .i64 (a1 * (4 : Int))) ((cond (decide ((64 : Int) ≤ (a1 * (4 : Int)))) (some ((0 : Int), false)) ((p_Hilbert4D_Len (TCurve_Hilbert2D.mk a1)).bind fun y20 => (some (y20, true))))))) (some ((0 : Int), false)))))

/-- (pub-orthodrome/pub/gonum/spatial/curve.Hilbert2D).Dims -/
def p_Hilbert2D_Dims (a0 : TCurve_Hilbert2D) : Option (List Int) := need (0 ≤ a0.order ∧ a0.order ≤ (IntKind.i64.bits : Int)) (need (0 ≤ a0.order ∧ a0.order ≤ (IntKind.i64.bits : Int)) (some [(IntKind.i64.wrap ((1 : Int) * 2 ^ (a0.order).toNat)), (IntKind.i64.wrap ((1 : Int) * 2 ^ (a0.order).toNat))]))

/-- (pub-orthodrome/pub/gonum/spatial/curve.Hilbert3D).Dims -/
def p_Hilbert3D_Dims (a0 : TCurve_Hilbert2D) : Option (List Int) := need (0 ≤ a0.order ∧ a0.order ≤ (IntKind.i64.bits : Int)) (need (0 ≤ a0.order ∧ a0.order ≤ (IntKind.i64.bits : Int)) (need (0 ≤ a0.order ∧ a0.order ≤ (IntKind.i64.bits : Int)) (some [(IntKind.i64.wrap ((1 : Int) * 2 ^ (a0.order).toNat)), (IntKind.i64.wrap ((1 : Int) * 2 ^ (a0.order).toNat)), (IntKind.i64.wrap ((1 : Int) * 2 ^ (a0.order).toNat))])))

/-- (pub-orthodrome/pub/gonum/spatial/curve.Hilbert4D).Dims -/
def p_Hilbert4D_Dims (a0 : TCurve_Hilbert2D) : Option (List Int) := need (0 ≤ a0.order ∧ a0.order ≤ (IntKind.i64.bits : Int)) (need (0 ≤ a0.order ∧ a0.order ≤ (IntKind.i64.bits : Int)) (need (0 ≤ a0.order ∧ a0.order ≤ (IntKind.i64.bits : Int)) (need (0 ≤ a0.order ∧ a0.order ≤ (IntKind.i64.bits : Int)) (some [(IntKind.i64.wrap ((1 : Int) * 2 ^ (a0.order).toNat)), (IntKind.i64.wrap ((1 : Int) * 2 ^ (a0.order).toNat)), (IntKind.i64.wrap ((1 : Int) * 2 ^ (a0.order).toNat)), (IntKind.i64.wrap ((1 : Int) * 2 ^ (a0.order).toNat))]))))

/-- pub-orthodrome/impl.HDims -/
def p_HDims (a0 : Int) (a1 : Int) : Option ((List Int) × Bool) := (cond (decide (a0 = (2 : Int))) (cond (decide (a1 < (1 : Int))) (some ([], false)) (need (inI .i64 (a1 * (2 : Int))) ((cond (decide ((64 : Int) ≤ (a1 * (2 : Int)))) (some ([], false)) ((p_Hilbert2D_Dims (TCurve_Hilbert2D.mk a1)).bind fun y6 => (some (y6, true))))))) (cond (decide (a0 = (3 : Int))) (cond (decide (a1 < (1 : Int))) (some ([], false)) (need (inI .i64 (a1 * (3 : Int))) ((cond (decide ((64 : Int) ≤ (a1 * (3 : Int)))) (some ([], false)) ((p_Hilbert3D_Dims (TCurve_Hilbert2D.mk a1)).bind fun y13 => (some (y13, true))))))) (cond (decide (a0 = (4 : Int))) (cond (decide (a1 < (1 : Int))) (some ([], false)) (need (inI .i64 (a1 * (4 : Int))) ((cond (decide ((64 : Int) ≤ (a1 * (4 : Int)))) (some ([], false)) ((p_Hilbert4D_Dims (TCurve_Hilbert2D.mk a1)).bind fun y20 => (some (y20, true))))))) (some ([], false)))))

def p_FnHilbertSize_k2  (g8 : Bool) : Option Bool := some g8
def p_FnHilbertSize_k4  (g14 : Unit) : Option Bool := some true
def p_FnHilbertSize_l5 (a1 : Int) (y5 : ((List Int) × Bool)) (K16 : Int → Option (Sum Unit Bool)) (g15 : Int) : Option (Sum Unit Bool) := (cond (decide (g15 < ((y5.1.length : Nat) : Int))) ((idx y5.1 g15).bind fun x19 => (need (0 ≤ a1 ∧ a1 ≤ (IntKind.i64.bits : Int)) ((cond (!decide (x19 = (IntKind.i64.wrap ((1 : Int) * 2 ^ (a1).toNat)))) (some (Sum.inr false)) (need (inI .i64 (g15 + (1 : Int))) (K16 (g15 + (1 : Int)))))))) (some (Sum.inl ())))
def p_FnHilbertSize_k3 (a1 : Int) (F : Nat) (y5 : ((List Int) × Bool)) (g10 : Bool) : Option Bool := (cond g10 (some false) ((iter (p_FnHilbertSize_l5 a1 y5) F (0 : Int)).bind fun o => aft o some p_FnHilbertSize_k4))
def p_FnHilbertSize_k1 (a0 : Int) (a1 : Int) (F : Nat) (g1 : Bool) : Option Bool := (cond g1 (some true) ((p_HLen a0 a1).bind fun y3 => ((p_HDims a0 a1).bind fun y5 => ((cond (decide (a1 < (1 : Int))) (cond (!y3.2) (p_FnHilbertSize_k2 (!y5.2)) (p_FnHilbertSize_k2 false)) (cond (!y3.2) ((p_FnHilbertSize_k3 a1 F y5) true) (cond (!y5.2) ((p_FnHilbertSize_k3 a1 F y5) true) (need (inI .i64 (a0 * a1)) (need (0 ≤ (a0 * a1) ∧ (a0 * a1) ≤ (IntKind.i64.bits : Int)) ((cond (!decide (y3.1 = (IntKind.i64.wrap ((1 : Int) * 2 ^ ((a0 * a1)).toNat)))) ((p_FnHilbertSize_k3 a1 F y5) true) ((p_FnHilbertSize_k3 a1 F y5) (!decide (((y5.1.length : Nat) : Int) = a0))))))))))))))
/-- pub-orthodrome/laws.FnHilbertSize -/
def p_FnHilbertSize (F : Nat) (a0 : Int) (a1 : Int) : Option Bool := (cond (decide (a0 < (2 : Int))) ((p_FnHilbertSize_k1 a0 a1 F) true) (cond (decide ((4 : Int) < a0)) ((p_FnHilbertSize_k1 a0 a1 F) true) ((p_orders a0).bind fun y31 => ((p_FnHilbertSize_k1 a0 a1 F) (decide (y31 < a1))))))

end Go.Proofs.YtkajoiehicpnlaaDoor.Wk
