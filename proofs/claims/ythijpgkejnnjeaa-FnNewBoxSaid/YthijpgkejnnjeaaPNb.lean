/- Printed: what functions of the program compute, as functions of Lean. No condition is laid on their arguments. -/
import Derived.Test.YthijpgkejnnjeaaPureKit
namespace Go.Proofs.Ythijpgkejnnjeaa.Wk
open Go.Vm
set_option linter.unusedVariables false
structure TImpl_Box where
  mk ::
  (Layout : Int)
  (Min : (List Nat))
  (Max : (List Nat))
abbrev keS0 (x : Nat) : D := dfl x
abbrev eS0 (l : List Nat) : D := .ds 1 (l.map keS0)
abbrev c_TImpl_Box (x : TImpl_Box) : List D := [di .i64 x.Layout, eS0 x.Min, eS0 x.Max]
abbrev e_TImpl_Box (x : TImpl_Box) : D := .ag (c_TImpl_Box x)
structure TGeom_Bounds where
  mk ::
  (layout : Int)
  (min : (List Nat))
  (max : (List Nat))
abbrev c_TGeom_Bounds (x : TGeom_Bounds) : List D := [di .i64 x.layout, eS0 x.min, eS0 x.max]
abbrev e_TGeom_Bounds (x : TGeom_Bounds) : D := .ag (c_TGeom_Bounds x)
/-- (pub-orthodrome/pub/gogeom.Layout).Stride -/
def p_Layout_Stride (a0 : Int) : Option Int := (cond (decide (a0 = (0 : Int))) (some (0 : Int)) (cond (decide (a0 = (1 : Int))) (some (2 : Int)) (cond (decide (a0 = (2 : Int))) (some (3 : Int)) (cond (decide (a0 = (3 : Int))) (some (3 : Int)) (cond (decide (a0 = (4 : Int))) (some (4 : Int)) (some a0))))))

/-- math.Inf -/
def p_Inf (a0 : Int) : Option Nat := (cond (decide ((0 : Int) ≤ a0)) (need (((((9218868437227405312 : Int)).toNat : Nat) : Int) = (9218868437227405312 : Int)) (some (((9218868437227405312 : Int)).toNat))) (need (((((18442240474082181120 : Int)).toNat : Nat) : Int) = (18442240474082181120 : Int)) (some (((18442240474082181120 : Int)).toNat))))

def p_NewBounds_k1 (a0 : Int) (y1 : Int) (g7 : ((List Nat) × (List Nat))) : Option TGeom_Bounds := need (((y1).toNat) = g7.1.length) (need (((y1).toNat) = g7.2.length) (some (TGeom_Bounds.mk a0 g7.1 g7.2)))
def p_NewBounds_l2 (y1 : Int) (K11 : (Int × (List Nat) × (List Nat)) → Option (Sum ((List Nat) × (List Nat)) TGeom_Bounds)) (g10 : (Int × (List Nat) × (List Nat))) : Option (Sum ((List Nat) × (List Nat)) TGeom_Bounds) := (cond (decide (g10.1 < y1)) ((p_Inf (1 : Int)).bind fun y14 => ((p_Inf (-1 : Int)).bind fun y16 => (need (0 ≤ g10.1 ∧ g10.1 < (((y1).toNat : Nat) : Int)) (need ((g10.1).toNat < g10.2.1.length) (need (0 ≤ g10.1 ∧ g10.1 < (((y1).toNat : Nat) : Int)) (need ((g10.1).toNat < g10.2.2.length) (need (inI .i64 (g10.1 + (1 : Int))) (K11 ((g10.1 + (1 : Int)), (g10.2.1.set (g10.1).toNat y14), (g10.2.2.set (g10.1).toNat y16)))))))))) (some (Sum.inl (g10.2.1, g10.2.2))))
/-- pub-orthodrome/pub/gogeom.NewBounds -/
def p_NewBounds (F : Nat) (a0 : Int) : Option TGeom_Bounds := (p_Layout_Stride a0).bind fun y1 => (need (0 ≤ y1 ∧ y1 ≤ 4294967296) (need (0 ≤ y1 ∧ y1 ≤ 4294967296) ((iter (p_NewBounds_l2 y1) F ((0 : Int), (List.replicate (y1).toNat (0 : Nat)), (List.replicate (y1).toNat (0 : Nat)))).bind fun o => aft o some (p_NewBounds_k1 a0 y1))))

/-- pub-orthodrome/pub/gogeom.DoorBoundsParts -/
def p_DoorBoundsParts (a0 : TGeom_Bounds) : Option (Int × (List Nat) × (List Nat)) := some (a0.layout, a0.min, a0.max)

/-- pub-orthodrome/impl.floats -/
def p_floats (a0 : (List Nat)) : Option (List Nat) := need (a0.length ≤ 4294967296) (some a0)

/-- pub-orthodrome/impl.plainBox -/
def p_plainBox (a0 : TGeom_Bounds) : Option TImpl_Box := (p_DoorBoundsParts a0).bind fun y1 => ((p_floats y1.2.1).bind fun y3 => ((p_floats y1.2.2).bind fun y5 => (some (TImpl_Box.mk y1.1 y3 y5))))

/-- pub-orthodrome/impl.NewBox -/
def p_NewBox (F : Nat) (a0 : Int) : Option (TImpl_Box × Bool) := (p_NewBounds F a0).bind fun y1 => ((p_plainBox y1).bind fun y3 => (some (y3, true)))

/-- pub-orthodrome/spec.Stride -/
def p_Stride (a0 : Int) : Option Int := (cond (decide (a0 < (1 : Int))) (some (0 : Int)) (cond (decide (a0 = (1 : Int))) (some (2 : Int)) (cond (decide (a0 = (2 : Int))) (some (3 : Int)) (cond (decide (a0 = (3 : Int))) (some (3 : Int)) (some a0)))))

def p_NewBox_25_k1 (a0 : Int) (g5 : ((List Nat) × (List Nat))) : Option TImpl_Box := some (TImpl_Box.mk a0 g5.1 g5.2)
def p_NewBox_25_l2 (y1 : Int) (K7 : (Int × (List Nat) × (List Nat)) → Option (Sum ((List Nat) × (List Nat)) TImpl_Box)) (g6 : (Int × (List Nat) × (List Nat))) : Option (Sum ((List Nat) × (List Nat)) TImpl_Box) := (cond (decide (g6.1 < y1)) ((p_Inf (1 : Int)).bind fun y10 => (need (g6.2.1.length + [y10].length ≤ 4294967296) ((p_Inf (-1 : Int)).bind fun y13 => (need (g6.2.2.length + [y13].length ≤ 4294967296) (need (inI .i64 (g6.1 + (1 : Int))) (K7 ((g6.1 + (1 : Int)), (g6.2.1 ++ [y10]), (g6.2.2 ++ [y13])))))))) (some (Sum.inl (g6.2.1, g6.2.2))))
/-- pub-orthodrome/spec.NewBox -/
def p_NewBox_25 (F : Nat) (a0 : Int) : Option TImpl_Box := (p_Stride a0).bind fun y1 => ((iter (p_NewBox_25_l2 y1) F ((0 : Int), [], [])).bind fun o => aft o some (p_NewBox_25_k1 a0))

def p_SameBox_k2  (g5 : Unit) : Option Bool := some true
def p_SameBox_l3 (a0 : TImpl_Box) (a1 : TImpl_Box) (K7 : Int → Option (Sum Unit Bool)) (g6 : Int) : Option (Sum Unit Bool) := (cond (decide (g6 < ((a0.Min.length : Nat) : Int))) ((idx a0.Min g6).bind fun x10 => ((idx a1.Min g6).bind fun x12 => ((cond (!feq x10 x12) (some (Sum.inr false)) ((idx a0.Max g6).bind fun x15 => ((idx a1.Max g6).bind fun x17 => ((cond (!feq x15 x17) (some (Sum.inr false)) (need (inI .i64 (g6 + (1 : Int))) (K7 (g6 + (1 : Int)))))))))))) (some (Sum.inl ())))
def p_SameBox_k1 (a0 : TImpl_Box) (a1 : TImpl_Box) (F : Nat) (g1 : Bool) : Option Bool := (cond g1 (some false) ((iter (p_SameBox_l3 a0 a1) F (0 : Int)).bind fun o => aft o some p_SameBox_k2))
/-- pub-orthodrome/spec.SameBox -/
def p_SameBox (F : Nat) (a0 : TImpl_Box) (a1 : TImpl_Box) : Option Bool := (cond (!decide (a0.Layout = a1.Layout)) ((p_SameBox_k1 a0 a1 F) true) (cond (!decide (((a0.Min.length : Nat) : Int) = ((a1.Min.length : Nat) : Int))) ((p_SameBox_k1 a0 a1 F) true) (cond (!decide (((a0.Max.length : Nat) : Int) = ((a1.Max.length : Nat) : Int))) ((p_SameBox_k1 a0 a1 F) true) ((p_SameBox_k1 a0 a1 F) (!decide (((a0.Min.length : Nat) : Int) = ((a0.Max.length : Nat) : Int)))))))

def p_FnNewBox_k1 (a0 : Int) (F : Nat) (g1 : Bool) : Option Bool := (cond g1 (some true) ((p_NewBox F a0).bind fun y3 => ((cond y3.2 ((p_NewBox_25 F a0).bind fun y6 => ((p_SameBox F y3.1 y6).bind fun y8 => (some y8))) (some false)))))
/-- pub-orthodrome/laws.FnNewBox -/
def p_FnNewBox (F : Nat) (a0 : Int) : Option Bool := (cond (decide (a0 < (0 : Int))) ((p_FnNewBox_k1 a0 F) true) ((p_FnNewBox_k1 a0 F) (decide ((9 : Int) < a0))))

end Go.Proofs.Ythijpgkejnnjeaa.Wk
