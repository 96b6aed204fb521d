/- Printed: what functions of the program compute, as functions of Lean. No condition is laid on their arguments. -/
import Derived.Test.YtbgdonedjgkhiaaPureKit
import Derived.Test.YtbgdonedjgkhiaaVmClo
namespace Go.Proofs.Ytbgdonedjgkhiaa.Wk
open Go.Vm
set_option linter.unusedVariables false
structure TImpl_Geom where
  mk ::
  (Kind : Int)
  (Layout : Int)
  (SRID : Int)
  (Flat : (List Nat))
  (Ends : (List Int))
  (Endss : (List (List Int)))
  (Kids : (List TImpl_Geom))
abbrev keS1 (x : Nat) : D := dfl x
abbrev eS1 (l : List Nat) : D := .ds 1 (l.map keS1)
abbrev keS2 (x : Int) : D := di .i64 x
abbrev eS2 (l : List Int) : D := .ds 1 (l.map keS2)
abbrev keS3 (x : (List Int)) : D := eS2 x
abbrev eS3 (l : List (List Int)) : D := .ds 1 (l.map keS3)
mutual
def c0_TImpl_Geom : TImpl_Geom → List D
  | .mk x0 x1 x2 x3 x4 x5 x6 => [di .i64 x0, di .i64 x1, di .i64 x2, eS1 x3, eS2 x4, eS3 x5, .ds 7 (cs_TImpl_Geom x6)]
def cs_TImpl_Geom : List TImpl_Geom → List D
  | [] => []
  | g :: r => c0_TImpl_Geom g ++ cs_TImpl_Geom r
end
theorem cs_TImpl_Geom_eq : ∀ l : List TImpl_Geom, cs_TImpl_Geom l = l.flatMap c0_TImpl_Geom
  | [] => by simp [cs_TImpl_Geom]
  | g :: r => by simp [cs_TImpl_Geom, cs_TImpl_Geom_eq r]
abbrev eS0 (l : List TImpl_Geom) : D := .ds 7 (l.flatMap c0_TImpl_Geom)
abbrev c_TImpl_Geom (x : TImpl_Geom) : List D := [di .i64 x.Kind, di .i64 x.Layout, di .i64 x.SRID, eS1 x.Flat, eS2 x.Ends, eS3 x.Endss, eS0 x.Kids]
abbrev e_TImpl_Geom (x : TImpl_Geom) : D := .ag (c_TImpl_Geom x)
theorem c0_TImpl_Geom_eq (x : TImpl_Geom) : c0_TImpl_Geom x = c_TImpl_Geom x := by cases x; simp only [c0_TImpl_Geom, cs_TImpl_Geom_eq]
theorem c0_TImpl_Geom_len (x : TImpl_Geom) : (c0_TImpl_Geom x).length = 7 := by rw [c0_TImpl_Geom_eq]; rfl
theorem c0_TImpl_Geom_one (x : TImpl_Geom) : (c0_TImpl_Geom x).all D.one = true := by rw [c0_TImpl_Geom_eq]; rfl
structure TGeom_geom0 where
  mk ::
  (layout : Int)
  (stride : Int)
  (flatCoords : (List Nat))
  (srid : Int)
abbrev c_TGeom_geom0 (x : TGeom_geom0) : List D := [di .i64 x.layout, di .i64 x.stride, eS1 x.flatCoords, di .i64 x.srid]
abbrev e_TGeom_geom0 (x : TGeom_geom0) : D := .ag (c_TGeom_geom0 x)
structure TGeom_Point where
  mk ::
  (geom0 : TGeom_geom0)
abbrev c_TGeom_Point (x : TGeom_Point) : List D := [di .i64 x.geom0.layout, di .i64 x.geom0.stride, eS1 x.geom0.flatCoords, di .i64 x.geom0.srid]
abbrev e_TGeom_Point (x : TGeom_Point) : D := .ag (c_TGeom_Point x)
structure TGeom_LineString where
  mk ::
  (geom1 : TGeom_Point)
abbrev c_TGeom_LineString (x : TGeom_LineString) : List D := [di .i64 x.geom1.geom0.layout, di .i64 x.geom1.geom0.stride, eS1 x.geom1.geom0.flatCoords, di .i64 x.geom1.geom0.srid]
abbrev e_TGeom_LineString (x : TGeom_LineString) : D := .ag (c_TGeom_LineString x)
structure TGeom_geom2 where
  mk ::
  (geom1 : TGeom_Point)
  (ends : (List Int))
abbrev c_TGeom_geom2 (x : TGeom_geom2) : List D := [di .i64 x.geom1.geom0.layout, di .i64 x.geom1.geom0.stride, eS1 x.geom1.geom0.flatCoords, di .i64 x.geom1.geom0.srid, eS2 x.ends]
abbrev e_TGeom_geom2 (x : TGeom_geom2) : D := .ag (c_TGeom_geom2 x)
structure TGeom_Polygon where
  mk ::
  (geom2 : TGeom_geom2)
abbrev c_TGeom_Polygon (x : TGeom_Polygon) : List D := [di .i64 x.geom2.geom1.geom0.layout, di .i64 x.geom2.geom1.geom0.stride, eS1 x.geom2.geom1.geom0.flatCoords, di .i64 x.geom2.geom1.geom0.srid, eS2 x.geom2.ends]
abbrev e_TGeom_Polygon (x : TGeom_Polygon) : D := .ag (c_TGeom_Polygon x)
abbrev keS4 (x : (List Int)) : D := .clo 64 [.pt [eS2 x]]
abbrev eS4 (l : List (List Int)) : D := .ds 1 (l.map keS4)
structure TGeom_geom3 where
  mk ::
  (geom1 : TGeom_Point)
  (endss : (List (List Int)))
abbrev c_TGeom_geom3 (x : TGeom_geom3) : List D := [di .i64 x.geom1.geom0.layout, di .i64 x.geom1.geom0.stride, eS1 x.geom1.geom0.flatCoords, di .i64 x.geom1.geom0.srid, eS3 x.endss]
abbrev e_TGeom_geom3 (x : TGeom_geom3) : D := .ag (c_TGeom_geom3 x)
structure TGeom_MultiPolygon where
  mk ::
  (geom3 : TGeom_geom3)
abbrev c_TGeom_MultiPolygon (x : TGeom_MultiPolygon) : List D := [di .i64 x.geom3.geom1.geom0.layout, di .i64 x.geom3.geom1.geom0.stride, eS1 x.geom3.geom1.geom0.flatCoords, di .i64 x.geom3.geom1.geom0.srid, eS3 x.geom3.endss]
abbrev e_TGeom_MultiPolygon (x : TGeom_MultiPolygon) : D := .ag (c_TGeom_MultiPolygon x)
structure TGeom_GeometryCollection where
  mk ::
  (layout : Int)
  (geoms : (List IfcV))
  (srid : Int)
abbrev keS5 (x : IfcV) : D := eIfc x
abbrev eS5 (l : List IfcV) : D := .ds 1 (l.map keS5)
abbrev c_TGeom_GeometryCollection (x : TGeom_GeometryCollection) : List D := [di .i64 x.layout, eS5 x.geoms, di .i64 x.srid]
abbrev e_TGeom_GeometryCollection (x : TGeom_GeometryCollection) : D := .ag (c_TGeom_GeometryCollection x)
noncomputable section
def p_zzFits3_k1  (g4 : Unit) : Option Bool := some true
def p_zzFits3_l2 (a0 : (List (List Int))) (K6 : Int → Option (Sum Unit Bool)) (g5 : Int) : Option (Sum Unit Bool) := (cond (decide (g5 < ((a0.length : Nat) : Int))) ((idx a0 g5).bind fun x9 => ((cond (decide ((2147483647 : Int) < ((x9.length : Nat) : Int))) (some (Sum.inr false)) (need (inI .i64 (g5 + (1 : Int))) (K6 (g5 + (1 : Int))))))) (some (Sum.inl ())))
/-- pub-orthodrome/laws.zzFits3 -/
def p_zzFits3 (F : Nat) (a0 : (List (List Int))) : Option Bool := (cond (decide ((2147483647 : Int) < ((a0.length : Nat) : Int))) (some false) ((iter (p_zzFits3_l2 a0) F (0 : Int)).bind fun o => aft o some p_zzFits3_k1))

/-- pub-orthodrome/laws.zzFits2 -/
def p_zzFits2 (F : Nat) (a0 : TImpl_Geom) : Option Bool := (cond (decide ((2147483647 : Int) < ((a0.Flat.length : Nat) : Int))) (some false) (cond (decide ((2147483647 : Int) < ((a0.Ends.length : Nat) : Int))) (some false) ((p_zzFits3 F a0.Endss).bind fun y3 => ((cond (!y3) (some false) (cond (decide ((2147483647 : Int) < ((a0.Kids.length : Nat) : Int))) (some false) (some true)))))))

def p_Weight_k2  (g6 : Int) : Option Int := some g6
def p_Weight_l3 (a0 : TImpl_Geom) (a1 : Int) (Rec_ : TImpl_Geom → Int → Option Int) (K8 : (Int × Int) → Option (Sum Int Int)) (g7 : (Int × Int)) : Option (Sum Int Int) := (cond (decide (g7.2 < ((a0.Kids.length : Nat) : Int))) ((idx a0.Kids g7.2).bind fun x11 => ((cond (decide (a1 < g7.1)) (some (Sum.inr g7.1)) ((Rec_ x11 (IntKind.i64.wrap (a1 - g7.1))).bind fun y14 => (need (inI .i64 (g7.2 + (1 : Int))) (K8 ((IntKind.i64.wrap (g7.1 + y14)), (g7.2 + (1 : Int))))))))) (some (Sum.inl g7.1)))
def p_Weight_k1 (a0 : TImpl_Geom) (a1 : Int) (F : Nat) (Rec_ : TImpl_Geom → Int → Option Int) (g3 : Int) : Option Int := (iter (p_Weight_l3 a0 a1 Rec_) F (g3, (0 : Int))).bind fun o => aft o some p_Weight_k2
def p_Weight_l4 (a0 : TImpl_Geom) (K18 : (Int × Int) → Option (Sum Int Int)) (g17 : (Int × Int)) : Option (Sum Int Int) := (cond (decide (g17.2 < ((a0.Endss.length : Nat) : Int))) ((idx a0.Endss g17.2).bind fun x21 => (need (inI .i64 (g17.2 + (1 : Int))) (K18 ((IntKind.i64.wrap (g17.1 + (IntKind.i64.wrap ((1 : Int) + ((x21.length : Nat) : Int))))), (g17.2 + (1 : Int)))))) (some (Sum.inl g17.1)))
/-- pub-orthodrome/spec.Weight -/
def p_Weight_b (Rec_ : TImpl_Geom → Int → Option Int) (F : Nat) (a0 : TImpl_Geom) (a1 : Int) : Option Int := (iter (p_Weight_l4 a0) F ((IntKind.i64.wrap ((IntKind.i64.wrap ((1 : Int) + ((a0.Flat.length : Nat) : Int))) + ((a0.Ends.length : Nat) : Int))), (0 : Int))).bind fun o => aft o some (p_Weight_k1 a0 a1 F Rec_)
def p_Weight : Nat → TImpl_Geom → Int → Option Int
  | 0, _, _ => none
  | F + 1, a0, a1 => p_Weight_b (fun a0 a1 => p_Weight F a0 a1) F a0 a1

def p_gLayouts_k1 (a0 : TImpl_Geom) (a1 : Int) (g3 : Unit) : Option Bool := (cond (decide (a0.Layout ≤ a1)) (cond (decide ((1 : Int) ≤ a0.Layout)) (some true) (cond (decide (a0.Kind = (7 : Int))) (some (decide ((0 : Int) ≤ a0.Layout))) (some false))) (some false))
def p_gLayouts_l2 (a0 : TImpl_Geom) (a1 : Int) (Rec_ : TImpl_Geom → Int → Option Bool) (K8 : Int → Option (Sum Unit Bool)) (g7 : Int) : Option (Sum Unit Bool) := (cond (decide (g7 < ((a0.Kids.length : Nat) : Int))) ((idx a0.Kids g7).bind fun x11 => ((Rec_ x11 a1).bind fun y13 => ((cond (!y13) (some (Sum.inr false)) (need (inI .i64 (g7 + (1 : Int))) (K8 (g7 + (1 : Int)))))))) (some (Sum.inl ())))
/-- pub-orthodrome/laws.gLayouts -/
def p_gLayouts_b (Rec_ : TImpl_Geom → Int → Option Bool) (F : Nat) (a0 : TImpl_Geom) (a1 : Int) : Option Bool := (iter (p_gLayouts_l2 a0 a1 Rec_) F (0 : Int)).bind fun o => aft o some (p_gLayouts_k1 a0 a1)
def p_gLayouts : Nat → TImpl_Geom → Int → Option Bool
  | 0, _, _ => none
  | F + 1, a0, a1 => p_gLayouts_b (fun a0 a1 => p_gLayouts F a0 a1) F a0 a1

def p_gSmall_k1  (g3 : Unit) : Option Bool := some true
def p_gSmall_l2 (a0 : (List TImpl_Geom)) (F : Nat) (K5 : (Int × Int) → Option (Sum Unit Bool)) (g4 : (Int × Int)) : Option (Sum Unit Bool) := (cond (decide (g4.2 < ((a0.length : Nat) : Int))) ((idx a0 g4.2).bind fun x8 => ((p_Weight F x8 g4.1).bind fun y10 => ((cond (decide ((IntKind.i64.wrap (g4.1 - y10)) < (0 : Int))) (some (Sum.inr false)) ((p_gLayouts F x8 (9 : Int)).bind fun y13 => ((cond (!y13) (some (Sum.inr false)) (need (inI .i64 (g4.2 + (1 : Int))) (K5 ((IntKind.i64.wrap (g4.1 - y10)), (g4.2 + (1 : Int)))))))))))) (some (Sum.inl ())))
/-- pub-orthodrome/laws.gSmall -/
def p_gSmall (F : Nat) (a0 : (List TImpl_Geom)) : Option Bool := (iter (p_gSmall_l2 a0 F) F ((2000 : Int), (0 : Int))).bind fun o => aft o some p_gSmall_k1

/-- pub-orthodrome/spec.Stride -/
def p_Stride (a0 : Int) : Option Int := (cond (decide (a0 < (1 : Int))) (some (0 : Int)) (cond (decide (a0 = (1 : Int))) (some (2 : Int)) (cond (decide (a0 = (2 : Int))) (some (3 : Int)) (cond (decide (a0 = (3 : Int))) (some (3 : Int)) (some a0)))))

/-- pub-orthodrome/spec.Cover -/
def p_Cover (a0 : Int) (a1 : Int) : Option Int := (cond (decide (a0 = (2 : Int))) (cond (decide (a1 = (3 : Int))) (some (4 : Int)) (cond (decide (a0 = (3 : Int))) (cond (decide (a1 = (2 : Int))) (some (4 : Int)) (some (if a0 < a1 then a1 else a0))) (some (if a0 < a1 then a1 else a0)))) (cond (decide (a0 = (3 : Int))) (cond (decide (a1 = (2 : Int))) (some (4 : Int)) (some (if a0 < a1 then a1 else a0))) (some (if a0 < a1 then a1 else a0))))

def p_LayoutOf_k2  (g5 : Int) : Option Int := some g5
def p_LayoutOf_l3 (a0 : TImpl_Geom) (Rec_ : TImpl_Geom → Option Int) (K7 : (Int × Int) → Option (Sum Int Int)) (g6 : (Int × Int)) : Option (Sum Int Int) := (cond (decide (g6.2 < ((a0.Kids.length : Nat) : Int))) ((idx a0.Kids g6.2).bind fun x10 => ((Rec_ x10).bind fun y12 => ((p_Cover g6.1 y12).bind fun y14 => (need (inI .i64 (g6.2 + (1 : Int))) (K7 (y14, (g6.2 + (1 : Int)))))))) (some (Sum.inl g6.1)))
def p_LayoutOf_k1 (a0 : TImpl_Geom) (F : Nat) (Rec_ : TImpl_Geom → Option Int) (g1 : Bool) : Option Int := (cond g1 (some a0.Layout) ((iter (p_LayoutOf_l3 a0 Rec_) F (a0.Layout, (0 : Int))).bind fun o => aft o some p_LayoutOf_k2))
/-- pub-orthodrome/spec.LayoutOf -/
def p_LayoutOf_b (Rec_ : TImpl_Geom → Option Int) (F : Nat) (a0 : TImpl_Geom) : Option Int := (cond (!decide (a0.Kind = (7 : Int))) ((p_LayoutOf_k1 a0 F Rec_) true) ((p_LayoutOf_k1 a0 F Rec_) (!decide (a0.Layout = (0 : Int)))))
def p_LayoutOf : Nat → TImpl_Geom → Option Int
  | 0, _ => none
  | F + 1, a0 => p_LayoutOf_b (fun a0 => p_LayoutOf F a0) F a0

def p_goodEnds_k1  (g3 : Int) : Option (Int × Bool) := some (g3, true)
def p_goodEnds_k3 (g4 : (Int × Int)) (K5 : (Int × Int) → Option (Sum Int (Int × Bool))) (x8 : Int) (g10 : Bool) : Option (Sum Int (Int × Bool)) := (cond g10 (some (Sum.inr (g4.1, false))) (need (inI .i64 (g4.2 + (1 : Int))) (K5 (x8, (g4.2 + (1 : Int))))))
def p_goodEnds_l2 (a0 : (List Int)) (a2 : Int) (a3 : Bool) (K5 : (Int × Int) → Option (Sum Int (Int × Bool))) (g4 : (Int × Int)) : Option (Sum Int (Int × Bool)) := (cond (decide (g4.2 < ((a0.length : Nat) : Int))) ((idx a0 g4.2).bind fun x8 => ((cond (decide (x8 < g4.1)) ((p_goodEnds_k3 g4 K5 x8) true) (need (inI .i64 (x8 - g4.1)) (need (a2 ≠ 0) ((cond (!decide ((Int.tmod (x8 - g4.1) a2) = (0 : Int))) ((p_goodEnds_k3 g4 K5 x8) true) (cond a3 (need (inI .i64 (x8 - g4.1)) ((p_goodEnds_k3 g4 K5 x8) (decide (a2 < (x8 - g4.1))))) ((p_goodEnds_k3 g4 K5 x8) false))))))))) (some (Sum.inl g4.1)))
/-- pub-orthodrome/spec.goodEnds -/
def p_goodEnds (F : Nat) (a0 : (List Int)) (a1 : Int) (a2 : Int) (a3 : Bool) : Option (Int × Bool) := (iter (p_goodEnds_l2 a0 a2 a3) F (a1, (0 : Int))).bind fun o => aft o some p_goodEnds_k1

def p_Good_k2  (g7 : Bool) : Option Bool := some g7
def p_Good_k1 (a0 : TImpl_Geom) (g6 : Unit) : Option Bool := (cond (decide ((0 : Int) ≤ a0.Layout)) (p_Good_k2 (decide ((IntKind.i64.wrap ((IntKind.i64.wrap (((a0.Flat.length : Nat) : Int) + ((a0.Ends.length : Nat) : Int))) + ((a0.Endss.length : Nat) : Int))) = (0 : Int)))) (p_Good_k2 false))
def p_Good_l3 (a0 : TImpl_Geom) (F : Nat) (Rec_ : TImpl_Geom → Option Bool) (K10 : Int → Option (Sum Unit Bool)) (g9 : Int) : Option (Sum Unit Bool) := (cond (decide (g9 < ((a0.Kids.length : Nat) : Int))) ((idx a0.Kids g9).bind fun x13 => ((Rec_ x13).bind fun y15 => ((cond (!y15) (some (Sum.inr false)) (cond (!decide (a0.Layout = (0 : Int))) ((p_LayoutOf F x13).bind fun y19 => ((cond (!decide (y19 = a0.Layout)) (some (Sum.inr false)) (need (inI .i64 (g9 + (1 : Int))) (K10 (g9 + (1 : Int))))))) (need (inI .i64 (g9 + (1 : Int))) (K10 (g9 + (1 : Int))))))))) (some (Sum.inl ())))
def p_Good_k7 (a0 : TImpl_Geom) (g37 : (Int × Bool)) : Option Bool := (cond g37.2 (cond (decide (g37.1 = ((a0.Flat.length : Nat) : Int))) (some (decide (((a0.Ends.length : Nat) : Int) = (0 : Int)))) (some false)) (some false))
def p_Good_l8 (a0 : TImpl_Geom) (F : Nat) (y1 : Int) (K41 : (Int × Bool × Int) → Option (Sum (Int × Bool) Bool)) (g40 : (Int × Bool × Int)) : Option (Sum (Int × Bool) Bool) := (cond (decide (g40.2.2 < ((a0.Endss.length : Nat) : Int))) ((idx a0.Endss g40.2.2).bind fun x44 => ((p_goodEnds F x44 g40.1 y1 false).bind fun y46 => ((cond g40.2.1 (need (inI .i64 (g40.2.2 + (1 : Int))) (K41 (y46.1, y46.2, (g40.2.2 + (1 : Int))))) (need (inI .i64 (g40.2.2 + (1 : Int))) (K41 (y46.1, false, (g40.2.2 + (1 : Int))))))))) (some (Sum.inl (g40.1, g40.2.1))))
def p_Good_k6 (a0 : TImpl_Geom) (F : Nat) (y1 : Int) (g29 : Bool) : Option Bool := (cond g29 ((p_goodEnds F a0.Ends (0 : Int) y1 (decide (a0.Kind = (4 : Int)))).bind fun y31 => ((cond y31.2 (some (decide (y31.1 = ((a0.Flat.length : Nat) : Int)))) (some false)))) (cond (decide (a0.Kind = (6 : Int))) ((iter (p_Good_l8 a0 F y1) F ((0 : Int), true, (0 : Int))).bind fun o => aft o some (p_Good_k7 a0)) (some false)))
def p_Good_k5 (a0 : TImpl_Geom) (F : Nat) (y1 : Int) (g27 : Bool) : Option Bool := (cond g27 (some (decide (((a0.Ends.length : Nat) : Int) = (0 : Int)))) (cond (decide (a0.Kind = (3 : Int))) ((p_Good_k6 a0 F y1) (decide (a0.Kind = (3 : Int)))) (cond (decide (a0.Kind = (4 : Int))) ((p_Good_k6 a0 F y1) (decide (a0.Kind = (4 : Int)))) ((p_Good_k6 a0 F y1) (decide (a0.Kind = (5 : Int)))))))
def p_Good_k4 (a0 : TImpl_Geom) (F : Nat) (y1 : Int) (g24 : Unit) : Option Bool := (cond (decide (a0.Kind = (1 : Int))) (cond (decide (((a0.Ends.length : Nat) : Int) = (0 : Int))) (some (decide (((a0.Flat.length : Nat) : Int) ≤ y1))) (some false)) (cond (decide (a0.Kind = (2 : Int))) ((p_Good_k5 a0 F y1) (decide (a0.Kind = (2 : Int)))) ((p_Good_k5 a0 F y1) (decide (a0.Kind = (8 : Int))))))
/-- pub-orthodrome/spec.Good -/
def p_Good_b (Rec_ : TImpl_Geom → Option Bool) (F : Nat) (a0 : TImpl_Geom) : Option Bool := (p_Stride a0.Layout).bind fun y1 => ((cond (decide (a0.Kind = (7 : Int))) ((iter (p_Good_l3 a0 F Rec_) F (0 : Int)).bind fun o => aft o some (p_Good_k1 a0)) (cond (decide (y1 = (0 : Int))) (some false) (need (y1 ≠ 0) ((cond (!decide ((Int.tmod ((a0.Flat.length : Nat) : Int) y1) = (0 : Int))) (some false) (cond (decide ((0 : Int) < ((a0.Kids.length : Nat) : Int))) (some false) (cond (decide ((0 : Int) < ((a0.Endss.length : Nat) : Int))) (cond (!decide (a0.Kind = (6 : Int))) (some false) ((p_Good_k4 a0 F y1) ())) ((p_Good_k4 a0 F y1) ())))))))))
def p_Good : Nat → TImpl_Geom → Option Bool
  | 0, _ => none
  | F + 1, a0 => p_Good_b (fun a0 => p_Good F a0) F a0

def p_gGood_k1  (g6 : Unit) : Option Bool := some true
def p_gGood_l2 (a0 : (List TImpl_Geom)) (F : Nat) (K8 : Int → Option (Sum Unit Bool)) (g7 : Int) : Option (Sum Unit Bool) := (cond (decide (g7 < ((a0.length : Nat) : Int))) ((idx a0 g7).bind fun x11 => ((p_Good F x11).bind fun y13 => ((cond (!y13) (some (Sum.inr false)) (need (inI .i64 (g7 + (1 : Int))) (K8 (g7 + (1 : Int)))))))) (some (Sum.inl ())))
/-- pub-orthodrome/laws.gGood -/
def p_gGood (F : Nat) (a0 : (List TImpl_Geom)) : Option Bool := (p_gSmall F a0).bind fun y1 => ((cond (!y1) (some false) ((iter (p_gGood_l2 a0 F) F (0 : Int)).bind fun o => aft o some p_gGood_k1)))

/-- pub-orthodrome/laws.gHasParts -/
def p_gHasParts (F : Nat) (a0 : TImpl_Geom) : Option Bool := (p_gGood F [a0]).bind fun y1 => ((cond y1 (cond (decide ((3 : Int) ≤ a0.Kind)) (some (decide (a0.Kind ≤ (7 : Int)))) (some false)) (some false)))

/-- pub-orthodrome/impl.floats -/
def p_floats (a0 : (List Nat)) : Option (List Nat) := need (a0.length ≤ 4294967296) (some a0)

/-- (pub-orthodrome/pub/gogeom.Layout).Stride -/
def p_Layout_Stride (a0 : Int) : Option Int := (cond (decide (a0 = (0 : Int))) (some (0 : Int)) (cond (decide (a0 = (1 : Int))) (some (2 : Int)) (cond (decide (a0 = (2 : Int))) (some (3 : Int)) (cond (decide (a0 = (3 : Int))) (some (3 : Int)) (cond (decide (a0 = (4 : Int))) (some (4 : Int)) (some a0))))))

/-- pub-orthodrome/pub/gogeom.NewPointFlat -/
def p_NewPointFlat (a0 : Int) (a1 : (List Nat)) : Option TGeom_Point := (p_Layout_Stride a0).bind fun y1 => (some (TGeom_Point.mk (TGeom_geom0.mk a0 y1 a1 (0 : Int))))

/-- pub-orthodrome/pub/gogeom.NewLineStringFlat -/
def p_NewLineStringFlat (a0 : Int) (a1 : (List Nat)) : Option TGeom_LineString := (p_Layout_Stride a0).bind fun y1 => (some (TGeom_LineString.mk (TGeom_Point.mk (TGeom_geom0.mk a0 y1 a1 (0 : Int)))))

/-- pub-orthodrome/pub/gogeom.NewLinearRingFlat -/
def p_NewLinearRingFlat (a0 : Int) (a1 : (List Nat)) : Option TGeom_LineString := (p_Layout_Stride a0).bind fun y1 => (some (TGeom_LineString.mk (TGeom_Point.mk (TGeom_geom0.mk a0 y1 a1 (0 : Int)))))

/-- pub-orthodrome/impl.ints -/
def p_ints (a0 : (List Int)) : Option (List Int) := need (a0.length ≤ 4294967296) (some a0)

/-- pub-orthodrome/pub/gogeom.NewPolygonFlat -/
def p_NewPolygonFlat (a0 : Int) (a1 : (List Nat)) (a2 : (List Int)) : Option TGeom_Polygon := (p_Layout_Stride a0).bind fun y1 => (some (TGeom_Polygon.mk (TGeom_geom2.mk (TGeom_Point.mk (TGeom_geom0.mk a0 y1 a1 (0 : Int))) a2)))

/-- pub-orthodrome/pub/gogeom.NewMultiPointFlatOptionWithEnds -/
def p_NewMultiPointFlatOptionWithEnds (a0 : (List Int)) : Option (List Int) := some a0

def p_NewMultiPointFlat_k2 (a0 : Int) (a1 : (List Nat)) (y1 : Int) (g5 : (List Int)) (g6 : Bool) : Option TGeom_Polygon := (cond g6 none (some (TGeom_Polygon.mk (TGeom_geom2.mk (TGeom_Point.mk (TGeom_geom0.mk a0 y1 a1 (0 : Int))) g5))))
def p_NewMultiPointFlat_k1 (a0 : Int) (a1 : (List Nat)) (y1 : Int) (g5 : (List Int)) : Option TGeom_Polygon := (agr (neO (some g5)) ((some g5)).isNone ((p_NewMultiPointFlat_k2 a0 a1 y1 g5) (decide ((0 : Int) < ((a1.length : Nat) : Int)))) ((p_NewMultiPointFlat_k2 a0 a1 y1 g5) false))
def p_NewMultiPointFlat_l3 (a2 : (List (List Int))) (K11 : (Int × (List Int)) → Option (Sum (List Int) TGeom_Polygon)) (g10 : (Int × (List Int))) : Option (Sum (List Int) TGeom_Polygon) := (cond (decide (g10.1 < ((a2.length : Nat) : Int))) ((idx a2 g10.1).bind fun x14 => (need (inI .i64 (g10.1 + (1 : Int))) (K11 ((g10.1 + (1 : Int)), x14)))) (some (Sum.inl g10.2)))
/-- pub-orthodrome/pub/gogeom.NewMultiPointFlat -/
def p_NewMultiPointFlat (F : Nat) (a0 : Int) (a1 : (List Nat)) (a2 : (List (List Int))) : Option TGeom_Polygon := (p_Layout_Stride a0).bind fun y1 => ((iter (p_NewMultiPointFlat_l3 a2) F ((0 : Int), [])).bind fun o => aft o some (p_NewMultiPointFlat_k1 a0 a1 y1))

/-- pub-orthodrome/pub/gogeom.NewMultiLineStringFlat -/
def p_NewMultiLineStringFlat (a0 : Int) (a1 : (List Nat)) (a2 : (List Int)) : Option TGeom_Polygon := (p_Layout_Stride a0).bind fun y1 => (some (TGeom_Polygon.mk (TGeom_geom2.mk (TGeom_Point.mk (TGeom_geom0.mk a0 y1 a1 (0 : Int))) a2)))

def p_intss_k1  (g3 : (List (List Int))) : Option (List (List Int)) := some g3
def p_intss_l2 (a0 : (List (List Int))) (K5 : (Int × (List (List Int))) → Option (Sum (List (List Int)) (List (List Int)))) (g4 : (Int × (List (List Int)))) : Option (Sum (List (List Int)) (List (List Int))) := (cond (decide (g4.1 < ((a0.length : Nat) : Int))) ((idx a0 g4.1).bind fun x8 => ((p_ints x8).bind fun y10 => (need (g4.2.length + [y10].length ≤ 4294967296) (need (inI .i64 (g4.1 + (1 : Int))) (K5 ((g4.1 + (1 : Int)), (g4.2 ++ [y10]))))))) (some (Sum.inl g4.2)))
/-- pub-orthodrome/impl.intss -/
def p_intss (F : Nat) (a0 : (List (List Int))) : Option (List (List Int)) := (iter (p_intss_l2 a0) F ((0 : Int), [])).bind fun o => aft o some p_intss_k1

/-- pub-orthodrome/pub/gogeom.NewMultiPolygonFlat -/
def p_NewMultiPolygonFlat (a0 : Int) (a1 : (List Nat)) (a2 : (List (List Int))) : Option TGeom_MultiPolygon := (p_Layout_Stride a0).bind fun y1 => (some (TGeom_MultiPolygon.mk (TGeom_geom3.mk (TGeom_Point.mk (TGeom_geom0.mk a0 y1 a1 (0 : Int))) a2)))

/-- pub-orthodrome/pub/gogeom.NewGeometryCollection -/
def p_NewGeometryCollection  : Option TGeom_GeometryCollection := some (TGeom_GeometryCollection.mk (0 : Int) [] (0 : Int))

def p_GeometryCollection_Layout_k1  (g4 : Int) : Option Int := some g4
def p_GeometryCollection_Layout_l2 (a0 : TGeom_GeometryCollection) (Rec_ : TGeom_GeometryCollection → Option Int) (K6 : (Int × Int) → Option (Sum Int Int)) (g5 : (Int × Int)) : Option (Sum Int Int) := (cond (decide (g5.2 < ((a0.geoms.length : Nat) : Int))) ((idx a0.geoms g5.2).bind fun x9 => ((cond (decide (x9.dt = 49)) ((decodeD c_TGeom_Polygon x9.cells).bind fun y12 => ((cond (decide (y12.geom2.geom1.geom0.layout = (2 : Int))) (cond (decide (g5.1 = (3 : Int))) (need (inI .i64 (g5.2 + (1 : Int))) (K6 ((4 : Int), (g5.2 + (1 : Int))))) (cond (decide (g5.1 < y12.geom2.geom1.geom0.layout)) (need (inI .i64 (g5.2 + (1 : Int))) (K6 (y12.geom2.geom1.geom0.layout, (g5.2 + (1 : Int))))) (need (inI .i64 (g5.2 + (1 : Int))) (K6 (g5.1, (g5.2 + (1 : Int))))))) (cond (decide (y12.geom2.geom1.geom0.layout = (3 : Int))) (cond (decide (g5.1 = (2 : Int))) (need (inI .i64 (g5.2 + (1 : Int))) (K6 ((4 : Int), (g5.2 + (1 : Int))))) (cond (decide (g5.1 < y12.geom2.geom1.geom0.layout)) (need (inI .i64 (g5.2 + (1 : Int))) (K6 (y12.geom2.geom1.geom0.layout, (g5.2 + (1 : Int))))) (need (inI .i64 (g5.2 + (1 : Int))) (K6 (g5.1, (g5.2 + (1 : Int))))))) (cond (decide (g5.1 < y12.geom2.geom1.geom0.layout)) (need (inI .i64 (g5.2 + (1 : Int))) (K6 (y12.geom2.geom1.geom0.layout, (g5.2 + (1 : Int))))) (need (inI .i64 (g5.2 + (1 : Int))) (K6 (g5.1, (g5.2 + (1 : Int)))))))))) (cond (decide (x9.dt = 51)) ((decodeD c_TGeom_Polygon x9.cells).bind fun y31 => ((cond (decide (y31.geom2.geom1.geom0.layout = (2 : Int))) (cond (decide (g5.1 = (3 : Int))) (need (inI .i64 (g5.2 + (1 : Int))) (K6 ((4 : Int), (g5.2 + (1 : Int))))) (cond (decide (g5.1 < y31.geom2.geom1.geom0.layout)) (need (inI .i64 (g5.2 + (1 : Int))) (K6 (y31.geom2.geom1.geom0.layout, (g5.2 + (1 : Int))))) (need (inI .i64 (g5.2 + (1 : Int))) (K6 (g5.1, (g5.2 + (1 : Int))))))) (cond (decide (y31.geom2.geom1.geom0.layout = (3 : Int))) (cond (decide (g5.1 = (2 : Int))) (need (inI .i64 (g5.2 + (1 : Int))) (K6 ((4 : Int), (g5.2 + (1 : Int))))) (cond (decide (g5.1 < y31.geom2.geom1.geom0.layout)) (need (inI .i64 (g5.2 + (1 : Int))) (K6 (y31.geom2.geom1.geom0.layout, (g5.2 + (1 : Int))))) (need (inI .i64 (g5.2 + (1 : Int))) (K6 (g5.1, (g5.2 + (1 : Int))))))) (cond (decide (g5.1 < y31.geom2.geom1.geom0.layout)) (need (inI .i64 (g5.2 + (1 : Int))) (K6 (y31.geom2.geom1.geom0.layout, (g5.2 + (1 : Int))))) (need (inI .i64 (g5.2 + (1 : Int))) (K6 (g5.1, (g5.2 + (1 : Int)))))))))) (cond (decide (x9.dt = 52)) ((decodeD c_TGeom_Polygon x9.cells).bind fun y50 => ((cond (decide (y50.geom2.geom1.geom0.layout = (2 : Int))) (cond (decide (g5.1 = (3 : Int))) (need (inI .i64 (g5.2 + (1 : Int))) (K6 ((4 : Int), (g5.2 + (1 : Int))))) (cond (decide (g5.1 < y50.geom2.geom1.geom0.layout)) (need (inI .i64 (g5.2 + (1 : Int))) (K6 (y50.geom2.geom1.geom0.layout, (g5.2 + (1 : Int))))) (need (inI .i64 (g5.2 + (1 : Int))) (K6 (g5.1, (g5.2 + (1 : Int))))))) (cond (decide (y50.geom2.geom1.geom0.layout = (3 : Int))) (cond (decide (g5.1 = (2 : Int))) (need (inI .i64 (g5.2 + (1 : Int))) (K6 ((4 : Int), (g5.2 + (1 : Int))))) (cond (decide (g5.1 < y50.geom2.geom1.geom0.layout)) (need (inI .i64 (g5.2 + (1 : Int))) (K6 (y50.geom2.geom1.geom0.layout, (g5.2 + (1 : Int))))) (need (inI .i64 (g5.2 + (1 : Int))) (K6 (g5.1, (g5.2 + (1 : Int))))))) (cond (decide (g5.1 < y50.geom2.geom1.geom0.layout)) (need (inI .i64 (g5.2 + (1 : Int))) (K6 (y50.geom2.geom1.geom0.layout, (g5.2 + (1 : Int))))) (need (inI .i64 (g5.2 + (1 : Int))) (K6 (g5.1, (g5.2 + (1 : Int)))))))))) (cond (decide (x9.dt = 53)) ((decodeD c_TGeom_MultiPolygon x9.cells).bind fun y69 => ((cond (decide (y69.geom3.geom1.geom0.layout = (2 : Int))) (cond (decide (g5.1 = (3 : Int))) (need (inI .i64 (g5.2 + (1 : Int))) (K6 ((4 : Int), (g5.2 + (1 : Int))))) (cond (decide (g5.1 < y69.geom3.geom1.geom0.layout)) (need (inI .i64 (g5.2 + (1 : Int))) (K6 (y69.geom3.geom1.geom0.layout, (g5.2 + (1 : Int))))) (need (inI .i64 (g5.2 + (1 : Int))) (K6 (g5.1, (g5.2 + (1 : Int))))))) (cond (decide (y69.geom3.geom1.geom0.layout = (3 : Int))) (cond (decide (g5.1 = (2 : Int))) (need (inI .i64 (g5.2 + (1 : Int))) (K6 ((4 : Int), (g5.2 + (1 : Int))))) (cond (decide (g5.1 < y69.geom3.geom1.geom0.layout)) (need (inI .i64 (g5.2 + (1 : Int))) (K6 (y69.geom3.geom1.geom0.layout, (g5.2 + (1 : Int))))) (need (inI .i64 (g5.2 + (1 : Int))) (K6 (g5.1, (g5.2 + (1 : Int))))))) (cond (decide (g5.1 < y69.geom3.geom1.geom0.layout)) (need (inI .i64 (g5.2 + (1 : Int))) (K6 (y69.geom3.geom1.geom0.layout, (g5.2 + (1 : Int))))) (need (inI .i64 (g5.2 + (1 : Int))) (K6 (g5.1, (g5.2 + (1 : Int)))))))))) (cond (decide (x9.dt = 54)) ((decodeD c_TGeom_GeometryCollection x9.cells).bind fun y88 => ((Rec_ y88).bind fun y90 => ((cond (decide (y90 = (2 : Int))) (cond (decide (g5.1 = (3 : Int))) (need (inI .i64 (g5.2 + (1 : Int))) (K6 ((4 : Int), (g5.2 + (1 : Int))))) (cond (decide (g5.1 < y90)) (need (inI .i64 (g5.2 + (1 : Int))) (K6 (y90, (g5.2 + (1 : Int))))) (need (inI .i64 (g5.2 + (1 : Int))) (K6 (g5.1, (g5.2 + (1 : Int))))))) (cond (decide (y90 = (3 : Int))) (cond (decide (g5.1 = (2 : Int))) (need (inI .i64 (g5.2 + (1 : Int))) (K6 ((4 : Int), (g5.2 + (1 : Int))))) (cond (decide (g5.1 < y90)) (need (inI .i64 (g5.2 + (1 : Int))) (K6 (y90, (g5.2 + (1 : Int))))) (need (inI .i64 (g5.2 + (1 : Int))) (K6 (g5.1, (g5.2 + (1 : Int))))))) (cond (decide (g5.1 < y90)) (need (inI .i64 (g5.2 + (1 : Int))) (K6 (y90, (g5.2 + (1 : Int))))) (need (inI .i64 (g5.2 + (1 : Int))) (K6 (g5.1, (g5.2 + (1 : Int))))))))))) (cond (decide (x9.dt = 64)) ((decodeD c_TGeom_Point x9.cells).bind fun y108 => ((cond (decide (y108.geom0.layout = (2 : Int))) (cond (decide (g5.1 = (3 : Int))) (need (inI .i64 (g5.2 + (1 : Int))) (K6 ((4 : Int), (g5.2 + (1 : Int))))) (cond (decide (g5.1 < y108.geom0.layout)) (need (inI .i64 (g5.2 + (1 : Int))) (K6 (y108.geom0.layout, (g5.2 + (1 : Int))))) (need (inI .i64 (g5.2 + (1 : Int))) (K6 (g5.1, (g5.2 + (1 : Int))))))) (cond (decide (y108.geom0.layout = (3 : Int))) (cond (decide (g5.1 = (2 : Int))) (need (inI .i64 (g5.2 + (1 : Int))) (K6 ((4 : Int), (g5.2 + (1 : Int))))) (cond (decide (g5.1 < y108.geom0.layout)) (need (inI .i64 (g5.2 + (1 : Int))) (K6 (y108.geom0.layout, (g5.2 + (1 : Int))))) (need (inI .i64 (g5.2 + (1 : Int))) (K6 (g5.1, (g5.2 + (1 : Int))))))) (cond (decide (g5.1 < y108.geom0.layout)) (need (inI .i64 (g5.2 + (1 : Int))) (K6 (y108.geom0.layout, (g5.2 + (1 : Int))))) (need (inI .i64 (g5.2 + (1 : Int))) (K6 (g5.1, (g5.2 + (1 : Int)))))))))) (cond (decide (x9.dt = 67)) ((decodeD c_TGeom_LineString x9.cells).bind fun y127 => ((cond (decide (y127.geom1.geom0.layout = (2 : Int))) (cond (decide (g5.1 = (3 : Int))) (need (inI .i64 (g5.2 + (1 : Int))) (K6 ((4 : Int), (g5.2 + (1 : Int))))) (cond (decide (g5.1 < y127.geom1.geom0.layout)) (need (inI .i64 (g5.2 + (1 : Int))) (K6 (y127.geom1.geom0.layout, (g5.2 + (1 : Int))))) (need (inI .i64 (g5.2 + (1 : Int))) (K6 (g5.1, (g5.2 + (1 : Int))))))) (cond (decide (y127.geom1.geom0.layout = (3 : Int))) (cond (decide (g5.1 = (2 : Int))) (need (inI .i64 (g5.2 + (1 : Int))) (K6 ((4 : Int), (g5.2 + (1 : Int))))) (cond (decide (g5.1 < y127.geom1.geom0.layout)) (need (inI .i64 (g5.2 + (1 : Int))) (K6 (y127.geom1.geom0.layout, (g5.2 + (1 : Int))))) (need (inI .i64 (g5.2 + (1 : Int))) (K6 (g5.1, (g5.2 + (1 : Int))))))) (cond (decide (g5.1 < y127.geom1.geom0.layout)) (need (inI .i64 (g5.2 + (1 : Int))) (K6 (y127.geom1.geom0.layout, (g5.2 + (1 : Int))))) (need (inI .i64 (g5.2 + (1 : Int))) (K6 (g5.1, (g5.2 + (1 : Int)))))))))) (cond (decide (x9.dt = 70)) ((decodeD c_TGeom_LineString x9.cells).bind fun y146 => ((cond (decide (y146.geom1.geom0.layout = (2 : Int))) (cond (decide (g5.1 = (3 : Int))) (need (inI .i64 (g5.2 + (1 : Int))) (K6 ((4 : Int), (g5.2 + (1 : Int))))) (cond (decide (g5.1 < y146.geom1.geom0.layout)) (need (inI .i64 (g5.2 + (1 : Int))) (K6 (y146.geom1.geom0.layout, (g5.2 + (1 : Int))))) (need (inI .i64 (g5.2 + (1 : Int))) (K6 (g5.1, (g5.2 + (1 : Int))))))) (cond (decide (y146.geom1.geom0.layout = (3 : Int))) (cond (decide (g5.1 = (2 : Int))) (need (inI .i64 (g5.2 + (1 : Int))) (K6 ((4 : Int), (g5.2 + (1 : Int))))) (cond (decide (g5.1 < y146.geom1.geom0.layout)) (need (inI .i64 (g5.2 + (1 : Int))) (K6 (y146.geom1.geom0.layout, (g5.2 + (1 : Int))))) (need (inI .i64 (g5.2 + (1 : Int))) (K6 (g5.1, (g5.2 + (1 : Int))))))) (cond (decide (g5.1 < y146.geom1.geom0.layout)) (need (inI .i64 (g5.2 + (1 : Int))) (K6 (y146.geom1.geom0.layout, (g5.2 + (1 : Int))))) (need (inI .i64 (g5.2 + (1 : Int))) (K6 (g5.1, (g5.2 + (1 : Int)))))))))) none)))))))))) (some (Sum.inl g5.1)))
/-- (*pub-orthodrome/pub/gogeom.GeometryCollection).Layout -/
def p_GeometryCollection_Layout_b (Rec_ : TGeom_GeometryCollection → Option Int) (F : Nat) (a0 : TGeom_GeometryCollection) : Option Int := (cond (!decide (a0.layout = (0 : Int))) (some a0.layout) ((iter (p_GeometryCollection_Layout_l2 a0 Rec_) F ((0 : Int), (0 : Int))).bind fun o => aft o some p_GeometryCollection_Layout_k1))
def p_GeometryCollection_Layout : Nat → TGeom_GeometryCollection → Option Int
  | 0, _ => none
  | F + 1, a0 => p_GeometryCollection_Layout_b (fun a0 => p_GeometryCollection_Layout F a0) F a0

def p_geometry_k2 (a0 : TImpl_Geom) (g47 : (List IfcV)) (g51 : Unit) : Option IfcV := some (IfcV.mk 54 (c_TGeom_GeometryCollection (TGeom_GeometryCollection.mk a0.Layout g47 a0.SRID)))
def p_geometry_k3 (a0 : TImpl_Geom) (g47 : (List IfcV)) (g55 : Unit) : Option IfcV := (p_geometry_k2 a0 g47) ()
def p_geometry_l4 (a0 : TImpl_Geom) (F : Nat) (g47 : (List IfcV)) (K57 : Int → Option (Sum Unit IfcV)) (g56 : Int) : Option (Sum Unit IfcV) := (cond (decide (g56 < ((g47.length : Nat) : Int))) (need (0 ≤ g56 ∧ g56 < ((g47.length : Nat) : Int)) ((idx g47 g56).bind fun x61 => ((cond (decide (x61.dt = 49)) ((decodeD c_TGeom_Polygon x61.cells).bind fun y64 => ((cond (!decide (y64.geom2.geom1.geom0.layout = a0.Layout)) none (need (inI .i64 (g56 + (1 : Int))) (K57 (g56 + (1 : Int))))))) (cond (decide (x61.dt = 51)) ((decodeD c_TGeom_Polygon x61.cells).bind fun y70 => ((cond (!decide (y70.geom2.geom1.geom0.layout = a0.Layout)) none (need (inI .i64 (g56 + (1 : Int))) (K57 (g56 + (1 : Int))))))) (cond (decide (x61.dt = 52)) ((decodeD c_TGeom_Polygon x61.cells).bind fun y76 => ((cond (!decide (y76.geom2.geom1.geom0.layout = a0.Layout)) none (need (inI .i64 (g56 + (1 : Int))) (K57 (g56 + (1 : Int))))))) (cond (decide (x61.dt = 53)) ((decodeD c_TGeom_MultiPolygon x61.cells).bind fun y82 => ((cond (!decide (y82.geom3.geom1.geom0.layout = a0.Layout)) none (need (inI .i64 (g56 + (1 : Int))) (K57 (g56 + (1 : Int))))))) (cond (decide (x61.dt = 54)) ((decodeD c_TGeom_GeometryCollection x61.cells).bind fun y88 => ((p_GeometryCollection_Layout F y88).bind fun y90 => ((cond (!decide (y90 = a0.Layout)) none (need (inI .i64 (g56 + (1 : Int))) (K57 (g56 + (1 : Int)))))))) (cond (decide (x61.dt = 64)) ((decodeD c_TGeom_Point x61.cells).bind fun y95 => ((cond (!decide (y95.geom0.layout = a0.Layout)) none (need (inI .i64 (g56 + (1 : Int))) (K57 (g56 + (1 : Int))))))) (cond (decide (x61.dt = 67)) ((decodeD c_TGeom_LineString x61.cells).bind fun y101 => ((cond (!decide (y101.geom1.geom0.layout = a0.Layout)) none (need (inI .i64 (g56 + (1 : Int))) (K57 (g56 + (1 : Int))))))) (cond (decide (x61.dt = 70)) ((decodeD c_TGeom_LineString x61.cells).bind fun y107 => ((cond (!decide (y107.geom1.geom0.layout = a0.Layout)) none (need (inI .i64 (g56 + (1 : Int))) (K57 (g56 + (1 : Int))))))) none))))))))))) (some (Sum.inl ())))
def p_geometry_k1 (a0 : TImpl_Geom) (F : Nat) (g47 : (List IfcV)) : Option IfcV := (cond (!decide (a0.Layout = (0 : Int))) ((iter (p_geometry_l4 a0 F g47) F (0 : Int)).bind fun o => aft o some (p_geometry_k3 a0 g47)) ((p_geometry_k2 a0 g47) ()))
def p_geometry_l5 (a0 : TImpl_Geom) (Rec_ : TImpl_Geom → Option IfcV) (K113 : (Int × (List IfcV)) → Option (Sum (List IfcV) IfcV)) (g112 : (Int × (List IfcV))) : Option (Sum (List IfcV) IfcV) := (cond (decide (g112.1 < ((a0.Kids.length : Nat) : Int))) ((idx a0.Kids g112.1).bind fun x116 => ((Rec_ x116).bind fun y118 => ((cond (!decide ((0 : Int) = (0 : Int))) none (need (g112.2.length + [y118].length ≤ 4294967296) (need (inI .i64 (g112.1 + (1 : Int))) (K113 ((g112.1 + (1 : Int)), (g112.2 ++ [y118]))))))))) (some (Sum.inl g112.2)))
/-- pub-orthodrome/impl.geometry -/
def p_geometry_b (Rec_ : TImpl_Geom → Option IfcV) (F : Nat) (a0 : TImpl_Geom) : Option IfcV := (p_floats a0.Flat).bind fun y1 => ((cond (decide (a0.Kind = (1 : Int))) ((p_NewPointFlat a0.Layout y1).bind fun y4 => (some (IfcV.mk 64 (c_TGeom_Point (TGeom_Point.mk (TGeom_geom0.mk y4.geom0.layout y4.geom0.stride y4.geom0.flatCoords a0.SRID)))))) (cond (decide (a0.Kind = (2 : Int))) ((p_NewLineStringFlat a0.Layout y1).bind fun y8 => (some (IfcV.mk 67 (c_TGeom_LineString (TGeom_LineString.mk (TGeom_Point.mk (TGeom_geom0.mk y8.geom1.geom0.layout y8.geom1.geom0.stride y8.geom1.geom0.flatCoords a0.SRID))))))) (cond (decide (a0.Kind = (8 : Int))) ((p_NewLinearRingFlat a0.Layout y1).bind fun y12 => (some (IfcV.mk 70 (c_TGeom_LineString (TGeom_LineString.mk (TGeom_Point.mk (TGeom_geom0.mk y12.geom1.geom0.layout y12.geom1.geom0.stride y12.geom1.geom0.flatCoords a0.SRID))))))) (cond (decide (a0.Kind = (3 : Int))) ((p_ints a0.Ends).bind fun y16 => ((p_NewPolygonFlat a0.Layout y1 y16).bind fun y18 => (some (IfcV.mk 49 (c_TGeom_Polygon (TGeom_Polygon.mk (TGeom_geom2.mk (TGeom_Point.mk (TGeom_geom0.mk y18.geom2.geom1.geom0.layout y18.geom2.geom1.geom0.stride y18.geom2.geom1.geom0.flatCoords a0.SRID)) y18.geom2.ends))))))) (cond (decide (a0.Kind = (4 : Int))) ((p_ints a0.Ends).bind fun y22 => ((p_NewMultiPointFlatOptionWithEnds y22).bind fun y24 => ((p_NewMultiPointFlat F a0.Layout y1 [y24]).bind fun y26 => (some (IfcV.mk 51 (c_TGeom_Polygon (TGeom_Polygon.mk (TGeom_geom2.mk (TGeom_Point.mk (TGeom_geom0.mk y26.geom2.geom1.geom0.layout y26.geom2.geom1.geom0.stride y26.geom2.geom1.geom0.flatCoords a0.SRID)) y26.geom2.ends)))))))) (cond (decide (a0.Kind = (5 : Int))) ((p_ints a0.Ends).bind fun y30 => ((p_NewMultiLineStringFlat a0.Layout y1 y30).bind fun y32 => (some (IfcV.mk 52 (c_TGeom_Polygon (TGeom_Polygon.mk (TGeom_geom2.mk (TGeom_Point.mk (TGeom_geom0.mk y32.geom2.geom1.geom0.layout y32.geom2.geom1.geom0.stride y32.geom2.geom1.geom0.flatCoords a0.SRID)) y32.geom2.ends))))))) (cond (decide (a0.Kind = (6 : Int))) ((p_intss F a0.Endss).bind fun y36 => ((p_NewMultiPolygonFlat a0.Layout y1 y36).bind fun y38 => (some (IfcV.mk 53 (c_TGeom_MultiPolygon (TGeom_MultiPolygon.mk (TGeom_geom3.mk (TGeom_Point.mk (TGeom_geom0.mk y38.geom3.geom1.geom0.layout y38.geom3.geom1.geom0.stride y38.geom3.geom1.geom0.flatCoords a0.SRID)) y38.geom3.endss))))))) (cond (decide (a0.Kind = (7 : Int))) ((p_NewGeometryCollection ).bind fun y42 => ((iter (p_geometry_l5 a0 Rec_) F ((0 : Int), [])).bind fun o => aft o some (p_geometry_k1 a0 F))) none)))))))))
def p_geometry : Nat → TImpl_Geom → Option IfcV
  | 0, _ => none
  | F + 1, a0 => p_geometry_b (fun a0 => p_geometry F a0) F a0

/-- (*pub-orthodrome/pub/gogeom.Polygon).NumLinearRings -/
def p_Polygon_NumLinearRings (a0 : TGeom_Polygon) : Option Int := some ((a0.geom2.ends.length : Nat) : Int)

/-- (*pub-orthodrome/pub/gogeom.MultiPoint).NumPoints -/
def p_MultiPoint_NumPoints (a0 : TGeom_Polygon) : Option Int := some ((a0.geom2.ends.length : Nat) : Int)

/-- (*pub-orthodrome/pub/gogeom.MultiLineString).NumLineStrings -/
def p_MultiLineString_NumLineStrings (a0 : TGeom_Polygon) : Option Int := some ((a0.geom2.ends.length : Nat) : Int)

/-- (*pub-orthodrome/pub/gogeom.MultiPolygon).NumPolygons -/
def p_MultiPolygon_NumPolygons (a0 : TGeom_MultiPolygon) : Option Int := some ((a0.geom3.endss.length : Nat) : Int)

/-- (*pub-orthodrome/pub/gogeom.GeometryCollection).NumGeoms -/
def p_GeometryCollection_NumGeoms (a0 : TGeom_GeometryCollection) : Option Int := some ((a0.geoms.length : Nat) : Int)

/-- pub-orthodrome/impl.NumParts -/
def p_NumParts (F : Nat) (a0 : TImpl_Geom) : Option (Int × Bool) := (p_geometry F a0).bind fun y1 => ((cond (decide (y1.dt = 49)) ((decodeD c_TGeom_Polygon y1.cells).bind fun y4 => ((p_Polygon_NumLinearRings y4).bind fun y6 => (some (y6, true)))) (cond (decide (y1.dt = 51)) ((decodeD c_TGeom_Polygon y1.cells).bind fun y9 => ((p_MultiPoint_NumPoints y9).bind fun y11 => (some (y11, true)))) (cond (decide (y1.dt = 52)) ((decodeD c_TGeom_Polygon y1.cells).bind fun y14 => ((p_MultiLineString_NumLineStrings y14).bind fun y16 => (some (y16, true)))) (cond (decide (y1.dt = 53)) ((decodeD c_TGeom_MultiPolygon y1.cells).bind fun y19 => ((p_MultiPolygon_NumPolygons y19).bind fun y21 => (some (y21, true)))) (cond (decide (y1.dt = 54)) ((decodeD c_TGeom_GeometryCollection y1.cells).bind fun y24 => ((p_GeometryCollection_NumGeoms y24).bind fun y26 => (some (y26, true)))) (cond (decide (y1.dt = 64)) ((decodeD c_TGeom_Point y1.cells).bind fun y29 => (some ((0 : Int), false))) (cond (decide (y1.dt = 67)) ((decodeD c_TGeom_LineString y1.cells).bind fun y32 => (some ((0 : Int), false))) (cond (decide (y1.dt = 70)) ((decodeD c_TGeom_LineString y1.cells).bind fun y35 => (some ((0 : Int), false))) none)))))))))

def p_NumParts_12_k1 (a0 : TImpl_Geom) (g1 : Bool) : Option Int := (cond g1 (some ((a0.Ends.length : Nat) : Int)) (cond (decide (a0.Kind = (6 : Int))) (some ((a0.Endss.length : Nat) : Int)) (some ((a0.Kids.length : Nat) : Int))))
/-- pub-orthodrome/spec.NumParts -/
def p_NumParts_12 (a0 : TImpl_Geom) : Option Int := (cond (decide (a0.Kind = (3 : Int))) ((p_NumParts_12_k1 a0) (decide (a0.Kind = (3 : Int)))) (cond (decide (a0.Kind = (4 : Int))) ((p_NumParts_12_k1 a0) (decide (a0.Kind = (4 : Int)))) ((p_NumParts_12_k1 a0) (decide (a0.Kind = (5 : Int))))))

/-- pub-orthodrome/laws.FnNumParts -/
def p_FnNumParts (F : Nat) (a0 : TImpl_Geom) : Option Bool := (p_zzFits2 F a0).bind fun y1 => ((cond (!y1) (some true) ((p_gHasParts F a0).bind fun y4 => ((cond (!y4) (some true) ((p_NumParts F a0).bind fun y7 => ((cond y7.2 ((p_NumParts_12 a0).bind fun y10 => (some (decide (y7.1 = y10)))) (some false)))))))))

/-- (*pub-orthodrome/pub/gogeom.GeometryCollection).FlatCoords -/
def p_GeometryCollection_FlatCoords (a0 : TGeom_GeometryCollection) : Option (List Nat) := none

/-- pub-orthodrome/impl.FlatOf -/
def p_FlatOf_in (F : Nat) (a0 : TImpl_Geom) : Option ((List Nat) × Bool) := (p_geometry F a0).bind fun y1 => ((cond (decide (y1.dt = 49)) ((decodeD c_TGeom_Polygon y1.cells).bind fun y4 => ((p_floats y4.geom2.geom1.geom0.flatCoords).bind fun y7 => (some (y7, true)))) (cond (decide (y1.dt = 51)) ((decodeD c_TGeom_Polygon y1.cells).bind fun y10 => ((p_floats y10.geom2.geom1.geom0.flatCoords).bind fun y13 => (some (y13, true)))) (cond (decide (y1.dt = 52)) ((decodeD c_TGeom_Polygon y1.cells).bind fun y16 => ((p_floats y16.geom2.geom1.geom0.flatCoords).bind fun y19 => (some (y19, true)))) (cond (decide (y1.dt = 53)) ((decodeD c_TGeom_MultiPolygon y1.cells).bind fun y22 => ((p_floats y22.geom3.geom1.geom0.flatCoords).bind fun y25 => (some (y25, true)))) (cond (decide (y1.dt = 54)) ((decodeD c_TGeom_GeometryCollection y1.cells).bind fun y28 => ((p_GeometryCollection_FlatCoords y28).bind fun y30 => ((p_floats y30).bind fun y32 => (some (y32, true))))) (cond (decide (y1.dt = 64)) ((decodeD c_TGeom_Point y1.cells).bind fun y35 => ((p_floats y35.geom0.flatCoords).bind fun y38 => (some (y38, true)))) (cond (decide (y1.dt = 67)) ((decodeD c_TGeom_LineString y1.cells).bind fun y41 => ((p_floats y41.geom1.geom0.flatCoords).bind fun y44 => (some (y44, true)))) (cond (decide (y1.dt = 70)) ((decodeD c_TGeom_LineString y1.cells).bind fun y47 => ((p_floats y47.geom1.geom0.flatCoords).bind fun y50 => (some (y50, true)))) none)))))))))

/-- (*pub-orthodrome/pub/gogeom.GeometryCollection).FlatCoords: does it panic? -/
def pp_GeometryCollection_FlatCoords (a0 : TGeom_GeometryCollection) : Option Unit := some ()

/-- pub-orthodrome/impl.FlatOf: does it panic? -/
def pp_FlatOf (F : Nat) (a0 : TImpl_Geom) : Option Unit := (p_geometry F a0).bind fun y1 => ((cond (decide (y1.dt = 49)) ((decodeD c_TGeom_Polygon y1.cells).bind fun y4 => ((p_floats y4.geom2.geom1.geom0.flatCoords).bind fun y7 => (none))) (cond (decide (y1.dt = 51)) ((decodeD c_TGeom_Polygon y1.cells).bind fun y10 => ((p_floats y10.geom2.geom1.geom0.flatCoords).bind fun y13 => (none))) (cond (decide (y1.dt = 52)) ((decodeD c_TGeom_Polygon y1.cells).bind fun y16 => ((p_floats y16.geom2.geom1.geom0.flatCoords).bind fun y19 => (none))) (cond (decide (y1.dt = 53)) ((decodeD c_TGeom_MultiPolygon y1.cells).bind fun y22 => ((p_floats y22.geom3.geom1.geom0.flatCoords).bind fun y25 => (none))) (cond (decide (y1.dt = 54)) ((decodeD c_TGeom_GeometryCollection y1.cells).bind fun y28 => ((pp_GeometryCollection_FlatCoords y28))) (cond (decide (y1.dt = 64)) ((decodeD c_TGeom_Point y1.cells).bind fun y31 => ((p_floats y31.geom0.flatCoords).bind fun y34 => (none))) (cond (decide (y1.dt = 67)) ((decodeD c_TGeom_LineString y1.cells).bind fun y37 => ((p_floats y37.geom1.geom0.flatCoords).bind fun y40 => (none))) (cond (decide (y1.dt = 70)) ((decodeD c_TGeom_LineString y1.cells).bind fun y43 => ((p_floats y43.geom1.geom0.flatCoords).bind fun y46 => (none))) none)))))))))
def p_FlatOf (F : Nat) (a0 : TImpl_Geom) : Option ((List Nat) × Bool) := cond (pp_FlatOf F a0).isSome (some ([], false)) (p_FlatOf_in F a0)

def p_SameFloats_k1  (g4 : Unit) : Option Bool := some true
def p_SameFloats_l2 (a0 : (List Nat)) (a1 : (List Nat)) (K6 : Int → Option (Sum Unit Bool)) (g5 : Int) : Option (Sum Unit Bool) := (cond (decide (g5 < ((a0.length : Nat) : Int))) ((idx a0 g5).bind fun x9 => ((idx a1 g5).bind fun x11 => ((cond (!decide (((x9 : Nat) : Int) = ((x11 : Nat) : Int))) (some (Sum.inr false)) (need (inI .i64 (g5 + (1 : Int))) (K6 (g5 + (1 : Int)))))))) (some (Sum.inl ())))
/-- pub-orthodrome/spec.SameFloats -/
def p_SameFloats (F : Nat) (a0 : (List Nat)) (a1 : (List Nat)) : Option Bool := (cond (!decide (((a0.length : Nat) : Int) = ((a1.length : Nat) : Int))) (some false) ((iter (p_SameFloats_l2 a0 a1) F (0 : Int)).bind fun o => aft o some p_SameFloats_k1))

/-- pub-orthodrome/laws.FnFlatOf -/
def p_FnFlatOf (F : Nat) (a0 : TImpl_Geom) : Option Bool := (p_zzFits2 F a0).bind fun y1 => ((cond (!y1) (some true) ((p_gGood F [a0]).bind fun y4 => ((cond (!y4) (some true) ((p_FlatOf F a0).bind fun y7 => ((p_FlatOf F (TImpl_Geom.mk (1 : Int) (1 : Int) (0 : Int) [(4607182418800017408 : Nat), (4611686018427387904 : Nat)] [] [] [])).bind fun y9 => ((cond y9.2 (cond (y7.2 == (!decide (a0.Kind = (7 : Int)))) (cond (!y7.2) (some true) ((p_SameFloats F y7.1 a0.Flat).bind fun y14 => (some y14))) (some false)) (some false))))))))))

end
end Go.Proofs.Ytbgdonedjgkhiaa.Wk
