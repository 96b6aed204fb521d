/- Printed: what functions of the program compute, as functions of Lean. No condition is laid on their arguments. -/
import Derived.Test.YtlafodjpnolmhaaPureKit
namespace Go.Proofs.Ytlafodjpnolmhaa.Wk
open Go.Vm
set_option linter.unusedVariables false
structure TImpl_Geom where
  mk ::
  (Kind : Int)
  (Layout : Int)
  (SRID : Int)
  (Flat : (List Nat))
  (Ends : (List Int))
  (Endss : (List (List Int)))
  (Kids : (List TImpl_Geom))
abbrev keS1 (x : Nat) : D := dfl x
abbrev eS1 (l : List Nat) : D := .ds 1 (l.map keS1)
abbrev keS2 (x : Int) : D := di .i64 x
abbrev eS2 (l : List Int) : D := .ds 1 (l.map keS2)
abbrev keS3 (x : (List Int)) : D := eS2 x
abbrev eS3 (l : List (List Int)) : D := .ds 1 (l.map keS3)
mutual
def c0_TImpl_Geom : TImpl_Geom → List D
  | .mk x0 x1 x2 x3 x4 x5 x6 => [di .i64 x0, di .i64 x1, di .i64 x2, eS1 x3, eS2 x4, eS3 x5, .ds 7 (cs_TImpl_Geom x6)]
def cs_TImpl_Geom : List TImpl_Geom → List D
  | [] => []
  | g :: r => c0_TImpl_Geom g ++ cs_TImpl_Geom r
end
theorem cs_TImpl_Geom_eq : ∀ l : List TImpl_Geom, cs_TImpl_Geom l = l.flatMap c0_TImpl_Geom
  | [] => by simp [cs_TImpl_Geom]
  | g :: r => by simp [cs_TImpl_Geom, cs_TImpl_Geom_eq r]
abbrev eS0 (l : List TImpl_Geom) : D := .ds 7 (l.flatMap c0_TImpl_Geom)
abbrev c_TImpl_Geom (x : TImpl_Geom) : List D := [di .i64 x.Kind, di .i64 x.Layout, di .i64 x.SRID, eS1 x.Flat, eS2 x.Ends, eS3 x.Endss, eS0 x.Kids]
abbrev e_TImpl_Geom (x : TImpl_Geom) : D := .ag (c_TImpl_Geom x)
theorem c0_TImpl_Geom_eq (x : TImpl_Geom) : c0_TImpl_Geom x = c_TImpl_Geom x := by cases x; simp only [c0_TImpl_Geom, cs_TImpl_Geom_eq]
theorem c0_TImpl_Geom_len (x : TImpl_Geom) : (c0_TImpl_Geom x).length = 7 := by rw [c0_TImpl_Geom_eq]; rfl
theorem c0_TImpl_Geom_one (x : TImpl_Geom) : (c0_TImpl_Geom x).all D.one = true := by rw [c0_TImpl_Geom_eq]; rfl
structure TGeom_geom0 where
  mk ::
  (layout : Int)
  (stride : Int)
  (flatCoords : (List Nat))
  (srid : Int)
abbrev c_TGeom_geom0 (x : TGeom_geom0) : List D := [di .i64 x.layout, di .i64 x.stride, eS1 x.flatCoords, di .i64 x.srid]
abbrev e_TGeom_geom0 (x : TGeom_geom0) : D := .ag (c_TGeom_geom0 x)
structure TGeom_geom1 where
  mk ::
  (geom0 : TGeom_geom0)
abbrev c_TGeom_geom1 (x : TGeom_geom1) : List D := [di .i64 x.geom0.layout, di .i64 x.geom0.stride, eS1 x.geom0.flatCoords, di .i64 x.geom0.srid]
abbrev e_TGeom_geom1 (x : TGeom_geom1) : D := .ag (c_TGeom_geom1 x)
structure TGeom_geom2 where
  mk ::
  (geom1 : TGeom_geom1)
  (ends : (List Int))
abbrev c_TGeom_geom2 (x : TGeom_geom2) : List D := [di .i64 x.geom1.geom0.layout, di .i64 x.geom1.geom0.stride, eS1 x.geom1.geom0.flatCoords, di .i64 x.geom1.geom0.srid, eS2 x.ends]
abbrev e_TGeom_geom2 (x : TGeom_geom2) : D := .ag (c_TGeom_geom2 x)
structure TGeom_Polygon where
  mk ::
  (geom2 : TGeom_geom2)
abbrev c_TGeom_Polygon (x : TGeom_Polygon) : List D := [di .i64 x.geom2.geom1.geom0.layout, di .i64 x.geom2.geom1.geom0.stride, eS1 x.geom2.geom1.geom0.flatCoords, di .i64 x.geom2.geom1.geom0.srid, eS2 x.geom2.ends]
abbrev e_TGeom_Polygon (x : TGeom_Polygon) : D := .ag (c_TGeom_Polygon x)
abbrev keS5 (x : (List Nat)) : D := eS1 x
abbrev eS5 (l : List (List Nat)) : D := .ds 1 (l.map keS5)
abbrev keS4 (x : (List (List Nat))) : D := eS5 x
abbrev eS4 (l : List (List (List Nat))) : D := .ds 1 (l.map keS4)
def p_zzFits3_k1  (g4 : Unit) : Option Bool := some true
def p_zzFits3_l2 (a0 : (List (List Int))) (K6 : Int → Option (Sum Unit Bool)) (g5 : Int) : Option (Sum Unit Bool) := (cond (decide (g5 < ((a0.length : Nat) : Int))) ((idx a0 g5).bind fun x9 => ((cond (decide ((2147483647 : Int) < ((x9.length : Nat) : Int))) (some (Sum.inr false)) (need (inI .i64 (g5 + (1 : Int))) (K6 (g5 + (1 : Int))))))) (some (Sum.inl ())))
/-- pub-orthodrome/laws.zzFits3 -/
def p_zzFits3 (F : Nat) (a0 : (List (List Int))) : Option Bool := (cond (decide ((2147483647 : Int) < ((a0.length : Nat) : Int))) (some false) ((iter (p_zzFits3_l2 a0) F (0 : Int)).bind fun o => aft o some p_zzFits3_k1))

/-- pub-orthodrome/laws.zzFits2 -/
def p_zzFits2 (F : Nat) (a0 : TImpl_Geom) : Option Bool := (cond (decide ((2147483647 : Int) < ((a0.Flat.length : Nat) : Int))) (some false) (cond (decide ((2147483647 : Int) < ((a0.Ends.length : Nat) : Int))) (some false) ((p_zzFits3 F a0.Endss).bind fun y3 => ((cond (!y3) (some false) (cond (decide ((2147483647 : Int) < ((a0.Kids.length : Nat) : Int))) (some false) (some true)))))))

def p_Weight_k2  (g6 : Int) : Option Int := some g6
def p_Weight_l3 (a0 : TImpl_Geom) (a1 : Int) (Rec_ : TImpl_Geom → Int → Option Int) (K8 : (Int × Int) → Option (Sum Int Int)) (g7 : (Int × Int)) : Option (Sum Int Int) := (cond (decide (g7.2 < ((a0.Kids.length : Nat) : Int))) ((idx a0.Kids g7.2).bind fun x11 => ((cond (decide (a1 < g7.1)) (some (Sum.inr g7.1)) ((Rec_ x11 (IntKind.i64.wrap (a1 - g7.1))).bind fun y14 => (need (inI .i64 (g7.2 + (1 : Int))) (K8 ((IntKind.i64.wrap (g7.1 + y14)), (g7.2 + (1 : Int))))))))) (some (Sum.inl g7.1)))
def p_Weight_k1 (a0 : TImpl_Geom) (a1 : Int) (F : Nat) (Rec_ : TImpl_Geom → Int → Option Int) (g3 : Int) : Option Int := (iter (p_Weight_l3 a0 a1 Rec_) F (g3, (0 : Int))).bind fun o => aft o some p_Weight_k2
def p_Weight_l4 (a0 : TImpl_Geom) (K18 : (Int × Int) → Option (Sum Int Int)) (g17 : (Int × Int)) : Option (Sum Int Int) := (cond (decide (g17.2 < ((a0.Endss.length : Nat) : Int))) ((idx a0.Endss g17.2).bind fun x21 => (need (inI .i64 (g17.2 + (1 : Int))) (K18 ((IntKind.i64.wrap (g17.1 + (IntKind.i64.wrap ((1 : Int) + ((x21.length : Nat) : Int))))), (g17.2 + (1 : Int)))))) (some (Sum.inl g17.1)))
/-- pub-orthodrome/spec.Weight -/
def p_Weight_b (Rec_ : TImpl_Geom → Int → Option Int) (F : Nat) (a0 : TImpl_Geom) (a1 : Int) : Option Int := (iter (p_Weight_l4 a0) F ((IntKind.i64.wrap ((IntKind.i64.wrap ((1 : Int) + ((a0.Flat.length : Nat) : Int))) + ((a0.Ends.length : Nat) : Int))), (0 : Int))).bind fun o => aft o some (p_Weight_k1 a0 a1 F Rec_)
def p_Weight : Nat → TImpl_Geom → Int → Option Int
  | 0, _, _ => none
  | F + 1, a0, a1 => p_Weight_b (fun a0 a1 => p_Weight F a0 a1) F a0 a1

def p_gLayouts_k1 (a0 : TImpl_Geom) (a1 : Int) (g3 : Unit) : Option Bool := (cond (decide (a0.Layout ≤ a1)) (cond (decide ((1 : Int) ≤ a0.Layout)) (some true) (cond (decide (a0.Kind = (7 : Int))) (some (decide ((0 : Int) ≤ a0.Layout))) (some false))) (some false))
def p_gLayouts_l2 (a0 : TImpl_Geom) (a1 : Int) (Rec_ : TImpl_Geom → Int → Option Bool) (K8 : Int → Option (Sum Unit Bool)) (g7 : Int) : Option (Sum Unit Bool) := (cond (decide (g7 < ((a0.Kids.length : Nat) : Int))) ((idx a0.Kids g7).bind fun x11 => ((Rec_ x11 a1).bind fun y13 => ((cond (!y13) (some (Sum.inr false)) (need (inI .i64 (g7 + (1 : Int))) (K8 (g7 + (1 : Int)))))))) (some (Sum.inl ())))
/-- pub-orthodrome/laws.gLayouts -/
def p_gLayouts_b (Rec_ : TImpl_Geom → Int → Option Bool) (F : Nat) (a0 : TImpl_Geom) (a1 : Int) : Option Bool := (iter (p_gLayouts_l2 a0 a1 Rec_) F (0 : Int)).bind fun o => aft o some (p_gLayouts_k1 a0 a1)
def p_gLayouts : Nat → TImpl_Geom → Int → Option Bool
  | 0, _, _ => none
  | F + 1, a0, a1 => p_gLayouts_b (fun a0 a1 => p_gLayouts F a0 a1) F a0 a1

def p_gSmall_k1  (g3 : Unit) : Option Bool := some true
def p_gSmall_l2 (a0 : (List TImpl_Geom)) (F : Nat) (K5 : (Int × Int) → Option (Sum Unit Bool)) (g4 : (Int × Int)) : Option (Sum Unit Bool) := (cond (decide (g4.2 < ((a0.length : Nat) : Int))) ((idx a0 g4.2).bind fun x8 => ((p_Weight F x8 g4.1).bind fun y10 => ((cond (decide ((IntKind.i64.wrap (g4.1 - y10)) < (0 : Int))) (some (Sum.inr false)) ((p_gLayouts F x8 (9 : Int)).bind fun y13 => ((cond (!y13) (some (Sum.inr false)) (need (inI .i64 (g4.2 + (1 : Int))) (K5 ((IntKind.i64.wrap (g4.1 - y10)), (g4.2 + (1 : Int)))))))))))) (some (Sum.inl ())))
/-- pub-orthodrome/laws.gSmall -/
def p_gSmall (F : Nat) (a0 : (List TImpl_Geom)) : Option Bool := (iter (p_gSmall_l2 a0 F) F ((2000 : Int), (0 : Int))).bind fun o => aft o some p_gSmall_k1

/-- pub-orthodrome/spec.Stride -/
def p_Stride (a0 : Int) : Option Int := (cond (decide (a0 < (1 : Int))) (some (0 : Int)) (cond (decide (a0 = (1 : Int))) (some (2 : Int)) (cond (decide (a0 = (2 : Int))) (some (3 : Int)) (cond (decide (a0 = (3 : Int))) (some (3 : Int)) (some a0)))))

/-- pub-orthodrome/spec.Cover -/
def p_Cover (a0 : Int) (a1 : Int) : Option Int := (cond (decide (a0 = (2 : Int))) (cond (decide (a1 = (3 : Int))) (some (4 : Int)) (cond (decide (a0 = (3 : Int))) (cond (decide (a1 = (2 : Int))) (some (4 : Int)) (some (if a0 < a1 then a1 else a0))) (some (if a0 < a1 then a1 else a0)))) (cond (decide (a0 = (3 : Int))) (cond (decide (a1 = (2 : Int))) (some (4 : Int)) (some (if a0 < a1 then a1 else a0))) (some (if a0 < a1 then a1 else a0))))

def p_LayoutOf_k2  (g5 : Int) : Option Int := some g5
def p_LayoutOf_l3 (a0 : TImpl_Geom) (Rec_ : TImpl_Geom → Option Int) (K7 : (Int × Int) → Option (Sum Int Int)) (g6 : (Int × Int)) : Option (Sum Int Int) := (cond (decide (g6.2 < ((a0.Kids.length : Nat) : Int))) ((idx a0.Kids g6.2).bind fun x10 => ((Rec_ x10).bind fun y12 => ((p_Cover g6.1 y12).bind fun y14 => (need (inI .i64 (g6.2 + (1 : Int))) (K7 (y14, (g6.2 + (1 : Int)))))))) (some (Sum.inl g6.1)))
def p_LayoutOf_k1 (a0 : TImpl_Geom) (F : Nat) (Rec_ : TImpl_Geom → Option Int) (g1 : Bool) : Option Int := (cond g1 (some a0.Layout) ((iter (p_LayoutOf_l3 a0 Rec_) F (a0.Layout, (0 : Int))).bind fun o => aft o some p_LayoutOf_k2))
/-- pub-orthodrome/spec.LayoutOf -/
def p_LayoutOf_b (Rec_ : TImpl_Geom → Option Int) (F : Nat) (a0 : TImpl_Geom) : Option Int := (cond (!decide (a0.Kind = (7 : Int))) ((p_LayoutOf_k1 a0 F Rec_) true) ((p_LayoutOf_k1 a0 F Rec_) (!decide (a0.Layout = (0 : Int)))))
def p_LayoutOf : Nat → TImpl_Geom → Option Int
  | 0, _ => none
  | F + 1, a0 => p_LayoutOf_b (fun a0 => p_LayoutOf F a0) F a0

def p_goodEnds_k1  (g3 : Int) : Option (Int × Bool) := some (g3, true)
def p_goodEnds_k3 (g4 : (Int × Int)) (K5 : (Int × Int) → Option (Sum Int (Int × Bool))) (x8 : Int) (g10 : Bool) : Option (Sum Int (Int × Bool)) := (cond g10 (some (Sum.inr (g4.1, false))) (need (inI .i64 (g4.2 + (1 : Int))) (K5 (x8, (g4.2 + (1 : Int))))))
def p_goodEnds_l2 (a0 : (List Int)) (a2 : Int) (a3 : Bool) (K5 : (Int × Int) → Option (Sum Int (Int × Bool))) (g4 : (Int × Int)) : Option (Sum Int (Int × Bool)) := (cond (decide (g4.2 < ((a0.length : Nat) : Int))) ((idx a0 g4.2).bind fun x8 => ((cond (decide (x8 < g4.1)) ((p_goodEnds_k3 g4 K5 x8) true) (need (inI .i64 (x8 - g4.1)) (need (a2 ≠ 0) ((cond (!decide ((Int.tmod (x8 - g4.1) a2) = (0 : Int))) ((p_goodEnds_k3 g4 K5 x8) true) (cond a3 (need (inI .i64 (x8 - g4.1)) ((p_goodEnds_k3 g4 K5 x8) (decide (a2 < (x8 - g4.1))))) ((p_goodEnds_k3 g4 K5 x8) false))))))))) (some (Sum.inl g4.1)))
/-- pub-orthodrome/spec.goodEnds -/
def p_goodEnds (F : Nat) (a0 : (List Int)) (a1 : Int) (a2 : Int) (a3 : Bool) : Option (Int × Bool) := (iter (p_goodEnds_l2 a0 a2 a3) F (a1, (0 : Int))).bind fun o => aft o some p_goodEnds_k1

def p_Good_k2  (g7 : Bool) : Option Bool := some g7
def p_Good_k1 (a0 : TImpl_Geom) (g6 : Unit) : Option Bool := (cond (decide ((0 : Int) ≤ a0.Layout)) (p_Good_k2 (decide ((IntKind.i64.wrap ((IntKind.i64.wrap (((a0.Flat.length : Nat) : Int) + ((a0.Ends.length : Nat) : Int))) + ((a0.Endss.length : Nat) : Int))) = (0 : Int)))) (p_Good_k2 false))
def p_Good_l3 (a0 : TImpl_Geom) (F : Nat) (Rec_ : TImpl_Geom → Option Bool) (K10 : Int → Option (Sum Unit Bool)) (g9 : Int) : Option (Sum Unit Bool) := (cond (decide (g9 < ((a0.Kids.length : Nat) : Int))) ((idx a0.Kids g9).bind fun x13 => ((Rec_ x13).bind fun y15 => ((cond (!y15) (some (Sum.inr false)) (cond (!decide (a0.Layout = (0 : Int))) ((p_LayoutOf F x13).bind fun y19 => ((cond (!decide (y19 = a0.Layout)) (some (Sum.inr false)) (need (inI .i64 (g9 + (1 : Int))) (K10 (g9 + (1 : Int))))))) (need (inI .i64 (g9 + (1 : Int))) (K10 (g9 + (1 : Int))))))))) (some (Sum.inl ())))
def p_Good_k7 (a0 : TImpl_Geom) (g37 : (Int × Bool)) : Option Bool := (cond g37.2 (cond (decide (g37.1 = ((a0.Flat.length : Nat) : Int))) (some (decide (((a0.Ends.length : Nat) : Int) = (0 : Int)))) (some false)) (some false))
def p_Good_l8 (a0 : TImpl_Geom) (F : Nat) (y1 : Int) (K41 : (Int × Bool × Int) → Option (Sum (Int × Bool) Bool)) (g40 : (Int × Bool × Int)) : Option (Sum (Int × Bool) Bool) := (cond (decide (g40.2.2 < ((a0.Endss.length : Nat) : Int))) ((idx a0.Endss g40.2.2).bind fun x44 => ((p_goodEnds F x44 g40.1 y1 false).bind fun y46 => ((cond g40.2.1 (need (inI .i64 (g40.2.2 + (1 : Int))) (K41 (y46.1, y46.2, (g40.2.2 + (1 : Int))))) (need (inI .i64 (g40.2.2 + (1 : Int))) (K41 (y46.1, false, (g40.2.2 + (1 : Int))))))))) (some (Sum.inl (g40.1, g40.2.1))))
def p_Good_k6 (a0 : TImpl_Geom) (F : Nat) (y1 : Int) (g29 : Bool) : Option Bool := (cond g29 ((p_goodEnds F a0.Ends (0 : Int) y1 (decide (a0.Kind = (4 : Int)))).bind fun y31 => ((cond y31.2 (some (decide (y31.1 = ((a0.Flat.length : Nat) : Int)))) (some false)))) (cond (decide (a0.Kind = (6 : Int))) ((iter (p_Good_l8 a0 F y1) F ((0 : Int), true, (0 : Int))).bind fun o => aft o some (p_Good_k7 a0)) (some false)))
def p_Good_k5 (a0 : TImpl_Geom) (F : Nat) (y1 : Int) (g27 : Bool) : Option Bool := (cond g27 (some (decide (((a0.Ends.length : Nat) : Int) = (0 : Int)))) (cond (decide (a0.Kind = (3 : Int))) ((p_Good_k6 a0 F y1) (decide (a0.Kind = (3 : Int)))) (cond (decide (a0.Kind = (4 : Int))) ((p_Good_k6 a0 F y1) (decide (a0.Kind = (4 : Int)))) ((p_Good_k6 a0 F y1) (decide (a0.Kind = (5 : Int)))))))
def p_Good_k4 (a0 : TImpl_Geom) (F : Nat) (y1 : Int) (g24 : Unit) : Option Bool := (cond (decide (a0.Kind = (1 : Int))) (cond (decide (((a0.Ends.length : Nat) : Int) = (0 : Int))) (some (decide (((a0.Flat.length : Nat) : Int) ≤ y1))) (some false)) (cond (decide (a0.Kind = (2 : Int))) ((p_Good_k5 a0 F y1) (decide (a0.Kind = (2 : Int)))) ((p_Good_k5 a0 F y1) (decide (a0.Kind = (8 : Int))))))
/-- pub-orthodrome/spec.Good -/
def p_Good_b (Rec_ : TImpl_Geom → Option Bool) (F : Nat) (a0 : TImpl_Geom) : Option Bool := (p_Stride a0.Layout).bind fun y1 => ((cond (decide (a0.Kind = (7 : Int))) ((iter (p_Good_l3 a0 F Rec_) F (0 : Int)).bind fun o => aft o some (p_Good_k1 a0)) (cond (decide (y1 = (0 : Int))) (some false) (need (y1 ≠ 0) ((cond (!decide ((Int.tmod ((a0.Flat.length : Nat) : Int) y1) = (0 : Int))) (some false) (cond (decide ((0 : Int) < ((a0.Kids.length : Nat) : Int))) (some false) (cond (decide ((0 : Int) < ((a0.Endss.length : Nat) : Int))) (cond (!decide (a0.Kind = (6 : Int))) (some false) ((p_Good_k4 a0 F y1) ())) ((p_Good_k4 a0 F y1) ())))))))))
def p_Good : Nat → TImpl_Geom → Option Bool
  | 0, _ => none
  | F + 1, a0 => p_Good_b (fun a0 => p_Good F a0) F a0

def p_gGood_k1  (g6 : Unit) : Option Bool := some true
def p_gGood_l2 (a0 : (List TImpl_Geom)) (F : Nat) (K8 : Int → Option (Sum Unit Bool)) (g7 : Int) : Option (Sum Unit Bool) := (cond (decide (g7 < ((a0.length : Nat) : Int))) ((idx a0 g7).bind fun x11 => ((p_Good F x11).bind fun y13 => ((cond (!y13) (some (Sum.inr false)) (need (inI .i64 (g7 + (1 : Int))) (K8 (g7 + (1 : Int)))))))) (some (Sum.inl ())))
/-- pub-orthodrome/laws.gGood -/
def p_gGood (F : Nat) (a0 : (List TImpl_Geom)) : Option Bool := (p_gSmall F a0).bind fun y1 => ((cond (!y1) (some false) ((iter (p_gGood_l2 a0 F) F (0 : Int)).bind fun o => aft o some p_gGood_k1)))

/-- pub-orthodrome/impl.floats -/
def p_floats (a0 : (List Nat)) : Option (List Nat) := need (a0.length ≤ 4294967296) (some a0)

/-- pub-orthodrome/impl.ints -/
def p_ints (a0 : (List Int)) : Option (List Int) := need (a0.length ≤ 4294967296) (some a0)

/-- (pub-orthodrome/pub/gogeom.Layout).Stride -/
def p_Layout_Stride (a0 : Int) : Option Int := (cond (decide (a0 = (0 : Int))) (some (0 : Int)) (cond (decide (a0 = (1 : Int))) (some (2 : Int)) (cond (decide (a0 = (2 : Int))) (some (3 : Int)) (cond (decide (a0 = (3 : Int))) (some (3 : Int)) (cond (decide (a0 = (4 : Int))) (some (4 : Int)) (some a0))))))

/-- pub-orthodrome/pub/gogeom.NewPolygonFlat -/
def p_NewPolygonFlat (a0 : Int) (a1 : (List Nat)) (a2 : (List Int)) : Option TGeom_Polygon := (p_Layout_Stride a0).bind fun y1 => (some (TGeom_Polygon.mk (TGeom_geom2.mk (TGeom_geom1.mk (TGeom_geom0.mk a0 y1 a1 (0 : Int))) a2)))

/-- pub-orthodrome/pub/gogeom.inflate0 -/
def p_inflate0 (a0 : (List Nat)) (a1 : Int) (a2 : Int) (a3 : Int) : Option (List Nat) := need (inI .i64 (a1 + a3)) ((cond (!decide ((a1 + a3) = a2)) none (need (0 ≤ a3 ∧ a3 ≤ 4294967296) (need ((0 ≤ a1 ∧ 0 ≤ a2) ∧ (a1).toNat ≤ (a2).toNat ∧ (a2).toNat ≤ a0.length) (need (((a3).toNat) = (List.replicate (a3).toNat (0 : Nat)).length) (need (((a3).toNat) = (((a0.drop (a1).toNat).take ((a2).toNat - (a1).toNat)).take (min ((a0.drop (a1).toNat).take ((a2).toNat - (a1).toNat)).length (List.replicate (a3).toNat (0 : Nat)).length) ++ (List.replicate (a3).toNat (0 : Nat)).drop (min ((a0.drop (a1).toNat).take ((a2).toNat - (a1).toNat)).length (List.replicate (a3).toNat (0 : Nat)).length)).length) (some (((a0.drop (a1).toNat).take ((a2).toNat - (a1).toNat)).take (min ((a0.drop (a1).toNat).take ((a2).toNat - (a1).toNat)).length (List.replicate (a3).toNat (0 : Nat)).length) ++ (List.replicate (a3).toNat (0 : Nat)).drop (min ((a0.drop (a1).toNat).take ((a2).toNat - (a1).toNat)).length (List.replicate (a3).toNat (0 : Nat)).length)))))))))

def p_inflate1_k1 (a1 : Int) (a2 : Int) (a3 : Int) (g6 : (List (List Nat))) : Option (List (List Nat)) := need ((((Int.tdiv (a2 - a1) a3)).toNat) = g6.length) (some g6)
def p_inflate1_l2 (a0 : (List Nat)) (a1 : Int) (a2 : Int) (a3 : Int) (K9 : (Int × Int × (List (List Nat))) → Option (Sum (List (List Nat)) (List (List Nat)))) (g8 : (Int × Int × (List (List Nat)))) : Option (Sum (List (List Nat)) (List (List Nat))) := (cond (decide (g8.2.1 < ((((Int.tdiv (a2 - a1) a3)).toNat : Nat) : Int))) (need (inI .i64 (g8.1 + a3)) ((p_inflate0 a0 g8.1 (g8.1 + a3) a3).bind fun y13 => (need (0 ≤ g8.2.1 ∧ g8.2.1 < ((((Int.tdiv (a2 - a1) a3)).toNat : Nat) : Int)) (need ((g8.2.1).toNat < g8.2.2.length) (need (inI .i64 (g8.1 + a3)) (need (inI .i64 (g8.2.1 + (1 : Int))) (K9 ((g8.1 + a3), (g8.2.1 + (1 : Int)), (g8.2.2.set (g8.2.1).toNat y13))))))))) (some (Sum.inl g8.2.2)))
/-- pub-orthodrome/pub/gogeom.inflate1 -/
def p_inflate1 (F : Nat) (a0 : (List Nat)) (a1 : Int) (a2 : Int) (a3 : Int) : Option (List (List Nat)) := need (inI .i64 (a2 - a1)) (need (a3 ≠ 0 ∧ inI .i64 (Int.tdiv (a2 - a1) a3)) (need (0 ≤ (Int.tdiv (a2 - a1) a3) ∧ (Int.tdiv (a2 - a1) a3) ≤ 4294967296) ((iter (p_inflate1_l2 a0 a1 a2 a3) F (a1, (0 : Int), (List.replicate ((Int.tdiv (a2 - a1) a3)).toNat []))).bind fun o => aft o some (p_inflate1_k1 a1 a2 a3))))

def p_inflate2_k1 (a2 : (List Int)) (g4 : (List (List (List Nat)))) : Option (List (List (List Nat))) := need (((((a2.length : Nat) : Int)).toNat) = g4.length) (some g4)
def p_inflate2_l2 (a0 : (List Nat)) (a2 : (List Int)) (a3 : Int) (F : Nat) (K7 : (Int × Int × (List (List (List Nat)))) → Option (Sum (List (List (List Nat))) (List (List (List Nat))))) (g6 : (Int × Int × (List (List (List Nat))))) : Option (Sum (List (List (List Nat))) (List (List (List Nat)))) := (cond (decide (g6.2.1 < (((((a2.length : Nat) : Int)).toNat : Nat) : Int))) ((idx a2 g6.2.1).bind fun x10 => ((p_inflate1 F a0 g6.1 x10 a3).bind fun y12 => (need (0 ≤ g6.2.1 ∧ g6.2.1 < (((((a2.length : Nat) : Int)).toNat : Nat) : Int)) (need ((g6.2.1).toNat < g6.2.2.length) (need (inI .i64 (g6.2.1 + (1 : Int))) (K7 (x10, (g6.2.1 + (1 : Int)), (g6.2.2.set (g6.2.1).toNat y12)))))))) (some (Sum.inl g6.2.2)))
/-- pub-orthodrome/pub/gogeom.inflate2 -/
def p_inflate2 (F : Nat) (a0 : (List Nat)) (a1 : Int) (a2 : (List Int)) (a3 : Int) : Option (List (List (List Nat))) := need (0 ≤ ((a2.length : Nat) : Int) ∧ ((a2.length : Nat) : Int) ≤ 4294967296) ((iter (p_inflate2_l2 a0 a2 a3 F) F (a1, (0 : Int), (List.replicate (((a2.length : Nat) : Int)).toNat []))).bind fun o => aft o some (p_inflate2_k1 a2))

def p_plain1_k1  (g3 : (List (List Nat))) : Option (List (List Nat)) := some g3
def p_plain1_l2 (a0 : (List (List Nat))) (K5 : (Int × (List (List Nat))) → Option (Sum (List (List Nat)) (List (List Nat)))) (g4 : (Int × (List (List Nat)))) : Option (Sum (List (List Nat)) (List (List Nat))) := (cond (decide (g4.1 < ((a0.length : Nat) : Int))) ((idx a0 g4.1).bind fun x8 => ((p_floats x8).bind fun y10 => (need (g4.2.length + [y10].length ≤ 4294967296) (need (inI .i64 (g4.1 + (1 : Int))) (K5 ((g4.1 + (1 : Int)), (g4.2 ++ [y10]))))))) (some (Sum.inl g4.2)))
/-- pub-orthodrome/impl.plain1 -/
def p_plain1 (F : Nat) (a0 : (List (List Nat))) : Option (List (List Nat)) := (iter (p_plain1_l2 a0) F ((0 : Int), [])).bind fun o => aft o some p_plain1_k1

def p_plain2_k1  (g3 : (List (List (List Nat)))) : Option (List (List (List Nat))) := some g3
def p_plain2_l2 (a0 : (List (List (List Nat)))) (F : Nat) (K5 : (Int × (List (List (List Nat)))) → Option (Sum (List (List (List Nat))) (List (List (List Nat))))) (g4 : (Int × (List (List (List Nat))))) : Option (Sum (List (List (List Nat))) (List (List (List Nat)))) := (cond (decide (g4.1 < ((a0.length : Nat) : Int))) ((idx a0 g4.1).bind fun x8 => ((p_plain1 F x8).bind fun y10 => (need (g4.2.length + [y10].length ≤ 4294967296) (need (inI .i64 (g4.1 + (1 : Int))) (K5 ((g4.1 + (1 : Int)), (g4.2 ++ [y10]))))))) (some (Sum.inl g4.2)))
/-- pub-orthodrome/impl.plain2 -/
def p_plain2 (F : Nat) (a0 : (List (List (List Nat)))) : Option (List (List (List Nat))) := (iter (p_plain2_l2 a0 F) F ((0 : Int), [])).bind fun o => aft o some p_plain2_k1

/-- pub-orthodrome/pub/gogeom.NewMultiLineStringFlat -/
def p_NewMultiLineStringFlat (a0 : Int) (a1 : (List Nat)) (a2 : (List Int)) : Option TGeom_Polygon := (p_Layout_Stride a0).bind fun y1 => (some (TGeom_Polygon.mk (TGeom_geom2.mk (TGeom_geom1.mk (TGeom_geom0.mk a0 y1 a1 (0 : Int))) a2)))

/-- pub-orthodrome/impl.LinesCoords -/
def p_LinesCoords (F : Nat) (a0 : TImpl_Geom) : Option ((List (List (List Nat))) × Bool) := (p_floats a0.Flat).bind fun y2 => ((cond (decide (a0.Kind = (1 : Int))) none (cond (decide (a0.Kind = (2 : Int))) none (cond (decide (a0.Kind = (8 : Int))) none (cond (decide (a0.Kind = (3 : Int))) ((p_ints a0.Ends).bind fun y8 => ((p_NewPolygonFlat a0.Layout y2 y8).bind fun y10 => ((p_inflate2 F y10.geom2.geom1.geom0.flatCoords (0 : Int) y10.geom2.ends y10.geom2.geom1.geom0.stride).bind fun y14 => ((p_plain2 F y14).bind fun y16 => (some (y16, true)))))) (cond (decide (a0.Kind = (4 : Int))) none (cond (decide (a0.Kind = (5 : Int))) ((p_ints a0.Ends).bind fun y20 => ((p_NewMultiLineStringFlat a0.Layout y2 y20).bind fun y22 => ((p_inflate2 F y22.geom2.geom1.geom0.flatCoords (0 : Int) y22.geom2.ends y22.geom2.geom1.geom0.stride).bind fun y26 => ((p_plain2 F y26).bind fun y28 => (some (y28, true)))))) (cond (decide (a0.Kind = (6 : Int))) none (cond (decide (a0.Kind = (7 : Int))) none none)))))))))

def p_NumParts_k1 (a0 : TImpl_Geom) (g1 : Bool) : Option Int := (cond g1 (some ((a0.Ends.length : Nat) : Int)) (cond (decide (a0.Kind = (6 : Int))) (some ((a0.Endss.length : Nat) : Int)) (some ((a0.Kids.length : Nat) : Int))))
/-- pub-orthodrome/spec.NumParts -/
def p_NumParts (a0 : TImpl_Geom) : Option Int := (cond (decide (a0.Kind = (3 : Int))) ((p_NumParts_k1 a0) (decide (a0.Kind = (3 : Int)))) (cond (decide (a0.Kind = (4 : Int))) ((p_NumParts_k1 a0) (decide (a0.Kind = (4 : Int)))) ((p_NumParts_k1 a0) (decide (a0.Kind = (5 : Int))))))

/-- pub-orthodrome/spec.KidOf -/
def p_KidOf (a0 : Int) : Option Int := (cond (decide ((4 : Int) ≤ a0)) (cond (decide (a0 ≤ (6 : Int))) (need (inI .i64 (a0 - (3 : Int))) (some (a0 - (3 : Int)))) (some (0 : Int))) (some (0 : Int)))

def p_Part_k2 (a0 : TImpl_Geom) (g8 : Int) (g13 : (Int × (List Int))) : Option TImpl_Geom := need ((0 ≤ g8 ∧ 0 ≤ g13.1) ∧ (g8).toNat ≤ (g13.1).toNat ∧ (g13.1).toNat ≤ a0.Flat.length) (need (0 + ((a0.Flat.drop (g8).toNat).take ((g13.1).toNat - (g8).toNat)).length ≤ 4294967296) (some (TImpl_Geom.mk (3 : Int) a0.Layout (0 : Int) ((a0.Flat.drop (g8).toNat).take ((g13.1).toNat - (g8).toNat)) g13.2 [] [])))
def p_Part_l3 (g8 : Int) (x9 : (List Int)) (K17 : (Int × Int × (List Int)) → Option (Sum (Int × (List Int)) TImpl_Geom)) (g16 : (Int × Int × (List Int))) : Option (Sum (Int × (List Int)) TImpl_Geom) := (cond (decide (g16.2.1 < ((x9.length : Nat) : Int))) ((idx x9 g16.2.1).bind fun x20 => (need (inI .i64 (x20 - g8)) (need (g16.2.2.length + [(x20 - g8)].length ≤ 4294967296) (need (inI .i64 (g16.2.1 + (1 : Int))) (K17 (x20, (g16.2.1 + (1 : Int)), (g16.2.2 ++ [(x20 - g8)]))))))) (some (Sum.inl (g16.1, g16.2.2))))
def p_Part_k1 (a0 : TImpl_Geom) (a1 : Int) (F : Nat) (g8 : Int) : Option TImpl_Geom := (idx a0.Endss a1).bind fun x9 => ((iter (p_Part_l3 g8 x9) F (g8, (0 : Int), [])).bind fun o => aft o some (p_Part_k2 a0 g8))
def p_Part_l4 (a0 : TImpl_Geom) (a1 : Int) (K26 : (Int × Int) → Option (Sum Int TImpl_Geom)) (g25 : (Int × Int)) : Option (Sum Int TImpl_Geom) := (cond (decide (g25.2 < ((((a0.Endss.drop 0).take ((a1).toNat - 0)).length : Nat) : Int))) ((idx ((a0.Endss.drop 0).take ((a1).toNat - 0)) g25.2).bind fun x29 => ((cond (decide ((0 : Int) < ((x29.length : Nat) : Int))) (need (inI .i64 (((x29.length : Nat) : Int) - (1 : Int))) ((idx x29 (((x29.length : Nat) : Int) - (1 : Int))).bind fun x33 => (need (inI .i64 (g25.2 + (1 : Int))) (K26 (x33, (g25.2 + (1 : Int))))))) (need (inI .i64 (g25.2 + (1 : Int))) (K26 (g25.1, (g25.2 + (1 : Int)))))))) (some (Sum.inl g25.1)))
def p_Part_k6 (a0 : TImpl_Geom) (a1 : Int) (g37 : Int) (g38 : Int) : Option TImpl_Geom := (idx a0.Ends a1).bind fun x39 => (need ((0 ≤ g37 ∧ 0 ≤ x39) ∧ (g37).toNat ≤ (x39).toNat ∧ (x39).toNat ≤ a0.Flat.length) (need (0 + ((a0.Flat.drop (g37).toNat).take ((x39).toNat - (g37).toNat)).length ≤ 4294967296) (some (TImpl_Geom.mk g38 a0.Layout (0 : Int) ((a0.Flat.drop (g37).toNat).take ((x39).toNat - (g37).toNat)) [] [] []))))
def p_Part_k5 (a0 : TImpl_Geom) (a1 : Int) (g37 : Int) : Option TImpl_Geom := (cond (!decide (a0.Kind = (3 : Int))) ((p_KidOf a0.Kind).bind fun y44 => ((p_Part_k6 a0 a1 g37) y44)) ((p_Part_k6 a0 a1 g37) (8 : Int)))
/-- pub-orthodrome/spec.Part -/
def p_Part (F : Nat) (a0 : TImpl_Geom) (a1 : Int) : Option TImpl_Geom := (cond (decide (a0.Kind = (7 : Int))) ((idx a0.Kids a1).bind fun x2 => (some x2)) (cond (decide (a0.Kind = (6 : Int))) (need ((True ∧ 0 ≤ a1) ∧ 0 ≤ (a1).toNat ∧ (a1).toNat ≤ a0.Endss.length) ((iter (p_Part_l4 a0 a1) F ((0 : Int), (0 : Int))).bind fun o => aft o some (p_Part_k1 a0 a1 F))) (cond (decide ((0 : Int) < a1)) (need (inI .i64 (a1 - (1 : Int))) ((idx a0.Ends (a1 - (1 : Int))).bind fun x48 => ((p_Part_k5 a0 a1) x48))) ((p_Part_k5 a0 a1) (0 : Int)))))

def p_Parts_k1  (g5 : (List TImpl_Geom)) : Option (List TImpl_Geom) := some g5
def p_Parts_l2 (a0 : TImpl_Geom) (F : Nat) (y1 : Int) (K7 : (Int × (List TImpl_Geom)) → Option (Sum (List TImpl_Geom) (List TImpl_Geom))) (g6 : (Int × (List TImpl_Geom))) : Option (Sum (List TImpl_Geom) (List TImpl_Geom)) := (cond (decide (g6.1 < y1)) ((p_Part F a0 g6.1).bind fun y10 => (need (g6.2.length + [y10].length ≤ 4294967296) (need (inI .i64 (g6.1 + (1 : Int))) (K7 ((g6.1 + (1 : Int)), (g6.2 ++ [y10])))))) (some (Sum.inl g6.2)))
/-- pub-orthodrome/spec.Parts -/
def p_Parts (F : Nat) (a0 : TImpl_Geom) : Option (List TImpl_Geom) := (p_NumParts a0).bind fun y1 => ((iter (p_Parts_l2 a0 F y1) F ((0 : Int), [])).bind fun o => aft o some p_Parts_k1)

def p_Rows_k1  (g3 : (List (List Nat))) : Option (List (List Nat)) := some g3
def p_Rows_k3 (a0 : (List Nat)) (a1 : Int) (g4 : (Int × (List (List Nat)))) (K5 : (Int × (List (List Nat))) → Option (Sum (List (List Nat)) (List (List Nat)))) (g7 : Bool) : Option (Sum (List (List Nat)) (List (List Nat))) := (cond g7 (need (inI .i64 (g4.1 + a1)) (need ((0 ≤ g4.1 ∧ 0 ≤ (g4.1 + a1)) ∧ (g4.1).toNat ≤ ((g4.1 + a1)).toNat ∧ ((g4.1 + a1)).toNat ≤ a0.length) (need (g4.2.length + [((a0.drop (g4.1).toNat).take (((g4.1 + a1)).toNat - (g4.1).toNat))].length ≤ 4294967296) (need (inI .i64 (g4.1 + a1)) (K5 ((g4.1 + a1), (g4.2 ++ [((a0.drop (g4.1).toNat).take (((g4.1 + a1)).toNat - (g4.1).toNat))]))))))) (some (Sum.inl g4.2)))
def p_Rows_l2 (a0 : (List Nat)) (a1 : Int) (K5 : (Int × (List (List Nat))) → Option (Sum (List (List Nat)) (List (List Nat)))) (g4 : (Int × (List (List Nat)))) : Option (Sum (List (List Nat)) (List (List Nat))) := need (inI .i64 (g4.1 + a1)) ((cond (decide ((g4.1 + a1) ≤ ((a0.length : Nat) : Int))) ((p_Rows_k3 a0 a1 g4 K5) (decide ((0 : Int) < a1))) ((p_Rows_k3 a0 a1 g4 K5) false)))
/-- pub-orthodrome/spec.Rows -/
def p_Rows (F : Nat) (a0 : (List Nat)) (a1 : Int) : Option (List (List Nat)) := (iter (p_Rows_l2 a0 a1) F ((0 : Int), [])).bind fun o => aft o some p_Rows_k1

def p_gPlaces_k1  (g10 : (List (List Nat))) : Option (List (List Nat)) := some g10
def p_gPlaces_k3 (g11 : (Int × (List (List Nat)))) (K12 : (Int × (List (List Nat))) → Option (Sum (List (List Nat)) (List (List Nat)))) (g17 : (List Nat)) : Option (Sum (List (List Nat)) (List (List Nat))) := need (g11.2.length + [g17].length ≤ 4294967296) (need (inI .i64 (g11.1 + (1 : Int))) (K12 ((g11.1 + (1 : Int)), (g11.2 ++ [g17]))))
def p_gPlaces_l2 (y6 : (List TImpl_Geom)) (K12 : (Int × (List (List Nat))) → Option (Sum (List (List Nat)) (List (List Nat)))) (g11 : (Int × (List (List Nat)))) : Option (Sum (List (List Nat)) (List (List Nat))) := (cond (decide (g11.1 < ((y6.length : Nat) : Int))) ((idx y6 g11.1).bind fun x15 => ((cond (decide (((x15.Flat.length : Nat) : Int) = (0 : Int))) ((p_gPlaces_k3 g11 K12) []) ((p_gPlaces_k3 g11 K12) x15.Flat)))) (some (Sum.inl g11.2)))
/-- pub-orthodrome/laws.gPlaces -/
def p_gPlaces (F : Nat) (a0 : TImpl_Geom) : Option (List (List Nat)) := (cond (!decide (a0.Kind = (4 : Int))) ((p_Stride a0.Layout).bind fun y2 => ((p_Rows F a0.Flat y2).bind fun y4 => (some y4))) ((p_Parts F a0).bind fun y6 => ((iter (p_gPlaces_l2 y6) F ((0 : Int), [])).bind fun o => aft o some p_gPlaces_k1)))

def p_gPlacess_k1  (g5 : (List (List (List Nat)))) : Option (List (List (List Nat))) := some g5
def p_gPlacess_l2 (F : Nat) (y1 : (List TImpl_Geom)) (K7 : (Int × (List (List (List Nat)))) → Option (Sum (List (List (List Nat))) (List (List (List Nat))))) (g6 : (Int × (List (List (List Nat))))) : Option (Sum (List (List (List Nat))) (List (List (List Nat)))) := (cond (decide (g6.1 < ((y1.length : Nat) : Int))) ((idx y1 g6.1).bind fun x10 => ((p_gPlaces F x10).bind fun y12 => (need (g6.2.length + [y12].length ≤ 4294967296) (need (inI .i64 (g6.1 + (1 : Int))) (K7 ((g6.1 + (1 : Int)), (g6.2 ++ [y12]))))))) (some (Sum.inl g6.2)))
/-- pub-orthodrome/laws.gPlacess -/
def p_gPlacess (F : Nat) (a0 : TImpl_Geom) : Option (List (List (List Nat))) := (p_Parts F a0).bind fun y1 => ((iter (p_gPlacess_l2 F y1) F ((0 : Int), [])).bind fun o => aft o some p_gPlacess_k1)

def p_SameFloats_k1  (g4 : Unit) : Option Bool := some true
def p_SameFloats_l2 (a0 : (List Nat)) (a1 : (List Nat)) (K6 : Int → Option (Sum Unit Bool)) (g5 : Int) : Option (Sum Unit Bool) := (cond (decide (g5 < ((a0.length : Nat) : Int))) ((idx a0 g5).bind fun x9 => ((idx a1 g5).bind fun x11 => ((cond (!decide (((x9 : Nat) : Int) = ((x11 : Nat) : Int))) (some (Sum.inr false)) (need (inI .i64 (g5 + (1 : Int))) (K6 (g5 + (1 : Int)))))))) (some (Sum.inl ())))
/-- pub-orthodrome/spec.SameFloats -/
def p_SameFloats (F : Nat) (a0 : (List Nat)) (a1 : (List Nat)) : Option Bool := (cond (!decide (((a0.length : Nat) : Int) = ((a1.length : Nat) : Int))) (some false) ((iter (p_SameFloats_l2 a0 a1) F (0 : Int)).bind fun o => aft o some p_SameFloats_k1))

/-- pub-orthodrome/laws.gRow -/
def p_gRow (F : Nat) (a0 : (List Nat)) (a1 : (List Nat)) : Option Bool := need (neO (some a0) = true) (need (neO (some a1) = true) ((cond ((((some a0)).isNone) == (((some a1)).isNone)) ((p_SameFloats F a0 a1).bind fun y4 => (some y4)) (some false))))

def p_gRows_k1  (g4 : Unit) : Option Bool := some true
def p_gRows_l2 (a0 : (List (List Nat))) (a1 : (List (List Nat))) (F : Nat) (K6 : Int → Option (Sum Unit Bool)) (g5 : Int) : Option (Sum Unit Bool) := (cond (decide (g5 < ((a0.length : Nat) : Int))) ((idx a0 g5).bind fun x9 => ((idx a1 g5).bind fun x11 => ((p_gRow F x9 x11).bind fun y13 => ((cond (!y13) (some (Sum.inr false)) (need (inI .i64 (g5 + (1 : Int))) (K6 (g5 + (1 : Int))))))))) (some (Sum.inl ())))
/-- pub-orthodrome/laws.gRows -/
def p_gRows (F : Nat) (a0 : (List (List Nat))) (a1 : (List (List Nat))) : Option Bool := (cond (!decide (((a0.length : Nat) : Int) = ((a1.length : Nat) : Int))) (some false) ((iter (p_gRows_l2 a0 a1 F) F (0 : Int)).bind fun o => aft o some p_gRows_k1))

def p_gRowss_k1  (g4 : Unit) : Option Bool := some true
def p_gRowss_l2 (a0 : (List (List (List Nat)))) (a1 : (List (List (List Nat)))) (F : Nat) (K6 : Int → Option (Sum Unit Bool)) (g5 : Int) : Option (Sum Unit Bool) := (cond (decide (g5 < ((a0.length : Nat) : Int))) ((idx a0 g5).bind fun x9 => ((idx a1 g5).bind fun x11 => ((p_gRows F x9 x11).bind fun y13 => ((cond (!y13) (some (Sum.inr false)) (need (inI .i64 (g5 + (1 : Int))) (K6 (g5 + (1 : Int))))))))) (some (Sum.inl ())))
/-- pub-orthodrome/laws.gRowss -/
def p_gRowss (F : Nat) (a0 : (List (List (List Nat)))) (a1 : (List (List (List Nat)))) : Option Bool := (cond (!decide (((a0.length : Nat) : Int) = ((a1.length : Nat) : Int))) (some false) ((iter (p_gRowss_l2 a0 a1 F) F (0 : Int)).bind fun o => aft o some p_gRowss_k1))

def p_FnLinesCoords_k1 (a0 : TImpl_Geom) (F : Nat) (g4 : Unit) : Option Bool := (p_LinesCoords F a0).bind fun y5 => ((cond y5.2 ((p_gPlacess F a0).bind fun y8 => ((p_gRowss F y5.1 y8).bind fun y10 => (some y10))) (some false)))
/-- pub-orthodrome/laws.FnLinesCoords -/
def p_FnLinesCoords (F : Nat) (a0 : TImpl_Geom) : Option Bool := (p_zzFits2 F a0).bind fun y1 => ((cond (!y1) (some true) ((p_gGood F [a0]).bind fun y12 => ((cond (!y12) (some true) (cond (!decide (a0.Kind = (3 : Int))) (cond (!decide (a0.Kind = (5 : Int))) (some true) ((p_FnLinesCoords_k1 a0 F) ())) ((p_FnLinesCoords_k1 a0 F) ())))))))

end Go.Proofs.Ytlafodjpnolmhaa.Wk
