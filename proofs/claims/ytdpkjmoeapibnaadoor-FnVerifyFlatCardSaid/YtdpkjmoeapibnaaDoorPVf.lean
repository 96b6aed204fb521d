/- Printed: what functions of the program compute, as functions of Lean. No condition is laid on their arguments. -/
import Derived.Test.YtdpkjmoeapibnaaDoorPureKit
namespace Go.Proofs.YtdpkjmoeapibnaaDoor.Wk
open Go.Vm
set_option linter.unusedVariables false
structure TImpl_Geom where
  mk ::
  (Kind : Int)
  (Layout : Int)
  (SRID : Int)
  (Flat : (List Nat))
  (Ends : (List Int))
  (Endss : (List (List Int)))
  (Kids : (List TImpl_Geom))
abbrev keS1 (x : Nat) : D := dfl x
abbrev eS1 (l : List Nat) : D := .ds 1 (l.map keS1)
abbrev keS2 (x : Int) : D := di .i64 x
abbrev eS2 (l : List Int) : D := .ds 1 (l.map keS2)
abbrev keS3 (x : (List Int)) : D := eS2 x
abbrev eS3 (l : List (List Int)) : D := .ds 1 (l.map keS3)
mutual
def c0_TImpl_Geom : TImpl_Geom → List D
  | .mk x0 x1 x2 x3 x4 x5 x6 => [di .i64 x0, di .i64 x1, di .i64 x2, eS1 x3, eS2 x4, eS3 x5, .ds 7 (cs_TImpl_Geom x6)]
def cs_TImpl_Geom : List TImpl_Geom → List D
  | [] => []
  | g :: r => c0_TImpl_Geom g ++ cs_TImpl_Geom r
end
theorem cs_TImpl_Geom_eq : ∀ l : List TImpl_Geom, cs_TImpl_Geom l = l.flatMap c0_TImpl_Geom
  | [] => by simp [cs_TImpl_Geom]
  | g :: r => by simp [cs_TImpl_Geom, cs_TImpl_Geom_eq r]
abbrev eS0 (l : List TImpl_Geom) : D := .ds 7 (l.flatMap c0_TImpl_Geom)
abbrev c_TImpl_Geom (x : TImpl_Geom) : List D := [di .i64 x.Kind, di .i64 x.Layout, di .i64 x.SRID, eS1 x.Flat, eS2 x.Ends, eS3 x.Endss, eS0 x.Kids]
abbrev e_TImpl_Geom (x : TImpl_Geom) : D := .ag (c_TImpl_Geom x)
theorem c0_TImpl_Geom_eq (x : TImpl_Geom) : c0_TImpl_Geom x = c_TImpl_Geom x := by cases x; simp only [c0_TImpl_Geom, cs_TImpl_Geom_eq]
theorem c0_TImpl_Geom_len (x : TImpl_Geom) : (c0_TImpl_Geom x).length = 7 := by rw [c0_TImpl_Geom_eq]; rfl
theorem c0_TImpl_Geom_one (x : TImpl_Geom) : (c0_TImpl_Geom x).all D.one = true := by rw [c0_TImpl_Geom_eq]; rfl
structure TGeom_geom0 where
  mk ::
  (layout : Int)
  (stride : Int)
  (flatCoords : (List Nat))
  (srid : Int)
abbrev c_TGeom_geom0 (x : TGeom_geom0) : List D := [di .i64 x.layout, di .i64 x.stride, eS1 x.flatCoords, di .i64 x.srid]
abbrev e_TGeom_geom0 (x : TGeom_geom0) : D := .ag (c_TGeom_geom0 x)
structure TGeom_geom1 where
  mk ::
  (geom0 : TGeom_geom0)
abbrev c_TGeom_geom1 (x : TGeom_geom1) : List D := [di .i64 x.geom0.layout, di .i64 x.geom0.stride, eS1 x.geom0.flatCoords, di .i64 x.geom0.srid]
abbrev e_TGeom_geom1 (x : TGeom_geom1) : D := .ag (c_TGeom_geom1 x)
structure TGeom_LineString where
  mk ::
  (geom1 : TGeom_geom1)
abbrev c_TGeom_LineString (x : TGeom_LineString) : List D := [di .i64 x.geom1.geom0.layout, di .i64 x.geom1.geom0.stride, eS1 x.geom1.geom0.flatCoords, di .i64 x.geom1.geom0.srid]
abbrev e_TGeom_LineString (x : TGeom_LineString) : D := .ag (c_TGeom_LineString x)
structure TGeom_geom2 where
  mk ::
  (geom1 : TGeom_geom1)
  (ends : (List Int))
abbrev c_TGeom_geom2 (x : TGeom_geom2) : List D := [di .i64 x.geom1.geom0.layout, di .i64 x.geom1.geom0.stride, eS1 x.geom1.geom0.flatCoords, di .i64 x.geom1.geom0.srid, eS2 x.ends]
abbrev e_TGeom_geom2 (x : TGeom_geom2) : D := .ag (c_TGeom_geom2 x)
structure TGeom_Polygon where
  mk ::
  (geom2 : TGeom_geom2)
abbrev c_TGeom_Polygon (x : TGeom_Polygon) : List D := [di .i64 x.geom2.geom1.geom0.layout, di .i64 x.geom2.geom1.geom0.stride, eS1 x.geom2.geom1.geom0.flatCoords, di .i64 x.geom2.geom1.geom0.srid, eS2 x.geom2.ends]
abbrev e_TGeom_Polygon (x : TGeom_Polygon) : D := .ag (c_TGeom_Polygon x)
def p_zzFits3_k1  (g4 : Unit) : Option Bool := some true
def p_zzFits3_l2 (a0 : (List (List Int))) (K6 : Int → Option (Sum Unit Bool)) (g5 : Int) : Option (Sum Unit Bool) := (cond (decide (g5 < ((a0.length : Nat) : Int))) ((idx a0 g5).bind fun x9 => ((cond (decide ((2147483647 : Int) < ((x9.length : Nat) : Int))) (some (Sum.inr false)) (need (inI .i64 (g5 + (1 : Int))) (K6 (g5 + (1 : Int))))))) (some (Sum.inl ())))
/-- pub-orthodrome/laws.zzFits3 -/
def p_zzFits3 (F : Nat) (a0 : (List (List Int))) : Option Bool := (cond (decide ((2147483647 : Int) < ((a0.length : Nat) : Int))) (some false) ((iter (p_zzFits3_l2 a0) F (0 : Int)).bind fun o => aft o some p_zzFits3_k1))

/-- pub-orthodrome/laws.zzFits2 -/
def p_zzFits2 (F : Nat) (a0 : TImpl_Geom) : Option Bool := (cond (decide ((2147483647 : Int) < ((a0.Flat.length : Nat) : Int))) (some false) (cond (decide ((2147483647 : Int) < ((a0.Ends.length : Nat) : Int))) (some false) ((p_zzFits3 F a0.Endss).bind fun y3 => ((cond (!y3) (some false) (cond (decide ((2147483647 : Int) < ((a0.Kids.length : Nat) : Int))) (some false) (some true)))))))

def p_Weight_k2  (g6 : Int) : Option Int := some g6
def p_Weight_l3 (a0 : TImpl_Geom) (a1 : Int) (Rec_ : TImpl_Geom → Int → Option Int) (K8 : (Int × Int) → Option (Sum Int Int)) (g7 : (Int × Int)) : Option (Sum Int Int) := (cond (decide (g7.2 < ((a0.Kids.length : Nat) : Int))) ((idx a0.Kids g7.2).bind fun x11 => ((cond (decide (a1 < g7.1)) (some (Sum.inr g7.1)) ((Rec_ x11 (IntKind.i64.wrap (a1 - g7.1))).bind fun y14 => (need (inI .i64 (g7.2 + (1 : Int))) (K8 ((IntKind.i64.wrap (g7.1 + y14)), (g7.2 + (1 : Int))))))))) (some (Sum.inl g7.1)))
def p_Weight_k1 (a0 : TImpl_Geom) (a1 : Int) (F : Nat) (Rec_ : TImpl_Geom → Int → Option Int) (g3 : Int) : Option Int := (iter (p_Weight_l3 a0 a1 Rec_) F (g3, (0 : Int))).bind fun o => aft o some p_Weight_k2
def p_Weight_l4 (a0 : TImpl_Geom) (K18 : (Int × Int) → Option (Sum Int Int)) (g17 : (Int × Int)) : Option (Sum Int Int) := (cond (decide (g17.2 < ((a0.Endss.length : Nat) : Int))) ((idx a0.Endss g17.2).bind fun x21 => (need (inI .i64 (g17.2 + (1 : Int))) (K18 ((IntKind.i64.wrap (g17.1 + (IntKind.i64.wrap ((1 : Int) + ((x21.length : Nat) : Int))))), (g17.2 + (1 : Int)))))) (some (Sum.inl g17.1)))
/-- pub-orthodrome/spec.Weight -/
def p_Weight_b (Rec_ : TImpl_Geom → Int → Option Int) (F : Nat) (a0 : TImpl_Geom) (a1 : Int) : Option Int := (iter (p_Weight_l4 a0) F ((IntKind.i64.wrap ((IntKind.i64.wrap ((1 : Int) + ((a0.Flat.length : Nat) : Int))) + ((a0.Ends.length : Nat) : Int))), (0 : Int))).bind fun o => aft o some (p_Weight_k1 a0 a1 F Rec_)
def p_Weight : Nat → TImpl_Geom → Int → Option Int
  | 0, _, _ => none
  | F + 1, a0, a1 => p_Weight_b (fun a0 a1 => p_Weight F a0 a1) F a0 a1

def p_gLayouts_k1 (a0 : TImpl_Geom) (a1 : Int) (g3 : Unit) : Option Bool := (cond (decide (a0.Layout ≤ a1)) (cond (decide ((1 : Int) ≤ a0.Layout)) (some true) (cond (decide (a0.Kind = (7 : Int))) (some (decide ((0 : Int) ≤ a0.Layout))) (some false))) (some false))
def p_gLayouts_l2 (a0 : TImpl_Geom) (a1 : Int) (Rec_ : TImpl_Geom → Int → Option Bool) (K8 : Int → Option (Sum Unit Bool)) (g7 : Int) : Option (Sum Unit Bool) := (cond (decide (g7 < ((a0.Kids.length : Nat) : Int))) ((idx a0.Kids g7).bind fun x11 => ((Rec_ x11 a1).bind fun y13 => ((cond (!y13) (some (Sum.inr false)) (need (inI .i64 (g7 + (1 : Int))) (K8 (g7 + (1 : Int)))))))) (some (Sum.inl ())))
/-- pub-orthodrome/laws.gLayouts -/
def p_gLayouts_b (Rec_ : TImpl_Geom → Int → Option Bool) (F : Nat) (a0 : TImpl_Geom) (a1 : Int) : Option Bool := (iter (p_gLayouts_l2 a0 a1 Rec_) F (0 : Int)).bind fun o => aft o some (p_gLayouts_k1 a0 a1)
def p_gLayouts : Nat → TImpl_Geom → Int → Option Bool
  | 0, _, _ => none
  | F + 1, a0, a1 => p_gLayouts_b (fun a0 a1 => p_gLayouts F a0 a1) F a0 a1

def p_gSmall_k1  (g3 : Unit) : Option Bool := some true
def p_gSmall_l2 (a0 : (List TImpl_Geom)) (F : Nat) (K5 : (Int × Int) → Option (Sum Unit Bool)) (g4 : (Int × Int)) : Option (Sum Unit Bool) := (cond (decide (g4.2 < ((a0.length : Nat) : Int))) ((idx a0 g4.2).bind fun x8 => ((p_Weight F x8 g4.1).bind fun y10 => ((cond (decide ((IntKind.i64.wrap (g4.1 - y10)) < (0 : Int))) (some (Sum.inr false)) ((p_gLayouts F x8 (9 : Int)).bind fun y13 => ((cond (!y13) (some (Sum.inr false)) (need (inI .i64 (g4.2 + (1 : Int))) (K5 ((IntKind.i64.wrap (g4.1 - y10)), (g4.2 + (1 : Int)))))))))))) (some (Sum.inl ())))
/-- pub-orthodrome/laws.gSmall -/
def p_gSmall (F : Nat) (a0 : (List TImpl_Geom)) : Option Bool := (iter (p_gSmall_l2 a0 F) F ((2000 : Int), (0 : Int))).bind fun o => aft o some p_gSmall_k1

/-- pub-orthodrome/spec.Stride -/
def p_Stride (a0 : Int) : Option Int := (cond (decide (a0 < (1 : Int))) (some (0 : Int)) (cond (decide (a0 = (1 : Int))) (some (2 : Int)) (cond (decide (a0 = (2 : Int))) (some (3 : Int)) (cond (decide (a0 = (3 : Int))) (some (3 : Int)) (some a0)))))

/-- pub-orthodrome/spec.Cover -/
def p_Cover (a0 : Int) (a1 : Int) : Option Int := (cond (decide (a0 = (2 : Int))) (cond (decide (a1 = (3 : Int))) (some (4 : Int)) (cond (decide (a0 = (3 : Int))) (cond (decide (a1 = (2 : Int))) (some (4 : Int)) (some (if a0 < a1 then a1 else a0))) (some (if a0 < a1 then a1 else a0)))) (cond (decide (a0 = (3 : Int))) (cond (decide (a1 = (2 : Int))) (some (4 : Int)) (some (if a0 < a1 then a1 else a0))) (some (if a0 < a1 then a1 else a0))))

def p_LayoutOf_k2  (g5 : Int) : Option Int := some g5
def p_LayoutOf_l3 (a0 : TImpl_Geom) (Rec_ : TImpl_Geom → Option Int) (K7 : (Int × Int) → Option (Sum Int Int)) (g6 : (Int × Int)) : Option (Sum Int Int) := (cond (decide (g6.2 < ((a0.Kids.length : Nat) : Int))) ((idx a0.Kids g6.2).bind fun x10 => ((Rec_ x10).bind fun y12 => ((p_Cover g6.1 y12).bind fun y14 => (need (inI .i64 (g6.2 + (1 : Int))) (K7 (y14, (g6.2 + (1 : Int)))))))) (some (Sum.inl g6.1)))
def p_LayoutOf_k1 (a0 : TImpl_Geom) (F : Nat) (Rec_ : TImpl_Geom → Option Int) (g1 : Bool) : Option Int := (cond g1 (some a0.Layout) ((iter (p_LayoutOf_l3 a0 Rec_) F (a0.Layout, (0 : Int))).bind fun o => aft o some p_LayoutOf_k2))
/-- pub-orthodrome/spec.LayoutOf -/
def p_LayoutOf_b (Rec_ : TImpl_Geom → Option Int) (F : Nat) (a0 : TImpl_Geom) : Option Int := (cond (!decide (a0.Kind = (7 : Int))) ((p_LayoutOf_k1 a0 F Rec_) true) ((p_LayoutOf_k1 a0 F Rec_) (!decide (a0.Layout = (0 : Int)))))
def p_LayoutOf : Nat → TImpl_Geom → Option Int
  | 0, _ => none
  | F + 1, a0 => p_LayoutOf_b (fun a0 => p_LayoutOf F a0) F a0

def p_goodEnds_k1  (g3 : Int) : Option (Int × Bool) := some (g3, true)
def p_goodEnds_k3 (g4 : (Int × Int)) (K5 : (Int × Int) → Option (Sum Int (Int × Bool))) (x8 : Int) (g10 : Bool) : Option (Sum Int (Int × Bool)) := (cond g10 (some (Sum.inr (g4.1, false))) (need (inI .i64 (g4.2 + (1 : Int))) (K5 (x8, (g4.2 + (1 : Int))))))
def p_goodEnds_l2 (a0 : (List Int)) (a2 : Int) (a3 : Bool) (K5 : (Int × Int) → Option (Sum Int (Int × Bool))) (g4 : (Int × Int)) : Option (Sum Int (Int × Bool)) := (cond (decide (g4.2 < ((a0.length : Nat) : Int))) ((idx a0 g4.2).bind fun x8 => ((cond (decide (x8 < g4.1)) ((p_goodEnds_k3 g4 K5 x8) true) (need (inI .i64 (x8 - g4.1)) (need (a2 ≠ 0) ((cond (!decide ((Int.tmod (x8 - g4.1) a2) = (0 : Int))) ((p_goodEnds_k3 g4 K5 x8) true) (cond a3 (need (inI .i64 (x8 - g4.1)) ((p_goodEnds_k3 g4 K5 x8) (decide (a2 < (x8 - g4.1))))) ((p_goodEnds_k3 g4 K5 x8) false))))))))) (some (Sum.inl g4.1)))
/-- pub-orthodrome/spec.goodEnds -/
def p_goodEnds (F : Nat) (a0 : (List Int)) (a1 : Int) (a2 : Int) (a3 : Bool) : Option (Int × Bool) := (iter (p_goodEnds_l2 a0 a2 a3) F (a1, (0 : Int))).bind fun o => aft o some p_goodEnds_k1

def p_Good_k2  (g7 : Bool) : Option Bool := some g7
def p_Good_k1 (a0 : TImpl_Geom) (g6 : Unit) : Option Bool := (cond (decide ((0 : Int) ≤ a0.Layout)) (p_Good_k2 (decide ((IntKind.i64.wrap ((IntKind.i64.wrap (((a0.Flat.length : Nat) : Int) + ((a0.Ends.length : Nat) : Int))) + ((a0.Endss.length : Nat) : Int))) = (0 : Int)))) (p_Good_k2 false))
def p_Good_l3 (a0 : TImpl_Geom) (F : Nat) (Rec_ : TImpl_Geom → Option Bool) (K10 : Int → Option (Sum Unit Bool)) (g9 : Int) : Option (Sum Unit Bool) := (cond (decide (g9 < ((a0.Kids.length : Nat) : Int))) ((idx a0.Kids g9).bind fun x13 => ((Rec_ x13).bind fun y15 => ((cond (!y15) (some (Sum.inr false)) (cond (!decide (a0.Layout = (0 : Int))) ((p_LayoutOf F x13).bind fun y19 => ((cond (!decide (y19 = a0.Layout)) (some (Sum.inr false)) (need (inI .i64 (g9 + (1 : Int))) (K10 (g9 + (1 : Int))))))) (need (inI .i64 (g9 + (1 : Int))) (K10 (g9 + (1 : Int))))))))) (some (Sum.inl ())))
def p_Good_k7 (a0 : TImpl_Geom) (g37 : (Int × Bool)) : Option Bool := (cond g37.2 (cond (decide (g37.1 = ((a0.Flat.length : Nat) : Int))) (some (decide (((a0.Ends.length : Nat) : Int) = (0 : Int)))) (some false)) (some false))
def p_Good_l8 (a0 : TImpl_Geom) (F : Nat) (y1 : Int) (K41 : (Int × Bool × Int) → Option (Sum (Int × Bool) Bool)) (g40 : (Int × Bool × Int)) : Option (Sum (Int × Bool) Bool) := (cond (decide (g40.2.2 < ((a0.Endss.length : Nat) : Int))) ((idx a0.Endss g40.2.2).bind fun x44 => ((p_goodEnds F x44 g40.1 y1 false).bind fun y46 => ((cond g40.2.1 (need (inI .i64 (g40.2.2 + (1 : Int))) (K41 (y46.1, y46.2, (g40.2.2 + (1 : Int))))) (need (inI .i64 (g40.2.2 + (1 : Int))) (K41 (y46.1, false, (g40.2.2 + (1 : Int))))))))) (some (Sum.inl (g40.1, g40.2.1))))
def p_Good_k6 (a0 : TImpl_Geom) (F : Nat) (y1 : Int) (g29 : Bool) : Option Bool := (cond g29 ((p_goodEnds F a0.Ends (0 : Int) y1 (decide (a0.Kind = (4 : Int)))).bind fun y31 => ((cond y31.2 (some (decide (y31.1 = ((a0.Flat.length : Nat) : Int)))) (some false)))) (cond (decide (a0.Kind = (6 : Int))) ((iter (p_Good_l8 a0 F y1) F ((0 : Int), true, (0 : Int))).bind fun o => aft o some (p_Good_k7 a0)) (some false)))
def p_Good_k5 (a0 : TImpl_Geom) (F : Nat) (y1 : Int) (g27 : Bool) : Option Bool := (cond g27 (some (decide (((a0.Ends.length : Nat) : Int) = (0 : Int)))) (cond (decide (a0.Kind = (3 : Int))) ((p_Good_k6 a0 F y1) (decide (a0.Kind = (3 : Int)))) (cond (decide (a0.Kind = (4 : Int))) ((p_Good_k6 a0 F y1) (decide (a0.Kind = (4 : Int)))) ((p_Good_k6 a0 F y1) (decide (a0.Kind = (5 : Int)))))))
def p_Good_k4 (a0 : TImpl_Geom) (F : Nat) (y1 : Int) (g24 : Unit) : Option Bool := (cond (decide (a0.Kind = (1 : Int))) (cond (decide (((a0.Ends.length : Nat) : Int) = (0 : Int))) (some (decide (((a0.Flat.length : Nat) : Int) ≤ y1))) (some false)) (cond (decide (a0.Kind = (2 : Int))) ((p_Good_k5 a0 F y1) (decide (a0.Kind = (2 : Int)))) ((p_Good_k5 a0 F y1) (decide (a0.Kind = (8 : Int))))))
/-- pub-orthodrome/spec.Good -/
def p_Good_b (Rec_ : TImpl_Geom → Option Bool) (F : Nat) (a0 : TImpl_Geom) : Option Bool := (p_Stride a0.Layout).bind fun y1 => ((cond (decide (a0.Kind = (7 : Int))) ((iter (p_Good_l3 a0 F Rec_) F (0 : Int)).bind fun o => aft o some (p_Good_k1 a0)) (cond (decide (y1 = (0 : Int))) (some false) (need (y1 ≠ 0) ((cond (!decide ((Int.tmod ((a0.Flat.length : Nat) : Int) y1) = (0 : Int))) (some false) (cond (decide ((0 : Int) < ((a0.Kids.length : Nat) : Int))) (some false) (cond (decide ((0 : Int) < ((a0.Endss.length : Nat) : Int))) (cond (!decide (a0.Kind = (6 : Int))) (some false) ((p_Good_k4 a0 F y1) ())) ((p_Good_k4 a0 F y1) ())))))))))
def p_Good : Nat → TImpl_Geom → Option Bool
  | 0, _ => none
  | F + 1, a0 => p_Good_b (fun a0 => p_Good F a0) F a0

def p_gGood_k1  (g6 : Unit) : Option Bool := some true
def p_gGood_l2 (a0 : (List TImpl_Geom)) (F : Nat) (K8 : Int → Option (Sum Unit Bool)) (g7 : Int) : Option (Sum Unit Bool) := (cond (decide (g7 < ((a0.length : Nat) : Int))) ((idx a0 g7).bind fun x11 => ((p_Good F x11).bind fun y13 => ((cond (!y13) (some (Sum.inr false)) (need (inI .i64 (g7 + (1 : Int))) (K8 (g7 + (1 : Int)))))))) (some (Sum.inl ())))
/-- pub-orthodrome/laws.gGood -/
def p_gGood (F : Nat) (a0 : (List TImpl_Geom)) : Option Bool := (p_gSmall F a0).bind fun y1 => ((cond (!y1) (some false) ((iter (p_gGood_l2 a0 F) F (0 : Int)).bind fun o => aft o some p_gGood_k1)))

/-- pub-orthodrome/laws.gPlain -/
def p_gPlain (F : Nat) (a0 : TImpl_Geom) : Option Bool := (p_gGood F [a0]).bind fun y1 => ((cond y1 (some (!decide (a0.Kind = (7 : Int)))) (some false)))

/-- pub-orthodrome/impl.floats -/
def p_floats (a0 : (List Nat)) : Option (List Nat) := need (a0.length ≤ 4294967296) (some a0)

/-- (pub-orthodrome/pub/gogeom.Layout).Stride -/
def p_Layout_Stride (a0 : Int) : Option Int := (cond (decide (a0 = (0 : Int))) (some (0 : Int)) (cond (decide (a0 = (1 : Int))) (some (2 : Int)) (cond (decide (a0 = (2 : Int))) (some (3 : Int)) (cond (decide (a0 = (3 : Int))) (some (3 : Int)) (cond (decide (a0 = (4 : Int))) (some (4 : Int)) (some a0))))))

/-- pub-orthodrome/pub/gogeom.NewLineStringFlat -/
def p_NewLineStringFlat (a0 : Int) (a1 : (List Nat)) : Option TGeom_LineString := (p_Layout_Stride a0).bind fun y1 => (some (TGeom_LineString.mk (TGeom_geom1.mk (TGeom_geom0.mk a0 y1 a1 (0 : Int)))))

/-- pub-orthodrome/pub/gogeom.NewLinearRingFlat -/
def p_NewLinearRingFlat (a0 : Int) (a1 : (List Nat)) : Option TGeom_LineString := (p_Layout_Stride a0).bind fun y1 => (some (TGeom_LineString.mk (TGeom_geom1.mk (TGeom_geom0.mk a0 y1 a1 (0 : Int)))))

/-- pub-orthodrome/impl.ints -/
def p_ints (a0 : (List Int)) : Option (List Int) := need (a0.length ≤ 4294967296) (some a0)

/-- pub-orthodrome/pub/gogeom.NewPolygonFlat -/
def p_NewPolygonFlat (a0 : Int) (a1 : (List Nat)) (a2 : (List Int)) : Option TGeom_Polygon := (p_Layout_Stride a0).bind fun y1 => (some (TGeom_Polygon.mk (TGeom_geom2.mk (TGeom_geom1.mk (TGeom_geom0.mk a0 y1 a1 (0 : Int))) a2)))

/-- pub-orthodrome/pub/gogeom.NewMultiLineStringFlat -/
def p_NewMultiLineStringFlat (a0 : Int) (a1 : (List Nat)) (a2 : (List Int)) : Option TGeom_Polygon := (p_Layout_Stride a0).bind fun y1 => (some (TGeom_Polygon.mk (TGeom_geom2.mk (TGeom_geom1.mk (TGeom_geom0.mk a0 y1 a1 (0 : Int))) a2)))

def p_Verify_k1 (y34 : TGeom_Polygon) (g49 : Int) : Option (Bool × Bool) := (cond (!decide (g49 = ((y34.geom2.geom1.geom0.flatCoords.length : Nat) : Int))) (some (false, true)) (some (true, true)))
def p_Verify_l2 (y34 : TGeom_Polygon) (K52 : (Int × Int) → Option (Sum Int (Bool × Bool))) (g51 : (Int × Int)) : Option (Sum Int (Bool × Bool)) := (cond (decide (g51.2 < ((y34.geom2.ends.length : Nat) : Int))) ((idx y34.geom2.ends g51.2).bind fun x55 => (need (y34.geom2.geom1.geom0.stride ≠ 0) ((cond (!decide ((Int.tmod x55 y34.geom2.geom1.geom0.stride) = (0 : Int))) ((some (false, true)).bind fun r_ => some (Sum.inr r_)) (cond (decide (x55 < g51.1)) ((some (false, true)).bind fun r_ => some (Sum.inr r_)) (need (inI .i64 (g51.2 + (1 : Int))) (K52 (x55, (g51.2 + (1 : Int)))))))))) (some (Sum.inl g51.1)))
def p_Verify_k3 (y71 : TGeom_Polygon) (g86 : Int) : Option (Bool × Bool) := (cond (!decide (g86 = ((y71.geom2.geom1.geom0.flatCoords.length : Nat) : Int))) (some (false, true)) (some (true, true)))
def p_Verify_l4 (y71 : TGeom_Polygon) (K89 : (Int × Int) → Option (Sum Int (Bool × Bool))) (g88 : (Int × Int)) : Option (Sum Int (Bool × Bool)) := (cond (decide (g88.2 < ((y71.geom2.ends.length : Nat) : Int))) ((idx y71.geom2.ends g88.2).bind fun x92 => (need (y71.geom2.geom1.geom0.stride ≠ 0) ((cond (!decide ((Int.tmod x92 y71.geom2.geom1.geom0.stride) = (0 : Int))) ((some (false, true)).bind fun r_ => some (Sum.inr r_)) (cond (decide (x92 < g88.1)) ((some (false, true)).bind fun r_ => some (Sum.inr r_)) (need (inI .i64 (g88.2 + (1 : Int))) (K89 (x92, (g88.2 + (1 : Int)))))))))) (some (Sum.inl g88.1)))
/-- pub-orthodrome/impl.Verify -/
def p_Verify (F : Nat) (a0 : TImpl_Geom) : Option (Bool × Bool) := (p_floats a0.Flat).bind fun y2 => ((cond (decide (a0.Kind = (1 : Int))) none (cond (decide (a0.Kind = (2 : Int))) ((p_NewLineStringFlat a0.Layout y2).bind fun y6 => ((p_Layout_Stride y6.geom1.geom0.layout).bind fun y11 => ((cond (!decide (y6.geom1.geom0.stride = y11)) (some (false, true)) (cond (decide (y6.geom1.geom0.stride = (0 : Int))) (cond (!decide (((y6.geom1.geom0.flatCoords.length : Nat) : Int) = (0 : Int))) (some (false, true)) (some (true, true))) (need (y6.geom1.geom0.stride ≠ 0) ((cond (!decide ((Int.tmod ((y6.geom1.geom0.flatCoords.length : Nat) : Int) y6.geom1.geom0.stride) = (0 : Int))) (some (false, true)) (some (true, true)))))))))) (cond (decide (a0.Kind = (8 : Int))) ((p_NewLinearRingFlat a0.Layout y2).bind fun y19 => ((p_Layout_Stride y19.geom1.geom0.layout).bind fun y24 => ((cond (!decide (y19.geom1.geom0.stride = y24)) (some (false, true)) (cond (decide (y19.geom1.geom0.stride = (0 : Int))) (cond (!decide (((y19.geom1.geom0.flatCoords.length : Nat) : Int) = (0 : Int))) (some (false, true)) (some (true, true))) (need (y19.geom1.geom0.stride ≠ 0) ((cond (!decide ((Int.tmod ((y19.geom1.geom0.flatCoords.length : Nat) : Int) y19.geom1.geom0.stride) = (0 : Int))) (some (false, true)) (some (true, true)))))))))) (cond (decide (a0.Kind = (3 : Int))) ((p_ints a0.Ends).bind fun y32 => ((p_NewPolygonFlat a0.Layout y2 y32).bind fun y34 => ((p_Layout_Stride y34.geom2.geom1.geom0.layout).bind fun y39 => ((cond (!decide (y34.geom2.geom1.geom0.stride = y39)) (some (false, true)) (cond (decide (y34.geom2.geom1.geom0.stride = (0 : Int))) (cond (!decide (((y34.geom2.geom1.geom0.flatCoords.length : Nat) : Int) = (0 : Int))) (some (false, true)) (cond (!decide (((y34.geom2.ends.length : Nat) : Int) = (0 : Int))) (some (false, true)) (some (true, true)))) (need (y34.geom2.geom1.geom0.stride ≠ 0) ((cond (!decide ((Int.tmod ((y34.geom2.geom1.geom0.flatCoords.length : Nat) : Int) y34.geom2.geom1.geom0.stride) = (0 : Int))) (some (false, true)) ((iter (p_Verify_l2 y34) F ((0 : Int), (0 : Int))).bind fun o => aft o some (p_Verify_k1 y34))))))))))) (cond (decide (a0.Kind = (4 : Int))) none (cond (decide (a0.Kind = (5 : Int))) ((p_ints a0.Ends).bind fun y69 => ((p_NewMultiLineStringFlat a0.Layout y2 y69).bind fun y71 => ((p_Layout_Stride y71.geom2.geom1.geom0.layout).bind fun y76 => ((cond (!decide (y71.geom2.geom1.geom0.stride = y76)) (some (false, true)) (cond (decide (y71.geom2.geom1.geom0.stride = (0 : Int))) (cond (!decide (((y71.geom2.geom1.geom0.flatCoords.length : Nat) : Int) = (0 : Int))) (some (false, true)) (cond (!decide (((y71.geom2.ends.length : Nat) : Int) = (0 : Int))) (some (false, true)) (some (true, true)))) (need (y71.geom2.geom1.geom0.stride ≠ 0) ((cond (!decide ((Int.tmod ((y71.geom2.geom1.geom0.flatCoords.length : Nat) : Int) y71.geom2.geom1.geom0.stride) = (0 : Int))) (some (false, true)) ((iter (p_Verify_l4 y71) F ((0 : Int), (0 : Int))).bind fun o => aft o some (p_Verify_k3 y71))))))))))) (cond (decide (a0.Kind = (6 : Int))) none (cond (decide (a0.Kind = (7 : Int))) none none)))))))))

def p_FnVerifyFlat_k1 (a0 : TImpl_Geom) (a1 : Nat) (F : Nat) (g4 : Bool) : Option Bool := (cond g4 (some true) (need (0 + a0.Flat.length ≤ 4294967296) (need (a0.Flat.length + [a1].length ≤ 4294967296) ((p_Verify F (TImpl_Geom.mk a0.Kind a0.Layout a0.SRID (a0.Flat ++ [a1]) a0.Ends a0.Endss a0.Kids)).bind fun y8 => ((p_Verify F a0).bind fun y10 => ((cond y8.2 (cond (!y8.1) (cond y10.1 (some y10.2) (some false)) (some false)) (some false))))))))
/-- pub-orthodrome/laws.FnVerifyFlat -/
def p_FnVerifyFlat (F : Nat) (a0 : TImpl_Geom) (a1 : Nat) : Option Bool := (p_zzFits2 F a0).bind fun y1 => ((cond (!y1) (some true) ((p_gPlain F a0).bind fun y15 => ((cond (!y15) ((p_FnVerifyFlat_k1 a0 a1 F) true) (cond (decide (a0.Kind = (1 : Int))) ((p_FnVerifyFlat_k1 a0 a1 F) true) (cond (decide (a0.Kind = (4 : Int))) ((p_FnVerifyFlat_k1 a0 a1 F) true) ((p_FnVerifyFlat_k1 a0 a1 F) (decide (a0.Kind = (6 : Int)))))))))))

end Go.Proofs.YtdpkjmoeapibnaaDoor.Wk
