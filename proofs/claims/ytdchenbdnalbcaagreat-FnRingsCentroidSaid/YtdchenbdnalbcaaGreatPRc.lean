/- Printed: what functions of the program compute, as functions of Lean. No condition is laid on their arguments. -/
import Derived.Test.YtdchenbdnalbcaaGreatPureKit
namespace Go.Proofs.YtdchenbdnalbcaaGreat.Wk
open Go.Vm
set_option linter.unusedVariables false
structure TImpl_Geom where
  mk ::
  (Kind : Int)
  (Layout : Int)
  (SRID : Int)
  (Flat : (List Nat))
  (Ends : (List Int))
  (Endss : (List (List Int)))
  (Kids : (List TImpl_Geom))
abbrev keS1 (x : Nat) : D := dfl x
abbrev eS1 (l : List Nat) : D := .ds 1 (l.map keS1)
abbrev keS2 (x : Int) : D := di .i64 x
abbrev eS2 (l : List Int) : D := .ds 1 (l.map keS2)
abbrev keS3 (x : (List Int)) : D := eS2 x
abbrev eS3 (l : List (List Int)) : D := .ds 1 (l.map keS3)
mutual
def c0_TImpl_Geom : TImpl_Geom → List D
  | .mk x0 x1 x2 x3 x4 x5 x6 => [di .i64 x0, di .i64 x1, di .i64 x2, eS1 x3, eS2 x4, eS3 x5, .ds 7 (cs_TImpl_Geom x6)]
def cs_TImpl_Geom : List TImpl_Geom → List D
  | [] => []
  | g :: r => c0_TImpl_Geom g ++ cs_TImpl_Geom r
end
theorem cs_TImpl_Geom_eq : ∀ l : List TImpl_Geom, cs_TImpl_Geom l = l.flatMap c0_TImpl_Geom
  | [] => by simp [cs_TImpl_Geom]
  | g :: r => by simp [cs_TImpl_Geom, cs_TImpl_Geom_eq r]
abbrev eS0 (l : List TImpl_Geom) : D := .ds 7 (l.flatMap c0_TImpl_Geom)
abbrev c_TImpl_Geom (x : TImpl_Geom) : List D := [di .i64 x.Kind, di .i64 x.Layout, di .i64 x.SRID, eS1 x.Flat, eS2 x.Ends, eS3 x.Endss, eS0 x.Kids]
abbrev e_TImpl_Geom (x : TImpl_Geom) : D := .ag (c_TImpl_Geom x)
theorem c0_TImpl_Geom_eq (x : TImpl_Geom) : c0_TImpl_Geom x = c_TImpl_Geom x := by cases x; simp only [c0_TImpl_Geom, cs_TImpl_Geom_eq]
theorem c0_TImpl_Geom_len (x : TImpl_Geom) : (c0_TImpl_Geom x).length = 7 := by rw [c0_TImpl_Geom_eq]; rfl
theorem c0_TImpl_Geom_one (x : TImpl_Geom) : (c0_TImpl_Geom x).all D.one = true := by rw [c0_TImpl_Geom_eq]; rfl
structure TSpec_Whole where
  mk ::
  (Neg : Bool)
  (L : (List Int))
abbrev keS4 (x : Int) : D := di .u32 x
abbrev eS4 (l : List Int) : D := .ds 1 (l.map keS4)
abbrev c_TSpec_Whole (x : TSpec_Whole) : List D := [dbool x.Neg, eS4 x.L]
abbrev e_TSpec_Whole (x : TSpec_Whole) : D := .ag (c_TSpec_Whole x)
structure TSpec_Dyadic where
  mk ::
  (N : TSpec_Whole)
  (E : Int)
abbrev c_TSpec_Dyadic (x : TSpec_Dyadic) : List D := [dbool x.N.Neg, eS4 x.N.L, di .i64 x.E]
abbrev e_TSpec_Dyadic (x : TSpec_Dyadic) : D := .ag (c_TSpec_Dyadic x)
structure TSpec_Point where
  mk ::
  (X : TSpec_Dyadic)
  (Y : TSpec_Dyadic)
abbrev c_TSpec_Point (x : TSpec_Point) : List D := [dbool x.X.N.Neg, eS4 x.X.N.L, di .i64 x.X.E, dbool x.Y.N.Neg, eS4 x.Y.N.L, di .i64 x.Y.E]
abbrev e_TSpec_Point (x : TSpec_Point) : D := .ag (c_TSpec_Point x)
structure TImpl_P2 where
  mk ::
  (X : Nat)
  (Y : Nat)
abbrev c_TImpl_P2 (x : TImpl_P2) : List D := [dfl x.X, dfl x.Y]
abbrev e_TImpl_P2 (x : TImpl_P2) : D := .ag (c_TImpl_P2 x)
abbrev eS5 (l : List TImpl_P2) : D := .ds 2 (l.flatMap c_TImpl_P2)
abbrev eS6 (l : List TSpec_Point) : D := .ds 6 (l.flatMap c_TSpec_Point)
abbrev keS7 (x : (List TSpec_Point)) : D := eS6 x
abbrev eS7 (l : List (List TSpec_Point)) : D := .ds 1 (l.map keS7)
structure TSpec_Ratio where
  mk ::
  (N : TSpec_Dyadic)
  (D : TSpec_Dyadic)
abbrev c_TSpec_Ratio (x : TSpec_Ratio) : List D := [dbool x.N.N.Neg, eS4 x.N.N.L, di .i64 x.N.E, dbool x.D.N.Neg, eS4 x.D.N.L, di .i64 x.D.E]
abbrev e_TSpec_Ratio (x : TSpec_Ratio) : D := .ag (c_TSpec_Ratio x)
structure TGeom_geom0 where
  mk ::
  (layout : Int)
  (stride : Int)
  (flatCoords : (List Nat))
  (srid : Int)
abbrev c_TGeom_geom0 (x : TGeom_geom0) : List D := [di .i64 x.layout, di .i64 x.stride, eS1 x.flatCoords, di .i64 x.srid]
abbrev e_TGeom_geom0 (x : TGeom_geom0) : D := .ag (c_TGeom_geom0 x)
structure TGeom_geom1 where
  mk ::
  (geom0 : TGeom_geom0)
abbrev c_TGeom_geom1 (x : TGeom_geom1) : List D := [di .i64 x.geom0.layout, di .i64 x.geom0.stride, eS1 x.geom0.flatCoords, di .i64 x.geom0.srid]
abbrev e_TGeom_geom1 (x : TGeom_geom1) : D := .ag (c_TGeom_geom1 x)
structure TGeom_LinearRing where
  mk ::
  (geom1 : TGeom_geom1)
abbrev c_TGeom_LinearRing (x : TGeom_LinearRing) : List D := [di .i64 x.geom1.geom0.layout, di .i64 x.geom1.geom0.stride, eS1 x.geom1.geom0.flatCoords, di .i64 x.geom1.geom0.srid]
abbrev e_TGeom_LinearRing (x : TGeom_LinearRing) : D := .ag (c_TGeom_LinearRing x)
/-- pub-orthodrome/spec.Stride -/
def p_Stride (a0 : Int) : Option Int := (cond (decide (a0 < (1 : Int))) (some (0 : Int)) (cond (decide (a0 = (1 : Int))) (some (2 : Int)) (cond (decide (a0 = (2 : Int))) (some (3 : Int)) (cond (decide (a0 = (3 : Int))) (some (3 : Int)) (some a0)))))

/-- pub-orthodrome/spec.Cover -/
def p_Cover (a0 : Int) (a1 : Int) : Option Int := (cond (decide (a0 = (2 : Int))) (cond (decide (a1 = (3 : Int))) (some (4 : Int)) (cond (decide (a0 = (3 : Int))) (cond (decide (a1 = (2 : Int))) (some (4 : Int)) (some (if a0 < a1 then a1 else a0))) (some (if a0 < a1 then a1 else a0)))) (cond (decide (a0 = (3 : Int))) (cond (decide (a1 = (2 : Int))) (some (4 : Int)) (some (if a0 < a1 then a1 else a0))) (some (if a0 < a1 then a1 else a0))))

def p_LayoutOf_k2  (g5 : Int) : Option Int := some g5
def p_LayoutOf_l3 (a0 : TImpl_Geom) (Rec_ : TImpl_Geom → Option Int) (K7 : (Int × Int) → Option (Sum Int Int)) (g6 : (Int × Int)) : Option (Sum Int Int) := (cond (decide (g6.2 < ((a0.Kids.length : Nat) : Int))) ((idx a0.Kids g6.2).bind fun x10 => ((Rec_ x10).bind fun y12 => ((p_Cover g6.1 y12).bind fun y14 => (need (inI .i64 (g6.2 + (1 : Int))) (K7 (y14, (g6.2 + (1 : Int)))))))) (some (Sum.inl g6.1)))
def p_LayoutOf_k1 (a0 : TImpl_Geom) (F : Nat) (Rec_ : TImpl_Geom → Option Int) (g1 : Bool) : Option Int := (cond g1 (some a0.Layout) ((iter (p_LayoutOf_l3 a0 Rec_) F (a0.Layout, (0 : Int))).bind fun o => aft o some p_LayoutOf_k2))
/-- pub-orthodrome/spec.LayoutOf -/
def p_LayoutOf_b (Rec_ : TImpl_Geom → Option Int) (F : Nat) (a0 : TImpl_Geom) : Option Int := (cond (!decide (a0.Kind = (7 : Int))) ((p_LayoutOf_k1 a0 F Rec_) true) ((p_LayoutOf_k1 a0 F Rec_) (!decide (a0.Layout = (0 : Int)))))
def p_LayoutOf : Nat → TImpl_Geom → Option Int
  | 0, _ => none
  | F + 1, a0 => p_LayoutOf_b (fun a0 => p_LayoutOf F a0) F a0

def p_goodEnds_k1  (g3 : Int) : Option (Int × Bool) := some (g3, true)
def p_goodEnds_k3 (g4 : (Int × Int)) (K5 : (Int × Int) → Option (Sum Int (Int × Bool))) (x8 : Int) (g10 : Bool) : Option (Sum Int (Int × Bool)) := (cond g10 (some (Sum.inr (g4.1, false))) (need (inI .i64 (g4.2 + (1 : Int))) (K5 (x8, (g4.2 + (1 : Int))))))
def p_goodEnds_l2 (a0 : (List Int)) (a2 : Int) (a3 : Bool) (K5 : (Int × Int) → Option (Sum Int (Int × Bool))) (g4 : (Int × Int)) : Option (Sum Int (Int × Bool)) := (cond (decide (g4.2 < ((a0.length : Nat) : Int))) ((idx a0 g4.2).bind fun x8 => ((cond (decide (x8 < g4.1)) ((p_goodEnds_k3 g4 K5 x8) true) (need (inI .i64 (x8 - g4.1)) (need (a2 ≠ 0) ((cond (!decide ((Int.tmod (x8 - g4.1) a2) = (0 : Int))) ((p_goodEnds_k3 g4 K5 x8) true) (cond a3 (need (inI .i64 (x8 - g4.1)) ((p_goodEnds_k3 g4 K5 x8) (decide (a2 < (x8 - g4.1))))) ((p_goodEnds_k3 g4 K5 x8) false))))))))) (some (Sum.inl g4.1)))
/-- pub-orthodrome/spec.goodEnds -/
def p_goodEnds (F : Nat) (a0 : (List Int)) (a1 : Int) (a2 : Int) (a3 : Bool) : Option (Int × Bool) := (iter (p_goodEnds_l2 a0 a2 a3) F (a1, (0 : Int))).bind fun o => aft o some p_goodEnds_k1

def p_Good_k2  (g7 : Bool) : Option Bool := some g7
def p_Good_k1 (a0 : TImpl_Geom) (g6 : Unit) : Option Bool := (cond (decide ((0 : Int) ≤ a0.Layout)) (p_Good_k2 (decide ((IntKind.i64.wrap ((IntKind.i64.wrap (((a0.Flat.length : Nat) : Int) + ((a0.Ends.length : Nat) : Int))) + ((a0.Endss.length : Nat) : Int))) = (0 : Int)))) (p_Good_k2 false))
def p_Good_l3 (a0 : TImpl_Geom) (F : Nat) (Rec_ : TImpl_Geom → Option Bool) (K10 : Int → Option (Sum Unit Bool)) (g9 : Int) : Option (Sum Unit Bool) := (cond (decide (g9 < ((a0.Kids.length : Nat) : Int))) ((idx a0.Kids g9).bind fun x13 => ((Rec_ x13).bind fun y15 => ((cond (!y15) (some (Sum.inr false)) (cond (!decide (a0.Layout = (0 : Int))) ((p_LayoutOf F x13).bind fun y19 => ((cond (!decide (y19 = a0.Layout)) (some (Sum.inr false)) (need (inI .i64 (g9 + (1 : Int))) (K10 (g9 + (1 : Int))))))) (need (inI .i64 (g9 + (1 : Int))) (K10 (g9 + (1 : Int))))))))) (some (Sum.inl ())))
def p_Good_k7 (a0 : TImpl_Geom) (g37 : (Int × Bool)) : Option Bool := (cond g37.2 (cond (decide (g37.1 = ((a0.Flat.length : Nat) : Int))) (some (decide (((a0.Ends.length : Nat) : Int) = (0 : Int)))) (some false)) (some false))
def p_Good_l8 (a0 : TImpl_Geom) (F : Nat) (y1 : Int) (K41 : (Int × Bool × Int) → Option (Sum (Int × Bool) Bool)) (g40 : (Int × Bool × Int)) : Option (Sum (Int × Bool) Bool) := (cond (decide (g40.2.2 < ((a0.Endss.length : Nat) : Int))) ((idx a0.Endss g40.2.2).bind fun x44 => ((p_goodEnds F x44 g40.1 y1 false).bind fun y46 => ((cond g40.2.1 (need (inI .i64 (g40.2.2 + (1 : Int))) (K41 (y46.1, y46.2, (g40.2.2 + (1 : Int))))) (need (inI .i64 (g40.2.2 + (1 : Int))) (K41 (y46.1, false, (g40.2.2 + (1 : Int))))))))) (some (Sum.inl (g40.1, g40.2.1))))
def p_Good_k6 (a0 : TImpl_Geom) (F : Nat) (y1 : Int) (g29 : Bool) : Option Bool := (cond g29 ((p_goodEnds F a0.Ends (0 : Int) y1 (decide (a0.Kind = (4 : Int)))).bind fun y31 => ((cond y31.2 (some (decide (y31.1 = ((a0.Flat.length : Nat) : Int)))) (some false)))) (cond (decide (a0.Kind = (6 : Int))) ((iter (p_Good_l8 a0 F y1) F ((0 : Int), true, (0 : Int))).bind fun o => aft o some (p_Good_k7 a0)) (some false)))
def p_Good_k5 (a0 : TImpl_Geom) (F : Nat) (y1 : Int) (g27 : Bool) : Option Bool := (cond g27 (some (decide (((a0.Ends.length : Nat) : Int) = (0 : Int)))) (cond (decide (a0.Kind = (3 : Int))) ((p_Good_k6 a0 F y1) (decide (a0.Kind = (3 : Int)))) (cond (decide (a0.Kind = (4 : Int))) ((p_Good_k6 a0 F y1) (decide (a0.Kind = (4 : Int)))) ((p_Good_k6 a0 F y1) (decide (a0.Kind = (5 : Int)))))))
def p_Good_k4 (a0 : TImpl_Geom) (F : Nat) (y1 : Int) (g24 : Unit) : Option Bool := (cond (decide (a0.Kind = (1 : Int))) (cond (decide (((a0.Ends.length : Nat) : Int) = (0 : Int))) (some (decide (((a0.Flat.length : Nat) : Int) ≤ y1))) (some false)) (cond (decide (a0.Kind = (2 : Int))) ((p_Good_k5 a0 F y1) (decide (a0.Kind = (2 : Int)))) ((p_Good_k5 a0 F y1) (decide (a0.Kind = (8 : Int))))))
/-- pub-orthodrome/spec.Good -/
def p_Good_b (Rec_ : TImpl_Geom → Option Bool) (F : Nat) (a0 : TImpl_Geom) : Option Bool := (p_Stride a0.Layout).bind fun y1 => ((cond (decide (a0.Kind = (7 : Int))) ((iter (p_Good_l3 a0 F Rec_) F (0 : Int)).bind fun o => aft o some (p_Good_k1 a0)) (cond (decide (y1 = (0 : Int))) (some false) (need (y1 ≠ 0) ((cond (!decide ((Int.tmod ((a0.Flat.length : Nat) : Int) y1) = (0 : Int))) (some false) (cond (decide ((0 : Int) < ((a0.Kids.length : Nat) : Int))) (some false) (cond (decide ((0 : Int) < ((a0.Endss.length : Nat) : Int))) (cond (!decide (a0.Kind = (6 : Int))) (some false) ((p_Good_k4 a0 F y1) ())) ((p_Good_k4 a0 F y1) ())))))))))
def p_Good : Nat → TImpl_Geom → Option Bool
  | 0, _ => none
  | F + 1, a0 => p_Good_b (fun a0 => p_Good F a0) F a0

def p_wholeTo_k1  (g3 : Unit) : Option Bool := some true
def p_wholeTo_l2 (a0 : Nat) (a1 : (List Nat)) (K5 : Int → Option (Sum Unit Bool)) (g4 : Int) : Option (Sum Unit Bool) := (cond (decide (g4 < ((a1.length : Nat) : Int))) ((idx a1 g4).bind fun x8 => ((cond (!feq x8 (Flt.truncN x8)) (some (Sum.inr false)) (cond (fgt (Flt.fabs x8) a0) (some (Sum.inr false)) (need (inI .i64 (g4 + (1 : Int))) (K5 (g4 + (1 : Int)))))))) (some (Sum.inl ())))
/-- pub-orthodrome/laws.wholeTo -/
def p_wholeTo (F : Nat) (a0 : Nat) (a1 : (List Nat)) : Option Bool := (iter (p_wholeTo_l2 a0 a1) F (0 : Int)).bind fun o => aft o some p_wholeTo_k1

def p_planeTo_k1  (g3 : Unit) : Option Bool := some true
def p_planeTo_l2 (a0 : Nat) (a1 : (List TImpl_P2)) (F : Nat) (K5 : Int → Option (Sum Unit Bool)) (g4 : Int) : Option (Sum Unit Bool) := (cond (decide (g4 < ((a1.length : Nat) : Int))) ((idx a1 g4).bind fun x8 => ((p_wholeTo F a0 [x8.X, x8.Y]).bind fun y10 => ((cond (!y10) (some (Sum.inr false)) (need (inI .i64 (g4 + (1 : Int))) (K5 (g4 + (1 : Int)))))))) (some (Sum.inl ())))
/-- pub-orthodrome/laws.planeTo -/
def p_planeTo (F : Nat) (a0 : Nat) (a1 : (List TImpl_P2)) : Option Bool := (iter (p_planeTo_l2 a0 a1 F) F (0 : Int)).bind fun o => aft o some p_planeTo_k1

def p_flatTo_k3 (a2 : Nat) (F : Nat) (g9 : (List TImpl_P2)) : Option ((List TImpl_P2) × Bool) := (p_planeTo F a2 g9).bind fun y10 => (some (g9, y10))
def p_flatTo_l4 (a1 : (List Nat)) (y3 : Int) (K13 : (Int × (List TImpl_P2)) → Option (Sum (List TImpl_P2) ((List TImpl_P2) × Bool))) (g12 : (Int × (List TImpl_P2))) : Option (Sum (List TImpl_P2) ((List TImpl_P2) × Bool)) := (cond (decide (g12.1 < ((a1.length : Nat) : Int))) ((idx a1 g12.1).bind fun x16 => (need (inI .i64 (g12.1 + (1 : Int))) ((idx a1 (g12.1 + (1 : Int))).bind fun x19 => (need (g12.2.length + [(TImpl_P2.mk x16 x19)].length ≤ 4294967296) (need (inI .i64 (g12.1 + y3)) (K13 ((g12.1 + y3), (g12.2 ++ [(TImpl_P2.mk x16 x19)])))))))) (some (Sum.inl g12.2)))
def p_flatTo_k2 (a1 : (List Nat)) (a2 : Nat) (F : Nat) (y3 : Int) (g5 : Bool) : Option ((List TImpl_P2) × Bool) := (cond g5 (some ([], false)) ((iter (p_flatTo_l4 a1 y3) F ((0 : Int), [])).bind fun o => aft o some (p_flatTo_k3 a2 F)))
def p_flatTo_k1 (a0 : Int) (a1 : (List Nat)) (a2 : Nat) (a3 : Int) (F : Nat) (g1 : Bool) : Option ((List TImpl_P2) × Bool) := (cond g1 (some ([], false)) ((p_Stride a0).bind fun y3 => (need (y3 ≠ 0) ((cond (!decide ((Int.tmod ((a1.length : Nat) : Int) y3) = (0 : Int))) ((p_flatTo_k2 a1 a2 F y3) true) (need (inI .i64 (y3 * a3)) ((p_flatTo_k2 a1 a2 F y3) (decide ((y3 * a3) < ((a1.length : Nat) : Int))))))))))
/-- pub-orthodrome/laws.flatTo -/
def p_flatTo (F : Nat) (a0 : Int) (a1 : (List Nat)) (a2 : Nat) (a3 : Int) : Option ((List TImpl_P2) × Bool) := (cond (decide (a0 < (1 : Int))) ((p_flatTo_k1 a0 a1 a2 a3 F) true) ((p_flatTo_k1 a0 a1 a2 a3 F) (decide ((8 : Int) < a0))))

def p_trim_k1  (g3 : (List Int)) : Option (List Int) := some g3
def p_trim_l2  (K5 : (List Int) → Option (Sum (List Int) (List Int))) (g4 : (List Int)) : Option (Sum (List Int) (List Int)) := (cond (decide ((0 : Int) < ((g4.length : Nat) : Int))) (need (inI .i64 (((g4.length : Nat) : Int) - (1 : Int))) ((idx g4 (((g4.length : Nat) : Int) - (1 : Int))).bind fun x9 => ((cond (decide (x9 = (0 : Int))) (need (inI .i64 (((g4.length : Nat) : Int) - (1 : Int))) (need ((True ∧ 0 ≤ (((g4.length : Nat) : Int) - (1 : Int))) ∧ 0 ≤ ((((g4.length : Nat) : Int) - (1 : Int))).toNat ∧ ((((g4.length : Nat) : Int) - (1 : Int))).toNat ≤ g4.length) (K5 ((g4.drop 0).take (((((g4.length : Nat) : Int) - (1 : Int))).toNat - 0))))) (some (Sum.inl g4)))))) (some (Sum.inl g4)))
/-- pub-orthodrome/spec.trim -/
def p_trim (F : Nat) (a0 : (List Int)) : Option (List Int) := (iter p_trim_l2 F a0).bind fun o => aft o some p_trim_k1

def p_WholeOf_k1 (a0 : Int) (F : Nat) (g1 : Int) : Option TSpec_Whole := need (0 ≤ g1) ((p_trim F [(IntKind.u32.wrap g1), (IntKind.u32.wrap (g1 / 2 ^ 32))]).bind fun y3 => (some (TSpec_Whole.mk (decide (a0 < (0 : Int))) y3)))
/-- pub-orthodrome/spec.WholeOf -/
def p_WholeOf (F : Nat) (a0 : Int) : Option TSpec_Whole := (cond (decide (a0 < (0 : Int))) ((p_WholeOf_k1 a0 F) (IntKind.u64.wrap (-(IntKind.u64.wrap a0)))) ((p_WholeOf_k1 a0 F) (IntKind.u64.wrap a0)))

def p_DyadicOf_k1 (a0 : Nat) (F : Nat) (g2 : (Int × Int)) : Option TSpec_Dyadic := need (0 ≤ ((a0 : Nat) : Int)) ((cond (decide ((((a0 : Nat) : Int) / 2 ^ 63) = (1 : Int))) (need (inI .i64 (-g2.1)) ((p_WholeOf F (-g2.1)).bind fun y6 => (need (inI .i64 (g2.2 - (1075 : Int))) (some (TSpec_Dyadic.mk y6 (g2.2 - (1075 : Int))))))) ((p_WholeOf F g2.1).bind fun y9 => (need (inI .i64 (g2.2 - (1075 : Int))) (some (TSpec_Dyadic.mk y9 (g2.2 - (1075 : Int))))))))
/-- pub-orthodrome/spec.DyadicOf -/
def p_DyadicOf (F : Nat) (a0 : Nat) : Option TSpec_Dyadic := need (0 ≤ ((a0 : Nat) : Int)) ((cond (decide ((IntKind.i64.wrap (bits .and .u64 (((a0 : Nat) : Int) / 2 ^ 52) (2047 : Int))) = (2047 : Int))) (some (TSpec_Dyadic.mk (TSpec_Whole.mk false []) (0 : Int))) (cond (decide ((IntKind.i64.wrap (bits .and .u64 (((a0 : Nat) : Int) / 2 ^ 52) (2047 : Int))) = (0 : Int))) ((p_DyadicOf_k1 a0 F) ((IntKind.i64.wrap (bits .and .u64 ((a0 : Nat) : Int) (4503599627370495 : Int))), (1 : Int))) (need (inI .i64 ((IntKind.i64.wrap (bits .and .u64 ((a0 : Nat) : Int) (4503599627370495 : Int))) + (4503599627370496 : Int))) ((p_DyadicOf_k1 a0 F) (((IntKind.i64.wrap (bits .and .u64 ((a0 : Nat) : Int) (4503599627370495 : Int))) + (4503599627370496 : Int)), (IntKind.i64.wrap (bits .and .u64 (((a0 : Nat) : Int) / 2 ^ 52) (2047 : Int)))))))))

/-- pub-orthodrome/spec.PointOf -/
def p_PointOf (F : Nat) (a0 : Nat) (a1 : Nat) : Option TSpec_Point := (p_DyadicOf F a0).bind fun y1 => ((p_DyadicOf F a1).bind fun y3 => (some (TSpec_Point.mk y1 y3)))

def p_Places_k1  (g3 : (List TSpec_Point)) : Option (List TSpec_Point) := some g3
def p_Places_k3 (a0 : (List Nat)) (a1 : Int) (F : Nat) (g4 : (Int × (List TSpec_Point))) (K5 : (Int × (List TSpec_Point)) → Option (Sum (List TSpec_Point) (List TSpec_Point))) (g7 : Bool) : Option (Sum (List TSpec_Point) (List TSpec_Point)) := (cond g7 ((idx a0 g4.1).bind fun x9 => (need (inI .i64 (g4.1 + (1 : Int))) ((idx a0 (g4.1 + (1 : Int))).bind fun x12 => ((p_PointOf F x9 x12).bind fun y14 => (need (g4.2.length + [y14].length ≤ 4294967296) (need (inI .i64 (g4.1 + a1)) (K5 ((g4.1 + a1), (g4.2 ++ [y14]))))))))) (some (Sum.inl g4.2)))
def p_Places_l2 (a0 : (List Nat)) (a1 : Int) (F : Nat) (K5 : (Int × (List TSpec_Point)) → Option (Sum (List TSpec_Point) (List TSpec_Point))) (g4 : (Int × (List TSpec_Point))) : Option (Sum (List TSpec_Point) (List TSpec_Point)) := (cond (decide ((1 : Int) < a1)) (need (inI .i64 (g4.1 + a1)) ((p_Places_k3 a0 a1 F g4 K5) (decide ((g4.1 + a1) ≤ ((a0.length : Nat) : Int))))) ((p_Places_k3 a0 a1 F g4 K5) false))
/-- pub-orthodrome/spec.Places -/
def p_Places (F : Nat) (a0 : (List Nat)) (a1 : Int) : Option (List TSpec_Point) := (iter (p_Places_l2 a0 a1 F) F ((0 : Int), [])).bind fun o => aft o some p_Places_k1

def p_Lines_k1  (g3 : (List (List TSpec_Point))) : Option (List (List TSpec_Point)) := some g3
def p_Lines_k3 (a0 : (List Nat)) (a2 : Int) (F : Nat) (g4 : (Int × Int × (List (List TSpec_Point)))) (K5 : (Int × Int × (List (List TSpec_Point))) → Option (Sum (List (List TSpec_Point)) (List (List TSpec_Point)))) (x8 : Int) (g10 : Bool) : Option (Sum (List (List TSpec_Point)) (List (List TSpec_Point))) := (cond g10 (need ((0 ≤ g4.1 ∧ 0 ≤ x8) ∧ (g4.1).toNat ≤ (x8).toNat ∧ (x8).toNat ≤ a0.length) ((p_Places F ((a0.drop (g4.1).toNat).take ((x8).toNat - (g4.1).toNat)) a2).bind fun y13 => (need (g4.2.2.length + [y13].length ≤ 4294967296) (need (inI .i64 (g4.2.1 + (1 : Int))) (K5 ((if g4.1 < x8 then x8 else g4.1), (g4.2.1 + (1 : Int)), (g4.2.2 ++ [y13]))))))) (need (inI .i64 (g4.2.1 + (1 : Int))) (K5 ((if g4.1 < x8 then x8 else g4.1), (g4.2.1 + (1 : Int)), g4.2.2))))
def p_Lines_l2 (a0 : (List Nat)) (a1 : (List Int)) (a2 : Int) (F : Nat) (K5 : (Int × Int × (List (List TSpec_Point))) → Option (Sum (List (List TSpec_Point)) (List (List TSpec_Point)))) (g4 : (Int × Int × (List (List TSpec_Point)))) : Option (Sum (List (List TSpec_Point)) (List (List TSpec_Point))) := (cond (decide (g4.2.1 < ((a1.length : Nat) : Int))) ((idx a1 g4.2.1).bind fun x8 => ((cond (decide (g4.1 ≤ x8)) ((p_Lines_k3 a0 a2 F g4 K5 x8) (decide (x8 ≤ ((a0.length : Nat) : Int)))) ((p_Lines_k3 a0 a2 F g4 K5 x8) false)))) (some (Sum.inl g4.2.2)))
/-- pub-orthodrome/spec.Lines -/
def p_Lines (F : Nat) (a0 : (List Nat)) (a1 : (List Int)) (a2 : Int) : Option (List (List TSpec_Point)) := (iter (p_Lines_l2 a0 a1 a2 F) F ((0 : Int), (0 : Int), [])).bind fun o => aft o some p_Lines_k1

def p_kindred_k2  (g7 : (Int × (List (List TSpec_Point)))) : Option ((List (List TSpec_Point)) × Bool) := some (g7.2, (decide (g7.1 ≤ (100 : Int))))
def p_kindred_k5 (F : Nat) (y3 : Int) (g8 : (Int × Int × (List (List TSpec_Point)))) (K9 : (Int × Int × (List (List TSpec_Point))) → Option (Sum (Int × (List (List TSpec_Point))) ((List (List TSpec_Point)) × Bool))) (x12 : TImpl_Geom) (g21 : (List Int)) : Option (Sum (Int × (List (List TSpec_Point))) ((List (List TSpec_Point)) × Bool)) := (p_Lines F x12.Flat g21 y3).bind fun y22 => (need (g8.2.2.length + y22.length ≤ 4294967296) (need (inI .i64 (g8.2.1 + (1 : Int))) (K9 ((g8.1 + (Int.tdiv ((x12.Flat.length : Nat) : Int) y3)), (g8.2.1 + (1 : Int)), (g8.2.2 ++ y22)))))
def p_kindred_k4 (a0 : Int) (a1 : Int) (F : Nat) (y3 : Int) (g8 : (Int × Int × (List (List TSpec_Point)))) (K9 : (Int × Int × (List (List TSpec_Point))) → Option (Sum (Int × (List (List TSpec_Point))) ((List (List TSpec_Point)) × Bool))) (x12 : TImpl_Geom) (g14 : Bool) : Option (Sum (Int × (List (List TSpec_Point))) ((List (List TSpec_Point)) × Bool)) := (cond g14 (some (Sum.inr ([], false))) ((p_flatTo F a1 x12.Flat (4634204016564240384 : Nat) (100 : Int)).bind fun y16 => ((cond (!y16.2) (some (Sum.inr ([], false))) (need (y3 ≠ 0 ∧ inI .i64 (Int.tdiv ((x12.Flat.length : Nat) : Int) y3)) (need (inI .i64 (g8.1 + (Int.tdiv ((x12.Flat.length : Nat) : Int) y3))) ((cond (decide (a0 = (2 : Int))) ((p_kindred_k5 F y3 g8 K9 x12) [((x12.Flat.length : Nat) : Int)]) (cond (decide (a0 = (8 : Int))) ((p_kindred_k5 F y3 g8 K9 x12) [((x12.Flat.length : Nat) : Int)]) (cond (decide (a0 = (1 : Int))) ((p_kindred_k5 F y3 g8 K9 x12) [((x12.Flat.length : Nat) : Int)]) ((p_kindred_k5 F y3 g8 K9 x12) x12.Ends)))))))))))
def p_kindred_l3 (a0 : Int) (a1 : Int) (a2 : (List TImpl_Geom)) (F : Nat) (y3 : Int) (K9 : (Int × Int × (List (List TSpec_Point))) → Option (Sum (Int × (List (List TSpec_Point))) ((List (List TSpec_Point)) × Bool))) (g8 : (Int × Int × (List (List TSpec_Point)))) : Option (Sum (Int × (List (List TSpec_Point))) ((List (List TSpec_Point)) × Bool)) := (cond (decide (g8.2.1 < ((a2.length : Nat) : Int))) ((idx a2 g8.2.1).bind fun x12 => ((cond (!decide (x12.Kind = a0)) ((p_kindred_k4 a0 a1 F y3 g8 K9 x12) true) (cond (!decide (x12.Layout = a1)) ((p_kindred_k4 a0 a1 F y3 g8 K9 x12) true) ((p_Good F x12).bind fun y31 => ((cond (!y31) ((p_kindred_k4 a0 a1 F y3 g8 K9 x12) true) ((p_kindred_k4 a0 a1 F y3 g8 K9 x12) (decide (((x12.Flat.length : Nat) : Int) = (0 : Int))))))))))) (some (Sum.inl (g8.1, g8.2.2))))
def p_kindred_k1 (a0 : Int) (a1 : Int) (a2 : (List TImpl_Geom)) (F : Nat) (g1 : Bool) : Option ((List (List TSpec_Point)) × Bool) := (cond g1 (some ([], false)) ((p_Stride a1).bind fun y3 => ((iter (p_kindred_l3 a0 a1 a2 F y3) F ((0 : Int), (0 : Int), [])).bind fun o => aft o some p_kindred_k2)))
/-- pub-orthodrome/laws.kindred -/
def p_kindred (F : Nat) (a0 : Int) (a1 : Int) (a2 : (List TImpl_Geom)) : Option ((List (List TSpec_Point)) × Bool) := (cond (decide (a1 < (1 : Int))) ((p_kindred_k1 a0 a1 a2 F) true) (cond (decide ((8 : Int) < a1)) ((p_kindred_k1 a0 a1 a2 F) true) ((p_kindred_k1 a0 a1 a2 F) (decide ((20 : Int) < ((a2.length : Nat) : Int))))))

/-- (pub-orthodrome/spec.Whole).Minus -/
def p_Whole_Minus (a0 : TSpec_Whole) : Option TSpec_Whole := (cond (!a0.Neg) (some (TSpec_Whole.mk (decide ((0 : Int) < ((a0.L.length : Nat) : Int))) a0.L)) (some (TSpec_Whole.mk false a0.L)))

/-- (pub-orthodrome/spec.Dyadic).Minus -/
def p_Dyadic_Minus (a0 : TSpec_Dyadic) : Option TSpec_Dyadic := (p_Whole_Minus a0.N).bind fun y1 => (some (TSpec_Dyadic.mk y1 a0.E))

/-- (pub-orthodrome/spec.Whole).Sign -/
def p_Whole_Sign (a0 : TSpec_Whole) : Option Int := (cond (decide (((a0.L.length : Nat) : Int) = (0 : Int))) (some (0 : Int)) (cond a0.Neg (some (-1 : Int)) (some (1 : Int))))

/-- (pub-orthodrome/spec.Dyadic).Sign -/
def p_Dyadic_Sign (a0 : TSpec_Dyadic) : Option Int := (p_Whole_Sign a0.N).bind fun y1 => (some y1)

def p_Whole_Up_k1 (a0 : TSpec_Whole) (F : Nat) (g9 : (Int × (List Int))) : Option TSpec_Whole := need (g9.2.length + [g9.1].length ≤ 4294967296) ((p_trim F (g9.2 ++ [g9.1])).bind fun y11 => (some (TSpec_Whole.mk a0.Neg y11)))
def p_Whole_Up_l2 (a0 : TSpec_Whole) (a1 : Int) (K14 : (Int × Int × (List Int)) → Option (Sum (Int × (List Int)) TSpec_Whole)) (g13 : (Int × Int × (List Int))) : Option (Sum (Int × (List Int)) TSpec_Whole) := (cond (decide (g13.2.1 < ((a0.L.length : Nat) : Int))) ((idx a0.L g13.2.1).bind fun x17 => (need ((32 : Int) ≠ 0) (need (0 ≤ (Int.tmod a1 (32 : Int)) ∧ (Int.tmod a1 (32 : Int)) ≤ (IntKind.u64.bits : Int)) (need (g13.2.2.length + [(bits .or .u32 (IntKind.u32.wrap (IntKind.u64.wrap ((IntKind.u64.wrap x17) * 2 ^ ((Int.tmod a1 (32 : Int))).toNat))) g13.1)].length ≤ 4294967296) (need (0 ≤ (IntKind.u64.wrap ((IntKind.u64.wrap x17) * 2 ^ ((Int.tmod a1 (32 : Int))).toNat))) (need (inI .i64 (g13.2.1 + (1 : Int))) (K14 ((IntKind.u32.wrap ((IntKind.u64.wrap ((IntKind.u64.wrap x17) * 2 ^ ((Int.tmod a1 (32 : Int))).toNat)) / 2 ^ 32)), (g13.2.1 + (1 : Int)), (g13.2.2 ++ [(bits .or .u32 (IntKind.u32.wrap (IntKind.u64.wrap ((IntKind.u64.wrap x17) * 2 ^ ((Int.tmod a1 (32 : Int))).toNat))) g13.1)]))))))))) (some (Sum.inl (g13.1, g13.2.2))))
/-- (pub-orthodrome/spec.Whole).Up -/
def p_Whole_Up (F : Nat) (a0 : TSpec_Whole) (a1 : Int) : Option TSpec_Whole := (cond (decide (((a0.L.length : Nat) : Int) = (0 : Int))) (some a0) (need ((32 : Int) ≠ 0 ∧ inI .i64 (Int.tdiv a1 (32 : Int))) (need ((32 : Int) ≠ 0 ∧ inI .i64 (Int.tdiv a1 (32 : Int))) (need (inI .i64 ((Int.tdiv a1 (32 : Int)) + ((a0.L.length : Nat) : Int))) (need (inI .i64 (((Int.tdiv a1 (32 : Int)) + ((a0.L.length : Nat) : Int)) + (1 : Int))) (need ((0 ≤ (Int.tdiv a1 (32 : Int)) ∧ (Int.tdiv a1 (32 : Int)) ≤ (((Int.tdiv a1 (32 : Int)) + ((a0.L.length : Nat) : Int)) + (1 : Int))) ∧ (((Int.tdiv a1 (32 : Int)) + ((a0.L.length : Nat) : Int)) + (1 : Int)) ≤ 4294967296) ((iter (p_Whole_Up_l2 a0 a1) F ((0 : Int), (0 : Int), (List.replicate ((Int.tdiv a1 (32 : Int))).toNat (0 : Int)))).bind fun o => aft o some (p_Whole_Up_k1 a0 F))))))))

def p_addLimbs_k2 (F : Nat) (g6 : (Int × (List Int))) : Option (List Int) := need (g6.2.length + [(IntKind.u32.wrap g6.1)].length ≤ 4294967296) ((p_trim F (g6.2 ++ [(IntKind.u32.wrap g6.1)])).bind fun y8 => (some y8))
def p_addLimbs_k4 (g10 : (Int × Int × (List Int))) (K11 : (Int × Int × (List Int)) → Option (Sum (Int × (List Int)) (List Int))) (g17 : Int) : Option (Sum (Int × (List Int)) (List Int)) := need (g10.2.2.length + [(IntKind.u32.wrap g17)].length ≤ 4294967296) (need (0 ≤ g17) (need (inI .i64 (g10.2.1 + (1 : Int))) (K11 ((g17 / 2 ^ 32), (g10.2.1 + (1 : Int)), (g10.2.2 ++ [(IntKind.u32.wrap g17)])))))
def p_addLimbs_l3 (g1 : ((List Int) × (List Int))) (K11 : (Int × Int × (List Int)) → Option (Sum (Int × (List Int)) (List Int))) (g10 : (Int × Int × (List Int))) : Option (Sum (Int × (List Int)) (List Int)) := (cond (decide (g10.2.1 < ((g1.1.length : Nat) : Int))) ((idx g1.1 g10.2.1).bind fun x14 => (need (inI .u64 ((IntKind.u64.wrap x14) + g10.1)) ((cond (decide (g10.2.1 < ((g1.2.length : Nat) : Int))) ((idx g1.2 g10.2.1).bind fun x22 => (need (inI .u64 (((IntKind.u64.wrap x14) + g10.1) + (IntKind.u64.wrap x22))) ((p_addLimbs_k4 g10 K11) (((IntKind.u64.wrap x14) + g10.1) + (IntKind.u64.wrap x22))))) ((p_addLimbs_k4 g10 K11) ((IntKind.u64.wrap x14) + g10.1)))))) (some (Sum.inl (g10.1, g10.2.2))))
def p_addLimbs_k1 (F : Nat) (g1 : ((List Int) × (List Int))) : Option (List Int) := need (inI .i64 (((g1.1.length : Nat) : Int) + (1 : Int))) (need ((0 ≤ (0 : Int) ∧ (0 : Int) ≤ (((g1.1.length : Nat) : Int) + (1 : Int))) ∧ (((g1.1.length : Nat) : Int) + (1 : Int)) ≤ 4294967296) ((iter (p_addLimbs_l3 g1) F ((0 : Int), (0 : Int), [])).bind fun o => aft o some (p_addLimbs_k2 F)))
/-- pub-orthodrome/spec.addLimbs -/
def p_addLimbs (F : Nat) (a0 : (List Int)) (a1 : (List Int)) : Option (List Int) := (cond (decide (((a0.length : Nat) : Int) < ((a1.length : Nat) : Int))) ((p_addLimbs_k1 F) (a1, a0)) ((p_addLimbs_k1 F) (a0, a1)))

def p_cmpLimbs_k1  (g6 : Unit) : Option Int := some (0 : Int)
def p_cmpLimbs_l2 (a0 : (List Int)) (a1 : (List Int)) (K8 : Int → Option (Sum Unit Int)) (g7 : Int) : Option (Sum Unit Int) := (cond (decide ((0 : Int) ≤ g7)) ((idx a0 g7).bind fun x11 => ((idx a1 g7).bind fun x13 => ((cond (!decide (x11 = x13)) ((idx a0 g7).bind fun x16 => ((idx a1 g7).bind fun x18 => ((cond (decide (x16 < x18)) (some (Sum.inr (-1 : Int))) (some (Sum.inr (1 : Int))))))) (need (inI .i64 (g7 - (1 : Int))) (K8 (g7 - (1 : Int)))))))) (some (Sum.inl ())))
/-- pub-orthodrome/spec.cmpLimbs -/
def p_cmpLimbs (F : Nat) (a0 : (List Int)) (a1 : (List Int)) : Option Int := (cond (!decide (((a0.length : Nat) : Int) = ((a1.length : Nat) : Int))) (cond (decide (((a0.length : Nat) : Int) < ((a1.length : Nat) : Int))) (some (-1 : Int)) (some (1 : Int))) (need (inI .i64 (((a0.length : Nat) : Int) - (1 : Int))) ((iter (p_cmpLimbs_l2 a0 a1) F (((a0.length : Nat) : Int) - (1 : Int))).bind fun o => aft o some p_cmpLimbs_k1)))

def p_subLimbs_k1 (F : Nat) (g4 : (List Int)) : Option (List Int) := (p_trim F g4).bind fun y5 => (some y5)
def p_subLimbs_k4 (g7 : (Int × Int × (List Int))) (K8 : (Int × Int × (List Int)) → Option (Sum (List Int) (List Int))) (x11 : Int) (g13 : Int) (g14 : Int) : Option (Sum (List Int) (List Int)) := need (inI .u64 ((IntKind.u64.wrap x11) + (IntKind.u64.wrap (g14 * 2 ^ 32)))) (need (inI .u64 (((IntKind.u64.wrap x11) + (IntKind.u64.wrap (g14 * 2 ^ 32))) - g13)) (need (g7.2.2.length + [(IntKind.u32.wrap (((IntKind.u64.wrap x11) + (IntKind.u64.wrap (g14 * 2 ^ 32))) - g13))].length ≤ 4294967296) (need (inI .i64 (g7.2.1 + (1 : Int))) (K8 (g14, (g7.2.1 + (1 : Int)), (g7.2.2 ++ [(IntKind.u32.wrap (((IntKind.u64.wrap x11) + (IntKind.u64.wrap (g14 * 2 ^ 32))) - g13))]))))))
def p_subLimbs_k3 (g7 : (Int × Int × (List Int))) (K8 : (Int × Int × (List Int)) → Option (Sum (List Int) (List Int))) (x11 : Int) (g13 : Int) : Option (Sum (List Int) (List Int)) := (cond (decide ((IntKind.u64.wrap x11) < g13)) ((p_subLimbs_k4 g7 K8 x11 g13) (1 : Int)) ((p_subLimbs_k4 g7 K8 x11 g13) (0 : Int)))
def p_subLimbs_l2 (a0 : (List Int)) (a1 : (List Int)) (K8 : (Int × Int × (List Int)) → Option (Sum (List Int) (List Int))) (g7 : (Int × Int × (List Int))) : Option (Sum (List Int) (List Int)) := (cond (decide (g7.2.1 < ((a0.length : Nat) : Int))) ((idx a0 g7.2.1).bind fun x11 => ((cond (decide (g7.2.1 < ((a1.length : Nat) : Int))) ((idx a1 g7.2.1).bind fun x21 => (need (inI .u64 (g7.1 + (IntKind.u64.wrap x21))) ((p_subLimbs_k3 g7 K8 x11) (g7.1 + (IntKind.u64.wrap x21))))) ((p_subLimbs_k3 g7 K8 x11) g7.1)))) (some (Sum.inl g7.2.2)))
/-- pub-orthodrome/spec.subLimbs -/
def p_subLimbs (F : Nat) (a0 : (List Int)) (a1 : (List Int)) : Option (List Int) := need ((0 ≤ (0 : Int) ∧ (0 : Int) ≤ ((a0.length : Nat) : Int)) ∧ ((a0.length : Nat) : Int) ≤ 4294967296) ((iter (p_subLimbs_l2 a0 a1) F ((0 : Int), (0 : Int), [])).bind fun o => aft o some (p_subLimbs_k1 F))

/-- (pub-orthodrome/spec.Whole).Add -/
def p_Whole_Add (F : Nat) (a0 : TSpec_Whole) (a1 : TSpec_Whole) : Option TSpec_Whole := (cond (a0.Neg == a1.Neg) ((p_addLimbs F a0.L a1.L).bind fun y2 => (some (TSpec_Whole.mk a0.Neg y2))) ((p_cmpLimbs F a0.L a1.L).bind fun y4 => ((cond (decide (y4 = (0 : Int))) (some (TSpec_Whole.mk false [])) (cond (decide (y4 = (1 : Int))) ((p_subLimbs F a0.L a1.L).bind fun y8 => (some (TSpec_Whole.mk a0.Neg y8))) ((p_subLimbs F a1.L a0.L).bind fun y10 => (some (TSpec_Whole.mk a1.Neg y10))))))))

/-- (pub-orthodrome/spec.Dyadic).Add -/
def p_Dyadic_Add (F : Nat) (a0 : TSpec_Dyadic) (a1 : TSpec_Dyadic) : Option TSpec_Dyadic := (p_Dyadic_Sign a0).bind fun y1 => ((cond (decide (y1 = (0 : Int))) (some a1) ((p_Dyadic_Sign a1).bind fun y4 => ((cond (decide (y4 = (0 : Int))) (some a0) (cond (decide (a1.E < a0.E)) (need (inI .i64 (a0.E - a1.E)) ((p_Whole_Up F a0.N (a0.E - a1.E)).bind fun y9 => ((p_Whole_Add F y9 a1.N).bind fun y11 => (some (TSpec_Dyadic.mk y11 a1.E))))) (need (inI .i64 (a1.E - a0.E)) ((p_Whole_Up F a1.N (a1.E - a0.E)).bind fun y14 => ((p_Whole_Add F y14 a0.N).bind fun y16 => (some (TSpec_Dyadic.mk y16 a0.E)))))))))))

/-- (pub-orthodrome/spec.Dyadic).Sub -/
def p_Dyadic_Sub (F : Nat) (a0 : TSpec_Dyadic) (a1 : TSpec_Dyadic) : Option TSpec_Dyadic := (p_Dyadic_Minus a1).bind fun y1 => ((p_Dyadic_Add F a0 y1).bind fun y3 => (some y3))

/-- (pub-orthodrome/spec.Dyadic).Abs -/
def p_Dyadic_Abs (a0 : TSpec_Dyadic) : Option TSpec_Dyadic := (p_Dyadic_Sign a0).bind fun y1 => ((cond (decide (y1 < (0 : Int))) ((p_Dyadic_Minus a0).bind fun y4 => (some y4)) (some a0)))

def p_Whole_Mul_k1 (a0 : TSpec_Whole) (a1 : TSpec_Whole) (F : Nat) (g5 : (List Int)) : Option TSpec_Whole := need ((((((a0.L.length : Nat) : Int) + ((a1.L.length : Nat) : Int))).toNat) = g5.length) ((p_trim F g5).bind fun y7 => ((cond (decide ((0 : Int) < ((y7.length : Nat) : Int))) (some (TSpec_Whole.mk (!(a0.Neg == a1.Neg)) y7)) (some (TSpec_Whole.mk false y7)))))
def p_Whole_Mul_k3 (a0 : TSpec_Whole) (a1 : TSpec_Whole) (g10 : (Int × (List Int))) (K11 : (Int × (List Int)) → Option (Sum (List Int) TSpec_Whole)) (g18 : (Int × (List Int))) : Option (Sum (List Int) TSpec_Whole) := need (inI .i64 (g10.1 + ((a1.L.length : Nat) : Int))) (need (0 ≤ (g10.1 + ((a1.L.length : Nat) : Int)) ∧ (g10.1 + ((a1.L.length : Nat) : Int)) < ((((((a0.L.length : Nat) : Int) + ((a1.L.length : Nat) : Int))).toNat : Nat) : Int)) (need (((g10.1 + ((a1.L.length : Nat) : Int))).toNat < g18.2.length) (need (inI .i64 (g10.1 + (1 : Int))) (K11 ((g10.1 + (1 : Int)), (g18.2.set ((g10.1 + ((a1.L.length : Nat) : Int))).toNat (IntKind.u32.wrap g18.1)))))))
def p_Whole_Mul_l4 (a0 : TSpec_Whole) (a1 : TSpec_Whole) (g10 : (Int × (List Int))) (x14 : Int) (K24 : (Int × Int × (List Int)) → Option (Sum (Int × (List Int)) TSpec_Whole)) (g23 : (Int × Int × (List Int))) : Option (Sum (Int × (List Int)) TSpec_Whole) := (cond (decide (g23.2.1 < ((a1.L.length : Nat) : Int))) ((idx a1.L g23.2.1).bind fun x27 => (need (inI .u64 ((IntKind.u64.wrap x14) * (IntKind.u64.wrap x27))) (need (inI .i64 (g10.1 + g23.2.1)) (need (0 ≤ (g10.1 + g23.2.1) ∧ (g10.1 + g23.2.1) < ((((((a0.L.length : Nat) : Int) + ((a1.L.length : Nat) : Int))).toNat : Nat) : Int)) ((idx g23.2.2 (g10.1 + g23.2.1)).bind fun x32 => (need (inI .u64 (((IntKind.u64.wrap x14) * (IntKind.u64.wrap x27)) + (IntKind.u64.wrap x32))) (need (inI .u64 ((((IntKind.u64.wrap x14) * (IntKind.u64.wrap x27)) + (IntKind.u64.wrap x32)) + g23.1)) (need (inI .i64 (g10.1 + g23.2.1)) (need (0 ≤ (g10.1 + g23.2.1) ∧ (g10.1 + g23.2.1) < ((((((a0.L.length : Nat) : Int) + ((a1.L.length : Nat) : Int))).toNat : Nat) : Int)) (need (((g10.1 + g23.2.1)).toNat < g23.2.2.length) (need (0 ≤ ((((IntKind.u64.wrap x14) * (IntKind.u64.wrap x27)) + (IntKind.u64.wrap x32)) + g23.1)) (need (inI .i64 (g23.2.1 + (1 : Int))) (K24 ((((((IntKind.u64.wrap x14) * (IntKind.u64.wrap x27)) + (IntKind.u64.wrap x32)) + g23.1) / 2 ^ 32), (g23.2.1 + (1 : Int)), (g23.2.2.set ((g10.1 + g23.2.1)).toNat (IntKind.u32.wrap ((((IntKind.u64.wrap x14) * (IntKind.u64.wrap x27)) + (IntKind.u64.wrap x32)) + g23.1))))))))))))))))) (some (Sum.inl (g23.1, g23.2.2))))
def p_Whole_Mul_l2 (a0 : TSpec_Whole) (a1 : TSpec_Whole) (F : Nat) (K11 : (Int × (List Int)) → Option (Sum (List Int) TSpec_Whole)) (g10 : (Int × (List Int))) : Option (Sum (List Int) TSpec_Whole) := (cond (decide (g10.1 < ((a0.L.length : Nat) : Int))) ((idx a0.L g10.1).bind fun x14 => ((iter (p_Whole_Mul_l4 a0 a1 g10 x14) F ((0 : Int), (0 : Int), g10.2)).bind fun o => aft o (fun r => some (Sum.inr r)) (p_Whole_Mul_k3 a0 a1 g10 K11))) (some (Sum.inl g10.2)))
/-- (pub-orthodrome/spec.Whole).Mul -/
def p_Whole_Mul (F : Nat) (a0 : TSpec_Whole) (a1 : TSpec_Whole) : Option TSpec_Whole := need (inI .i64 (((a0.L.length : Nat) : Int) + ((a1.L.length : Nat) : Int))) (need (0 ≤ (((a0.L.length : Nat) : Int) + ((a1.L.length : Nat) : Int)) ∧ (((a0.L.length : Nat) : Int) + ((a1.L.length : Nat) : Int)) ≤ 4294967296) ((iter (p_Whole_Mul_l2 a0 a1 F) F ((0 : Int), (List.replicate ((((a0.L.length : Nat) : Int) + ((a1.L.length : Nat) : Int))).toNat (0 : Int)))).bind fun o => aft o some (p_Whole_Mul_k1 a0 a1 F)))

/-- (pub-orthodrome/spec.Dyadic).Mul -/
def p_Dyadic_Mul (F : Nat) (a0 : TSpec_Dyadic) (a1 : TSpec_Dyadic) : Option TSpec_Dyadic := (p_Whole_Mul F a0.N a1.N).bind fun y1 => (need (inI .i64 (a0.E + a1.E)) (some (TSpec_Dyadic.mk y1 (a0.E + a1.E))))

/-- (pub-orthodrome/spec.Dyadic).Shift -/
def p_Dyadic_Shift (a0 : TSpec_Dyadic) (a1 : Int) : Option TSpec_Dyadic := need (inI .i64 (a0.E + a1)) (some (TSpec_Dyadic.mk a0.N (a0.E + a1)))

def p_LineCentroid_k1  (g3 : (Bool × (List Int) × Int × Bool × (List Int) × Int × Bool × (List Int) × Int)) : Option (TSpec_Ratio × TSpec_Ratio × Bool) := (p_Dyadic_Sign (TSpec_Dyadic.mk (TSpec_Whole.mk g3.1 g3.2.1) g3.2.2.1)).bind fun y4 => ((cond (decide (y4 = (0 : Int))) (some ((TSpec_Ratio.mk (TSpec_Dyadic.mk (TSpec_Whole.mk false []) (0 : Int)) (TSpec_Dyadic.mk (TSpec_Whole.mk false []) (0 : Int))), (TSpec_Ratio.mk (TSpec_Dyadic.mk (TSpec_Whole.mk false []) (0 : Int)) (TSpec_Dyadic.mk (TSpec_Whole.mk false []) (0 : Int))), false)) ((p_Dyadic_Shift (TSpec_Dyadic.mk (TSpec_Whole.mk g3.1 g3.2.1) g3.2.2.1) (1 : Int)).bind fun y7 => (some ((TSpec_Ratio.mk (TSpec_Dyadic.mk (TSpec_Whole.mk g3.2.2.2.1 g3.2.2.2.2.1) g3.2.2.2.2.2.1) y7), (TSpec_Ratio.mk (TSpec_Dyadic.mk (TSpec_Whole.mk g3.2.2.2.2.2.2.1 g3.2.2.2.2.2.2.2.1) g3.2.2.2.2.2.2.2.2) y7), true)))))
def p_LineCentroid_k3 (g9 : (Int × Bool × (List Int) × Int × Bool × (List Int) × Int × Bool × (List Int) × Int)) (K10 : (Int × Bool × (List Int) × Int × Bool × (List Int) × Int × Bool × (List Int) × Int) → Option (Sum (Bool × (List Int) × Int × Bool × (List Int) × Int × Bool × (List Int) × Int) (TSpec_Ratio × TSpec_Ratio × Bool))) (g17 : (Bool × (List Int) × Int × Bool × (List Int) × Int × Bool × (List Int) × Int)) : Option (Sum (Bool × (List Int) × Int × Bool × (List Int) × Int × Bool × (List Int) × Int) (TSpec_Ratio × TSpec_Ratio × Bool)) := need (inI .i64 (g9.1 + (1 : Int))) (K10 ((g9.1 + (1 : Int)), g17.1, g17.2.1, g17.2.2.1, g17.2.2.2.1, g17.2.2.2.2.1, g17.2.2.2.2.2.1, g17.2.2.2.2.2.2.1, g17.2.2.2.2.2.2.2.1, g17.2.2.2.2.2.2.2.2))
def p_LineCentroid_k5 (F : Nat) (x13 : (List TSpec_Point)) (g19 : (Int × Bool × (List Int) × Int × Bool × (List Int) × Int × Bool × (List Int) × Int)) (K20 : (Int × Bool × (List Int) × Int × Bool × (List Int) × Int × Bool × (List Int) × Int) → Option (Sum (Bool × (List Int) × Int × Bool × (List Int) × Int × Bool × (List Int) × Int) (TSpec_Ratio × TSpec_Ratio × Bool))) (y30 : TSpec_Dyadic) (y39 : TSpec_Dyadic) (g41 : Bool) : Option (Sum (Bool × (List Int) × Int × Bool × (List Int) × Int × Bool × (List Int) × Int) (TSpec_Ratio × TSpec_Ratio × Bool)) := (cond g41 (some (Sum.inr ((TSpec_Ratio.mk (TSpec_Dyadic.mk (TSpec_Whole.mk false []) (0 : Int)) (TSpec_Dyadic.mk (TSpec_Whole.mk false []) (0 : Int))), (TSpec_Ratio.mk (TSpec_Dyadic.mk (TSpec_Whole.mk false []) (0 : Int)) (TSpec_Dyadic.mk (TSpec_Whole.mk false []) (0 : Int))), false))) ((p_Dyadic_Add F y30 y39).bind fun y43 => ((p_Dyadic_Add F (TSpec_Dyadic.mk (TSpec_Whole.mk g19.2.1 g19.2.2.1) g19.2.2.2.1) y43).bind fun y45 => ((idx x13 g19.1).bind fun x47 => (need (inI .i64 (g19.1 - (1 : Int))) ((idx x13 (g19.1 - (1 : Int))).bind fun x50 => ((p_Dyadic_Add F x47.X x50.X).bind fun y52 => ((p_Dyadic_Mul F y43 y52).bind fun y54 => ((p_Dyadic_Add F (TSpec_Dyadic.mk (TSpec_Whole.mk g19.2.2.2.2.1 g19.2.2.2.2.2.1) g19.2.2.2.2.2.2.1) y54).bind fun y56 => ((idx x13 g19.1).bind fun x58 => (need (inI .i64 (g19.1 - (1 : Int))) ((idx x13 (g19.1 - (1 : Int))).bind fun x61 => ((p_Dyadic_Add F x58.Y x61.Y).bind fun y63 => ((p_Dyadic_Mul F y43 y63).bind fun y65 => ((p_Dyadic_Add F (TSpec_Dyadic.mk (TSpec_Whole.mk g19.2.2.2.2.2.2.2.1 g19.2.2.2.2.2.2.2.2.1) g19.2.2.2.2.2.2.2.2.2) y65).bind fun y67 => (need (inI .i64 (g19.1 + (1 : Int))) (K20 ((g19.1 + (1 : Int)), y45.N.Neg, y45.N.L, y45.E, y56.N.Neg, y56.N.L, y56.E, y67.N.Neg, y67.N.L, y67.E))))))))))))))))))
def p_LineCentroid_l4 (F : Nat) (x13 : (List TSpec_Point)) (K20 : (Int × Bool × (List Int) × Int × Bool × (List Int) × Int × Bool × (List Int) × Int) → Option (Sum (Bool × (List Int) × Int × Bool × (List Int) × Int × Bool × (List Int) × Int) (TSpec_Ratio × TSpec_Ratio × Bool))) (g19 : (Int × Bool × (List Int) × Int × Bool × (List Int) × Int × Bool × (List Int) × Int)) : Option (Sum (Bool × (List Int) × Int × Bool × (List Int) × Int × Bool × (List Int) × Int) (TSpec_Ratio × TSpec_Ratio × Bool)) := (cond (decide (g19.1 < ((x13.length : Nat) : Int))) ((idx x13 g19.1).bind fun x23 => (need (inI .i64 (g19.1 - (1 : Int))) ((idx x13 (g19.1 - (1 : Int))).bind fun x26 => ((p_Dyadic_Sub F x23.X x26.X).bind fun y28 => ((p_Dyadic_Abs y28).bind fun y30 => ((idx x13 g19.1).bind fun x32 => (need (inI .i64 (g19.1 - (1 : Int))) ((idx x13 (g19.1 - (1 : Int))).bind fun x35 => ((p_Dyadic_Sub F x32.Y x35.Y).bind fun y37 => ((p_Dyadic_Abs y37).bind fun y39 => ((p_Dyadic_Sign y30).bind fun y70 => ((cond (!decide (y70 = (0 : Int))) ((p_Dyadic_Sign y39).bind fun y73 => ((p_LineCentroid_k5 F x13 g19 K20 y30 y39) (!decide (y73 = (0 : Int))))) ((p_LineCentroid_k5 F x13 g19 K20 y30 y39) false)))))))))))))) (some (Sum.inl (g19.2.1, g19.2.2.1, g19.2.2.2.1, g19.2.2.2.2.1, g19.2.2.2.2.2.1, g19.2.2.2.2.2.2.1, g19.2.2.2.2.2.2.2.1, g19.2.2.2.2.2.2.2.2.1, g19.2.2.2.2.2.2.2.2.2))))
def p_LineCentroid_l2 (a0 : (List (List TSpec_Point))) (F : Nat) (K10 : (Int × Bool × (List Int) × Int × Bool × (List Int) × Int × Bool × (List Int) × Int) → Option (Sum (Bool × (List Int) × Int × Bool × (List Int) × Int × Bool × (List Int) × Int) (TSpec_Ratio × TSpec_Ratio × Bool))) (g9 : (Int × Bool × (List Int) × Int × Bool × (List Int) × Int × Bool × (List Int) × Int)) : Option (Sum (Bool × (List Int) × Int × Bool × (List Int) × Int × Bool × (List Int) × Int) (TSpec_Ratio × TSpec_Ratio × Bool)) := (cond (decide (g9.1 < ((a0.length : Nat) : Int))) ((idx a0 g9.1).bind fun x13 => ((iter (p_LineCentroid_l4 F x13) F ((1 : Int), g9.2.1, g9.2.2.1, g9.2.2.2.1, g9.2.2.2.2.1, g9.2.2.2.2.2.1, g9.2.2.2.2.2.2.1, g9.2.2.2.2.2.2.2.1, g9.2.2.2.2.2.2.2.2.1, g9.2.2.2.2.2.2.2.2.2)).bind fun o => aft o (fun r => some (Sum.inr r)) (p_LineCentroid_k3 g9 K10))) (some (Sum.inl (g9.2.1, g9.2.2.1, g9.2.2.2.1, g9.2.2.2.2.1, g9.2.2.2.2.2.1, g9.2.2.2.2.2.2.1, g9.2.2.2.2.2.2.2.1, g9.2.2.2.2.2.2.2.2.1, g9.2.2.2.2.2.2.2.2.2))))
/-- pub-orthodrome/spec.LineCentroid -/
def p_LineCentroid (F : Nat) (a0 : (List (List TSpec_Point))) : Option (TSpec_Ratio × TSpec_Ratio × Bool) := (iter (p_LineCentroid_l2 a0 F) F ((0 : Int), false, [], (0 : Int), false, [], (0 : Int), false, [], (0 : Int))).bind fun o => aft o some p_LineCentroid_k1

/-- (pub-orthodrome/pub/gogeom.Layout).Stride -/
def p_Layout_Stride (a0 : Int) : Option Int := (cond (decide (a0 = (0 : Int))) (some (0 : Int)) (cond (decide (a0 = (1 : Int))) (some (2 : Int)) (cond (decide (a0 = (2 : Int))) (some (3 : Int)) (cond (decide (a0 = (3 : Int))) (some (3 : Int)) (cond (decide (a0 = (4 : Int))) (some (4 : Int)) (some a0))))))

/-- pub-orthodrome/impl.floats -/
def p_floats (a0 : (List Nat)) : Option (List Nat) := need (a0.length ≤ 4294967296) (some a0)

/-- pub-orthodrome/pub/gogeom.NewLinearRingFlat -/
def p_NewLinearRingFlat (a0 : Int) (a1 : (List Nat)) : Option TGeom_LinearRing := (p_Layout_Stride a0).bind fun y1 => (some (TGeom_LinearRing.mk (TGeom_geom1.mk (TGeom_geom0.mk a0 y1 a1 (0 : Int)))))

/-- math.Sqrt -/
def p_Sqrt (a0 : Nat) : Option Nat := (FloatKind.f64.format.sqrt a0).bind fun z1 => (some z1)

/-- pub-orthodrome/pub/gogeom/xy/inner.Distance2D -/
def p_Distance2D (a0 : (List Nat)) (a1 : (List Nat)) : Option Nat := (idx a0 (0 : Int)).bind fun x1 => ((idx a1 (0 : Int)).bind fun x3 => ((floatBits .sub .f64 x1 x3).bind fun z5 => ((idx a0 (1 : Int)).bind fun x7 => ((idx a1 (1 : Int)).bind fun x9 => ((floatBits .sub .f64 x7 x9).bind fun z11 => ((floatBits .mul .f64 z5 z5).bind fun z13 => ((floatBits .mul .f64 z11 z11).bind fun z15 => ((floatBits .add .f64 z13 z15).bind fun z17 => ((p_Sqrt z17).bind fun y19 => (some y19))))))))))

def p_RingsCentroid_k1 (a0 : Int) (y4 : Int) (g9 : ((List Nat) × Nat)) : Option ((List Nat) × Bool) := (p_Layout_Stride a0).bind fun y11 => (need (0 ≤ y11 ∧ y11 ≤ 4294967296) (need (0 ≤ (0 : Int) ∧ (0 : Int) < (((y4).toNat : Nat) : Int)) ((idx g9.1 (0 : Int)).bind fun x15 => ((floatBits .quo .f64 x15 g9.2).bind fun z17 => (need (0 ≤ (0 : Int) ∧ (0 : Int) < (((y11).toNat : Nat) : Int)) (need (((0 : Int)).toNat < (List.replicate (y11).toNat (0 : Nat)).length) (need (0 ≤ (1 : Int) ∧ (1 : Int) < (((y4).toNat : Nat) : Int)) ((idx g9.1 (1 : Int)).bind fun x22 => ((floatBits .quo .f64 x22 g9.2).bind fun z24 => (need (0 ≤ (1 : Int) ∧ (1 : Int) < (((y11).toNat : Nat) : Int)) (need (((1 : Int)).toNat < ((List.replicate (y11).toNat (0 : Nat)).set ((0 : Int)).toNat z17).length) (need (((y11).toNat) = (((List.replicate (y11).toNat (0 : Nat)).set ((0 : Int)).toNat z17).set ((1 : Int)).toNat z24).length) ((p_floats (((List.replicate (y11).toNat (0 : Nat)).set ((0 : Int)).toNat z17).set ((1 : Int)).toNat z24)).bind fun y29 => (some (y29, true)))))))))))))))
def p_RingsCentroid_k3 (g31 : (Int × (List Nat) × Nat)) (K32 : (Int × (List Nat) × Nat) → Option (Sum ((List Nat) × Nat) ((List Nat) × Bool))) (g52 : ((List Nat) × Nat)) : Option (Sum ((List Nat) × Nat) ((List Nat) × Bool)) := need (inI .i64 (g31.1 + (1 : Int))) (K32 ((g31.1 + (1 : Int)), g52.1, g52.2))
def p_RingsCentroid_l4 (y2 : Int) (y4 : Int) (y43 : TGeom_LinearRing) (K55 : (Int × (List Nat) × Nat) → Option (Sum ((List Nat) × Nat) (Sum ((List Nat) × Nat) ((List Nat) × Bool)))) (g54 : (Int × (List Nat) × Nat)) : Option (Sum ((List Nat) × Nat) (Sum ((List Nat) × Nat) ((List Nat) × Bool))) := (cond (decide (g54.1 < (((y43.geom1.geom0.flatCoords.length : Nat) : Int) - y2))) (need (inI .i64 (g54.1 + (2 : Int))) (need ((0 ≤ g54.1 ∧ 0 ≤ (g54.1 + (2 : Int))) ∧ (g54.1).toNat ≤ ((g54.1 + (2 : Int))).toNat ∧ ((g54.1 + (2 : Int))).toNat ≤ y43.geom1.geom0.flatCoords.length) (need (inI .i64 (g54.1 + y2)) (need (inI .i64 (g54.1 + y2)) (need (inI .i64 ((g54.1 + y2) + (2 : Int))) (need ((0 ≤ (g54.1 + y2) ∧ 0 ≤ ((g54.1 + y2) + (2 : Int))) ∧ ((g54.1 + y2)).toNat ≤ (((g54.1 + y2) + (2 : Int))).toNat ∧ (((g54.1 + y2) + (2 : Int))).toNat ≤ y43.geom1.geom0.flatCoords.length) ((p_Distance2D ((y43.geom1.geom0.flatCoords.drop (g54.1).toNat).take (((g54.1 + (2 : Int))).toNat - (g54.1).toNat)) ((y43.geom1.geom0.flatCoords.drop ((g54.1 + y2)).toNat).take ((((g54.1 + y2) + (2 : Int))).toNat - ((g54.1 + y2)).toNat))).bind fun y64 => ((floatBits .add .f64 g54.2.2 y64).bind fun z66 => ((idx y43.geom1.geom0.flatCoords g54.1).bind fun x68 => (need (inI .i64 (g54.1 + y2)) ((idx y43.geom1.geom0.flatCoords (g54.1 + y2)).bind fun x71 => ((floatBits .add .f64 x68 x71).bind fun z73 => ((floatBits .quo .f64 z73 (4611686018427387904 : Nat)).bind fun z75 => (need (0 ≤ (0 : Int) ∧ (0 : Int) < (((y4).toNat : Nat) : Int)) ((idx g54.2.1 (0 : Int)).bind fun x78 => ((floatBits .mul .f64 y64 z75).bind fun z80 => ((floatBits .add .f64 x78 z80).bind fun z82 => (need (0 ≤ (0 : Int) ∧ (0 : Int) < (((y4).toNat : Nat) : Int)) (need (((0 : Int)).toNat < g54.2.1.length) (need (inI .i64 (g54.1 + (1 : Int))) ((idx y43.geom1.geom0.flatCoords (g54.1 + (1 : Int))).bind fun x87 => (need (inI .i64 (g54.1 + y2)) (need (inI .i64 ((g54.1 + y2) + (1 : Int))) ((idx y43.geom1.geom0.flatCoords ((g54.1 + y2) + (1 : Int))).bind fun x91 => ((floatBits .add .f64 x87 x91).bind fun z93 => ((floatBits .quo .f64 z93 (4611686018427387904 : Nat)).bind fun z95 => (need (0 ≤ (1 : Int) ∧ (1 : Int) < (((y4).toNat : Nat) : Int)) ((idx (g54.2.1.set ((0 : Int)).toNat z82) (1 : Int)).bind fun x98 => ((floatBits .mul .f64 y64 z95).bind fun z100 => ((floatBits .add .f64 x98 z100).bind fun z102 => (need (0 ≤ (1 : Int) ∧ (1 : Int) < (((y4).toNat : Nat) : Int)) (need (((1 : Int)).toNat < (g54.2.1.set ((0 : Int)).toNat z82).length) (need (inI .i64 (g54.1 + y2)) (K55 ((g54.1 + y2), ((g54.2.1.set ((0 : Int)).toNat z82).set ((1 : Int)).toNat z102), z66))))))))))))))))))))))))))))))))))) (some (Sum.inl (g54.2.1, g54.2.2))))
def p_RingsCentroid_l2 (a1 : (List TImpl_Geom)) (F : Nat) (y2 : Int) (y4 : Int) (K32 : (Int × (List Nat) × Nat) → Option (Sum ((List Nat) × Nat) ((List Nat) × Bool))) (g31 : (Int × (List Nat) × Nat)) : Option (Sum ((List Nat) × Nat) ((List Nat) × Bool)) := (cond (decide (g31.1 < ((a1.length : Nat) : Int))) ((idx a1 g31.1).bind fun x35 => ((p_floats x35.Flat).bind fun y38 => ((cond (decide (x35.Kind = (1 : Int))) none (cond (decide (x35.Kind = (2 : Int))) none (cond (decide (x35.Kind = (8 : Int))) ((p_NewLinearRingFlat x35.Layout y38).bind fun y43 => (need (inI .i64 (((y43.geom1.geom0.flatCoords.length : Nat) : Int) - y2)) ((iter (p_RingsCentroid_l4 y2 y4 y43) F ((0 : Int), g31.2.1, g31.2.2)).bind fun o => aft o some (p_RingsCentroid_k3 g31 K32)))) (cond (decide (x35.Kind = (3 : Int))) none (cond (decide (x35.Kind = (4 : Int))) none (cond (decide (x35.Kind = (5 : Int))) none (cond (decide (x35.Kind = (6 : Int))) none (cond (decide (x35.Kind = (7 : Int))) none none))))))))))) (some (Sum.inl (g31.2.1, g31.2.2))))
/-- pub-orthodrome/impl.RingsCentroid -/
def p_RingsCentroid (F : Nat) (a0 : Int) (a1 : (List TImpl_Geom)) : Option ((List Nat) × Bool) := (p_Layout_Stride a0).bind fun y2 => ((p_Layout_Stride a0).bind fun y4 => (need (0 ≤ y4 ∧ y4 ≤ 4294967296) ((iter (p_RingsCentroid_l2 a1 F y2 y4) F ((0 : Int), (List.replicate (y4).toNat (0 : Nat)), (0 : Nat))).bind fun o => aft o some (p_RingsCentroid_k1 a0 y4))))

/-- (pub-orthodrome/spec.Dyadic).Cmp -/
def p_Dyadic_Cmp (F : Nat) (a0 : TSpec_Dyadic) (a1 : TSpec_Dyadic) : Option Int := (p_Dyadic_Sub F a0 a1).bind fun y1 => ((p_Dyadic_Sign y1).bind fun y3 => (some y3))

/-- pub-orthodrome/laws.nearRatio -/
def p_nearRatio (F : Nat) (a0 : Nat) (a1 : TSpec_Ratio) (a2 : Int) : Option Bool := (cond (Flt.isFin a0) ((p_DyadicOf F a0).bind fun y2 => ((p_Dyadic_Mul F y2 a1.D).bind fun y4 => ((p_Dyadic_Sub F y4 a1.N).bind fun y6 => ((p_Dyadic_Abs y6).bind fun y8 => ((p_Dyadic_Shift a1.D a2).bind fun y10 => ((p_Dyadic_Cmp F y8 y10).bind fun y12 => (some (decide (y12 < (0 : Int)))))))))) (some false))

def p_centred_k2  (g6 : Unit) : Option Bool := some true
def p_centred_l3 (a0 : (List Nat)) (K8 : Int → Option (Sum Unit Bool)) (g7 : Int) : Option (Sum Unit Bool) := (cond (decide (g7 < ((((a0.drop ((2 : Int)).toNat).take (a0.length - ((2 : Int)).toNat)).length : Nat) : Int))) ((idx ((a0.drop ((2 : Int)).toNat).take (a0.length - ((2 : Int)).toNat)) g7).bind fun x11 => ((cond (!feq x11 (0 : Nat)) (some (Sum.inr false)) (need (inI .i64 (g7 + (1 : Int))) (K8 (g7 + (1 : Int))))))) (some (Sum.inl ())))
def p_centred_k1 (a0 : (List Nat)) (F : Nat) (g1 : Bool) : Option Bool := (cond g1 (some false) (need ((0 ≤ (2 : Int) ∧ True) ∧ ((2 : Int)).toNat ≤ a0.length ∧ a0.length ≤ a0.length) ((iter (p_centred_l3 a0) F (0 : Int)).bind fun o => aft o some p_centred_k2)))
/-- pub-orthodrome/laws.centred -/
def p_centred (F : Nat) (a0 : (List Nat)) (a1 : TSpec_Ratio) (a2 : TSpec_Ratio) (a3 : Int) : Option Bool := (cond (!decide (((a0.length : Nat) : Int) = a3)) ((p_centred_k1 a0 F) true) (cond (decide (a3 < (2 : Int))) ((p_centred_k1 a0 F) true) ((idx a0 (0 : Int)).bind fun x17 => ((p_nearRatio F x17 a1 (-20 : Int)).bind fun y19 => ((cond (!y19) ((p_centred_k1 a0 F) true) ((idx a0 (1 : Int)).bind fun x22 => ((p_nearRatio F x22 a2 (-20 : Int)).bind fun y24 => ((p_centred_k1 a0 F) (!y24))))))))))

def p_FnRingsCentroid_k1 (a0 : Int) (a1 : (List TImpl_Geom)) (F : Nat) (y4 : (TSpec_Ratio × TSpec_Ratio × Bool)) (g6 : Bool) : Option Bool := (cond g6 (some true) ((p_RingsCentroid F a0 a1).bind fun y8 => ((cond y8.2 ((p_Stride a0).bind fun y11 => ((p_centred F y8.1 y4.1 y4.2.1 y11).bind fun y13 => (some y13))) (some false)))))
/-- pub-orthodrome/laws.FnRingsCentroid -/
def p_FnRingsCentroid (F : Nat) (a0 : Int) (a1 : (List TImpl_Geom)) : Option Bool := (cond (decide ((2147483647 : Int) < ((a1.length : Nat) : Int))) (some true) ((p_kindred F (8 : Int) a0 a1).bind fun y2 => ((p_LineCentroid F y2.1).bind fun y4 => ((cond (!y2.2) ((p_FnRingsCentroid_k1 a0 a1 F y4) true) ((p_FnRingsCentroid_k1 a0 a1 F y4) (!y4.2.2)))))))

end Go.Proofs.YtdchenbdnalbcaaGreat.Wk
