/- Printed: what functions of the program compute, as functions of Lean. No condition is laid on their arguments. -/
import Derived.Test.YthijpgkejnnjeaaPureKit
namespace Go.Proofs.Ythijpgkejnnjeaa.Wk
open Go.Vm
set_option linter.unusedVariables false
abbrev keS0 (x : Nat) : D := dfl x
abbrev eS0 (l : List Nat) : D := .ds 1 (l.map keS0)
structure TImpl_Geom where
  mk ::
  (Kind : Int)
  (Layout : Int)
  (SRID : Int)
  (Flat : (List Nat))
  (Ends : (List Int))
  (Endss : (List (List Int)))
  (Kids : (List TImpl_Geom))
abbrev keS2 (x : Int) : D := di .i64 x
abbrev eS2 (l : List Int) : D := .ds 1 (l.map keS2)
abbrev keS3 (x : (List Int)) : D := eS2 x
abbrev eS3 (l : List (List Int)) : D := .ds 1 (l.map keS3)
mutual
def c0_TImpl_Geom : TImpl_Geom → List D
  | .mk x0 x1 x2 x3 x4 x5 x6 => [di .i64 x0, di .i64 x1, di .i64 x2, eS0 x3, eS2 x4, eS3 x5, .ds 7 (cs_TImpl_Geom x6)]
def cs_TImpl_Geom : List TImpl_Geom → List D
  | [] => []
  | g :: r => c0_TImpl_Geom g ++ cs_TImpl_Geom r
end
theorem cs_TImpl_Geom_eq : ∀ l : List TImpl_Geom, cs_TImpl_Geom l = l.flatMap c0_TImpl_Geom
  | [] => by simp [cs_TImpl_Geom]
  | g :: r => by simp [cs_TImpl_Geom, cs_TImpl_Geom_eq r]
abbrev eS1 (l : List TImpl_Geom) : D := .ds 7 (l.flatMap c0_TImpl_Geom)
abbrev c_TImpl_Geom (x : TImpl_Geom) : List D := [di .i64 x.Kind, di .i64 x.Layout, di .i64 x.SRID, eS0 x.Flat, eS2 x.Ends, eS3 x.Endss, eS1 x.Kids]
abbrev e_TImpl_Geom (x : TImpl_Geom) : D := .ag (c_TImpl_Geom x)
theorem c0_TImpl_Geom_eq (x : TImpl_Geom) : c0_TImpl_Geom x = c_TImpl_Geom x := by cases x; simp only [c0_TImpl_Geom, cs_TImpl_Geom_eq]
theorem c0_TImpl_Geom_len (x : TImpl_Geom) : (c0_TImpl_Geom x).length = 7 := by rw [c0_TImpl_Geom_eq]; rfl
theorem c0_TImpl_Geom_one (x : TImpl_Geom) : (c0_TImpl_Geom x).all D.one = true := by rw [c0_TImpl_Geom_eq]; rfl
structure TGeom_geom0 where
  mk ::
  (layout : Int)
  (stride : Int)
  (flatCoords : (List Nat))
  (srid : Int)
abbrev c_TGeom_geom0 (x : TGeom_geom0) : List D := [di .i64 x.layout, di .i64 x.stride, eS0 x.flatCoords, di .i64 x.srid]
abbrev e_TGeom_geom0 (x : TGeom_geom0) : D := .ag (c_TGeom_geom0 x)
structure TGeom_Point where
  mk ::
  (geom0 : TGeom_geom0)
abbrev c_TGeom_Point (x : TGeom_Point) : List D := [di .i64 x.geom0.layout, di .i64 x.geom0.stride, eS0 x.geom0.flatCoords, di .i64 x.geom0.srid]
abbrev e_TGeom_Point (x : TGeom_Point) : D := .ag (c_TGeom_Point x)
/-- pub-orthodrome/spec.Stride -/
def p_Stride (a0 : Int) : Option Int := (cond (decide (a0 < (1 : Int))) (some (0 : Int)) (cond (decide (a0 = (1 : Int))) (some (2 : Int)) (cond (decide (a0 = (2 : Int))) (some (3 : Int)) (cond (decide (a0 = (3 : Int))) (some (3 : Int)) (some a0)))))

/-- pub-orthodrome/laws.gCoord -/
def p_gCoord (a0 : Int) (a1 : (List Nat)) : Option Bool := (cond (decide ((1 : Int) ≤ a0)) (cond (decide (a0 ≤ (9 : Int))) ((p_Stride a0).bind fun y3 => (some (decide (((a1.length : Nat) : Int) = y3)))) (some false)) (some false))

/-- pub-orthodrome/laws.gNumber -/
def p_gNumber (a0 : Nat) : Option Bool := some (feq a0 a0)

/-- pub-orthodrome/impl.floats -/
def p_floats (a0 : (List Nat)) : Option (List Nat) := need (a0.length ≤ 4294967296) (some a0)

/-- (pub-orthodrome/pub/gogeom.Layout).Stride -/
def p_Layout_Stride (a0 : Int) : Option Int := (cond (decide (a0 = (0 : Int))) (some (0 : Int)) (cond (decide (a0 = (1 : Int))) (some (2 : Int)) (cond (decide (a0 = (2 : Int))) (some (3 : Int)) (cond (decide (a0 = (3 : Int))) (some (3 : Int)) (cond (decide (a0 = (4 : Int))) (some (4 : Int)) (some a0))))))

/-- pub-orthodrome/pub/gogeom.NewPointFlat -/
def p_NewPointFlat (a0 : Int) (a1 : (List Nat)) : Option TGeom_Point := (p_Layout_Stride a0).bind fun y1 => (some (TGeom_Point.mk (TGeom_geom0.mk a0 y1 a1 (0 : Int))))

/-- pub-orthodrome/pub/gogeom.NewPointEmpty -/
def p_NewPointEmpty (a0 : Int) : Option TGeom_Point := (p_NewPointFlat a0 []).bind fun y1 => (some y1)

def p_NewPointFlatMaybeEmpty_k1 (a0 : Int) (a1 : (List Nat)) (g3 : Bool) : Option TGeom_Point := (cond g3 ((p_NewPointEmpty a0).bind fun y5 => (some y5)) ((p_NewPointFlat a0 a1).bind fun y7 => (some y7)))
def p_NewPointFlatMaybeEmpty_l2 (a1 : (List Nat)) (K10 : (Bool × Int) → Option (Sum Bool TGeom_Point)) (g9 : (Bool × Int)) : Option (Sum Bool TGeom_Point) := (cond (decide (g9.2 < ((a1.length : Nat) : Int))) ((idx a1 g9.2).bind fun x13 => ((cond (!decide (((x13 : Nat) : Int) = (9221120237041090560 : Int))) (some (Sum.inl false)) (need (inI .i64 (g9.2 + (1 : Int))) (K10 (g9.1, (g9.2 + (1 : Int)))))))) (some (Sum.inl g9.1)))
/-- pub-orthodrome/pub/gogeom.NewPointFlatMaybeEmpty -/
def p_NewPointFlatMaybeEmpty (F : Nat) (a0 : Int) (a1 : (List Nat)) : Option TGeom_Point := (iter (p_NewPointFlatMaybeEmpty_l2 a1) F (true, (0 : Int))).bind fun o => aft o some (p_NewPointFlatMaybeEmpty_k1 a0 a1)

/-- pub-orthodrome/impl.ints -/
def p_ints (a0 : (List Int)) : Option (List Int) := need (a0.length ≤ 4294967296) (some a0)

def p_intss_k1  (g3 : (List (List Int))) : Option (List (List Int)) := some g3
def p_intss_l2 (a0 : (List (List Int))) (K5 : (Int × (List (List Int))) → Option (Sum (List (List Int)) (List (List Int)))) (g4 : (Int × (List (List Int)))) : Option (Sum (List (List Int)) (List (List Int))) := (cond (decide (g4.1 < ((a0.length : Nat) : Int))) ((idx a0 g4.1).bind fun x8 => ((p_ints x8).bind fun y10 => (need (g4.2.length + [y10].length ≤ 4294967296) (need (inI .i64 (g4.1 + (1 : Int))) (K5 ((g4.1 + (1 : Int)), (g4.2 ++ [y10]))))))) (some (Sum.inl g4.2)))
/-- pub-orthodrome/impl.intss -/
def p_intss (F : Nat) (a0 : (List (List Int))) : Option (List (List Int)) := (iter (p_intss_l2 a0) F ((0 : Int), [])).bind fun o => aft o some p_intss_k1

/-- pub-orthodrome/impl.MaybeEmpty -/
def p_MaybeEmpty (F : Nat) (a0 : Int) (a1 : (List Nat)) : Option (TImpl_Geom × Bool) := (p_floats a1).bind fun y1 => ((p_NewPointFlatMaybeEmpty F a0 y1).bind fun y3 => ((p_floats y3.geom0.flatCoords).bind fun y9 => ((p_ints []).bind fun y12 => ((p_intss F []).bind fun y15 => (some ((TImpl_Geom.mk (1 : Int) y3.geom0.layout y3.geom0.srid y9 y12 y15 []), true))))))

def p_SameFloats_k1  (g4 : Unit) : Option Bool := some true
def p_SameFloats_l2 (a0 : (List Nat)) (a1 : (List Nat)) (K6 : Int → Option (Sum Unit Bool)) (g5 : Int) : Option (Sum Unit Bool) := (cond (decide (g5 < ((a0.length : Nat) : Int))) ((idx a0 g5).bind fun x9 => ((idx a1 g5).bind fun x11 => ((cond (!decide (((x9 : Nat) : Int) = ((x11 : Nat) : Int))) (some (Sum.inr false)) (need (inI .i64 (g5 + (1 : Int))) (K6 (g5 + (1 : Int)))))))) (some (Sum.inl ())))
/-- pub-orthodrome/spec.SameFloats -/
def p_SameFloats (F : Nat) (a0 : (List Nat)) (a1 : (List Nat)) : Option Bool := (cond (!decide (((a0.length : Nat) : Int) = ((a1.length : Nat) : Int))) (some false) ((iter (p_SameFloats_l2 a0 a1) F (0 : Int)).bind fun o => aft o some p_SameFloats_k1))

def p_sameInts_k1  (g4 : Unit) : Option Bool := some true
def p_sameInts_l2 (a0 : (List Int)) (a1 : (List Int)) (K6 : Int → Option (Sum Unit Bool)) (g5 : Int) : Option (Sum Unit Bool) := (cond (decide (g5 < ((a0.length : Nat) : Int))) ((idx a0 g5).bind fun x9 => ((idx a1 g5).bind fun x11 => ((cond (!decide (x9 = x11)) (some (Sum.inr false)) (need (inI .i64 (g5 + (1 : Int))) (K6 (g5 + (1 : Int)))))))) (some (Sum.inl ())))
/-- pub-orthodrome/spec.sameInts -/
def p_sameInts (F : Nat) (a0 : (List Int)) (a1 : (List Int)) : Option Bool := (cond (!decide (((a0.length : Nat) : Int) = ((a1.length : Nat) : Int))) (some false) ((iter (p_sameInts_l2 a0 a1) F (0 : Int)).bind fun o => aft o some p_sameInts_k1))

def p_SameGeom_k3  (g8 : Unit) : Option Bool := some true
def p_SameGeom_l4 (a0 : TImpl_Geom) (a1 : TImpl_Geom) (Rec_ : TImpl_Geom → TImpl_Geom → Option Bool) (K10 : Int → Option (Sum Unit Bool)) (g9 : Int) : Option (Sum Unit Bool) := (cond (decide (g9 < ((a0.Kids.length : Nat) : Int))) ((idx a0.Kids g9).bind fun x13 => ((idx a1.Kids g9).bind fun x15 => ((Rec_ x13 x15).bind fun y17 => ((cond (!y17) (some (Sum.inr false)) (need (inI .i64 (g9 + (1 : Int))) (K10 (g9 + (1 : Int))))))))) (some (Sum.inl ())))
def p_SameGeom_k2 (a0 : TImpl_Geom) (a1 : TImpl_Geom) (F : Nat) (Rec_ : TImpl_Geom → TImpl_Geom → Option Bool) (g5 : Unit) : Option Bool := (iter (p_SameGeom_l4 a0 a1 Rec_) F (0 : Int)).bind fun o => aft o some p_SameGeom_k3
def p_SameGeom_l5 (a0 : TImpl_Geom) (a1 : TImpl_Geom) (F : Nat) (K22 : Int → Option (Sum Unit Bool)) (g21 : Int) : Option (Sum Unit Bool) := (cond (decide (g21 < ((a0.Endss.length : Nat) : Int))) ((idx a0.Endss g21).bind fun x25 => ((idx a1.Endss g21).bind fun x27 => ((p_sameInts F x25 x27).bind fun y29 => ((cond (!y29) (some (Sum.inr false)) (need (inI .i64 (g21 + (1 : Int))) (K22 (g21 + (1 : Int))))))))) (some (Sum.inl ())))
def p_SameGeom_k1 (a0 : TImpl_Geom) (a1 : TImpl_Geom) (F : Nat) (Rec_ : TImpl_Geom → TImpl_Geom → Option Bool) (g1 : Bool) : Option Bool := (cond g1 (some false) ((iter (p_SameGeom_l5 a0 a1 F) F (0 : Int)).bind fun o => aft o some (p_SameGeom_k2 a0 a1 F Rec_)))
/-- pub-orthodrome/spec.SameGeom -/
def p_SameGeom_b (Rec_ : TImpl_Geom → TImpl_Geom → Option Bool) (F : Nat) (a0 : TImpl_Geom) (a1 : TImpl_Geom) : Option Bool := (cond (!decide (a0.Kind = a1.Kind)) ((p_SameGeom_k1 a0 a1 F Rec_) true) (cond (!decide (a0.Layout = a1.Layout)) ((p_SameGeom_k1 a0 a1 F Rec_) true) (cond (!decide (a0.SRID = a1.SRID)) ((p_SameGeom_k1 a0 a1 F Rec_) true) ((p_SameFloats F a0.Flat a1.Flat).bind fun y36 => ((cond (!y36) ((p_SameGeom_k1 a0 a1 F Rec_) true) ((p_sameInts F a0.Ends a1.Ends).bind fun y39 => ((cond (!y39) ((p_SameGeom_k1 a0 a1 F Rec_) true) (cond (!decide (((a0.Endss.length : Nat) : Int) = ((a1.Endss.length : Nat) : Int))) ((p_SameGeom_k1 a0 a1 F Rec_) true) ((p_SameGeom_k1 a0 a1 F Rec_) (!decide (((a0.Kids.length : Nat) : Int) = ((a1.Kids.length : Nat) : Int))))))))))))))
def p_SameGeom : Nat → TImpl_Geom → TImpl_Geom → Option Bool
  | 0, _, _ => none
  | F + 1, a0, a1 => p_SameGeom_b (fun a0 a1 => p_SameGeom F a0 a1) F a0 a1

def p_FnMaybeEmpty_k1 (a0 : Int) (a1 : (List Nat)) (F : Nat) (g7 : (List Nat)) : Option Bool := (p_MaybeEmpty F a0 a1).bind fun y8 => ((cond y8.2 ((p_SameGeom F y8.1 (TImpl_Geom.mk (1 : Int) a0 (0 : Int) g7 [] [] [])).bind fun y11 => (some y11)) (some false)))
def p_FnMaybeEmpty_l2 (a1 : (List Nat)) (K14 : (Int × (List Nat)) → Option (Sum (List Nat) Bool)) (g13 : (Int × (List Nat))) : Option (Sum (List Nat) Bool) := (cond (decide (g13.1 < ((a1.length : Nat) : Int))) ((idx a1 g13.1).bind fun x17 => ((p_gNumber x17).bind fun y19 => ((cond y19 (need (inI .i64 (g13.1 + (1 : Int))) (K14 ((g13.1 + (1 : Int)), a1))) (cond (!decide (((x17 : Nat) : Int) = (9221120237041090560 : Int))) (some (Sum.inr true)) (need (inI .i64 (g13.1 + (1 : Int))) (K14 ((g13.1 + (1 : Int)), g13.2)))))))) (some (Sum.inl g13.2)))
/-- pub-orthodrome/laws.FnMaybeEmpty -/
def p_FnMaybeEmpty (F : Nat) (a0 : Int) (a1 : (List Nat)) : Option Bool := (cond (decide ((2147483647 : Int) < ((a1.length : Nat) : Int))) (some true) ((p_gCoord a0 a1).bind fun y2 => ((cond (!y2) (some true) ((iter (p_FnMaybeEmpty_l2 a1) F ((0 : Int), [])).bind fun o => aft o some (p_FnMaybeEmpty_k1 a0 a1 F))))))

end Go.Proofs.Ythijpgkejnnjeaa.Wk
