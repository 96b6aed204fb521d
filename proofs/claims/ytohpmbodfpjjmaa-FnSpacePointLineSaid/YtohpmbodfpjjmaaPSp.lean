/- Printed: what functions of the program compute, as functions of Lean. No condition is laid on their arguments. -/
import Derived.Test.YtohpmbodfpjjmaaPureKit
namespace Go.Proofs.Ytohpmbodfpjjmaa.Wk
open Go.Vm
set_option linter.unusedVariables false
structure TImpl_P3 where
  mk ::
  (X : Nat)
  (Y : Nat)
  (Z : Nat)
abbrev c_TImpl_P3 (x : TImpl_P3) : List D := [dfl x.X, dfl x.Y, dfl x.Z]
abbrev e_TImpl_P3 (x : TImpl_P3) : D := .ag (c_TImpl_P3 x)
abbrev eS0 (l : List TImpl_P3) : D := .ds 3 (l.flatMap c_TImpl_P3)
abbrev keS1 (x : Nat) : D := dfl x
abbrev eS1 (l : List Nat) : D := .ds 1 (l.map keS1)
structure TSpec_Whole where
  mk ::
  (Neg : Bool)
  (L : (List Int))
abbrev keS2 (x : Int) : D := di .u32 x
abbrev eS2 (l : List Int) : D := .ds 1 (l.map keS2)
abbrev c_TSpec_Whole (x : TSpec_Whole) : List D := [dbool x.Neg, eS2 x.L]
abbrev e_TSpec_Whole (x : TSpec_Whole) : D := .ag (c_TSpec_Whole x)
structure TSpec_Dyadic where
  mk ::
  (N : TSpec_Whole)
  (E : Int)
abbrev c_TSpec_Dyadic (x : TSpec_Dyadic) : List D := [dbool x.N.Neg, eS2 x.N.L, di .i64 x.E]
abbrev e_TSpec_Dyadic (x : TSpec_Dyadic) : D := .ag (c_TSpec_Dyadic x)
structure TSpec_Point3 where
  mk ::
  (X : TSpec_Dyadic)
  (Y : TSpec_Dyadic)
  (Z : TSpec_Dyadic)
abbrev c_TSpec_Point3 (x : TSpec_Point3) : List D := [dbool x.X.N.Neg, eS2 x.X.N.L, di .i64 x.X.E, dbool x.Y.N.Neg, eS2 x.Y.N.L, di .i64 x.Y.E, dbool x.Z.N.Neg, eS2 x.Z.N.L, di .i64 x.Z.E]
abbrev e_TSpec_Point3 (x : TSpec_Point3) : D := .ag (c_TSpec_Point3 x)
structure TSpec_Ratio where
  mk ::
  (N : TSpec_Dyadic)
  (D : TSpec_Dyadic)
abbrev c_TSpec_Ratio (x : TSpec_Ratio) : List D := [dbool x.N.N.Neg, eS2 x.N.N.L, di .i64 x.N.E, dbool x.D.N.Neg, eS2 x.D.N.L, di .i64 x.D.E]
abbrev e_TSpec_Ratio (x : TSpec_Ratio) : D := .ag (c_TSpec_Ratio x)
def p_wholeTo_k1  (g3 : Unit) : Option Bool := some true
def p_wholeTo_l2 (a0 : Nat) (a1 : (List Nat)) (K5 : Int → Option (Sum Unit Bool)) (g4 : Int) : Option (Sum Unit Bool) := (cond (decide (g4 < ((a1.length : Nat) : Int))) ((idx a1 g4).bind fun x8 => ((cond (!feq x8 (Flt.truncN x8)) (some (Sum.inr false)) (cond (fgt (Flt.fabs x8) a0) (some (Sum.inr false)) (need (inI .i64 (g4 + (1 : Int))) (K5 (g4 + (1 : Int)))))))) (some (Sum.inl ())))
/-- pub-orthodrome/laws.wholeTo -/
def p_wholeTo (F : Nat) (a0 : Nat) (a1 : (List Nat)) : Option Bool := (iter (p_wholeTo_l2 a0 a1) F (0 : Int)).bind fun o => aft o some p_wholeTo_k1

def p_spaceTo_k1  (g3 : Unit) : Option Bool := some true
def p_spaceTo_l2 (a0 : Nat) (a1 : (List TImpl_P3)) (F : Nat) (K5 : Int → Option (Sum Unit Bool)) (g4 : Int) : Option (Sum Unit Bool) := (cond (decide (g4 < ((a1.length : Nat) : Int))) ((idx a1 g4).bind fun x8 => ((p_wholeTo F a0 [x8.X, x8.Y, x8.Z]).bind fun y10 => ((cond (!y10) (some (Sum.inr false)) (need (inI .i64 (g4 + (1 : Int))) (K5 (g4 + (1 : Int)))))))) (some (Sum.inl ())))
/-- pub-orthodrome/laws.spaceTo -/
def p_spaceTo (F : Nat) (a0 : Nat) (a1 : (List TImpl_P3)) : Option Bool := (iter (p_spaceTo_l2 a0 a1 F) F (0 : Int)).bind fun o => aft o some p_spaceTo_k1

/-- pub-orthodrome/impl.coord3 -/
def p_coord3 (a0 : TImpl_P3) : Option (List Nat) := some [a0.X, a0.Y, a0.Z]

/-- math.IsNaN -/
def p_IsNaN (a0 : Nat) : Option Bool := some (!feq a0 a0)

/-- pub-orthodrome/pub/gogeom/xyz.Equals -/
def p_Equals (a0 : (List Nat)) (a1 : (List Nat)) : Option Bool := (idx a0 (0 : Int)).bind fun x1 => ((idx a1 (0 : Int)).bind fun x3 => ((cond (feq x1 x3) ((idx a0 (1 : Int)).bind fun x6 => ((idx a1 (1 : Int)).bind fun x8 => ((cond (feq x6 x8) ((idx a0 (2 : Int)).bind fun x11 => ((idx a1 (2 : Int)).bind fun x13 => ((cond (feq x11 x13) (some true) ((idx a0 (2 : Int)).bind fun x16 => ((p_IsNaN x16).bind fun y18 => ((cond y18 ((idx a1 (2 : Int)).bind fun x21 => ((p_IsNaN x21).bind fun y23 => (some y23))) (some false))))))))) (some false))))) (some false))))

/-- math.Sqrt -/
def p_Sqrt (a0 : Nat) : Option Nat := (FloatKind.f64.format.sqrt a0).bind fun z1 => (some z1)

/-- pub-orthodrome/pub/gogeom/xy/inner.Distance2D -/
def p_Distance2D (a0 : (List Nat)) (a1 : (List Nat)) : Option Nat := (idx a0 (0 : Int)).bind fun x1 => ((idx a1 (0 : Int)).bind fun x3 => ((floatBits .sub .f64 x1 x3).bind fun z5 => ((idx a0 (1 : Int)).bind fun x7 => ((idx a1 (1 : Int)).bind fun x9 => ((floatBits .sub .f64 x7 x9).bind fun z11 => ((floatBits .mul .f64 z5 z5).bind fun z13 => ((floatBits .mul .f64 z11 z11).bind fun z15 => ((floatBits .add .f64 z13 z15).bind fun z17 => ((p_Sqrt z17).bind fun y19 => (some y19))))))))))

/-- pub-orthodrome/pub/gogeom/xy.Distance -/
def p_Distance_95 (a0 : (List Nat)) (a1 : (List Nat)) : Option Nat := (p_Distance2D a0 a1).bind fun y1 => (some y1)

def p_Distance_k1 (a0 : (List Nat)) (a1 : (List Nat)) (g1 : Bool) : Option Nat := (cond g1 ((p_Distance_95 a0 a1).bind fun y3 => (some y3)) ((idx a0 (0 : Int)).bind fun x5 => ((idx a1 (0 : Int)).bind fun x7 => ((floatBits .sub .f64 x5 x7).bind fun z9 => ((idx a0 (1 : Int)).bind fun x11 => ((idx a1 (1 : Int)).bind fun x13 => ((floatBits .sub .f64 x11 x13).bind fun z15 => ((idx a0 (2 : Int)).bind fun x17 => ((idx a1 (2 : Int)).bind fun x19 => ((floatBits .sub .f64 x17 x19).bind fun z21 => ((floatBits .mul .f64 z9 z9).bind fun z23 => ((floatBits .mul .f64 z15 z15).bind fun z25 => ((floatBits .add .f64 z23 z25).bind fun z27 => ((floatBits .mul .f64 z21 z21).bind fun z29 => ((floatBits .add .f64 z27 z29).bind fun z31 => ((p_Sqrt z31).bind fun y33 => (some y33)))))))))))))))))
/-- pub-orthodrome/pub/gogeom/xyz.Distance -/
def p_Distance (a0 : (List Nat)) (a1 : (List Nat)) : Option Nat := (idx a0 (2 : Int)).bind fun x35 => ((p_IsNaN x35).bind fun y37 => ((cond y37 ((p_Distance_k1 a0 a1) true) ((idx a1 (2 : Int)).bind fun x40 => ((p_IsNaN x40).bind fun y42 => ((p_Distance_k1 a0 a1) y42))))))

/-- pub-orthodrome/pub/gogeom/xyz.DistancePointToLine -/
def p_DistancePointToLine (a0 : (List Nat)) (a1 : (List Nat)) (a2 : (List Nat)) : Option Nat := (p_Equals a1 a2).bind fun y1 => ((cond y1 ((p_Distance a0 a1).bind fun y4 => (some y4)) ((idx a2 (0 : Int)).bind fun x6 => ((idx a1 (0 : Int)).bind fun x8 => ((floatBits .sub .f64 x6 x8).bind fun z10 => ((idx a2 (0 : Int)).bind fun x12 => ((idx a1 (0 : Int)).bind fun x14 => ((floatBits .sub .f64 x12 x14).bind fun z16 => ((floatBits .mul .f64 z10 z16).bind fun z18 => ((idx a2 (1 : Int)).bind fun x20 => ((idx a1 (1 : Int)).bind fun x22 => ((floatBits .sub .f64 x20 x22).bind fun z24 => ((idx a2 (1 : Int)).bind fun x26 => ((idx a1 (1 : Int)).bind fun x28 => ((floatBits .sub .f64 x26 x28).bind fun z30 => ((floatBits .mul .f64 z24 z30).bind fun z32 => ((floatBits .add .f64 z18 z32).bind fun z34 => ((idx a2 (2 : Int)).bind fun x36 => ((idx a1 (2 : Int)).bind fun x38 => ((floatBits .sub .f64 x36 x38).bind fun z40 => ((idx a2 (2 : Int)).bind fun x42 => ((idx a1 (2 : Int)).bind fun x44 => ((floatBits .sub .f64 x42 x44).bind fun z46 => ((floatBits .mul .f64 z40 z46).bind fun z48 => ((floatBits .add .f64 z34 z48).bind fun z50 => ((p_IsNaN z50).bind fun y52 => ((cond y52 none ((idx a0 (0 : Int)).bind fun x55 => ((idx a1 (0 : Int)).bind fun x57 => ((floatBits .sub .f64 x55 x57).bind fun z59 => ((idx a2 (0 : Int)).bind fun x61 => ((idx a1 (0 : Int)).bind fun x63 => ((floatBits .sub .f64 x61 x63).bind fun z65 => ((floatBits .mul .f64 z59 z65).bind fun z67 => ((idx a0 (1 : Int)).bind fun x69 => ((idx a1 (1 : Int)).bind fun x71 => ((floatBits .sub .f64 x69 x71).bind fun z73 => ((idx a2 (1 : Int)).bind fun x75 => ((idx a1 (1 : Int)).bind fun x77 => ((floatBits .sub .f64 x75 x77).bind fun z79 => ((floatBits .mul .f64 z73 z79).bind fun z81 => ((floatBits .add .f64 z67 z81).bind fun z83 => ((idx a0 (2 : Int)).bind fun x85 => ((idx a1 (2 : Int)).bind fun x87 => ((floatBits .sub .f64 x85 x87).bind fun z89 => ((idx a2 (2 : Int)).bind fun x91 => ((idx a1 (2 : Int)).bind fun x93 => ((floatBits .sub .f64 x91 x93).bind fun z95 => ((floatBits .mul .f64 z89 z95).bind fun z97 => ((floatBits .add .f64 z83 z97).bind fun z99 => ((floatBits .quo .f64 z99 z50).bind fun z101 => ((cond (fle z101 (0 : Nat)) ((p_Distance a0 a1).bind fun y104 => (some y104)) (cond (fge z101 (4607182418800017408 : Nat)) ((p_Distance a0 a2).bind fun y107 => (some y107)) ((idx a1 (0 : Int)).bind fun x109 => ((idx a2 (0 : Int)).bind fun x111 => ((idx a1 (0 : Int)).bind fun x113 => ((floatBits .sub .f64 x111 x113).bind fun z115 => ((floatBits .mul .f64 z101 z115).bind fun z117 => ((floatBits .add .f64 x109 z117).bind fun z119 => ((idx a1 (1 : Int)).bind fun x121 => ((idx a2 (1 : Int)).bind fun x123 => ((idx a1 (1 : Int)).bind fun x125 => ((floatBits .sub .f64 x123 x125).bind fun z127 => ((floatBits .mul .f64 z101 z127).bind fun z129 => ((floatBits .add .f64 x121 z129).bind fun z131 => ((idx a1 (2 : Int)).bind fun x133 => ((idx a2 (2 : Int)).bind fun x135 => ((idx a1 (2 : Int)).bind fun x137 => ((floatBits .sub .f64 x135 x137).bind fun z139 => ((floatBits .mul .f64 z101 z139).bind fun z141 => ((floatBits .add .f64 x133 z141).bind fun z143 => ((idx a0 (0 : Int)).bind fun x145 => ((floatBits .sub .f64 x145 z119).bind fun z147 => ((idx a0 (1 : Int)).bind fun x149 => ((floatBits .sub .f64 x149 z131).bind fun z151 => ((idx a0 (2 : Int)).bind fun x153 => ((floatBits .sub .f64 x153 z143).bind fun z155 => ((floatBits .mul .f64 z147 z147).bind fun z157 => ((floatBits .mul .f64 z151 z151).bind fun z159 => ((floatBits .add .f64 z157 z159).bind fun z161 => ((floatBits .mul .f64 z155 z155).bind fun z163 => ((floatBits .add .f64 z161 z163).bind fun z165 => ((p_Sqrt z165).bind fun y167 => (some y167))))))))))))))))))))))))))))))))))))))))))))))))))))))))))))))))))))))))))))))))))))))

/-- pub-orthodrome/impl.PointLine3 -/
def p_PointLine3 (a0 : TImpl_P3) (a1 : TImpl_P3) (a2 : TImpl_P3) : Option (Nat × Bool) := (p_coord3 a0).bind fun y1 => ((p_coord3 a1).bind fun y3 => ((p_coord3 a2).bind fun y5 => ((p_DistancePointToLine y1 y3 y5).bind fun y7 => (some (y7, true)))))

def p_trim_k1  (g3 : (List Int)) : Option (List Int) := some g3
def p_trim_l2  (K5 : (List Int) → Option (Sum (List Int) (List Int))) (g4 : (List Int)) : Option (Sum (List Int) (List Int)) := (cond (decide ((0 : Int) < ((g4.length : Nat) : Int))) (need (inI .i64 (((g4.length : Nat) : Int) - (1 : Int))) ((idx g4 (((g4.length : Nat) : Int) - (1 : Int))).bind fun x9 => ((cond (decide (x9 = (0 : Int))) (need (inI .i64 (((g4.length : Nat) : Int) - (1 : Int))) (need ((True ∧ 0 ≤ (((g4.length : Nat) : Int) - (1 : Int))) ∧ 0 ≤ ((((g4.length : Nat) : Int) - (1 : Int))).toNat ∧ ((((g4.length : Nat) : Int) - (1 : Int))).toNat ≤ g4.length) (K5 ((g4.drop 0).take (((((g4.length : Nat) : Int) - (1 : Int))).toNat - 0))))) (some (Sum.inl g4)))))) (some (Sum.inl g4)))
/-- pub-orthodrome/spec.trim -/
def p_trim (F : Nat) (a0 : (List Int)) : Option (List Int) := (iter p_trim_l2 F a0).bind fun o => aft o some p_trim_k1

def p_WholeOf_k1 (a0 : Int) (F : Nat) (g1 : Int) : Option TSpec_Whole := need (0 ≤ g1) ((p_trim F [(IntKind.u32.wrap g1), (IntKind.u32.wrap (g1 / 2 ^ 32))]).bind fun y3 => (some (TSpec_Whole.mk (decide (a0 < (0 : Int))) y3)))
/-- pub-orthodrome/spec.WholeOf -/
def p_WholeOf (F : Nat) (a0 : Int) : Option TSpec_Whole := (cond (decide (a0 < (0 : Int))) ((p_WholeOf_k1 a0 F) (IntKind.u64.wrap (-(IntKind.u64.wrap a0)))) ((p_WholeOf_k1 a0 F) (IntKind.u64.wrap a0)))

def p_DyadicOf_k1 (a0 : Nat) (F : Nat) (g2 : (Int × Int)) : Option TSpec_Dyadic := need (0 ≤ ((a0 : Nat) : Int)) ((cond (decide ((((a0 : Nat) : Int) / 2 ^ 63) = (1 : Int))) (need (inI .i64 (-g2.1)) ((p_WholeOf F (-g2.1)).bind fun y6 => (need (inI .i64 (g2.2 - (1075 : Int))) (some (TSpec_Dyadic.mk y6 (g2.2 - (1075 : Int))))))) ((p_WholeOf F g2.1).bind fun y9 => (need (inI .i64 (g2.2 - (1075 : Int))) (some (TSpec_Dyadic.mk y9 (g2.2 - (1075 : Int))))))))
/-- pub-orthodrome/spec.DyadicOf -/
def p_DyadicOf (F : Nat) (a0 : Nat) : Option TSpec_Dyadic := need (0 ≤ ((a0 : Nat) : Int)) ((cond (decide ((IntKind.i64.wrap (bits .and .u64 (((a0 : Nat) : Int) / 2 ^ 52) (2047 : Int))) = (2047 : Int))) (some (TSpec_Dyadic.mk (TSpec_Whole.mk false []) (0 : Int))) (cond (decide ((IntKind.i64.wrap (bits .and .u64 (((a0 : Nat) : Int) / 2 ^ 52) (2047 : Int))) = (0 : Int))) ((p_DyadicOf_k1 a0 F) ((IntKind.i64.wrap (bits .and .u64 ((a0 : Nat) : Int) (4503599627370495 : Int))), (1 : Int))) (need (inI .i64 ((IntKind.i64.wrap (bits .and .u64 ((a0 : Nat) : Int) (4503599627370495 : Int))) + (4503599627370496 : Int))) ((p_DyadicOf_k1 a0 F) (((IntKind.i64.wrap (bits .and .u64 ((a0 : Nat) : Int) (4503599627370495 : Int))) + (4503599627370496 : Int)), (IntKind.i64.wrap (bits .and .u64 (((a0 : Nat) : Int) / 2 ^ 52) (2047 : Int)))))))))

/-- pub-orthodrome/spec.PointOf3 -/
def p_PointOf3 (F : Nat) (a0 : Nat) (a1 : Nat) (a2 : Nat) : Option TSpec_Point3 := (p_DyadicOf F a0).bind fun y1 => ((p_DyadicOf F a1).bind fun y3 => ((p_DyadicOf F a2).bind fun y5 => (some (TSpec_Point3.mk y1 y3 y5))))

/-- pub-orthodrome/laws.exactly3 -/
def p_exactly3 (F : Nat) (a0 : TImpl_P3) : Option TSpec_Point3 := (p_PointOf3 F a0.X a0.Y a0.Z).bind fun y1 => (some y1)

/-- (pub-orthodrome/spec.Whole).Minus -/
def p_Whole_Minus (a0 : TSpec_Whole) : Option TSpec_Whole := (cond (!a0.Neg) (some (TSpec_Whole.mk (decide ((0 : Int) < ((a0.L.length : Nat) : Int))) a0.L)) (some (TSpec_Whole.mk false a0.L)))

/-- (pub-orthodrome/spec.Dyadic).Minus -/
def p_Dyadic_Minus (a0 : TSpec_Dyadic) : Option TSpec_Dyadic := (p_Whole_Minus a0.N).bind fun y1 => (some (TSpec_Dyadic.mk y1 a0.E))

/-- (pub-orthodrome/spec.Whole).Sign -/
def p_Whole_Sign (a0 : TSpec_Whole) : Option Int := (cond (decide (((a0.L.length : Nat) : Int) = (0 : Int))) (some (0 : Int)) (cond a0.Neg (some (-1 : Int)) (some (1 : Int))))

/-- (pub-orthodrome/spec.Dyadic).Sign -/
def p_Dyadic_Sign (a0 : TSpec_Dyadic) : Option Int := (p_Whole_Sign a0.N).bind fun y1 => (some y1)

def p_Whole_Up_k1 (a0 : TSpec_Whole) (F : Nat) (g9 : (Int × (List Int))) : Option TSpec_Whole := need (g9.2.length + [g9.1].length ≤ 4294967296) ((p_trim F (g9.2 ++ [g9.1])).bind fun y11 => (some (TSpec_Whole.mk a0.Neg y11)))
def p_Whole_Up_l2 (a0 : TSpec_Whole) (a1 : Int) (K14 : (Int × Int × (List Int)) → Option (Sum (Int × (List Int)) TSpec_Whole)) (g13 : (Int × Int × (List Int))) : Option (Sum (Int × (List Int)) TSpec_Whole) := (cond (decide (g13.2.1 < ((a0.L.length : Nat) : Int))) ((idx a0.L g13.2.1).bind fun x17 => (need ((32 : Int) ≠ 0) (need (0 ≤ (Int.tmod a1 (32 : Int)) ∧ (Int.tmod a1 (32 : Int)) ≤ (IntKind.u64.bits : Int)) (need (g13.2.2.length + [(bits .or .u32 (IntKind.u32.wrap (IntKind.u64.wrap ((IntKind.u64.wrap x17) * 2 ^ ((Int.tmod a1 (32 : Int))).toNat))) g13.1)].length ≤ 4294967296) (need (0 ≤ (IntKind.u64.wrap ((IntKind.u64.wrap x17) * 2 ^ ((Int.tmod a1 (32 : Int))).toNat))) (need (inI .i64 (g13.2.1 + (1 : Int))) (K14 ((IntKind.u32.wrap ((IntKind.u64.wrap ((IntKind.u64.wrap x17) * 2 ^ ((Int.tmod a1 (32 : Int))).toNat)) / 2 ^ 32)), (g13.2.1 + (1 : Int)), (g13.2.2 ++ [(bits .or .u32 (IntKind.u32.wrap (IntKind.u64.wrap ((IntKind.u64.wrap x17) * 2 ^ ((Int.tmod a1 (32 : Int))).toNat))) g13.1)]))))))))) (some (Sum.inl (g13.1, g13.2.2))))
/-- (pub-orthodrome/spec.Whole).Up -/
def p_Whole_Up (F : Nat) (a0 : TSpec_Whole) (a1 : Int) : Option TSpec_Whole := (cond (decide (((a0.L.length : Nat) : Int) = (0 : Int))) (some a0) (need ((32 : Int) ≠ 0 ∧ inI .i64 (Int.tdiv a1 (32 : Int))) (need ((32 : Int) ≠ 0 ∧ inI .i64 (Int.tdiv a1 (32 : Int))) (need (inI .i64 ((Int.tdiv a1 (32 : Int)) + ((a0.L.length : Nat) : Int))) (need (inI .i64 (((Int.tdiv a1 (32 : Int)) + ((a0.L.length : Nat) : Int)) + (1 : Int))) (need ((0 ≤ (Int.tdiv a1 (32 : Int)) ∧ (Int.tdiv a1 (32 : Int)) ≤ (((Int.tdiv a1 (32 : Int)) + ((a0.L.length : Nat) : Int)) + (1 : Int))) ∧ (((Int.tdiv a1 (32 : Int)) + ((a0.L.length : Nat) : Int)) + (1 : Int)) ≤ 4294967296) ((iter (p_Whole_Up_l2 a0 a1) F ((0 : Int), (0 : Int), (List.replicate ((Int.tdiv a1 (32 : Int))).toNat (0 : Int)))).bind fun o => aft o some (p_Whole_Up_k1 a0 F))))))))

def p_addLimbs_k2 (F : Nat) (g6 : (Int × (List Int))) : Option (List Int) := need (g6.2.length + [(IntKind.u32.wrap g6.1)].length ≤ 4294967296) ((p_trim F (g6.2 ++ [(IntKind.u32.wrap g6.1)])).bind fun y8 => (some y8))
def p_addLimbs_k4 (g10 : (Int × Int × (List Int))) (K11 : (Int × Int × (List Int)) → Option (Sum (Int × (List Int)) (List Int))) (g17 : Int) : Option (Sum (Int × (List Int)) (List Int)) := need (g10.2.2.length + [(IntKind.u32.wrap g17)].length ≤ 4294967296) (need (0 ≤ g17) (need (inI .i64 (g10.2.1 + (1 : Int))) (K11 ((g17 / 2 ^ 32), (g10.2.1 + (1 : Int)), (g10.2.2 ++ [(IntKind.u32.wrap g17)])))))
def p_addLimbs_l3 (g1 : ((List Int) × (List Int))) (K11 : (Int × Int × (List Int)) → Option (Sum (Int × (List Int)) (List Int))) (g10 : (Int × Int × (List Int))) : Option (Sum (Int × (List Int)) (List Int)) := (cond (decide (g10.2.1 < ((g1.1.length : Nat) : Int))) ((idx g1.1 g10.2.1).bind fun x14 => (need (inI .u64 ((IntKind.u64.wrap x14) + g10.1)) ((cond (decide (g10.2.1 < ((g1.2.length : Nat) : Int))) ((idx g1.2 g10.2.1).bind fun x22 => (need (inI .u64 (((IntKind.u64.wrap x14) + g10.1) + (IntKind.u64.wrap x22))) ((p_addLimbs_k4 g10 K11) (((IntKind.u64.wrap x14) + g10.1) + (IntKind.u64.wrap x22))))) ((p_addLimbs_k4 g10 K11) ((IntKind.u64.wrap x14) + g10.1)))))) (some (Sum.inl (g10.1, g10.2.2))))
def p_addLimbs_k1 (F : Nat) (g1 : ((List Int) × (List Int))) : Option (List Int) := need (inI .i64 (((g1.1.length : Nat) : Int) + (1 : Int))) (need ((0 ≤ (0 : Int) ∧ (0 : Int) ≤ (((g1.1.length : Nat) : Int) + (1 : Int))) ∧ (((g1.1.length : Nat) : Int) + (1 : Int)) ≤ 4294967296) ((iter (p_addLimbs_l3 g1) F ((0 : Int), (0 : Int), [])).bind fun o => aft o some (p_addLimbs_k2 F)))
/-- pub-orthodrome/spec.addLimbs -/
def p_addLimbs (F : Nat) (a0 : (List Int)) (a1 : (List Int)) : Option (List Int) := (cond (decide (((a0.length : Nat) : Int) < ((a1.length : Nat) : Int))) ((p_addLimbs_k1 F) (a1, a0)) ((p_addLimbs_k1 F) (a0, a1)))

def p_cmpLimbs_k1  (g6 : Unit) : Option Int := some (0 : Int)
def p_cmpLimbs_l2 (a0 : (List Int)) (a1 : (List Int)) (K8 : Int → Option (Sum Unit Int)) (g7 : Int) : Option (Sum Unit Int) := (cond (decide ((0 : Int) ≤ g7)) ((idx a0 g7).bind fun x11 => ((idx a1 g7).bind fun x13 => ((cond (!decide (x11 = x13)) ((idx a0 g7).bind fun x16 => ((idx a1 g7).bind fun x18 => ((cond (decide (x16 < x18)) (some (Sum.inr (-1 : Int))) (some (Sum.inr (1 : Int))))))) (need (inI .i64 (g7 - (1 : Int))) (K8 (g7 - (1 : Int)))))))) (some (Sum.inl ())))
/-- pub-orthodrome/spec.cmpLimbs -/
def p_cmpLimbs (F : Nat) (a0 : (List Int)) (a1 : (List Int)) : Option Int := (cond (!decide (((a0.length : Nat) : Int) = ((a1.length : Nat) : Int))) (cond (decide (((a0.length : Nat) : Int) < ((a1.length : Nat) : Int))) (some (-1 : Int)) (some (1 : Int))) (need (inI .i64 (((a0.length : Nat) : Int) - (1 : Int))) ((iter (p_cmpLimbs_l2 a0 a1) F (((a0.length : Nat) : Int) - (1 : Int))).bind fun o => aft o some p_cmpLimbs_k1)))

def p_subLimbs_k1 (F : Nat) (g4 : (List Int)) : Option (List Int) := (p_trim F g4).bind fun y5 => (some y5)
def p_subLimbs_k4 (g7 : (Int × Int × (List Int))) (K8 : (Int × Int × (List Int)) → Option (Sum (List Int) (List Int))) (x11 : Int) (g13 : Int) (g14 : Int) : Option (Sum (List Int) (List Int)) := need (inI .u64 ((IntKind.u64.wrap x11) + (IntKind.u64.wrap (g14 * 2 ^ 32)))) (need (inI .u64 (((IntKind.u64.wrap x11) + (IntKind.u64.wrap (g14 * 2 ^ 32))) - g13)) (need (g7.2.2.length + [(IntKind.u32.wrap (((IntKind.u64.wrap x11) + (IntKind.u64.wrap (g14 * 2 ^ 32))) - g13))].length ≤ 4294967296) (need (inI .i64 (g7.2.1 + (1 : Int))) (K8 (g14, (g7.2.1 + (1 : Int)), (g7.2.2 ++ [(IntKind.u32.wrap (((IntKind.u64.wrap x11) + (IntKind.u64.wrap (g14 * 2 ^ 32))) - g13))]))))))
def p_subLimbs_k3 (g7 : (Int × Int × (List Int))) (K8 : (Int × Int × (List Int)) → Option (Sum (List Int) (List Int))) (x11 : Int) (g13 : Int) : Option (Sum (List Int) (List Int)) := (cond (decide ((IntKind.u64.wrap x11) < g13)) ((p_subLimbs_k4 g7 K8 x11 g13) (1 : Int)) ((p_subLimbs_k4 g7 K8 x11 g13) (0 : Int)))
def p_subLimbs_l2 (a0 : (List Int)) (a1 : (List Int)) (K8 : (Int × Int × (List Int)) → Option (Sum (List Int) (List Int))) (g7 : (Int × Int × (List Int))) : Option (Sum (List Int) (List Int)) := (cond (decide (g7.2.1 < ((a0.length : Nat) : Int))) ((idx a0 g7.2.1).bind fun x11 => ((cond (decide (g7.2.1 < ((a1.length : Nat) : Int))) ((idx a1 g7.2.1).bind fun x21 => (need (inI .u64 (g7.1 + (IntKind.u64.wrap x21))) ((p_subLimbs_k3 g7 K8 x11) (g7.1 + (IntKind.u64.wrap x21))))) ((p_subLimbs_k3 g7 K8 x11) g7.1)))) (some (Sum.inl g7.2.2)))
/-- pub-orthodrome/spec.subLimbs -/
def p_subLimbs (F : Nat) (a0 : (List Int)) (a1 : (List Int)) : Option (List Int) := need ((0 ≤ (0 : Int) ∧ (0 : Int) ≤ ((a0.length : Nat) : Int)) ∧ ((a0.length : Nat) : Int) ≤ 4294967296) ((iter (p_subLimbs_l2 a0 a1) F ((0 : Int), (0 : Int), [])).bind fun o => aft o some (p_subLimbs_k1 F))

/-- (pub-orthodrome/spec.Whole).Add -/
def p_Whole_Add (F : Nat) (a0 : TSpec_Whole) (a1 : TSpec_Whole) : Option TSpec_Whole := (cond (a0.Neg == a1.Neg) ((p_addLimbs F a0.L a1.L).bind fun y2 => (some (TSpec_Whole.mk a0.Neg y2))) ((p_cmpLimbs F a0.L a1.L).bind fun y4 => ((cond (decide (y4 = (0 : Int))) (some (TSpec_Whole.mk false [])) (cond (decide (y4 = (1 : Int))) ((p_subLimbs F a0.L a1.L).bind fun y8 => (some (TSpec_Whole.mk a0.Neg y8))) ((p_subLimbs F a1.L a0.L).bind fun y10 => (some (TSpec_Whole.mk a1.Neg y10))))))))

/-- (pub-orthodrome/spec.Dyadic).Add -/
def p_Dyadic_Add (F : Nat) (a0 : TSpec_Dyadic) (a1 : TSpec_Dyadic) : Option TSpec_Dyadic := (p_Dyadic_Sign a0).bind fun y1 => ((cond (decide (y1 = (0 : Int))) (some a1) ((p_Dyadic_Sign a1).bind fun y4 => ((cond (decide (y4 = (0 : Int))) (some a0) (cond (decide (a1.E < a0.E)) (need (inI .i64 (a0.E - a1.E)) ((p_Whole_Up F a0.N (a0.E - a1.E)).bind fun y9 => ((p_Whole_Add F y9 a1.N).bind fun y11 => (some (TSpec_Dyadic.mk y11 a1.E))))) (need (inI .i64 (a1.E - a0.E)) ((p_Whole_Up F a1.N (a1.E - a0.E)).bind fun y14 => ((p_Whole_Add F y14 a0.N).bind fun y16 => (some (TSpec_Dyadic.mk y16 a0.E)))))))))))

/-- (pub-orthodrome/spec.Dyadic).Sub -/
def p_Dyadic_Sub (F : Nat) (a0 : TSpec_Dyadic) (a1 : TSpec_Dyadic) : Option TSpec_Dyadic := (p_Dyadic_Minus a1).bind fun y1 => ((p_Dyadic_Add F a0 y1).bind fun y3 => (some y3))

/-- (pub-orthodrome/spec.Point3).Sub -/
def p_Point3_Sub (F : Nat) (a0 : TSpec_Point3) (a1 : TSpec_Point3) : Option TSpec_Point3 := (p_Dyadic_Sub F a0.X a1.X).bind fun y1 => ((p_Dyadic_Sub F a0.Y a1.Y).bind fun y3 => ((p_Dyadic_Sub F a0.Z a1.Z).bind fun y5 => (some (TSpec_Point3.mk y1 y3 y5))))

def p_Whole_Mul_k1 (a0 : TSpec_Whole) (a1 : TSpec_Whole) (F : Nat) (g5 : (List Int)) : Option TSpec_Whole := need ((((((a0.L.length : Nat) : Int) + ((a1.L.length : Nat) : Int))).toNat) = g5.length) ((p_trim F g5).bind fun y7 => ((cond (decide ((0 : Int) < ((y7.length : Nat) : Int))) (some (TSpec_Whole.mk (!(a0.Neg == a1.Neg)) y7)) (some (TSpec_Whole.mk false y7)))))
def p_Whole_Mul_k3 (a0 : TSpec_Whole) (a1 : TSpec_Whole) (g10 : (Int × (List Int))) (K11 : (Int × (List Int)) → Option (Sum (List Int) TSpec_Whole)) (g18 : (Int × (List Int))) : Option (Sum (List Int) TSpec_Whole) := need (inI .i64 (g10.1 + ((a1.L.length : Nat) : Int))) (need (0 ≤ (g10.1 + ((a1.L.length : Nat) : Int)) ∧ (g10.1 + ((a1.L.length : Nat) : Int)) < ((((((a0.L.length : Nat) : Int) + ((a1.L.length : Nat) : Int))).toNat : Nat) : Int)) (need (((g10.1 + ((a1.L.length : Nat) : Int))).toNat < g18.2.length) (need (inI .i64 (g10.1 + (1 : Int))) (K11 ((g10.1 + (1 : Int)), (g18.2.set ((g10.1 + ((a1.L.length : Nat) : Int))).toNat (IntKind.u32.wrap g18.1)))))))
def p_Whole_Mul_l4 (a0 : TSpec_Whole) (a1 : TSpec_Whole) (g10 : (Int × (List Int))) (x14 : Int) (K24 : (Int × Int × (List Int)) → Option (Sum (Int × (List Int)) TSpec_Whole)) (g23 : (Int × Int × (List Int))) : Option (Sum (Int × (List Int)) TSpec_Whole) := (cond (decide (g23.2.1 < ((a1.L.length : Nat) : Int))) ((idx a1.L g23.2.1).bind fun x27 => (need (inI .u64 ((IntKind.u64.wrap x14) * (IntKind.u64.wrap x27))) (need (inI .i64 (g10.1 + g23.2.1)) (need (0 ≤ (g10.1 + g23.2.1) ∧ (g10.1 + g23.2.1) < ((((((a0.L.length : Nat) : Int) + ((a1.L.length : Nat) : Int))).toNat : Nat) : Int)) ((idx g23.2.2 (g10.1 + g23.2.1)).bind fun x32 => (need (inI .u64 (((IntKind.u64.wrap x14) * (IntKind.u64.wrap x27)) + (IntKind.u64.wrap x32))) (need (inI .u64 ((((IntKind.u64.wrap x14) * (IntKind.u64.wrap x27)) + (IntKind.u64.wrap x32)) + g23.1)) (need (inI .i64 (g10.1 + g23.2.1)) (need (0 ≤ (g10.1 + g23.2.1) ∧ (g10.1 + g23.2.1) < ((((((a0.L.length : Nat) : Int) + ((a1.L.length : Nat) : Int))).toNat : Nat) : Int)) (need (((g10.1 + g23.2.1)).toNat < g23.2.2.length) (need (0 ≤ ((((IntKind.u64.wrap x14) * (IntKind.u64.wrap x27)) + (IntKind.u64.wrap x32)) + g23.1)) (need (inI .i64 (g23.2.1 + (1 : Int))) (K24 ((((((IntKind.u64.wrap x14) * (IntKind.u64.wrap x27)) + (IntKind.u64.wrap x32)) + g23.1) / 2 ^ 32), (g23.2.1 + (1 : Int)), (g23.2.2.set ((g10.1 + g23.2.1)).toNat (IntKind.u32.wrap ((((IntKind.u64.wrap x14) * (IntKind.u64.wrap x27)) + (IntKind.u64.wrap x32)) + g23.1))))))))))))))))) (some (Sum.inl (g23.1, g23.2.2))))
def p_Whole_Mul_l2 (a0 : TSpec_Whole) (a1 : TSpec_Whole) (F : Nat) (K11 : (Int × (List Int)) → Option (Sum (List Int) TSpec_Whole)) (g10 : (Int × (List Int))) : Option (Sum (List Int) TSpec_Whole) := (cond (decide (g10.1 < ((a0.L.length : Nat) : Int))) ((idx a0.L g10.1).bind fun x14 => ((iter (p_Whole_Mul_l4 a0 a1 g10 x14) F ((0 : Int), (0 : Int), g10.2)).bind fun o => aft o (fun r => some (Sum.inr r)) (p_Whole_Mul_k3 a0 a1 g10 K11))) (some (Sum.inl g10.2)))
/-- (pub-orthodrome/spec.Whole).Mul -/
def p_Whole_Mul (F : Nat) (a0 : TSpec_Whole) (a1 : TSpec_Whole) : Option TSpec_Whole := need (inI .i64 (((a0.L.length : Nat) : Int) + ((a1.L.length : Nat) : Int))) (need (0 ≤ (((a0.L.length : Nat) : Int) + ((a1.L.length : Nat) : Int)) ∧ (((a0.L.length : Nat) : Int) + ((a1.L.length : Nat) : Int)) ≤ 4294967296) ((iter (p_Whole_Mul_l2 a0 a1 F) F ((0 : Int), (List.replicate ((((a0.L.length : Nat) : Int) + ((a1.L.length : Nat) : Int))).toNat (0 : Int)))).bind fun o => aft o some (p_Whole_Mul_k1 a0 a1 F)))

/-- (pub-orthodrome/spec.Dyadic).Mul -/
def p_Dyadic_Mul (F : Nat) (a0 : TSpec_Dyadic) (a1 : TSpec_Dyadic) : Option TSpec_Dyadic := (p_Whole_Mul F a0.N a1.N).bind fun y1 => (need (inI .i64 (a0.E + a1.E)) (some (TSpec_Dyadic.mk y1 (a0.E + a1.E))))

/-- pub-orthodrome/spec.Dot3 -/
def p_Dot3 (F : Nat) (a0 : TSpec_Point3) (a1 : TSpec_Point3) : Option TSpec_Dyadic := (p_Dyadic_Mul F a0.X a1.X).bind fun y1 => ((p_Dyadic_Mul F a0.Y a1.Y).bind fun y3 => ((p_Dyadic_Add F y1 y3).bind fun y5 => ((p_Dyadic_Mul F a0.Z a1.Z).bind fun y7 => ((p_Dyadic_Add F y5 y7).bind fun y9 => (some y9)))))

/-- pub-orthodrome/spec.IntOf -/
def p_IntOf (F : Nat) (a0 : Int) : Option TSpec_Dyadic := (p_WholeOf F a0).bind fun y1 => (some (TSpec_Dyadic.mk y1 (0 : Int)))

/-- pub-orthodrome/spec.Square3 -/
def p_Square3 (F : Nat) (a0 : TSpec_Point3) (a1 : TSpec_Point3) : Option TSpec_Dyadic := (p_Point3_Sub F a0 a1).bind fun y1 => ((p_Dot3 F y1 y1).bind fun y3 => (some y3))

/-- (pub-orthodrome/spec.Dyadic).Cmp -/
def p_Dyadic_Cmp (F : Nat) (a0 : TSpec_Dyadic) (a1 : TSpec_Dyadic) : Option Int := (p_Dyadic_Sub F a0 a1).bind fun y1 => ((p_Dyadic_Sign y1).bind fun y3 => (some y3))

/-- pub-orthodrome/spec.Cross3 -/
def p_Cross3 (F : Nat) (a0 : TSpec_Point3) (a1 : TSpec_Point3) : Option TSpec_Point3 := (p_Dyadic_Mul F a0.Y a1.Z).bind fun y1 => ((p_Dyadic_Mul F a0.Z a1.Y).bind fun y3 => ((p_Dyadic_Sub F y1 y3).bind fun y5 => ((p_Dyadic_Mul F a0.Z a1.X).bind fun y7 => ((p_Dyadic_Mul F a0.X a1.Z).bind fun y9 => ((p_Dyadic_Sub F y7 y9).bind fun y11 => ((p_Dyadic_Mul F a0.X a1.Y).bind fun y13 => ((p_Dyadic_Mul F a0.Y a1.X).bind fun y15 => ((p_Dyadic_Sub F y13 y15).bind fun y17 => (some (TSpec_Point3.mk y5 y11 y17))))))))))

def p_SquareTo3_k1 (a0 : TSpec_Point3) (a1 : TSpec_Point3) (a2 : TSpec_Point3) (F : Nat) (y1 : TSpec_Point3) (y3 : TSpec_Point3) (y5 : TSpec_Dyadic) (y7 : TSpec_Dyadic) (y9 : TSpec_Dyadic) (g11 : Bool) : Option TSpec_Ratio := (cond g11 ((p_Square3 F a1 a0).bind fun y13 => (some (TSpec_Ratio.mk y13 y9))) ((p_Dyadic_Cmp F y7 y5).bind fun y15 => ((cond (decide ((0 : Int) ≤ y15)) ((p_Square3 F a2 a0).bind fun y18 => (some (TSpec_Ratio.mk y18 y9))) ((p_Cross3 F y1 y3).bind fun y20 => ((p_Dot3 F y20 y20).bind fun y22 => (some (TSpec_Ratio.mk y22 y5))))))))
/-- pub-orthodrome/spec.SquareTo3 -/
def p_SquareTo3 (F : Nat) (a0 : TSpec_Point3) (a1 : TSpec_Point3) (a2 : TSpec_Point3) : Option TSpec_Ratio := (p_Point3_Sub F a2 a1).bind fun y1 => ((p_Point3_Sub F a0 a1).bind fun y3 => ((p_Dot3 F y1 y1).bind fun y5 => ((p_Dot3 F y1 y3).bind fun y7 => ((p_IntOf F (1 : Int)).bind fun y9 => ((p_Dyadic_Sign y5).bind fun y24 => ((cond (decide (y24 = (0 : Int))) ((p_SquareTo3_k1 a0 a1 a2 F y1 y3 y5 y7 y9) true) ((p_Dyadic_Sign y7).bind fun y27 => ((p_SquareTo3_k1 a0 a1 a2 F y1 y3 y5 y7 y9) (decide (y27 ≤ (0 : Int))))))))))))

def p_Whole_top_k1  (g8 : Int) : Option Int := some g8
def p_Whole_top_l2  (K10 : (Int × Int) → Option (Sum Int Int)) (g9 : (Int × Int)) : Option (Sum Int Int) := (cond (decide (g9.2 < (2147483648 : Int))) (need (inI .i64 (g9.1 - (1 : Int))) (K10 ((g9.1 - (1 : Int)), (IntKind.u32.wrap (g9.2 * 2 ^ 1))))) (some (Sum.inl g9.1)))
/-- (pub-orthodrome/spec.Whole).top -/
def p_Whole_top (F : Nat) (a0 : TSpec_Whole) : Option Int := (cond (decide (((a0.L.length : Nat) : Int) = (0 : Int))) (some (0 : Int)) (need (inI .i64 ((32 : Int) * ((a0.L.length : Nat) : Int))) (need (inI .i64 (((a0.L.length : Nat) : Int) - (1 : Int))) ((idx a0.L (((a0.L.length : Nat) : Int) - (1 : Int))).bind fun x4 => ((iter p_Whole_top_l2 F (((32 : Int) * ((a0.L.length : Nat) : Int)), x4)).bind fun o => aft o some p_Whole_top_k1)))))

/-- (pub-orthodrome/spec.Whole).bit -/
def p_Whole_bit (a0 : TSpec_Whole) (a1 : Int) : Option Bool := (cond (decide ((0 : Int) ≤ a1)) (need ((32 : Int) ≠ 0 ∧ inI .i64 (Int.tdiv a1 (32 : Int))) ((cond (decide ((Int.tdiv a1 (32 : Int)) < ((a0.L.length : Nat) : Int))) (need ((32 : Int) ≠ 0 ∧ inI .i64 (Int.tdiv a1 (32 : Int))) ((idx a0.L (Int.tdiv a1 (32 : Int))).bind fun x5 => (need ((32 : Int) ≠ 0) (need ((0 ≤ (Int.tmod a1 (32 : Int)) ∧ (Int.tmod a1 (32 : Int)) ≤ (IntKind.u32.bits : Int)) ∧ 0 ≤ x5) (some (decide ((bits .and .u32 (x5 / 2 ^ ((Int.tmod a1 (32 : Int))).toNat) (1 : Int)) = (1 : Int)))))))) (some false)))) (some false))

def p_Whole_low_k1  (g3 : Unit) : Option Bool := some false
def p_Whole_low_l2 (a0 : TSpec_Whole) (a1 : Int) (K5 : Int → Option (Sum Unit Bool)) (g4 : Int) : Option (Sum Unit Bool) := (cond (decide (g4 < a1)) ((p_Whole_bit a0 g4).bind fun y8 => ((cond y8 (some (Sum.inr true)) (need (inI .i64 (g4 + (1 : Int))) (K5 (g4 + (1 : Int))))))) (some (Sum.inl ())))
/-- (pub-orthodrome/spec.Whole).low -/
def p_Whole_low (F : Nat) (a0 : TSpec_Whole) (a1 : Int) : Option Bool := (iter (p_Whole_low_l2 a0 a1) F (0 : Int)).bind fun o => aft o some p_Whole_low_k1

/-- math.IsInf -/
def p_IsInf (a0 : Nat) (a1 : Int) : Option Bool := (cond (decide (a1 = (0 : Int))) (some (fgt (Flt.fabs a0) (9218868437227405311 : Nat))) (cond (decide (a1 < (0 : Int))) (some (fgt (fneg a0) (9218868437227405311 : Nat))) (some (fgt a0 (9218868437227405311 : Nat)))))

/-- math.normalize -/
def p_normalize (a0 : Nat) : Option (Nat × Int) := (cond (flt (Flt.fabs a0) (4503599627370496 : Nat)) ((floatBits .mul .f64 a0 (4841369599423283200 : Nat)).bind fun z2 => (some (z2, (-52 : Int)))) (some (a0, (0 : Int))))

/-- math.Copysign -/
def p_Copysign (a0 : Nat) (a1 : Nat) : Option Nat := need (((((bits .or .u64 (bits .andNot .u64 ((a0 : Nat) : Int) (9223372036854775808 : Int)) (bits .and .u64 ((a1 : Nat) : Int) (9223372036854775808 : Int)))).toNat : Nat) : Int) = (bits .or .u64 (bits .andNot .u64 ((a0 : Nat) : Int) (9223372036854775808 : Int)) (bits .and .u64 ((a1 : Nat) : Int) (9223372036854775808 : Int)))) (some (((bits .or .u64 (bits .andNot .u64 ((a0 : Nat) : Int) (9223372036854775808 : Int)) (bits .and .u64 ((a1 : Nat) : Int) (9223372036854775808 : Int)))).toNat))

/-- math.Inf -/
def p_Inf (a0 : Int) : Option Nat := (cond (decide ((0 : Int) ≤ a0)) (need (((((9218868437227405312 : Int)).toNat : Nat) : Int) = (9218868437227405312 : Int)) (some (((9218868437227405312 : Int)).toNat))) (need (((((18442240474082181120 : Int)).toNat : Nat) : Int) = (18442240474082181120 : Int)) (some (((18442240474082181120 : Int)).toNat))))

def p_ldexp_k2 (y4 : (Nat × Int)) (g19 : (Int × Nat)) : Option Nat := need (inI .i64 (g19.1 + (1023 : Int))) (need (((((bits .or .u64 (bits .andNot .u64 ((y4.1 : Nat) : Int) (9218868437227405312 : Int)) (IntKind.u64.wrap ((IntKind.u64.wrap (g19.1 + (1023 : Int))) * 2 ^ 52)))).toNat : Nat) : Int) = (bits .or .u64 (bits .andNot .u64 ((y4.1 : Nat) : Int) (9218868437227405312 : Int)) (IntKind.u64.wrap ((IntKind.u64.wrap (g19.1 + (1023 : Int))) * 2 ^ 52)))) ((floatBits .mul .f64 g19.2 (((bits .or .u64 (bits .andNot .u64 ((y4.1 : Nat) : Int) (9218868437227405312 : Int)) (IntKind.u64.wrap ((IntKind.u64.wrap (g19.1 + (1023 : Int))) * 2 ^ 52)))).toNat)).bind fun z22 => (some z22)))
def p_ldexp_k1 (a0 : Nat) (a1 : Int) (g2 : Bool) : Option Nat := (cond g2 (some a0) ((p_normalize a0).bind fun y4 => (need (inI .i64 (a1 + y4.2)) (need (0 ≤ ((y4.1 : Nat) : Int)) (need (inI .i64 ((bits .and .i64 (IntKind.i64.wrap (((y4.1 : Nat) : Int) / 2 ^ 52)) (2047 : Int)) - (1023 : Int))) (need (inI .i64 ((a1 + y4.2) + ((bits .and .i64 (IntKind.i64.wrap (((y4.1 : Nat) : Int) / 2 ^ 52)) (2047 : Int)) - (1023 : Int)))) ((cond (decide (((a1 + y4.2) + ((bits .and .i64 (IntKind.i64.wrap (((y4.1 : Nat) : Int) / 2 ^ 52)) (2047 : Int)) - (1023 : Int))) < (-1075 : Int))) ((p_Copysign (0 : Nat) y4.1).bind fun y11 => (some y11)) (cond (decide ((1023 : Int) < ((a1 + y4.2) + ((bits .and .i64 (IntKind.i64.wrap (((y4.1 : Nat) : Int) / 2 ^ 52)) (2047 : Int)) - (1023 : Int))))) (cond (flt y4.1 (0 : Nat)) ((p_Inf (-1 : Int)).bind fun y15 => (some y15)) ((p_Inf (1 : Int)).bind fun y17 => (some y17))) (cond (decide (((a1 + y4.2) + ((bits .and .i64 (IntKind.i64.wrap (((y4.1 : Nat) : Int) / 2 ^ 52)) (2047 : Int)) - (1023 : Int))) < (-1022 : Int))) (need (inI .i64 (((a1 + y4.2) + ((bits .and .i64 (IntKind.i64.wrap (((y4.1 : Nat) : Int) / 2 ^ 52)) (2047 : Int)) - (1023 : Int))) + (53 : Int))) ((p_ldexp_k2 y4) ((((a1 + y4.2) + ((bits .and .i64 (IntKind.i64.wrap (((y4.1 : Nat) : Int) / 2 ^ 52)) (2047 : Int)) - (1023 : Int))) + (53 : Int)), (4368491638549381120 : Nat)))) ((p_ldexp_k2 y4) (((a1 + y4.2) + ((bits .and .i64 (IntKind.i64.wrap (((y4.1 : Nat) : Int) / 2 ^ 52)) (2047 : Int)) - (1023 : Int))), (4607182418800017408 : Nat)))))))))))))
/-- math.ldexp -/
def p_ldexp (a0 : Nat) (a1 : Int) : Option Nat := (cond (feq a0 (0 : Nat)) (some a0) ((p_IsInf a0 (0 : Int)).bind fun y26 => ((cond y26 ((p_ldexp_k1 a0 a1) true) ((p_IsNaN a0).bind fun y29 => ((p_ldexp_k1 a0 a1) y29))))))

/-- math.Ldexp -/
def p_Ldexp (a0 : Nat) (a1 : Int) : Option Nat := (p_ldexp a0 a1).bind fun y1 => (some y1)

def p_Dyadic_Float_k2 (a0 : TSpec_Dyadic) (y4 : Int) (y8 : Int) (g14 : Int) : Option Nat := need (inI .i64 (a0.E + (y8 - (if ((y4 + a0.E) + (1074 : Int)) < (53 : Int) then ((y4 + a0.E) + (1074 : Int)) else (53 : Int))))) ((p_Ldexp (ofInt g14) (a0.E + (y8 - (if ((y4 + a0.E) + (1074 : Int)) < (53 : Int) then ((y4 + a0.E) + (1074 : Int)) else (53 : Int))))).bind fun y16 => ((cond a0.N.Neg (some (fneg y16)) (some y16))))
def p_Dyadic_Float_k1 (a0 : TSpec_Dyadic) (F : Nat) (y4 : Int) (y8 : Int) (g13 : Int) : Option Nat := (cond (decide ((0 : Int) < (y8 - (if ((y4 + a0.E) + (1074 : Int)) < (53 : Int) then ((y4 + a0.E) + (1074 : Int)) else (53 : Int))))) (need (inI .i64 ((y8 - (if ((y4 + a0.E) + (1074 : Int)) < (53 : Int) then ((y4 + a0.E) + (1074 : Int)) else (53 : Int))) - (1 : Int))) ((p_Whole_bit a0.N ((y8 - (if ((y4 + a0.E) + (1074 : Int)) < (53 : Int) then ((y4 + a0.E) + (1074 : Int)) else (53 : Int))) - (1 : Int))).bind fun y21 => ((cond y21 (need ((2 : Int) ≠ 0) ((cond (decide ((Int.tmod g13 (2 : Int)) = (1 : Int))) (need (inI .u64 (g13 + (1 : Int))) ((p_Dyadic_Float_k2 a0 y4 y8) (g13 + (1 : Int)))) (need (inI .i64 ((y8 - (if ((y4 + a0.E) + (1074 : Int)) < (53 : Int) then ((y4 + a0.E) + (1074 : Int)) else (53 : Int))) - (1 : Int))) ((p_Whole_low F a0.N ((y8 - (if ((y4 + a0.E) + (1074 : Int)) < (53 : Int) then ((y4 + a0.E) + (1074 : Int)) else (53 : Int))) - (1 : Int))).bind fun y28 => ((cond y28 (need (inI .u64 (g13 + (1 : Int))) ((p_Dyadic_Float_k2 a0 y4 y8) (g13 + (1 : Int)))) ((p_Dyadic_Float_k2 a0 y4 y8) g13)))))))) ((p_Dyadic_Float_k2 a0 y4 y8) g13))))) ((p_Dyadic_Float_k2 a0 y4 y8) g13))
def p_Dyadic_Float_l3 (a0 : TSpec_Dyadic) (F : Nat) (y4 : Int) (K33 : (Int × Int) → Option (Sum Int Nat)) (g32 : (Int × Int)) : Option (Sum Int Nat) := (cond (decide (g32.2 < (if ((y4 + a0.E) + (1074 : Int)) < (53 : Int) then ((y4 + a0.E) + (1074 : Int)) else (53 : Int)))) ((p_Whole_top F a0.N).bind fun y36 => (need (inI .i64 (y36 - (1 : Int))) (need (inI .i64 ((y36 - (1 : Int)) - g32.2)) ((p_Whole_bit a0.N ((y36 - (1 : Int)) - g32.2)).bind fun y40 => ((cond y40 (need (inI .u64 ((IntKind.u64.wrap (g32.1 * 2 ^ 1)) + (1 : Int))) (need (inI .i64 (g32.2 + (1 : Int))) (K33 (((IntKind.u64.wrap (g32.1 * 2 ^ 1)) + (1 : Int)), (g32.2 + (1 : Int)))))) (need (inI .i64 (g32.2 + (1 : Int))) (K33 ((IntKind.u64.wrap (g32.1 * 2 ^ 1)), (g32.2 + (1 : Int))))))))))) (some (Sum.inl g32.1)))
/-- (pub-orthodrome/spec.Dyadic).Float -/
def p_Dyadic_Float (F : Nat) (a0 : TSpec_Dyadic) : Option Nat := (p_Dyadic_Sign a0).bind fun y1 => ((cond (decide (y1 = (0 : Int))) (some (0 : Nat)) ((p_Whole_top F a0.N).bind fun y4 => (need (inI .i64 (y4 + a0.E)) (need (inI .i64 ((y4 + a0.E) + (1074 : Int))) ((p_Whole_top F a0.N).bind fun y8 => (need (inI .i64 (y8 - (if ((y4 + a0.E) + (1074 : Int)) < (53 : Int) then ((y4 + a0.E) + (1074 : Int)) else (53 : Int)))) ((iter (p_Dyadic_Float_l3 a0 F y4) F ((0 : Int), (0 : Int))).bind fun o => aft o some (p_Dyadic_Float_k1 a0 F y4 y8)))))))))

/-- pub-orthodrome/laws.rootOf -/
def p_rootOf (F : Nat) (a0 : TSpec_Ratio) : Option Nat := (p_Dyadic_Float F a0.N).bind fun y1 => ((p_Dyadic_Float F a0.D).bind fun y3 => ((floatBits .quo .f64 y1 y3).bind fun z5 => ((p_Sqrt z5).bind fun y7 => (some y7))))

/-- pub-orthodrome/laws.nearTo -/
def p_nearTo (a0 : Nat) (a1 : Nat) : Option Bool := (floatBits .sub .f64 a0 a1).bind fun z1 => (some (flt (Flt.fabs z1) (4517110426252607488 : Nat)))

/-- pub-orthodrome/laws.FnSpacePointLine -/
def p_FnSpacePointLine (F : Nat) (a0 : TImpl_P3) (a1 : TImpl_P3) (a2 : TImpl_P3) : Option Bool := (p_spaceTo F (4652218415073722368 : Nat) [a0, a1, a2]).bind fun y1 => ((cond (!y1) (some true) ((p_PointLine3 a0 a1 a2).bind fun y4 => ((cond y4.2 ((p_exactly3 F a0).bind fun y7 => ((p_exactly3 F a1).bind fun y9 => ((p_exactly3 F a2).bind fun y11 => ((p_SquareTo3 F y7 y9 y11).bind fun y13 => ((p_rootOf F y13).bind fun y15 => ((p_nearTo y4.1 y15).bind fun y17 => (some y17))))))) (some false))))))

end Go.Proofs.Ytohpmbodfpjjmaa.Wk
