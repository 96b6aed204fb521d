/- Printed: what functions of the program compute, as functions of Lean. No condition is laid on their arguments. -/
import Derived.Test.YtohpmbodfpjjmaaDoorPureKit
namespace Go.Proofs.YtohpmbodfpjjmaaDoor.Wk
open Go.Vm
set_option linter.unusedVariables false
abbrev keS0 (x : Nat) : D := dfl x
abbrev eS0 (l : List Nat) : D := .ds 1 (l.map keS0)
structure TImpl_P2 where
  mk ::
  (X : Nat)
  (Y : Nat)
abbrev c_TImpl_P2 (x : TImpl_P2) : List D := [dfl x.X, dfl x.Y]
abbrev e_TImpl_P2 (x : TImpl_P2) : D := .ag (c_TImpl_P2 x)
abbrev eS1 (l : List TImpl_P2) : D := .ds 2 (l.flatMap c_TImpl_P2)
abbrev keS2 (x : (List Nat)) : D := eS0 x
abbrev eS2 (l : List (List Nat)) : D := .ds 1 (l.map keS2)
structure TSpec_Whole where
  mk ::
  (Neg : Bool)
  (L : (List Int))
abbrev keS3 (x : Int) : D := di .u32 x
abbrev eS3 (l : List Int) : D := .ds 1 (l.map keS3)
abbrev c_TSpec_Whole (x : TSpec_Whole) : List D := [dbool x.Neg, eS3 x.L]
abbrev e_TSpec_Whole (x : TSpec_Whole) : D := .ag (c_TSpec_Whole x)
structure TSpec_Dyadic where
  mk ::
  (N : TSpec_Whole)
  (E : Int)
abbrev c_TSpec_Dyadic (x : TSpec_Dyadic) : List D := [dbool x.N.Neg, eS3 x.N.L, di .i64 x.E]
abbrev e_TSpec_Dyadic (x : TSpec_Dyadic) : D := .ag (c_TSpec_Dyadic x)
structure TSpec_Point where
  mk ::
  (X : TSpec_Dyadic)
  (Y : TSpec_Dyadic)
abbrev c_TSpec_Point (x : TSpec_Point) : List D := [dbool x.X.N.Neg, eS3 x.X.N.L, di .i64 x.X.E, dbool x.Y.N.Neg, eS3 x.Y.N.L, di .i64 x.Y.E]
abbrev e_TSpec_Point (x : TSpec_Point) : D := .ag (c_TSpec_Point x)
structure TXy_convexHullCalculator where
  mk ::
  (layout : Int)
  (stride : Int)
  (inputPts : (List Nat))
abbrev c_TXy_convexHullCalculator (x : TXy_convexHullCalculator) : List D := [di .i64 x.layout, di .i64 x.stride, eS0 x.inputPts]
abbrev e_TXy_convexHullCalculator (x : TXy_convexHullCalculator) : D := .ag (c_TXy_convexHullCalculator x)
/-- pub-orthodrome/spec.Stride -/
def p_Stride (a0 : Int) : Option Int := (cond (decide (a0 < (1 : Int))) (some (0 : Int)) (cond (decide (a0 = (1 : Int))) (some (2 : Int)) (cond (decide (a0 = (2 : Int))) (some (3 : Int)) (cond (decide (a0 = (3 : Int))) (some (3 : Int)) (some a0)))))

def p_wholeTo_k1  (g3 : Unit) : Option Bool := some true
def p_wholeTo_l2 (a0 : Nat) (a1 : (List Nat)) (K5 : Int → Option (Sum Unit Bool)) (g4 : Int) : Option (Sum Unit Bool) := (cond (decide (g4 < ((a1.length : Nat) : Int))) ((idx a1 g4).bind fun x8 => ((cond (!feq x8 (Flt.truncN x8)) (some (Sum.inr false)) (cond (fgt (Flt.fabs x8) a0) (some (Sum.inr false)) (need (inI .i64 (g4 + (1 : Int))) (K5 (g4 + (1 : Int)))))))) (some (Sum.inl ())))
/-- pub-orthodrome/laws.wholeTo -/
def p_wholeTo (F : Nat) (a0 : Nat) (a1 : (List Nat)) : Option Bool := (iter (p_wholeTo_l2 a0 a1) F (0 : Int)).bind fun o => aft o some p_wholeTo_k1

def p_planeTo_k1  (g3 : Unit) : Option Bool := some true
def p_planeTo_l2 (a0 : Nat) (a1 : (List TImpl_P2)) (F : Nat) (K5 : Int → Option (Sum Unit Bool)) (g4 : Int) : Option (Sum Unit Bool) := (cond (decide (g4 < ((a1.length : Nat) : Int))) ((idx a1 g4).bind fun x8 => ((p_wholeTo F a0 [x8.X, x8.Y]).bind fun y10 => ((cond (!y10) (some (Sum.inr false)) (need (inI .i64 (g4 + (1 : Int))) (K5 (g4 + (1 : Int)))))))) (some (Sum.inl ())))
/-- pub-orthodrome/laws.planeTo -/
def p_planeTo (F : Nat) (a0 : Nat) (a1 : (List TImpl_P2)) : Option Bool := (iter (p_planeTo_l2 a0 a1 F) F (0 : Int)).bind fun o => aft o some p_planeTo_k1

def p_flatTo_k3 (a2 : Nat) (F : Nat) (g9 : (List TImpl_P2)) : Option ((List TImpl_P2) × Bool) := (p_planeTo F a2 g9).bind fun y10 => (some (g9, y10))
def p_flatTo_l4 (a1 : (List Nat)) (y3 : Int) (K13 : (Int × (List TImpl_P2)) → Option (Sum (List TImpl_P2) ((List TImpl_P2) × Bool))) (g12 : (Int × (List TImpl_P2))) : Option (Sum (List TImpl_P2) ((List TImpl_P2) × Bool)) := (cond (decide (g12.1 < ((a1.length : Nat) : Int))) ((idx a1 g12.1).bind fun x16 => (need (inI .i64 (g12.1 + (1 : Int))) ((idx a1 (g12.1 + (1 : Int))).bind fun x19 => (need (g12.2.length + [(TImpl_P2.mk x16 x19)].length ≤ 4294967296) (need (inI .i64 (g12.1 + y3)) (K13 ((g12.1 + y3), (g12.2 ++ [(TImpl_P2.mk x16 x19)])))))))) (some (Sum.inl g12.2)))
def p_flatTo_k2 (a1 : (List Nat)) (a2 : Nat) (F : Nat) (y3 : Int) (g5 : Bool) : Option ((List TImpl_P2) × Bool) := (cond g5 (some ([], false)) ((iter (p_flatTo_l4 a1 y3) F ((0 : Int), [])).bind fun o => aft o some (p_flatTo_k3 a2 F)))
def p_flatTo_k1 (a0 : Int) (a1 : (List Nat)) (a2 : Nat) (a3 : Int) (F : Nat) (g1 : Bool) : Option ((List TImpl_P2) × Bool) := (cond g1 (some ([], false)) ((p_Stride a0).bind fun y3 => (need (y3 ≠ 0) ((cond (!decide ((Int.tmod ((a1.length : Nat) : Int) y3) = (0 : Int))) ((p_flatTo_k2 a1 a2 F y3) true) (need (inI .i64 (y3 * a3)) ((p_flatTo_k2 a1 a2 F y3) (decide ((y3 * a3) < ((a1.length : Nat) : Int))))))))))
/-- pub-orthodrome/laws.flatTo -/
def p_flatTo (F : Nat) (a0 : Int) (a1 : (List Nat)) (a2 : Nat) (a3 : Int) : Option ((List TImpl_P2) × Bool) := (cond (decide (a0 < (1 : Int))) ((p_flatTo_k1 a0 a1 a2 a3 F) true) ((p_flatTo_k1 a0 a1 a2 a3 F) (decide ((8 : Int) < a0))))

def p_rowsOf_k1  (g5 : (List (List Nat))) : Option (List (List Nat)) := some g5
def p_rowsOf_l2 (a1 : (List Nat)) (y1 : Int) (K7 : (Int × (List (List Nat))) → Option (Sum (List (List Nat)) (List (List Nat)))) (g6 : (Int × (List (List Nat)))) : Option (Sum (List (List Nat)) (List (List Nat))) := need (inI .i64 (g6.1 + y1)) ((cond (decide ((g6.1 + y1) ≤ ((a1.length : Nat) : Int))) (need (inI .i64 (g6.1 + y1)) (need ((0 ≤ g6.1 ∧ 0 ≤ (g6.1 + y1)) ∧ (g6.1).toNat ≤ ((g6.1 + y1)).toNat ∧ ((g6.1 + y1)).toNat ≤ a1.length) (need (g6.2.length + [((a1.drop (g6.1).toNat).take (((g6.1 + y1)).toNat - (g6.1).toNat))].length ≤ 4294967296) (need (inI .i64 (g6.1 + y1)) (K7 ((g6.1 + y1), (g6.2 ++ [((a1.drop (g6.1).toNat).take (((g6.1 + y1)).toNat - (g6.1).toNat))]))))))) (some (Sum.inl g6.2))))
/-- pub-orthodrome/laws.rowsOf -/
def p_rowsOf (F : Nat) (a0 : Int) (a1 : (List Nat)) : Option (List (List Nat)) := (p_Stride a0).bind fun y1 => ((iter (p_rowsOf_l2 a1 y1) F ((0 : Int), [])).bind fun o => aft o some p_rowsOf_k1)

def p_trim_k1  (g3 : (List Int)) : Option (List Int) := some g3
def p_trim_l2  (K5 : (List Int) → Option (Sum (List Int) (List Int))) (g4 : (List Int)) : Option (Sum (List Int) (List Int)) := (cond (decide ((0 : Int) < ((g4.length : Nat) : Int))) (need (inI .i64 (((g4.length : Nat) : Int) - (1 : Int))) ((idx g4 (((g4.length : Nat) : Int) - (1 : Int))).bind fun x9 => ((cond (decide (x9 = (0 : Int))) (need (inI .i64 (((g4.length : Nat) : Int) - (1 : Int))) (need ((True ∧ 0 ≤ (((g4.length : Nat) : Int) - (1 : Int))) ∧ 0 ≤ ((((g4.length : Nat) : Int) - (1 : Int))).toNat ∧ ((((g4.length : Nat) : Int) - (1 : Int))).toNat ≤ g4.length) (K5 ((g4.drop 0).take (((((g4.length : Nat) : Int) - (1 : Int))).toNat - 0))))) (some (Sum.inl g4)))))) (some (Sum.inl g4)))
/-- pub-orthodrome/spec.trim -/
def p_trim (F : Nat) (a0 : (List Int)) : Option (List Int) := (iter p_trim_l2 F a0).bind fun o => aft o some p_trim_k1

def p_WholeOf_k1 (a0 : Int) (F : Nat) (g1 : Int) : Option TSpec_Whole := need (0 ≤ g1) ((p_trim F [(IntKind.u32.wrap g1), (IntKind.u32.wrap (g1 / 2 ^ 32))]).bind fun y3 => (some (TSpec_Whole.mk (decide (a0 < (0 : Int))) y3)))
/-- pub-orthodrome/spec.WholeOf -/
def p_WholeOf (F : Nat) (a0 : Int) : Option TSpec_Whole := (cond (decide (a0 < (0 : Int))) ((p_WholeOf_k1 a0 F) (IntKind.u64.wrap (-(IntKind.u64.wrap a0)))) ((p_WholeOf_k1 a0 F) (IntKind.u64.wrap a0)))

def p_DyadicOf_k1 (a0 : Nat) (F : Nat) (g2 : (Int × Int)) : Option TSpec_Dyadic := need (0 ≤ ((a0 : Nat) : Int)) ((cond (decide ((((a0 : Nat) : Int) / 2 ^ 63) = (1 : Int))) (need (inI .i64 (-g2.1)) ((p_WholeOf F (-g2.1)).bind fun y6 => (need (inI .i64 (g2.2 - (1075 : Int))) (some (TSpec_Dyadic.mk y6 (g2.2 - (1075 : Int))))))) ((p_WholeOf F g2.1).bind fun y9 => (need (inI .i64 (g2.2 - (1075 : Int))) (some (TSpec_Dyadic.mk y9 (g2.2 - (1075 : Int))))))))
/-- pub-orthodrome/spec.DyadicOf -/
def p_DyadicOf (F : Nat) (a0 : Nat) : Option TSpec_Dyadic := need (0 ≤ ((a0 : Nat) : Int)) ((cond (decide ((IntKind.i64.wrap (bits .and .u64 (((a0 : Nat) : Int) / 2 ^ 52) (2047 : Int))) = (2047 : Int))) (some (TSpec_Dyadic.mk (TSpec_Whole.mk false []) (0 : Int))) (cond (decide ((IntKind.i64.wrap (bits .and .u64 (((a0 : Nat) : Int) / 2 ^ 52) (2047 : Int))) = (0 : Int))) ((p_DyadicOf_k1 a0 F) ((IntKind.i64.wrap (bits .and .u64 ((a0 : Nat) : Int) (4503599627370495 : Int))), (1 : Int))) (need (inI .i64 ((IntKind.i64.wrap (bits .and .u64 ((a0 : Nat) : Int) (4503599627370495 : Int))) + (4503599627370496 : Int))) ((p_DyadicOf_k1 a0 F) (((IntKind.i64.wrap (bits .and .u64 ((a0 : Nat) : Int) (4503599627370495 : Int))) + (4503599627370496 : Int)), (IntKind.i64.wrap (bits .and .u64 (((a0 : Nat) : Int) / 2 ^ 52) (2047 : Int)))))))))

/-- pub-orthodrome/spec.PointOf -/
def p_PointOf (F : Nat) (a0 : Nat) (a1 : Nat) : Option TSpec_Point := (p_DyadicOf F a0).bind fun y1 => ((p_DyadicOf F a1).bind fun y3 => (some (TSpec_Point.mk y1 y3)))

/-- pub-orthodrome/laws.exactly -/
def p_exactly (F : Nat) (a0 : TImpl_P2) : Option TSpec_Point := (p_PointOf F a0.X a0.Y).bind fun y1 => (some y1)

/-- (pub-orthodrome/spec.Whole).Minus -/
def p_Whole_Minus (a0 : TSpec_Whole) : Option TSpec_Whole := (cond (!a0.Neg) (some (TSpec_Whole.mk (decide ((0 : Int) < ((a0.L.length : Nat) : Int))) a0.L)) (some (TSpec_Whole.mk false a0.L)))

/-- (pub-orthodrome/spec.Dyadic).Minus -/
def p_Dyadic_Minus (a0 : TSpec_Dyadic) : Option TSpec_Dyadic := (p_Whole_Minus a0.N).bind fun y1 => (some (TSpec_Dyadic.mk y1 a0.E))

/-- (pub-orthodrome/spec.Whole).Sign -/
def p_Whole_Sign (a0 : TSpec_Whole) : Option Int := (cond (decide (((a0.L.length : Nat) : Int) = (0 : Int))) (some (0 : Int)) (cond a0.Neg (some (-1 : Int)) (some (1 : Int))))

/-- (pub-orthodrome/spec.Dyadic).Sign -/
def p_Dyadic_Sign (a0 : TSpec_Dyadic) : Option Int := (p_Whole_Sign a0.N).bind fun y1 => (some y1)

def p_Whole_Up_k1 (a0 : TSpec_Whole) (F : Nat) (g9 : (Int × (List Int))) : Option TSpec_Whole := need (g9.2.length + [g9.1].length ≤ 4294967296) ((p_trim F (g9.2 ++ [g9.1])).bind fun y11 => (some (TSpec_Whole.mk a0.Neg y11)))
def p_Whole_Up_l2 (a0 : TSpec_Whole) (a1 : Int) (K14 : (Int × Int × (List Int)) → Option (Sum (Int × (List Int)) TSpec_Whole)) (g13 : (Int × Int × (List Int))) : Option (Sum (Int × (List Int)) TSpec_Whole) := (cond (decide (g13.2.1 < ((a0.L.length : Nat) : Int))) ((idx a0.L g13.2.1).bind fun x17 => (need ((32 : Int) ≠ 0) (need (0 ≤ (Int.tmod a1 (32 : Int)) ∧ (Int.tmod a1 (32 : Int)) ≤ (IntKind.u64.bits : Int)) (need (g13.2.2.length + [(bits .or .u32 (IntKind.u32.wrap (IntKind.u64.wrap ((IntKind.u64.wrap x17) * 2 ^ ((Int.tmod a1 (32 : Int))).toNat))) g13.1)].length ≤ 4294967296) (need (0 ≤ (IntKind.u64.wrap ((IntKind.u64.wrap x17) * 2 ^ ((Int.tmod a1 (32 : Int))).toNat))) (need (inI .i64 (g13.2.1 + (1 : Int))) (K14 ((IntKind.u32.wrap ((IntKind.u64.wrap ((IntKind.u64.wrap x17) * 2 ^ ((Int.tmod a1 (32 : Int))).toNat)) / 2 ^ 32)), (g13.2.1 + (1 : Int)), (g13.2.2 ++ [(bits .or .u32 (IntKind.u32.wrap (IntKind.u64.wrap ((IntKind.u64.wrap x17) * 2 ^ ((Int.tmod a1 (32 : Int))).toNat))) g13.1)]))))))))) (some (Sum.inl (g13.1, g13.2.2))))
/-- (pub-orthodrome/spec.Whole).Up -/
def p_Whole_Up (F : Nat) (a0 : TSpec_Whole) (a1 : Int) : Option TSpec_Whole := (cond (decide (((a0.L.length : Nat) : Int) = (0 : Int))) (some a0) (need ((32 : Int) ≠ 0 ∧ inI .i64 (Int.tdiv a1 (32 : Int))) (need ((32 : Int) ≠ 0 ∧ inI .i64 (Int.tdiv a1 (32 : Int))) (need (inI .i64 ((Int.tdiv a1 (32 : Int)) + ((a0.L.length : Nat) : Int))) (need (inI .i64 (((Int.tdiv a1 (32 : Int)) + ((a0.L.length : Nat) : Int)) + (1 : Int))) (need ((0 ≤ (Int.tdiv a1 (32 : Int)) ∧ (Int.tdiv a1 (32 : Int)) ≤ (((Int.tdiv a1 (32 : Int)) + ((a0.L.length : Nat) : Int)) + (1 : Int))) ∧ (((Int.tdiv a1 (32 : Int)) + ((a0.L.length : Nat) : Int)) + (1 : Int)) ≤ 4294967296) ((iter (p_Whole_Up_l2 a0 a1) F ((0 : Int), (0 : Int), (List.replicate ((Int.tdiv a1 (32 : Int))).toNat (0 : Int)))).bind fun o => aft o some (p_Whole_Up_k1 a0 F))))))))

def p_addLimbs_k2 (F : Nat) (g6 : (Int × (List Int))) : Option (List Int) := need (g6.2.length + [(IntKind.u32.wrap g6.1)].length ≤ 4294967296) ((p_trim F (g6.2 ++ [(IntKind.u32.wrap g6.1)])).bind fun y8 => (some y8))
def p_addLimbs_k4 (g10 : (Int × Int × (List Int))) (K11 : (Int × Int × (List Int)) → Option (Sum (Int × (List Int)) (List Int))) (g17 : Int) : Option (Sum (Int × (List Int)) (List Int)) := need (g10.2.2.length + [(IntKind.u32.wrap g17)].length ≤ 4294967296) (need (0 ≤ g17) (need (inI .i64 (g10.2.1 + (1 : Int))) (K11 ((g17 / 2 ^ 32), (g10.2.1 + (1 : Int)), (g10.2.2 ++ [(IntKind.u32.wrap g17)])))))
def p_addLimbs_l3 (g1 : ((List Int) × (List Int))) (K11 : (Int × Int × (List Int)) → Option (Sum (Int × (List Int)) (List Int))) (g10 : (Int × Int × (List Int))) : Option (Sum (Int × (List Int)) (List Int)) := (cond (decide (g10.2.1 < ((g1.1.length : Nat) : Int))) ((idx g1.1 g10.2.1).bind fun x14 => (need (inI .u64 ((IntKind.u64.wrap x14) + g10.1)) ((cond (decide (g10.2.1 < ((g1.2.length : Nat) : Int))) ((idx g1.2 g10.2.1).bind fun x22 => (need (inI .u64 (((IntKind.u64.wrap x14) + g10.1) + (IntKind.u64.wrap x22))) ((p_addLimbs_k4 g10 K11) (((IntKind.u64.wrap x14) + g10.1) + (IntKind.u64.wrap x22))))) ((p_addLimbs_k4 g10 K11) ((IntKind.u64.wrap x14) + g10.1)))))) (some (Sum.inl (g10.1, g10.2.2))))
def p_addLimbs_k1 (F : Nat) (g1 : ((List Int) × (List Int))) : Option (List Int) := need (inI .i64 (((g1.1.length : Nat) : Int) + (1 : Int))) (need ((0 ≤ (0 : Int) ∧ (0 : Int) ≤ (((g1.1.length : Nat) : Int) + (1 : Int))) ∧ (((g1.1.length : Nat) : Int) + (1 : Int)) ≤ 4294967296) ((iter (p_addLimbs_l3 g1) F ((0 : Int), (0 : Int), [])).bind fun o => aft o some (p_addLimbs_k2 F)))
/-- pub-orthodrome/spec.addLimbs -/
def p_addLimbs (F : Nat) (a0 : (List Int)) (a1 : (List Int)) : Option (List Int) := (cond (decide (((a0.length : Nat) : Int) < ((a1.length : Nat) : Int))) ((p_addLimbs_k1 F) (a1, a0)) ((p_addLimbs_k1 F) (a0, a1)))

def p_cmpLimbs_k1  (g6 : Unit) : Option Int := some (0 : Int)
def p_cmpLimbs_l2 (a0 : (List Int)) (a1 : (List Int)) (K8 : Int → Option (Sum Unit Int)) (g7 : Int) : Option (Sum Unit Int) := (cond (decide ((0 : Int) ≤ g7)) ((idx a0 g7).bind fun x11 => ((idx a1 g7).bind fun x13 => ((cond (!decide (x11 = x13)) ((idx a0 g7).bind fun x16 => ((idx a1 g7).bind fun x18 => ((cond (decide (x16 < x18)) (some (Sum.inr (-1 : Int))) (some (Sum.inr (1 : Int))))))) (need (inI .i64 (g7 - (1 : Int))) (K8 (g7 - (1 : Int)))))))) (some (Sum.inl ())))
/-- pub-orthodrome/spec.cmpLimbs -/
def p_cmpLimbs (F : Nat) (a0 : (List Int)) (a1 : (List Int)) : Option Int := (cond (!decide (((a0.length : Nat) : Int) = ((a1.length : Nat) : Int))) (cond (decide (((a0.length : Nat) : Int) < ((a1.length : Nat) : Int))) (some (-1 : Int)) (some (1 : Int))) (need (inI .i64 (((a0.length : Nat) : Int) - (1 : Int))) ((iter (p_cmpLimbs_l2 a0 a1) F (((a0.length : Nat) : Int) - (1 : Int))).bind fun o => aft o some p_cmpLimbs_k1)))

def p_subLimbs_k1 (F : Nat) (g4 : (List Int)) : Option (List Int) := (p_trim F g4).bind fun y5 => (some y5)
def p_subLimbs_k4 (g7 : (Int × Int × (List Int))) (K8 : (Int × Int × (List Int)) → Option (Sum (List Int) (List Int))) (x11 : Int) (g13 : Int) (g14 : Int) : Option (Sum (List Int) (List Int)) := need (inI .u64 ((IntKind.u64.wrap x11) + (IntKind.u64.wrap (g14 * 2 ^ 32)))) (need (inI .u64 (((IntKind.u64.wrap x11) + (IntKind.u64.wrap (g14 * 2 ^ 32))) - g13)) (need (g7.2.2.length + [(IntKind.u32.wrap (((IntKind.u64.wrap x11) + (IntKind.u64.wrap (g14 * 2 ^ 32))) - g13))].length ≤ 4294967296) (need (inI .i64 (g7.2.1 + (1 : Int))) (K8 (g14, (g7.2.1 + (1 : Int)), (g7.2.2 ++ [(IntKind.u32.wrap (((IntKind.u64.wrap x11) + (IntKind.u64.wrap (g14 * 2 ^ 32))) - g13))]))))))
def p_subLimbs_k3 (g7 : (Int × Int × (List Int))) (K8 : (Int × Int × (List Int)) → Option (Sum (List Int) (List Int))) (x11 : Int) (g13 : Int) : Option (Sum (List Int) (List Int)) := (cond (decide ((IntKind.u64.wrap x11) < g13)) ((p_subLimbs_k4 g7 K8 x11 g13) (1 : Int)) ((p_subLimbs_k4 g7 K8 x11 g13) (0 : Int)))
def p_subLimbs_l2 (a0 : (List Int)) (a1 : (List Int)) (K8 : (Int × Int × (List Int)) → Option (Sum (List Int) (List Int))) (g7 : (Int × Int × (List Int))) : Option (Sum (List Int) (List Int)) := (cond (decide (g7.2.1 < ((a0.length : Nat) : Int))) ((idx a0 g7.2.1).bind fun x11 => ((cond (decide (g7.2.1 < ((a1.length : Nat) : Int))) ((idx a1 g7.2.1).bind fun x21 => (need (inI .u64 (g7.1 + (IntKind.u64.wrap x21))) ((p_subLimbs_k3 g7 K8 x11) (g7.1 + (IntKind.u64.wrap x21))))) ((p_subLimbs_k3 g7 K8 x11) g7.1)))) (some (Sum.inl g7.2.2)))
/-- pub-orthodrome/spec.subLimbs -/
def p_subLimbs (F : Nat) (a0 : (List Int)) (a1 : (List Int)) : Option (List Int) := need ((0 ≤ (0 : Int) ∧ (0 : Int) ≤ ((a0.length : Nat) : Int)) ∧ ((a0.length : Nat) : Int) ≤ 4294967296) ((iter (p_subLimbs_l2 a0 a1) F ((0 : Int), (0 : Int), [])).bind fun o => aft o some (p_subLimbs_k1 F))

/-- (pub-orthodrome/spec.Whole).Add -/
def p_Whole_Add (F : Nat) (a0 : TSpec_Whole) (a1 : TSpec_Whole) : Option TSpec_Whole := (cond (a0.Neg == a1.Neg) ((p_addLimbs F a0.L a1.L).bind fun y2 => (some (TSpec_Whole.mk a0.Neg y2))) ((p_cmpLimbs F a0.L a1.L).bind fun y4 => ((cond (decide (y4 = (0 : Int))) (some (TSpec_Whole.mk false [])) (cond (decide (y4 = (1 : Int))) ((p_subLimbs F a0.L a1.L).bind fun y8 => (some (TSpec_Whole.mk a0.Neg y8))) ((p_subLimbs F a1.L a0.L).bind fun y10 => (some (TSpec_Whole.mk a1.Neg y10))))))))

/-- (pub-orthodrome/spec.Dyadic).Add -/
def p_Dyadic_Add (F : Nat) (a0 : TSpec_Dyadic) (a1 : TSpec_Dyadic) : Option TSpec_Dyadic := (p_Dyadic_Sign a0).bind fun y1 => ((cond (decide (y1 = (0 : Int))) (some a1) ((p_Dyadic_Sign a1).bind fun y4 => ((cond (decide (y4 = (0 : Int))) (some a0) (cond (decide (a1.E < a0.E)) (need (inI .i64 (a0.E - a1.E)) ((p_Whole_Up F a0.N (a0.E - a1.E)).bind fun y9 => ((p_Whole_Add F y9 a1.N).bind fun y11 => (some (TSpec_Dyadic.mk y11 a1.E))))) (need (inI .i64 (a1.E - a0.E)) ((p_Whole_Up F a1.N (a1.E - a0.E)).bind fun y14 => ((p_Whole_Add F y14 a0.N).bind fun y16 => (some (TSpec_Dyadic.mk y16 a0.E)))))))))))

/-- (pub-orthodrome/spec.Dyadic).Sub -/
def p_Dyadic_Sub (F : Nat) (a0 : TSpec_Dyadic) (a1 : TSpec_Dyadic) : Option TSpec_Dyadic := (p_Dyadic_Minus a1).bind fun y1 => ((p_Dyadic_Add F a0 y1).bind fun y3 => (some y3))

def p_Whole_Mul_k1 (a0 : TSpec_Whole) (a1 : TSpec_Whole) (F : Nat) (g5 : (List Int)) : Option TSpec_Whole := need ((((((a0.L.length : Nat) : Int) + ((a1.L.length : Nat) : Int))).toNat) = g5.length) ((p_trim F g5).bind fun y7 => ((cond (decide ((0 : Int) < ((y7.length : Nat) : Int))) (some (TSpec_Whole.mk (!(a0.Neg == a1.Neg)) y7)) (some (TSpec_Whole.mk false y7)))))
def p_Whole_Mul_k3 (a0 : TSpec_Whole) (a1 : TSpec_Whole) (g10 : (Int × (List Int))) (K11 : (Int × (List Int)) → Option (Sum (List Int) TSpec_Whole)) (g18 : (Int × (List Int))) : Option (Sum (List Int) TSpec_Whole) := need (inI .i64 (g10.1 + ((a1.L.length : Nat) : Int))) (need (0 ≤ (g10.1 + ((a1.L.length : Nat) : Int)) ∧ (g10.1 + ((a1.L.length : Nat) : Int)) < ((((((a0.L.length : Nat) : Int) + ((a1.L.length : Nat) : Int))).toNat : Nat) : Int)) (need (((g10.1 + ((a1.L.length : Nat) : Int))).toNat < g18.2.length) (need (inI .i64 (g10.1 + (1 : Int))) (K11 ((g10.1 + (1 : Int)), (g18.2.set ((g10.1 + ((a1.L.length : Nat) : Int))).toNat (IntKind.u32.wrap g18.1)))))))
def p_Whole_Mul_l4 (a0 : TSpec_Whole) (a1 : TSpec_Whole) (g10 : (Int × (List Int))) (x14 : Int) (K24 : (Int × Int × (List Int)) → Option (Sum (Int × (List Int)) TSpec_Whole)) (g23 : (Int × Int × (List Int))) : Option (Sum (Int × (List Int)) TSpec_Whole) := (cond (decide (g23.2.1 < ((a1.L.length : Nat) : Int))) ((idx a1.L g23.2.1).bind fun x27 => (need (inI .u64 ((IntKind.u64.wrap x14) * (IntKind.u64.wrap x27))) (need (inI .i64 (g10.1 + g23.2.1)) (need (0 ≤ (g10.1 + g23.2.1) ∧ (g10.1 + g23.2.1) < ((((((a0.L.length : Nat) : Int) + ((a1.L.length : Nat) : Int))).toNat : Nat) : Int)) ((idx g23.2.2 (g10.1 + g23.2.1)).bind fun x32 => (need (inI .u64 (((IntKind.u64.wrap x14) * (IntKind.u64.wrap x27)) + (IntKind.u64.wrap x32))) (need (inI .u64 ((((IntKind.u64.wrap x14) * (IntKind.u64.wrap x27)) + (IntKind.u64.wrap x32)) + g23.1)) (need (inI .i64 (g10.1 + g23.2.1)) (need (0 ≤ (g10.1 + g23.2.1) ∧ (g10.1 + g23.2.1) < ((((((a0.L.length : Nat) : Int) + ((a1.L.length : Nat) : Int))).toNat : Nat) : Int)) (need (((g10.1 + g23.2.1)).toNat < g23.2.2.length) (need (0 ≤ ((((IntKind.u64.wrap x14) * (IntKind.u64.wrap x27)) + (IntKind.u64.wrap x32)) + g23.1)) (need (inI .i64 (g23.2.1 + (1 : Int))) (K24 ((((((IntKind.u64.wrap x14) * (IntKind.u64.wrap x27)) + (IntKind.u64.wrap x32)) + g23.1) / 2 ^ 32), (g23.2.1 + (1 : Int)), (g23.2.2.set ((g10.1 + g23.2.1)).toNat (IntKind.u32.wrap ((((IntKind.u64.wrap x14) * (IntKind.u64.wrap x27)) + (IntKind.u64.wrap x32)) + g23.1))))))))))))))))) (some (Sum.inl (g23.1, g23.2.2))))
def p_Whole_Mul_l2 (a0 : TSpec_Whole) (a1 : TSpec_Whole) (F : Nat) (K11 : (Int × (List Int)) → Option (Sum (List Int) TSpec_Whole)) (g10 : (Int × (List Int))) : Option (Sum (List Int) TSpec_Whole) := (cond (decide (g10.1 < ((a0.L.length : Nat) : Int))) ((idx a0.L g10.1).bind fun x14 => ((iter (p_Whole_Mul_l4 a0 a1 g10 x14) F ((0 : Int), (0 : Int), g10.2)).bind fun o => aft o (fun r => some (Sum.inr r)) (p_Whole_Mul_k3 a0 a1 g10 K11))) (some (Sum.inl g10.2)))
/-- (pub-orthodrome/spec.Whole).Mul -/
def p_Whole_Mul (F : Nat) (a0 : TSpec_Whole) (a1 : TSpec_Whole) : Option TSpec_Whole := need (inI .i64 (((a0.L.length : Nat) : Int) + ((a1.L.length : Nat) : Int))) (need (0 ≤ (((a0.L.length : Nat) : Int) + ((a1.L.length : Nat) : Int)) ∧ (((a0.L.length : Nat) : Int) + ((a1.L.length : Nat) : Int)) ≤ 4294967296) ((iter (p_Whole_Mul_l2 a0 a1 F) F ((0 : Int), (List.replicate ((((a0.L.length : Nat) : Int) + ((a1.L.length : Nat) : Int))).toNat (0 : Int)))).bind fun o => aft o some (p_Whole_Mul_k1 a0 a1 F)))

/-- (pub-orthodrome/spec.Dyadic).Mul -/
def p_Dyadic_Mul (F : Nat) (a0 : TSpec_Dyadic) (a1 : TSpec_Dyadic) : Option TSpec_Dyadic := (p_Whole_Mul F a0.N a1.N).bind fun y1 => (need (inI .i64 (a0.E + a1.E)) (some (TSpec_Dyadic.mk y1 (a0.E + a1.E))))

/-- pub-orthodrome/spec.Cross -/
def p_Cross (F : Nat) (a0 : TSpec_Point) (a1 : TSpec_Point) (a2 : TSpec_Point) : Option TSpec_Dyadic := (p_Dyadic_Sub F a1.X a0.X).bind fun y1 => ((p_Dyadic_Sub F a2.Y a0.Y).bind fun y3 => ((p_Dyadic_Mul F y1 y3).bind fun y5 => ((p_Dyadic_Sub F a1.Y a0.Y).bind fun y7 => ((p_Dyadic_Sub F a2.X a0.X).bind fun y9 => ((p_Dyadic_Mul F y7 y9).bind fun y11 => ((p_Dyadic_Sub F y5 y11).bind fun y13 => (some y13)))))))

/-- pub-orthodrome/spec.Orient -/
def p_Orient (F : Nat) (a0 : TSpec_Point) (a1 : TSpec_Point) (a2 : TSpec_Point) : Option Int := (p_Cross F a0 a1 a2).bind fun y1 => ((p_Dyadic_Sign y1).bind fun y3 => (some y3))

/-- (pub-orthodrome/spec.Dyadic).Cmp -/
def p_Dyadic_Cmp (F : Nat) (a0 : TSpec_Dyadic) (a1 : TSpec_Dyadic) : Option Int := (p_Dyadic_Sub F a0 a1).bind fun y1 => ((p_Dyadic_Sign y1).bind fun y3 => (some y3))

/-- pub-orthodrome/spec.Between -/
def p_Between (F : Nat) (a0 : TSpec_Dyadic) (a1 : TSpec_Dyadic) (a2 : TSpec_Dyadic) : Option Bool := (p_Dyadic_Cmp F a0 a2).bind fun y1 => ((cond (decide (y1 ≤ (0 : Int))) ((p_Dyadic_Cmp F a2 a1).bind fun y4 => ((cond (decide (y4 ≤ (0 : Int))) (some true) ((p_Dyadic_Cmp F a1 a2).bind fun y7 => ((cond (decide (y7 ≤ (0 : Int))) ((p_Dyadic_Cmp F a2 a0).bind fun y10 => (some (decide (y10 ≤ (0 : Int))))) (some false))))))) ((p_Dyadic_Cmp F a1 a2).bind fun y12 => ((cond (decide (y12 ≤ (0 : Int))) ((p_Dyadic_Cmp F a2 a0).bind fun y15 => (some (decide (y15 ≤ (0 : Int))))) (some false))))))

/-- pub-orthodrome/spec.OnSegment -/
def p_OnSegment (F : Nat) (a0 : TSpec_Point) (a1 : TSpec_Point) (a2 : TSpec_Point) : Option Bool := (p_Orient F a1 a2 a0).bind fun y1 => ((cond (decide (y1 = (0 : Int))) ((p_Between F a1.X a2.X a0.X).bind fun y4 => ((cond y4 ((p_Between F a1.Y a2.Y a0.Y).bind fun y7 => (some y7)) (some false)))) (some false)))

/-- pub-orthodrome/impl.floats -/
def p_floats (a0 : (List Nat)) : Option (List Nat) := need (a0.length ≤ 4294967296) (some a0)

/-- (pub-orthodrome/pub/gogeom.Layout).Stride -/
def p_Layout_Stride (a0 : Int) : Option Int := (cond (decide (a0 = (0 : Int))) (some (0 : Int)) (cond (decide (a0 = (1 : Int))) (some (2 : Int)) (cond (decide (a0 = (2 : Int))) (some (3 : Int)) (cond (decide (a0 = (3 : Int))) (some (3 : Int)) (cond (decide (a0 = (4 : Int))) (some (4 : Int)) (some a0))))))

/-- pub-orthodrome/pub/gogeom/xy.doorHull -/
def p_doorHull (a0 : Int) (a1 : (List Nat)) : Option TXy_convexHullCalculator := (p_Layout_Stride a0).bind fun y1 => (some (TXy_convexHullCalculator.mk a0 y1 a1))

/-- pub-orthodrome/pub/gogeom/xy/inner.Equal -/
def p_Equal (a0 : (List Nat)) (a1 : Int) (a2 : (List Nat)) (a3 : Int) : Option Bool := (idx a0 a1).bind fun x1 => ((idx a2 a3).bind fun x3 => ((cond (!feq x1 x3) (some false) (need (inI .i64 (a1 + (1 : Int))) ((idx a0 (a1 + (1 : Int))).bind fun x7 => (need (inI .i64 (a3 + (1 : Int))) ((idx a2 (a3 + (1 : Int))).bind fun x10 => ((cond (!feq x7 x10) (some false) (some true))))))))))

/-- pub-orthodrome/pub/gogeom/bigxy.orientationBasedOnSign -/
def p_orientationBasedOnSign (a0 : Nat) : Option Int := (cond (fgt a0 (0 : Nat)) (some (1 : Int)) (cond (flt a0 (0 : Nat)) (some (-1 : Int)) (some (0 : Int))))

def p_orientationIndexFilter_k1 (z29 : Nat) (g31 : Nat) : Option Int := (floatBits .mul .f64 (4382569440205035030 : Nat) g31).bind fun z32 => ((cond (fge z29 z32) ((p_orientationBasedOnSign z29).bind fun y35 => (some y35)) (cond (fge (fneg z29) z32) ((p_orientationBasedOnSign z29).bind fun y38 => (some y38)) (some (2 : Int)))))
/-- pub-orthodrome/pub/gogeom/bigxy.orientationIndexFilter -/
def p_orientationIndexFilter (a0 : (List Nat)) (a1 : (List Nat)) (a2 : (List Nat)) : Option Int := (idx a0 (0 : Int)).bind fun x1 => ((idx a2 (0 : Int)).bind fun x3 => ((floatBits .sub .f64 x1 x3).bind fun z5 => ((idx a1 (1 : Int)).bind fun x7 => ((idx a2 (1 : Int)).bind fun x9 => ((floatBits .sub .f64 x7 x9).bind fun z11 => ((floatBits .mul .f64 z5 z11).bind fun z13 => ((idx a0 (1 : Int)).bind fun x15 => ((idx a2 (1 : Int)).bind fun x17 => ((floatBits .sub .f64 x15 x17).bind fun z19 => ((idx a1 (0 : Int)).bind fun x21 => ((idx a2 (0 : Int)).bind fun x23 => ((floatBits .sub .f64 x21 x23).bind fun z25 => ((floatBits .mul .f64 z19 z25).bind fun z27 => ((floatBits .sub .f64 z13 z27).bind fun z29 => ((cond (fgt z13 (0 : Nat)) (cond (fle z27 (0 : Nat)) ((p_orientationBasedOnSign z29).bind fun y42 => (some y42)) ((floatBits .add .f64 z13 z27).bind fun z44 => ((p_orientationIndexFilter_k1 z29) z44))) (cond (flt z13 (0 : Nat)) (cond (fge z27 (0 : Nat)) ((p_orientationBasedOnSign z29).bind fun y48 => (some y48)) ((floatBits .sub .f64 (fneg z13) z27).bind fun z50 => ((p_orientationIndexFilter_k1 z29) z50))) ((p_orientationBasedOnSign z29).bind fun y52 => (some y52)))))))))))))))))))

/-- pub-orthodrome/pub/gogeom/bigxy.OrientationIndex -/
def p_OrientationIndex (a0 : (List Nat)) (a1 : (List Nat)) (a2 : (List Nat)) : Option Int := (p_orientationIndexFilter a0 a1 a2).bind fun y1 => ((cond (decide (y1 ≤ (1 : Int))) (some y1) ((idx a1 (0 : Int)).bind fun x4 => ((idx a0 (0 : Int)).bind fun x6 => ((floatBits .sub .f64 x4 x6).bind fun z8 => ((idx a1 (1 : Int)).bind fun x10 => ((idx a0 (1 : Int)).bind fun x12 => ((floatBits .sub .f64 x10 x12).bind fun z14 => ((idx a2 (0 : Int)).bind fun x16 => ((idx a1 (0 : Int)).bind fun x18 => ((floatBits .sub .f64 x16 x18).bind fun z20 => ((idx a2 (1 : Int)).bind fun x22 => ((idx a1 (1 : Int)).bind fun x24 => ((floatBits .sub .f64 x22 x24).bind fun z26 => ((floatBits .mul .f64 z8 z26).bind fun z28 => ((floatBits .mul .f64 z14 z20).bind fun z30 => ((floatBits .sub .f64 z28 z30).bind fun z32 => ((p_orientationBasedOnSign z32).bind fun y34 => (some y34)))))))))))))))))))

def p_convexHullCalculator_isBetween_k2 (a1 : (List Nat)) (a2 : (List Nat)) (a3 : (List Nat)) (g10 : Unit) : Option Bool := (idx a3 (1 : Int)).bind fun x11 => ((idx a2 (1 : Int)).bind fun x13 => ((cond (fle x11 x13) ((idx a2 (1 : Int)).bind fun x16 => ((idx a1 (1 : Int)).bind fun x18 => ((cond (fle x16 x18) (some true) (some false))))) (some false))))
def p_convexHullCalculator_isBetween_k1 (a1 : (List Nat)) (a2 : (List Nat)) (a3 : (List Nat)) (g4 : Unit) : Option Bool := (idx a1 (1 : Int)).bind fun x5 => ((idx a3 (1 : Int)).bind fun x7 => ((cond (!feq x5 x7) ((idx a1 (1 : Int)).bind fun x21 => ((idx a2 (1 : Int)).bind fun x23 => ((cond (fle x21 x23) ((idx a2 (1 : Int)).bind fun x26 => ((idx a3 (1 : Int)).bind fun x28 => ((cond (fle x26 x28) (some true) ((p_convexHullCalculator_isBetween_k2 a1 a2 a3) ()))))) ((p_convexHullCalculator_isBetween_k2 a1 a2 a3) ()))))) (some false))))
def p_convexHullCalculator_isBetween_k3 (a1 : (List Nat)) (a2 : (List Nat)) (a3 : (List Nat)) (g36 : Unit) : Option Bool := (idx a3 (0 : Int)).bind fun x37 => ((idx a2 (0 : Int)).bind fun x39 => ((cond (fle x37 x39) ((idx a2 (0 : Int)).bind fun x42 => ((idx a1 (0 : Int)).bind fun x44 => ((cond (fle x42 x44) (some true) ((p_convexHullCalculator_isBetween_k1 a1 a2 a3) ()))))) ((p_convexHullCalculator_isBetween_k1 a1 a2 a3) ()))))
/-- (*pub-orthodrome/pub/gogeom/xy.convexHullCalculator).isBetween -/
def p_convexHullCalculator_isBetween (a0 : TXy_convexHullCalculator) (a1 : (List Nat)) (a2 : (List Nat)) (a3 : (List Nat)) : Option Bool := (p_OrientationIndex a1 a2 a3).bind fun y1 => ((cond (!decide (y1 = (0 : Int))) (some false) ((idx a1 (0 : Int)).bind fun x31 => ((idx a3 (0 : Int)).bind fun x33 => ((cond (!feq x31 x33) ((idx a1 (0 : Int)).bind fun x47 => ((idx a2 (0 : Int)).bind fun x49 => ((cond (fle x47 x49) ((idx a2 (0 : Int)).bind fun x52 => ((idx a3 (0 : Int)).bind fun x54 => ((cond (fle x52 x54) (some true) ((p_convexHullCalculator_isBetween_k3 a1 a2 a3) ()))))) ((p_convexHullCalculator_isBetween_k3 a1 a2 a3) ()))))) ((p_convexHullCalculator_isBetween_k1 a1 a2 a3) ())))))))

def p_convexHullCalculator_cleanRing_k1 (a0 : TXy_convexHullCalculator) (a1 : (List Nat)) (g3 : (List Nat)) : Option (List Nat) := need (inI .i64 (((a1.length : Nat) : Int) - a0.stride)) (need ((0 ≤ (((a1.length : Nat) : Int) - a0.stride) ∧ True) ∧ ((((a1.length : Nat) : Int) - a0.stride)).toNat ≤ a1.length ∧ a1.length ≤ a1.length) (need (g3.length + ((a1.drop ((((a1.length : Nat) : Int) - a0.stride)).toNat).take (a1.length - ((((a1.length : Nat) : Int) - a0.stride)).toNat)).length ≤ 4294967296) (some (g3 ++ ((a1.drop ((((a1.length : Nat) : Int) - a0.stride)).toNat).take (a1.length - ((((a1.length : Nat) : Int) - a0.stride)).toNat))))))
def p_convexHullCalculator_cleanRing_k3 (a0 : TXy_convexHullCalculator) (a1 : (List Nat)) (g7 : (Option (List Nat) × Int × (List Nat))) (K8 : (Option (List Nat) × Int × (List Nat)) → Option (Sum (List Nat) (List Nat))) (g23 : Bool) : Option (Sum (List Nat) (List Nat)) := (cond g23 (need (inI .i64 (g7.2.1 + a0.stride)) (K8 (g7.1, (g7.2.1 + a0.stride), g7.2.2))) (need (g7.2.2.length + ((a1.drop (g7.2.1).toNat).take (((g7.2.1 + a0.stride)).toNat - (g7.2.1).toNat)).length ≤ 4294967296) (need (inI .i64 (g7.2.1 + a0.stride)) (K8 ((some ((a1.drop (g7.2.1).toNat).take (((g7.2.1 + a0.stride)).toNat - (g7.2.1).toNat))), (g7.2.1 + a0.stride), (g7.2.2 ++ ((a1.drop (g7.2.1).toNat).take (((g7.2.1 + a0.stride)).toNat - (g7.2.1).toNat))))))))
def p_convexHullCalculator_cleanRing_l2 (a0 : TXy_convexHullCalculator) (a1 : (List Nat)) (K8 : (Option (List Nat) × Int × (List Nat)) → Option (Sum (List Nat) (List Nat))) (g7 : (Option (List Nat) × Int × (List Nat))) : Option (Sum (List Nat) (List Nat)) := need (inI .i64 (((a1.length : Nat) : Int) - a0.stride)) ((cond (decide (g7.2.1 < (((a1.length : Nat) : Int) - a0.stride))) (need (inI .i64 (g7.2.1 + a0.stride)) ((p_Equal a1 g7.2.1 a1 (g7.2.1 + a0.stride)).bind fun y13 => ((cond y13 (need (inI .i64 (g7.2.1 + a0.stride)) (K8 (g7.1, (g7.2.1 + a0.stride), g7.2.2))) (need (inI .i64 (g7.2.1 + a0.stride)) (need ((0 ≤ g7.2.1 ∧ 0 ≤ (g7.2.1 + a0.stride)) ∧ (g7.2.1).toNat ≤ ((g7.2.1 + a0.stride)).toNat ∧ ((g7.2.1 + a0.stride)).toNat ≤ a1.length) (need (inI .i64 (g7.2.1 + a0.stride)) (need (inI .i64 (g7.2.1 + a0.stride)) (need (inI .i64 ((g7.2.1 + a0.stride) + a0.stride)) (need ((0 ≤ (g7.2.1 + a0.stride) ∧ 0 ≤ ((g7.2.1 + a0.stride) + a0.stride)) ∧ ((g7.2.1 + a0.stride)).toNat ≤ (((g7.2.1 + a0.stride) + a0.stride)).toNat ∧ (((g7.2.1 + a0.stride) + a0.stride)).toNat ≤ a1.length) (need (neO g7.1 = true) ((cond (!(g7.1).isNone) ((p_convexHullCalculator_isBetween a0 (g7.1.getD []) ((a1.drop (g7.2.1).toNat).take (((g7.2.1 + a0.stride)).toNat - (g7.2.1).toNat)) ((a1.drop ((g7.2.1 + a0.stride)).toNat).take ((((g7.2.1 + a0.stride) + a0.stride)).toNat - ((g7.2.1 + a0.stride)).toNat))).bind fun y30 => ((p_convexHullCalculator_cleanRing_k3 a0 a1 g7 K8) y30)) ((p_convexHullCalculator_cleanRing_k3 a0 a1 g7 K8) false)))))))))))))) (some (Sum.inl g7.2.2))))
/-- (*pub-orthodrome/pub/gogeom/xy.convexHullCalculator).cleanRing -/
def p_convexHullCalculator_cleanRing (F : Nat) (a0 : TXy_convexHullCalculator) (a1 : (List Nat)) : Option (List Nat) := (iter (p_convexHullCalculator_cleanRing_l2 a0 a1) F (none, (0 : Int), [])).bind fun o => aft o some (p_convexHullCalculator_cleanRing_k1 a0 a1)

/-- pub-orthodrome/pub/gogeom/xy.DoorClean -/
def p_DoorClean (F : Nat) (a0 : Int) (a1 : (List Nat)) : Option (List Nat) := (p_doorHull a0 a1).bind fun y1 => ((p_convexHullCalculator_cleanRing F y1 a1).bind fun y3 => (some y3))

/-- pub-orthodrome/impl.HullClean -/
def p_HullClean (F : Nat) (a0 : Int) (a1 : (List Nat)) : Option ((List Nat) × Bool) := (p_floats a1).bind fun y1 => ((p_DoorClean F a0 y1).bind fun y3 => ((p_floats y3).bind fun y5 => (some (y5, true))))

def p_sameFloats_k1  (g4 : Unit) : Option Bool := some true
def p_sameFloats_l2 (a0 : (List Nat)) (a1 : (List Nat)) (K6 : Int → Option (Sum Unit Bool)) (g5 : Int) : Option (Sum Unit Bool) := (cond (decide (g5 < ((a0.length : Nat) : Int))) ((idx a0 g5).bind fun x9 => ((idx a1 g5).bind fun x11 => ((cond (!feq x9 x11) (cond (feq x9 x9) (some (Sum.inr false)) ((idx a1 g5).bind fun x15 => ((idx a1 g5).bind fun x17 => ((cond (feq x15 x17) (some (Sum.inr false)) (need (inI .i64 (g5 + (1 : Int))) (K6 (g5 + (1 : Int))))))))) (need (inI .i64 (g5 + (1 : Int))) (K6 (g5 + (1 : Int)))))))) (some (Sum.inl ())))
/-- pub-orthodrome/laws.sameFloats -/
def p_sameFloats (F : Nat) (a0 : (List Nat)) (a1 : (List Nat)) : Option Bool := (cond (!decide (((a0.length : Nat) : Int) = ((a1.length : Nat) : Int))) (some false) ((iter (p_sameFloats_l2 a0 a1) F (0 : Int)).bind fun o => aft o some p_sameFloats_k1))

def p_FnHullClean_k2 (a0 : Int) (a1 : (List Nat)) (F : Nat) (y6 : (List (List Nat))) (g11 : (List Nat)) : Option Bool := need (inI .i64 (((y6.length : Nat) : Int) - (1 : Int))) ((idx y6 (((y6.length : Nat) : Int) - (1 : Int))).bind fun x13 => (need (g11.length + x13.length ≤ 4294967296) ((p_HullClean F a0 a1).bind fun y16 => ((cond y16.2 ((p_sameFloats F y16.1 (g11 ++ x13)).bind fun y19 => (some y19)) (some false))))))
def p_FnHullClean_k4 (y6 : (List (List Nat))) (g21 : (Int × Int × (List Nat))) (K22 : (Int × Int × (List Nat)) → Option (Sum (List Nat) Bool)) (g32 : Unit) : Option (Sum (List Nat) Bool) := (idx y6 g21.2.1).bind fun x33 => (need (g21.2.2.length + x33.length ≤ 4294967296) (need (inI .i64 (g21.2.1 + (1 : Int))) (K22 (g21.2.1, (g21.2.1 + (1 : Int)), (g21.2.2 ++ x33)))))
def p_FnHullClean_l3 (F : Nat) (y2 : ((List TImpl_P2) × Bool)) (y6 : (List (List Nat))) (K22 : (Int × Int × (List Nat)) → Option (Sum (List Nat) Bool)) (g21 : (Int × Int × (List Nat))) : Option (Sum (List Nat) Bool) := (cond (decide (g21.2.1 < (((y2.1.length : Nat) : Int) - (1 : Int)))) ((idx y2.1 g21.2.1).bind fun x25 => (need (inI .i64 (g21.2.1 + (1 : Int))) ((idx y2.1 (g21.2.1 + (1 : Int))).bind fun x28 => ((cond (feq x25.X x28.X && (feq x25.Y x28.Y && true)) (need (inI .i64 (g21.2.1 + (1 : Int))) (K22 (g21.1, (g21.2.1 + (1 : Int)), g21.2.2))) (cond (decide ((0 : Int) ≤ g21.1)) ((idx y2.1 g21.1).bind fun x38 => (need (inI .i64 (g21.2.1 + (1 : Int))) ((idx y2.1 (g21.2.1 + (1 : Int))).bind fun x41 => ((cond (!(feq x38.X x41.X && (feq x38.Y x41.Y && true))) ((idx y2.1 g21.2.1).bind fun x44 => ((p_exactly F x44).bind fun y46 => ((idx y2.1 g21.1).bind fun x48 => ((p_exactly F x48).bind fun y50 => (need (inI .i64 (g21.2.1 + (1 : Int))) ((idx y2.1 (g21.2.1 + (1 : Int))).bind fun x53 => ((p_exactly F x53).bind fun y55 => ((p_OnSegment F y46 y50 y55).bind fun y57 => ((cond y57 (need (inI .i64 (g21.2.1 + (1 : Int))) (K22 (g21.1, (g21.2.1 + (1 : Int)), g21.2.2))) ((p_FnHullClean_k4 y6 g21 K22) ()))))))))))) ((p_FnHullClean_k4 y6 g21 K22) ())))))) ((p_FnHullClean_k4 y6 g21 K22) ()))))))) (some (Sum.inl g21.2.2)))
def p_FnHullClean_k1 (a0 : Int) (a1 : (List Nat)) (F : Nat) (y2 : ((List TImpl_P2) × Bool)) (g4 : Bool) : Option Bool := (cond g4 (some true) ((p_rowsOf F a0 a1).bind fun y6 => (need (inI .i64 (((y2.1.length : Nat) : Int) - (1 : Int))) ((iter (p_FnHullClean_l3 F y2 y6) F ((-1 : Int), (0 : Int), [])).bind fun o => aft o some (p_FnHullClean_k2 a0 a1 F y6)))))
/-- pub-orthodrome/laws.FnHullClean -/
def p_FnHullClean (F : Nat) (a0 : Int) (a1 : (List Nat)) : Option Bool := (cond (decide ((2147483647 : Int) < ((a1.length : Nat) : Int))) (some true) ((p_flatTo F a0 a1 (4715268809856909312 : Nat) (60 : Int)).bind fun y2 => ((cond (!y2.2) ((p_FnHullClean_k1 a0 a1 F y2) true) ((p_FnHullClean_k1 a0 a1 F y2) (decide (((y2.1.length : Nat) : Int) < (2 : Int))))))))

end Go.Proofs.YtohpmbodfpjjmaaDoor.Wk
