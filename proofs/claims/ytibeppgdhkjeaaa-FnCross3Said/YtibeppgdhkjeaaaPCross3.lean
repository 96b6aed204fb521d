/- Printed: what functions of the program compute, as functions of Lean. No condition is laid on their arguments. -/
import Derived.Test.YtibeppgdhkjeaaaVmDraw3
namespace Go.Proofs.Ytibeppgdhkjeaaa.Wk
open Go.Vm
set_option linter.unusedVariables false
structure TImpl_P3 where
  mk ::
  (X : Nat)
  (Y : Nat)
  (Z : Nat)
abbrev c_TImpl_P3 (x : TImpl_P3) : List D := [dfl x.X, dfl x.Y, dfl x.Z]
abbrev e_TImpl_P3 (x : TImpl_P3) : D := .ag (c_TImpl_P3 x)
abbrev eS0 (l : List TImpl_P3) : D := .ds 3 (l.flatMap c_TImpl_P3)
abbrev keS1 (x : Nat) : D := dfl x
abbrev eS1 (l : List Nat) : D := .ds 1 (l.map keS1)
abbrev keS2 (x : (List Nat)) : D := eS1 x
abbrev eS2 (l : List (List Nat)) : D := .ds 1 (l.map keS2)
structure TSpec_Whole where
  mk ::
  (Neg : Bool)
  (L : (List Int))
abbrev keS3 (x : Int) : D := di .u32 x
abbrev eS3 (l : List Int) : D := .ds 1 (l.map keS3)
abbrev c_TSpec_Whole (x : TSpec_Whole) : List D := [dbool x.Neg, eS3 x.L]
abbrev e_TSpec_Whole (x : TSpec_Whole) : D := .ag (c_TSpec_Whole x)
structure TSpec_Dyadic where
  mk ::
  (N : TSpec_Whole)
  (E : Int)
abbrev c_TSpec_Dyadic (x : TSpec_Dyadic) : List D := [dbool x.N.Neg, eS3 x.N.L, di .i64 x.E]
abbrev e_TSpec_Dyadic (x : TSpec_Dyadic) : D := .ag (c_TSpec_Dyadic x)
structure TSpec_Point3 where
  mk ::
  (X : TSpec_Dyadic)
  (Y : TSpec_Dyadic)
  (Z : TSpec_Dyadic)
abbrev c_TSpec_Point3 (x : TSpec_Point3) : List D := [dbool x.X.N.Neg, eS3 x.X.N.L, di .i64 x.X.E, dbool x.Y.N.Neg, eS3 x.Y.N.L, di .i64 x.Y.E, dbool x.Z.N.Neg, eS3 x.Z.N.L, di .i64 x.Z.E]
abbrev e_TSpec_Point3 (x : TSpec_Point3) : D := .ag (c_TSpec_Point3 x)
/-- pub-orthodrome/laws.off3 -/
def p_off3 (a0 : TImpl_P3) : Option (List Nat) := some [a0.X, a0.Y, a0.Z]

def p_Grid_k3 (a1 : Int) (g3 : Unit) : Option Bool := some (decide ((0 : Int) < a1))
def p_Grid_k13 (g4 : Int) (K5 : Int → Option (Sum Unit Bool)) (g13 : Unit) : Option (Sum Unit Bool) := need (inI .i64 (g4 + (1 : Int))) (K5 (g4 + (1 : Int)))
def p_Grid_l15 (a2 : Nat) (x8 : (List Nat)) (K16 : Int → Option (Sum Unit Bool)) (g15 : Int) : Option (Sum Unit Bool) := (cond (decide (g15 < ((x8.length : Nat) : Int))) ((idx x8 g15).bind fun x19 => ((cond (fge x19 (fneg a2)) (cond (!(fle x19 a2)) (some (Sum.inr false)) (need ((FloatKind.f64.decode x19).isNaN = false) ((cond (!feq x19 (Flt.truncD x19)) (some (Sum.inr false)) (need (inI .i64 (g15 + (1 : Int))) (K16 (g15 + (1 : Int)))))))) (some (Sum.inr false))))) (some (Sum.inl ())))
def p_Grid_l4 (a0 : (List (List Nat))) (a1 : Int) (a2 : Nat) (F : Nat) (K5 : Int → Option (Sum Unit Bool)) (g4 : Int) : Option (Sum Unit Bool) := (cond (decide (g4 < ((a0.length : Nat) : Int))) ((idx a0 g4).bind fun x8 => ((cond (!decide (((x8.length : Nat) : Int) = a1)) (some (Sum.inr false)) ((iter (p_Grid_l15 a2 x8) F (0 : Int)).bind fun o => aft o (fun r => some (Sum.inr r)) (p_Grid_k13 g4 K5))))) (some (Sum.inl ())))
/-- pub-orthodrome/spec.Grid -/
def p_Grid (F : Nat) (a0 : (List (List Nat))) (a1 : Int) (a2 : Nat) : Option Bool := (iter (p_Grid_l4 a0 a1 a2 F) F (0 : Int)).bind fun o => aft o some (p_Grid_k3 a1)

def p_whole3_k3  (g3 : Unit) : Option Bool := some true
def p_whole3_l4 (a0 : (List TImpl_P3)) (F : Nat) (K5 : Int → Option (Sum Unit Bool)) (g4 : Int) : Option (Sum Unit Bool) := (cond (decide (g4 < ((a0.length : Nat) : Int))) ((idx a0 g4).bind fun x8 => ((p_off3 x8).bind fun y10 => ((p_Grid F [y10] (3 : Int) (4697254411347427328 : Nat)).bind fun y12 => ((cond (!y12) (some (Sum.inr false)) (need (inI .i64 (g4 + (1 : Int))) (K5 (g4 + (1 : Int))))))))) (some (Sum.inl ())))
/-- pub-orthodrome/laws.whole3 -/
def p_whole3 (F : Nat) (a0 : (List TImpl_P3)) : Option Bool := (iter (p_whole3_l4 a0 F) F (0 : Int)).bind fun o => aft o some p_whole3_k3

/-- pub-orthodrome/impl.vec3 -/
def p_vec3 (a0 : TImpl_P3) : Option TImpl_P3 := some a0

/-- pub-orthodrome/pub/gonum/spatial/r3.Cross -/
def p_Cross (a0 : TImpl_P3) (a1 : TImpl_P3) : Option TImpl_P3 := (floatBits .mul .f64 a0.Y a1.Z).bind fun z1 => ((floatBits .mul .f64 a0.Z a1.Y).bind fun z3 => ((floatBits .sub .f64 z1 z3).bind fun z5 => ((floatBits .mul .f64 a0.Z a1.X).bind fun z7 => ((floatBits .mul .f64 a0.X a1.Z).bind fun z9 => ((floatBits .sub .f64 z7 z9).bind fun z11 => ((floatBits .mul .f64 a0.X a1.Y).bind fun z13 => ((floatBits .mul .f64 a0.Y a1.X).bind fun z15 => ((floatBits .sub .f64 z13 z15).bind fun z17 => (some (TImpl_P3.mk z5 z11 z17))))))))))

/-- pub-orthodrome/impl.plainP3 -/
def p_plainP3 (a0 : TImpl_P3) : Option TImpl_P3 := some a0

/-- pub-orthodrome/impl.Cross3 -/
def p_Cross3 (a0 : TImpl_P3) (a1 : TImpl_P3) : Option TImpl_P3 := (p_vec3 a0).bind fun y1 => ((p_vec3 a1).bind fun y3 => ((p_Cross y1 y3).bind fun y5 => ((p_plainP3 y5).bind fun y7 => (some y7))))

def p_trim_k3  (g3 : (List Int)) : Option (List Int) := some g3
def p_trim_l4  (K5 : (List Int) → Option (Sum (List Int) (List Int))) (g4 : (List Int)) : Option (Sum (List Int) (List Int)) := (cond (decide ((0 : Int) < ((g4.length : Nat) : Int))) (need (inI .i64 (((g4.length : Nat) : Int) - (1 : Int))) ((idx g4 (((g4.length : Nat) : Int) - (1 : Int))).bind fun x9 => ((cond (decide (x9 = (0 : Int))) (need (inI .i64 (((g4.length : Nat) : Int) - (1 : Int))) (need ((True ∧ 0 ≤ (((g4.length : Nat) : Int) - (1 : Int))) ∧ 0 ≤ ((((g4.length : Nat) : Int) - (1 : Int))).toNat ∧ ((((g4.length : Nat) : Int) - (1 : Int))).toNat ≤ g4.length) (K5 ((g4.drop 0).take (((((g4.length : Nat) : Int) - (1 : Int))).toNat - 0))))) (some (Sum.inl g4)))))) (some (Sum.inl g4)))
/-- pub-orthodrome/spec.trim -/
def p_trim (F : Nat) (a0 : (List Int)) : Option (List Int) := (iter p_trim_l4 F a0).bind fun o => aft o some p_trim_k3

def p_WholeOf_k1 (a0 : Int) (F : Nat) (g1 : Int) : Option TSpec_Whole := need (0 ≤ g1) ((p_trim F [(IntKind.u32.wrap g1), (IntKind.u32.wrap (g1 / 2 ^ 32))]).bind fun y3 => (some (TSpec_Whole.mk (decide (a0 < (0 : Int))) y3)))
/-- pub-orthodrome/spec.WholeOf -/
def p_WholeOf (F : Nat) (a0 : Int) : Option TSpec_Whole := (cond (decide (a0 < (0 : Int))) ((p_WholeOf_k1 a0 F) (IntKind.u64.wrap (-(IntKind.u64.wrap a0)))) ((p_WholeOf_k1 a0 F) (IntKind.u64.wrap a0)))

def p_DyadicOf_k2 (a0 : Nat) (F : Nat) (g2 : (Int × Int)) : Option TSpec_Dyadic := need (0 ≤ ((a0 : Nat) : Int)) ((cond (decide ((((a0 : Nat) : Int) / 2 ^ 63) = (1 : Int))) (need (inI .i64 (-g2.1)) ((p_WholeOf F (-g2.1)).bind fun y6 => (need (inI .i64 (g2.2 - (1075 : Int))) (some (TSpec_Dyadic.mk y6 (g2.2 - (1075 : Int))))))) ((p_WholeOf F g2.1).bind fun y9 => (need (inI .i64 (g2.2 - (1075 : Int))) (some (TSpec_Dyadic.mk y9 (g2.2 - (1075 : Int))))))))
/-- pub-orthodrome/spec.DyadicOf -/
def p_DyadicOf (F : Nat) (a0 : Nat) : Option TSpec_Dyadic := need (0 ≤ ((a0 : Nat) : Int)) ((cond (decide ((IntKind.i64.wrap (bits .and .u64 (((a0 : Nat) : Int) / 2 ^ 52) (2047 : Int))) = (2047 : Int))) (some (TSpec_Dyadic.mk (TSpec_Whole.mk false []) (0 : Int))) (cond (decide ((IntKind.i64.wrap (bits .and .u64 (((a0 : Nat) : Int) / 2 ^ 52) (2047 : Int))) = (0 : Int))) ((p_DyadicOf_k2 a0 F) ((IntKind.i64.wrap (bits .and .u64 ((a0 : Nat) : Int) (4503599627370495 : Int))), (1 : Int))) (need (inI .i64 ((IntKind.i64.wrap (bits .and .u64 ((a0 : Nat) : Int) (4503599627370495 : Int))) + (4503599627370496 : Int))) ((p_DyadicOf_k2 a0 F) (((IntKind.i64.wrap (bits .and .u64 ((a0 : Nat) : Int) (4503599627370495 : Int))) + (4503599627370496 : Int)), (IntKind.i64.wrap (bits .and .u64 (((a0 : Nat) : Int) / 2 ^ 52) (2047 : Int)))))))))

/-- pub-orthodrome/spec.PointOf3 -/
def p_PointOf3 (F : Nat) (a0 : Nat) (a1 : Nat) (a2 : Nat) : Option TSpec_Point3 := (p_DyadicOf F a0).bind fun y1 => ((p_DyadicOf F a1).bind fun y3 => ((p_DyadicOf F a2).bind fun y5 => (some (TSpec_Point3.mk y1 y3 y5))))

/-- pub-orthodrome/laws.FnCross3$1 -/
def p_FnCross3_c1 (F : Nat) (a0 : TImpl_P3) : Option TSpec_Point3 := (p_PointOf3 F a0.X a0.Y a0.Z).bind fun y1 => (some y1)

def p_Whole_Mul_k5 (a0 : TSpec_Whole) (a1 : TSpec_Whole) (F : Nat) (g5 : (List Int)) : Option TSpec_Whole := need ((((((a0.L.length : Nat) : Int) + ((a1.L.length : Nat) : Int))).toNat) = g5.length) ((p_trim F g5).bind fun y7 => ((cond (decide ((0 : Int) < ((y7.length : Nat) : Int))) (some (TSpec_Whole.mk (!(a0.Neg == a1.Neg)) y7)) (some (TSpec_Whole.mk false y7)))))
def p_Whole_Mul_k18 (a0 : TSpec_Whole) (a1 : TSpec_Whole) (g10 : (Int × (List Int))) (K11 : (Int × (List Int)) → Option (Sum (List Int) TSpec_Whole)) (g18 : (Int × (List Int))) : Option (Sum (List Int) TSpec_Whole) := need (inI .i64 (g10.1 + ((a1.L.length : Nat) : Int))) (need (0 ≤ (g10.1 + ((a1.L.length : Nat) : Int)) ∧ (g10.1 + ((a1.L.length : Nat) : Int)) < ((((((a0.L.length : Nat) : Int) + ((a1.L.length : Nat) : Int))).toNat : Nat) : Int)) (need (((g10.1 + ((a1.L.length : Nat) : Int))).toNat < g18.2.length) (need (inI .i64 (g10.1 + (1 : Int))) (K11 ((g10.1 + (1 : Int)), (g18.2.set ((g10.1 + ((a1.L.length : Nat) : Int))).toNat (IntKind.u32.wrap g18.1)))))))
def p_Whole_Mul_l23 (a0 : TSpec_Whole) (a1 : TSpec_Whole) (g10 : (Int × (List Int))) (x14 : Int) (K24 : (Int × Int × (List Int)) → Option (Sum (Int × (List Int)) TSpec_Whole)) (g23 : (Int × Int × (List Int))) : Option (Sum (Int × (List Int)) TSpec_Whole) := (cond (decide (g23.2.1 < ((a1.L.length : Nat) : Int))) ((idx a1.L g23.2.1).bind fun x27 => (need (inI .u64 ((IntKind.u64.wrap x14) * (IntKind.u64.wrap x27))) (need (inI .i64 (g10.1 + g23.2.1)) (need (0 ≤ (g10.1 + g23.2.1) ∧ (g10.1 + g23.2.1) < ((((((a0.L.length : Nat) : Int) + ((a1.L.length : Nat) : Int))).toNat : Nat) : Int)) ((idx g23.2.2 (g10.1 + g23.2.1)).bind fun x32 => (need (inI .u64 (((IntKind.u64.wrap x14) * (IntKind.u64.wrap x27)) + (IntKind.u64.wrap x32))) (need (inI .u64 ((((IntKind.u64.wrap x14) * (IntKind.u64.wrap x27)) + (IntKind.u64.wrap x32)) + g23.1)) (need (inI .i64 (g10.1 + g23.2.1)) (need (0 ≤ (g10.1 + g23.2.1) ∧ (g10.1 + g23.2.1) < ((((((a0.L.length : Nat) : Int) + ((a1.L.length : Nat) : Int))).toNat : Nat) : Int)) (need (((g10.1 + g23.2.1)).toNat < g23.2.2.length) (need (0 ≤ ((((IntKind.u64.wrap x14) * (IntKind.u64.wrap x27)) + (IntKind.u64.wrap x32)) + g23.1)) (need (inI .i64 (g23.2.1 + (1 : Int))) (K24 ((((((IntKind.u64.wrap x14) * (IntKind.u64.wrap x27)) + (IntKind.u64.wrap x32)) + g23.1) / 2 ^ 32), (g23.2.1 + (1 : Int)), (g23.2.2.set ((g10.1 + g23.2.1)).toNat (IntKind.u32.wrap ((((IntKind.u64.wrap x14) * (IntKind.u64.wrap x27)) + (IntKind.u64.wrap x32)) + g23.1))))))))))))))))) (some (Sum.inl (g23.1, g23.2.2))))
def p_Whole_Mul_l10 (a0 : TSpec_Whole) (a1 : TSpec_Whole) (F : Nat) (K11 : (Int × (List Int)) → Option (Sum (List Int) TSpec_Whole)) (g10 : (Int × (List Int))) : Option (Sum (List Int) TSpec_Whole) := (cond (decide (g10.1 < ((a0.L.length : Nat) : Int))) ((idx a0.L g10.1).bind fun x14 => ((iter (p_Whole_Mul_l23 a0 a1 g10 x14) F ((0 : Int), (0 : Int), g10.2)).bind fun o => aft o (fun r => some (Sum.inr r)) (p_Whole_Mul_k18 a0 a1 g10 K11))) (some (Sum.inl g10.2)))
/-- (pub-orthodrome/spec.Whole).Mul -/
def p_Whole_Mul (F : Nat) (a0 : TSpec_Whole) (a1 : TSpec_Whole) : Option TSpec_Whole := need (inI .i64 (((a0.L.length : Nat) : Int) + ((a1.L.length : Nat) : Int))) (need (0 ≤ (((a0.L.length : Nat) : Int) + ((a1.L.length : Nat) : Int)) ∧ (((a0.L.length : Nat) : Int) + ((a1.L.length : Nat) : Int)) ≤ 4294967296) ((iter (p_Whole_Mul_l10 a0 a1 F) F ((0 : Int), (List.replicate ((((a0.L.length : Nat) : Int) + ((a1.L.length : Nat) : Int))).toNat (0 : Int)))).bind fun o => aft o some (p_Whole_Mul_k5 a0 a1 F)))

/-- (pub-orthodrome/spec.Dyadic).Mul -/
def p_Dyadic_Mul (F : Nat) (a0 : TSpec_Dyadic) (a1 : TSpec_Dyadic) : Option TSpec_Dyadic := (p_Whole_Mul F a0.N a1.N).bind fun y1 => (need (inI .i64 (a0.E + a1.E)) (some (TSpec_Dyadic.mk y1 (a0.E + a1.E))))

/-- (pub-orthodrome/spec.Whole).Sign -/
def p_Whole_Sign (a0 : TSpec_Whole) : Option Int := (cond (decide (((a0.L.length : Nat) : Int) = (0 : Int))) (some (0 : Int)) (cond a0.Neg (some (-1 : Int)) (some (1 : Int))))

/-- (pub-orthodrome/spec.Dyadic).Sign -/
def p_Dyadic_Sign (a0 : TSpec_Dyadic) : Option Int := (p_Whole_Sign a0.N).bind fun y1 => (some y1)

def p_Whole_Up_k9 (a0 : TSpec_Whole) (F : Nat) (g9 : (Int × (List Int))) : Option TSpec_Whole := need (g9.2.length + [g9.1].length ≤ 4294967296) ((p_trim F (g9.2 ++ [g9.1])).bind fun y12 => (some (TSpec_Whole.mk a0.Neg y12)))
def p_Whole_Up_l14 (a0 : TSpec_Whole) (a1 : Int) (K15 : (Int × Int × (List Int)) → Option (Sum (Int × (List Int)) TSpec_Whole)) (g14 : (Int × Int × (List Int))) : Option (Sum (Int × (List Int)) TSpec_Whole) := (cond (decide (g14.2.1 < ((a0.L.length : Nat) : Int))) ((idx a0.L g14.2.1).bind fun x18 => (need ((32 : Int) ≠ 0) (need (0 ≤ (Int.tmod a1 (32 : Int)) ∧ (Int.tmod a1 (32 : Int)) ≤ (IntKind.u64.bits : Int)) (need (g14.2.2.length + [(bits .or .u32 (IntKind.u32.wrap (IntKind.u64.wrap ((IntKind.u64.wrap x18) * 2 ^ ((Int.tmod a1 (32 : Int))).toNat))) g14.1)].length ≤ 4294967296) (need (0 ≤ (IntKind.u64.wrap ((IntKind.u64.wrap x18) * 2 ^ ((Int.tmod a1 (32 : Int))).toNat))) (need (inI .i64 (g14.2.1 + (1 : Int))) (K15 ((IntKind.u32.wrap ((IntKind.u64.wrap ((IntKind.u64.wrap x18) * 2 ^ ((Int.tmod a1 (32 : Int))).toNat)) / 2 ^ 32)), (g14.2.1 + (1 : Int)), (g14.2.2 ++ [(bits .or .u32 (IntKind.u32.wrap (IntKind.u64.wrap ((IntKind.u64.wrap x18) * 2 ^ ((Int.tmod a1 (32 : Int))).toNat))) g14.1)]))))))))) (some (Sum.inl (g14.1, g14.2.2))))
/-- (pub-orthodrome/spec.Whole).Up -/
def p_Whole_Up (F : Nat) (a0 : TSpec_Whole) (a1 : Int) : Option TSpec_Whole := (cond (decide (((a0.L.length : Nat) : Int) = (0 : Int))) (some a0) (need ((32 : Int) ≠ 0 ∧ inI .i64 (Int.tdiv a1 (32 : Int))) (need ((32 : Int) ≠ 0 ∧ inI .i64 (Int.tdiv a1 (32 : Int))) (need (inI .i64 ((Int.tdiv a1 (32 : Int)) + ((a0.L.length : Nat) : Int))) (need (inI .i64 (((Int.tdiv a1 (32 : Int)) + ((a0.L.length : Nat) : Int)) + (1 : Int))) (need ((0 ≤ (Int.tdiv a1 (32 : Int)) ∧ (Int.tdiv a1 (32 : Int)) ≤ (((Int.tdiv a1 (32 : Int)) + ((a0.L.length : Nat) : Int)) + (1 : Int))) ∧ (((Int.tdiv a1 (32 : Int)) + ((a0.L.length : Nat) : Int)) + (1 : Int)) ≤ 4294967296) ((iter (p_Whole_Up_l14 a0 a1) F ((0 : Int), (0 : Int), (List.replicate ((Int.tdiv a1 (32 : Int))).toNat (0 : Int)))).bind fun o => aft o some (p_Whole_Up_k9 a0 F))))))))

def p_addLimbs_k6 (F : Nat) (g6 : (Int × (List Int))) : Option (List Int) := need (g6.2.length + [(IntKind.u32.wrap g6.1)].length ≤ 4294967296) ((p_trim F (g6.2 ++ [(IntKind.u32.wrap g6.1)])).bind fun y8 => (some y8))
def p_addLimbs_k17 (g10 : (Int × Int × (List Int))) (K11 : (Int × Int × (List Int)) → Option (Sum (Int × (List Int)) (List Int))) (g17 : Int) : Option (Sum (Int × (List Int)) (List Int)) := need (g10.2.2.length + [(IntKind.u32.wrap g17)].length ≤ 4294967296) (need (0 ≤ g17) (need (inI .i64 (g10.2.1 + (1 : Int))) (K11 ((g17 / 2 ^ 32), (g10.2.1 + (1 : Int)), (g10.2.2 ++ [(IntKind.u32.wrap g17)])))))
def p_addLimbs_l10 (g1 : ((List Int) × (List Int))) (K11 : (Int × Int × (List Int)) → Option (Sum (Int × (List Int)) (List Int))) (g10 : (Int × Int × (List Int))) : Option (Sum (Int × (List Int)) (List Int)) := (cond (decide (g10.2.1 < ((g1.1.length : Nat) : Int))) ((idx g1.1 g10.2.1).bind fun x14 => (need (inI .u64 ((IntKind.u64.wrap x14) + g10.1)) ((cond (decide (g10.2.1 < ((g1.2.length : Nat) : Int))) ((idx g1.2 g10.2.1).bind fun x22 => (need (inI .u64 (((IntKind.u64.wrap x14) + g10.1) + (IntKind.u64.wrap x22))) ((p_addLimbs_k17 g10 K11) (((IntKind.u64.wrap x14) + g10.1) + (IntKind.u64.wrap x22))))) ((p_addLimbs_k17 g10 K11) ((IntKind.u64.wrap x14) + g10.1)))))) (some (Sum.inl (g10.1, g10.2.2))))
def p_addLimbs_k1 (F : Nat) (g1 : ((List Int) × (List Int))) : Option (List Int) := need (inI .i64 (((g1.1.length : Nat) : Int) + (1 : Int))) (need ((0 ≤ (0 : Int) ∧ (0 : Int) ≤ (((g1.1.length : Nat) : Int) + (1 : Int))) ∧ (((g1.1.length : Nat) : Int) + (1 : Int)) ≤ 4294967296) ((iter (p_addLimbs_l10 g1) F ((0 : Int), (0 : Int), [])).bind fun o => aft o some (p_addLimbs_k6 F)))
/-- pub-orthodrome/spec.addLimbs -/
def p_addLimbs (F : Nat) (a0 : (List Int)) (a1 : (List Int)) : Option (List Int) := (cond (decide (((a0.length : Nat) : Int) < ((a1.length : Nat) : Int))) ((p_addLimbs_k1 F) (a1, a0)) ((p_addLimbs_k1 F) (a0, a1)))

def p_cmpLimbs_k6  (g6 : Unit) : Option Int := some (0 : Int)
def p_cmpLimbs_l7 (a0 : (List Int)) (a1 : (List Int)) (K8 : Int → Option (Sum Unit Int)) (g7 : Int) : Option (Sum Unit Int) := (cond (decide ((0 : Int) ≤ g7)) ((idx a0 g7).bind fun x11 => ((idx a1 g7).bind fun x13 => ((cond (!decide (x11 = x13)) ((idx a0 g7).bind fun x16 => ((idx a1 g7).bind fun x18 => ((cond (decide (x16 < x18)) (some (Sum.inr (-1 : Int))) (some (Sum.inr (1 : Int))))))) (need (inI .i64 (g7 - (1 : Int))) (K8 (g7 - (1 : Int)))))))) (some (Sum.inl ())))
/-- pub-orthodrome/spec.cmpLimbs -/
def p_cmpLimbs (F : Nat) (a0 : (List Int)) (a1 : (List Int)) : Option Int := (cond (!decide (((a0.length : Nat) : Int) = ((a1.length : Nat) : Int))) (cond (decide (((a0.length : Nat) : Int) < ((a1.length : Nat) : Int))) (some (-1 : Int)) (some (1 : Int))) (need (inI .i64 (((a0.length : Nat) : Int) - (1 : Int))) ((iter (p_cmpLimbs_l7 a0 a1) F (((a0.length : Nat) : Int) - (1 : Int))).bind fun o => aft o some p_cmpLimbs_k6)))

def p_subLimbs_k4 (F : Nat) (g4 : (List Int)) : Option (List Int) := (p_trim F g4).bind fun y5 => (some y5)
def p_subLimbs_k14 (g7 : (Int × Int × (List Int))) (K8 : (Int × Int × (List Int)) → Option (Sum (List Int) (List Int))) (x11 : Int) (g13 : Int) (g14 : Int) : Option (Sum (List Int) (List Int)) := need (inI .u64 ((IntKind.u64.wrap x11) + (IntKind.u64.wrap (g14 * 2 ^ 32)))) (need (inI .u64 (((IntKind.u64.wrap x11) + (IntKind.u64.wrap (g14 * 2 ^ 32))) - g13)) (need (g7.2.2.length + [(IntKind.u32.wrap (((IntKind.u64.wrap x11) + (IntKind.u64.wrap (g14 * 2 ^ 32))) - g13))].length ≤ 4294967296) (need (inI .i64 (g7.2.1 + (1 : Int))) (K8 (g14, (g7.2.1 + (1 : Int)), (g7.2.2 ++ [(IntKind.u32.wrap (((IntKind.u64.wrap x11) + (IntKind.u64.wrap (g14 * 2 ^ 32))) - g13))]))))))
def p_subLimbs_k13 (g7 : (Int × Int × (List Int))) (K8 : (Int × Int × (List Int)) → Option (Sum (List Int) (List Int))) (x11 : Int) (g13 : Int) : Option (Sum (List Int) (List Int)) := (cond (decide ((IntKind.u64.wrap x11) < g13)) ((p_subLimbs_k14 g7 K8 x11 g13) (1 : Int)) ((p_subLimbs_k14 g7 K8 x11 g13) (0 : Int)))
def p_subLimbs_l7 (a0 : (List Int)) (a1 : (List Int)) (K8 : (Int × Int × (List Int)) → Option (Sum (List Int) (List Int))) (g7 : (Int × Int × (List Int))) : Option (Sum (List Int) (List Int)) := (cond (decide (g7.2.1 < ((a0.length : Nat) : Int))) ((idx a0 g7.2.1).bind fun x11 => ((cond (decide (g7.2.1 < ((a1.length : Nat) : Int))) ((idx a1 g7.2.1).bind fun x21 => (need (inI .u64 (g7.1 + (IntKind.u64.wrap x21))) ((p_subLimbs_k13 g7 K8 x11) (g7.1 + (IntKind.u64.wrap x21))))) ((p_subLimbs_k13 g7 K8 x11) g7.1)))) (some (Sum.inl g7.2.2)))
/-- pub-orthodrome/spec.subLimbs -/
def p_subLimbs (F : Nat) (a0 : (List Int)) (a1 : (List Int)) : Option (List Int) := need ((0 ≤ (0 : Int) ∧ (0 : Int) ≤ ((a0.length : Nat) : Int)) ∧ ((a0.length : Nat) : Int) ≤ 4294967296) ((iter (p_subLimbs_l7 a0 a1) F ((0 : Int), (0 : Int), [])).bind fun o => aft o some (p_subLimbs_k4 F))

/-- (pub-orthodrome/spec.Whole).Add -/
def p_Whole_Add (F : Nat) (a0 : TSpec_Whole) (a1 : TSpec_Whole) : Option TSpec_Whole := (cond (a0.Neg == a1.Neg) ((p_addLimbs F a0.L a1.L).bind fun y2 => (some (TSpec_Whole.mk a0.Neg y2))) ((p_cmpLimbs F a0.L a1.L).bind fun y4 => ((cond (decide (y4 = (0 : Int))) (some (TSpec_Whole.mk false [])) (cond (decide (y4 = (1 : Int))) ((p_subLimbs F a0.L a1.L).bind fun y8 => (some (TSpec_Whole.mk a0.Neg y8))) ((p_subLimbs F a1.L a0.L).bind fun y10 => (some (TSpec_Whole.mk a1.Neg y10))))))))

/-- (pub-orthodrome/spec.Dyadic).Add -/
def p_Dyadic_Add (F : Nat) (a0 : TSpec_Dyadic) (a1 : TSpec_Dyadic) : Option TSpec_Dyadic := (p_Dyadic_Sign a0).bind fun y1 => ((cond (decide (y1 = (0 : Int))) (some a1) ((p_Dyadic_Sign a1).bind fun y4 => ((cond (decide (y4 = (0 : Int))) (some a0) (cond (decide (a1.E < a0.E)) (need (inI .i64 (a0.E - a1.E)) ((p_Whole_Up F a0.N (a0.E - a1.E)).bind fun y9 => ((p_Whole_Add F y9 a1.N).bind fun y11 => (some (TSpec_Dyadic.mk y11 a1.E))))) (need (inI .i64 (a1.E - a0.E)) ((p_Whole_Up F a1.N (a1.E - a0.E)).bind fun y14 => ((p_Whole_Add F y14 a0.N).bind fun y16 => (some (TSpec_Dyadic.mk y16 a0.E)))))))))))

/-- pub-orthodrome/spec.Dot3 -/
def p_Dot3 (F : Nat) (a0 : TSpec_Point3) (a1 : TSpec_Point3) : Option TSpec_Dyadic := (p_Dyadic_Mul F a0.X a1.X).bind fun y1 => ((p_Dyadic_Mul F a0.Y a1.Y).bind fun y3 => ((p_Dyadic_Add F y1 y3).bind fun y5 => ((p_Dyadic_Mul F a0.Z a1.Z).bind fun y7 => ((p_Dyadic_Add F y5 y7).bind fun y9 => (some y9)))))

/-- pub-orthodrome/laws.FnCross3 -/
def p_FnCross3 (F : Nat) (a0 : TImpl_P3) (a1 : TImpl_P3) : Option Bool := (p_whole3 F [a0, a1]).bind fun y1 => ((cond (!y1) (some true) ((p_Cross3 a0 a1).bind fun y4 => ((floatBits .mul .f64 a0.Y a1.Z).bind fun z6 => ((floatBits .mul .f64 a0.Z a1.Y).bind fun z8 => ((floatBits .sub .f64 z6 z8).bind fun z10 => ((floatBits .mul .f64 a0.Z a1.X).bind fun z12 => ((floatBits .mul .f64 a0.X a1.Z).bind fun z14 => ((floatBits .sub .f64 z12 z14).bind fun z16 => ((floatBits .mul .f64 a0.X a1.Y).bind fun z18 => ((floatBits .mul .f64 a0.Y a1.X).bind fun z20 => ((floatBits .sub .f64 z18 z20).bind fun z22 => ((cond (feq y4.X z10 && (feq y4.Y z16 && (feq y4.Z z22 && true))) ((p_FnCross3_c1 F y4).bind fun y25 => ((p_FnCross3_c1 F a0).bind fun y27 => ((p_Dot3 F y25 y27).bind fun y29 => ((p_Dyadic_Sign y29).bind fun y31 => ((cond (decide (y31 = (0 : Int))) ((p_FnCross3_c1 F y4).bind fun y34 => ((p_FnCross3_c1 F a1).bind fun y36 => ((p_Dot3 F y34 y36).bind fun y38 => ((p_Dyadic_Sign y38).bind fun y40 => (some (decide (y40 = (0 : Int)))))))) (some false))))))) (some false)))))))))))))))

end Go.Proofs.Ytibeppgdhkjeaaa.Wk
