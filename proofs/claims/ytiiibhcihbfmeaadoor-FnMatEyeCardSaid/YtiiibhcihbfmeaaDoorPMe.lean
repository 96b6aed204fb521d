/- Printed: what functions of the program compute, as functions of Lean. No condition is laid on their arguments. -/
import Derived.Test.YtiiibhcihbfmeaaDoorPureKit
namespace Go.Proofs.YtiiibhcihbfmeaaDoor.Wk
open Go.Vm
set_option linter.unusedVariables false
structure TImpl_Mat where
  mk ::
  (e0 : Nat)
  (e1 : Nat)
  (e2 : Nat)
  (e3 : Nat)
  (e4 : Nat)
  (e5 : Nat)
  (e6 : Nat)
  (e7 : Nat)
  (e8 : Nat)
abbrev c_TImpl_Mat (x : TImpl_Mat) : List D := [dfl x.e0, dfl x.e1, dfl x.e2, dfl x.e3, dfl x.e4, dfl x.e5, dfl x.e6, dfl x.e7, dfl x.e8]
abbrev e_TImpl_Mat (x : TImpl_Mat) : D := .ag (c_TImpl_Mat x)
structure TImpl_P3 where
  mk ::
  (X : Nat)
  (Y : Nat)
  (Z : Nat)
abbrev c_TImpl_P3 (x : TImpl_P3) : List D := [dfl x.X, dfl x.Y, dfl x.Z]
abbrev e_TImpl_P3 (x : TImpl_P3) : D := .ag (c_TImpl_P3 x)
abbrev eS0 (l : List TImpl_Mat) : D := .ds 9 (l.flatMap c_TImpl_Mat)
abbrev keS1 (x : Nat) : D := dfl x
abbrev eS1 (l : List Nat) : D := .ds 1 (l.map keS1)
abbrev keS2 (x : (List Nat)) : D := eS1 x
abbrev eS2 (l : List (List Nat)) : D := .ds 1 (l.map keS2)
abbrev eS3 (l : List TImpl_P3) : D := .ds 3 (l.flatMap c_TImpl_P3)
structure TR3_Mat where
  mk ::
  (data : TImpl_Mat)
abbrev c_TR3_Mat (x : TR3_Mat) : List D := [.pt (c_TImpl_Mat x.data)]
abbrev e_TR3_Mat (x : TR3_Mat) : D := .ag (c_TR3_Mat x)
def p_Grid_k1 (a1 : Int) (g3 : Unit) : Option Bool := some (decide ((0 : Int) < a1))
def p_Grid_k3 (g4 : Int) (K5 : Int → Option (Sum Unit Bool)) (g13 : Unit) : Option (Sum Unit Bool) := need (inI .i64 (g4 + (1 : Int))) (K5 (g4 + (1 : Int)))
def p_Grid_l4 (a2 : Nat) (x8 : (List Nat)) (K16 : Int → Option (Sum Unit Bool)) (g15 : Int) : Option (Sum Unit Bool) := (cond (decide (g15 < ((x8.length : Nat) : Int))) ((idx x8 g15).bind fun x19 => ((cond (fge x19 (fneg a2)) (cond (!(fle x19 a2)) (some (Sum.inr false)) (cond (!feq x19 (Flt.truncN x19)) (some (Sum.inr false)) (need (inI .i64 (g15 + (1 : Int))) (K16 (g15 + (1 : Int)))))) (some (Sum.inr false))))) (some (Sum.inl ())))
def p_Grid_l2 (a0 : (List (List Nat))) (a1 : Int) (a2 : Nat) (F : Nat) (K5 : Int → Option (Sum Unit Bool)) (g4 : Int) : Option (Sum Unit Bool) := (cond (decide (g4 < ((a0.length : Nat) : Int))) ((idx a0 g4).bind fun x8 => ((cond (!decide (((x8.length : Nat) : Int) = a1)) (some (Sum.inr false)) ((iter (p_Grid_l4 a2 x8) F (0 : Int)).bind fun o => aft o (fun r => some (Sum.inr r)) (p_Grid_k3 g4 K5))))) (some (Sum.inl ())))
/-- pub-orthodrome/spec.Grid -/
def p_Grid (F : Nat) (a0 : (List (List Nat))) (a1 : Int) (a2 : Nat) : Option Bool := (iter (p_Grid_l2 a0 a1 a2 F) F (0 : Int)).bind fun o => aft o some (p_Grid_k1 a1)

def p_entries_k1  (g3 : Unit) : Option Bool := some true
def p_entries_l2 (a0 : (List TImpl_Mat)) (F : Nat) (K5 : Int → Option (Sum Unit Bool)) (g4 : Int) : Option (Sum Unit Bool) := (cond (decide (g4 < ((a0.length : Nat) : Int))) ((idx a0 g4).bind fun x8 => (need ((9) = [x8.e0, x8.e1, x8.e2, x8.e3, x8.e4, x8.e5, x8.e6, x8.e7, x8.e8].length) ((p_Grid F [[x8.e0, x8.e1, x8.e2, x8.e3, x8.e4, x8.e5, x8.e6, x8.e7, x8.e8]] (9 : Int) (4652218415073722368 : Nat)).bind fun y11 => ((cond (!y11) (some (Sum.inr false)) (need (inI .i64 (g4 + (1 : Int))) (K5 (g4 + (1 : Int))))))))) (some (Sum.inl ())))
/-- pub-orthodrome/laws.entries -/
def p_entries (F : Nat) (a0 : (List TImpl_Mat)) : Option Bool := (iter (p_entries_l2 a0 F) F (0 : Int)).bind fun o => aft o some p_entries_k1

/-- pub-orthodrome/laws.off3 -/
def p_off3 (a0 : TImpl_P3) : Option (List Nat) := some [a0.X, a0.Y, a0.Z]

def p_small3_k1  (g3 : Unit) : Option Bool := some true
def p_small3_l2 (a0 : (List TImpl_P3)) (F : Nat) (K5 : Int → Option (Sum Unit Bool)) (g4 : Int) : Option (Sum Unit Bool) := (cond (decide (g4 < ((a0.length : Nat) : Int))) ((idx a0 g4).bind fun x8 => ((p_off3 x8).bind fun y10 => ((p_Grid F [y10] (3 : Int) (4652218415073722368 : Nat)).bind fun y12 => ((cond (!y12) (some (Sum.inr false)) (need (inI .i64 (g4 + (1 : Int))) (K5 (g4 + (1 : Int))))))))) (some (Sum.inl ())))
/-- pub-orthodrome/laws.small3 -/
def p_small3 (F : Nat) (a0 : (List TImpl_P3)) : Option Bool := (iter (p_small3_l2 a0 F) F (0 : Int)).bind fun o => aft o some p_small3_k1

/-- pub-orthodrome/pub/gonum/spatial/r3.Eye -/
def p_Eye  : Option TR3_Mat := some (TR3_Mat.mk (TImpl_Mat.mk (4607182418800017408 : Nat) (0 : Nat) (0 : Nat) (0 : Nat) (4607182418800017408 : Nat) (0 : Nat) (0 : Nat) (0 : Nat) (4607182418800017408 : Nat)))

/-- pub-orthodrome/impl.MatEye -/
def p_MatEye  : Option TImpl_Mat := (p_Eye).bind fun y1 => (some y1.data)

/-- pub-orthodrome/impl.mat -/
def p_mat (a0 : TImpl_Mat) : Option TR3_Mat := need ((9) = [a0.e0, a0.e1, a0.e2, a0.e3, a0.e4, a0.e5, a0.e6, a0.e7, a0.e8].length) (need ([a0.e0, a0.e1, a0.e2, a0.e3, a0.e4, a0.e5, a0.e6, a0.e7, a0.e8].length ≤ 4294967296) (some (TR3_Mat.mk a0)))

/-- (*pub-orthodrome/pub/gonum/spatial/r3.Mat).At -/
def p_Mat_At (a0 : TR3_Mat) (a1 : Int) (a2 : Int) : Option Nat := (cond (decide ((2 : Int) < (IntKind.u64.wrap a1))) none (cond (decide ((2 : Int) < (IntKind.u64.wrap a2))) none (need (inI .i64 (a1 * (3 : Int))) (need (inI .i64 ((a1 * (3 : Int)) + a2)) ((idx [a0.data.e0, a0.data.e1, a0.data.e2, a0.data.e3, a0.data.e4, a0.data.e5, a0.data.e6, a0.data.e7, a0.data.e8] ((a1 * (3 : Int)) + a2)).bind fun x5 => (some x5))))))

/-- pub-orthodrome/impl.MatMul -/
def p_MatMul (a0 : TImpl_Mat) (a1 : TImpl_Mat) : Option TImpl_Mat := (p_mat a0).bind fun y1 => ((p_mat a1).bind fun y3 => ((p_Mat_At y1 (0 : Int) (0 : Int)).bind fun y8 => ((p_Mat_At y3 (0 : Int) (0 : Int)).bind fun y10 => ((p_Mat_At y1 (0 : Int) (1 : Int)).bind fun y12 => ((p_Mat_At y3 (0 : Int) (1 : Int)).bind fun y14 => ((p_Mat_At y1 (0 : Int) (2 : Int)).bind fun y16 => ((p_Mat_At y3 (0 : Int) (2 : Int)).bind fun y18 => ((p_Mat_At y1 (1 : Int) (0 : Int)).bind fun y20 => ((p_Mat_At y3 (1 : Int) (0 : Int)).bind fun y22 => ((p_Mat_At y1 (1 : Int) (1 : Int)).bind fun y24 => ((p_Mat_At y3 (1 : Int) (1 : Int)).bind fun y26 => ((p_Mat_At y1 (1 : Int) (2 : Int)).bind fun y28 => ((p_Mat_At y3 (1 : Int) (2 : Int)).bind fun y30 => ((p_Mat_At y1 (2 : Int) (0 : Int)).bind fun y32 => ((p_Mat_At y3 (2 : Int) (0 : Int)).bind fun y34 => ((p_Mat_At y1 (2 : Int) (1 : Int)).bind fun y36 => ((p_Mat_At y3 (2 : Int) (1 : Int)).bind fun y38 => ((p_Mat_At y1 (2 : Int) (2 : Int)).bind fun y40 => ((p_Mat_At y3 (2 : Int) (2 : Int)).bind fun y42 => ((floatBits .mul .f64 y8 y10).bind fun z44 => ((floatBits .mul .f64 y12 y22).bind fun z46 => ((floatBits .add .f64 z44 z46).bind fun z48 => ((floatBits .mul .f64 y16 y34).bind fun z50 => ((floatBits .add .f64 z48 z50).bind fun z52 => ((floatBits .mul .f64 y8 y14).bind fun z54 => ((floatBits .mul .f64 y12 y26).bind fun z56 => ((floatBits .add .f64 z54 z56).bind fun z58 => ((floatBits .mul .f64 y16 y38).bind fun z60 => ((floatBits .add .f64 z58 z60).bind fun z62 => ((floatBits .mul .f64 y8 y18).bind fun z64 => ((floatBits .mul .f64 y12 y30).bind fun z66 => ((floatBits .add .f64 z64 z66).bind fun z68 => ((floatBits .mul .f64 y16 y42).bind fun z70 => ((floatBits .add .f64 z68 z70).bind fun z72 => ((floatBits .mul .f64 y20 y10).bind fun z74 => ((floatBits .mul .f64 y24 y22).bind fun z76 => ((floatBits .add .f64 z74 z76).bind fun z78 => ((floatBits .mul .f64 y28 y34).bind fun z80 => ((floatBits .add .f64 z78 z80).bind fun z82 => ((floatBits .mul .f64 y20 y14).bind fun z84 => ((floatBits .mul .f64 y24 y26).bind fun z86 => ((floatBits .add .f64 z84 z86).bind fun z88 => ((floatBits .mul .f64 y28 y38).bind fun z90 => ((floatBits .add .f64 z88 z90).bind fun z92 => ((floatBits .mul .f64 y20 y18).bind fun z94 => ((floatBits .mul .f64 y24 y30).bind fun z96 => ((floatBits .add .f64 z94 z96).bind fun z98 => ((floatBits .mul .f64 y28 y42).bind fun z100 => ((floatBits .add .f64 z98 z100).bind fun z102 => ((floatBits .mul .f64 y32 y10).bind fun z104 => ((floatBits .mul .f64 y36 y22).bind fun z106 => ((floatBits .add .f64 z104 z106).bind fun z108 => ((floatBits .mul .f64 y40 y34).bind fun z110 => ((floatBits .add .f64 z108 z110).bind fun z112 => ((floatBits .mul .f64 y32 y14).bind fun z114 => ((floatBits .mul .f64 y36 y26).bind fun z116 => ((floatBits .add .f64 z114 z116).bind fun z118 => ((floatBits .mul .f64 y40 y38).bind fun z120 => ((floatBits .add .f64 z118 z120).bind fun z122 => ((floatBits .mul .f64 y32 y18).bind fun z124 => ((floatBits .mul .f64 y36 y30).bind fun z126 => ((floatBits .add .f64 z124 z126).bind fun z128 => ((floatBits .mul .f64 y40 y42).bind fun z130 => ((floatBits .add .f64 z128 z130).bind fun z132 => (some (TImpl_Mat.mk z52 z62 z72 z82 z92 z102 z112 z122 z132))))))))))))))))))))))))))))))))))))))))))))))))))))))))))))))))))

/-- pub-orthodrome/impl.vec3 -/
def p_vec3 (a0 : TImpl_P3) : Option TImpl_P3 := some a0

/-- (*pub-orthodrome/pub/gonum/spatial/r3.Mat).MulVec -/
def p_Mat_MulVec (a0 : TR3_Mat) (a1 : TImpl_P3) : Option TImpl_P3 := (p_Mat_At a0 (0 : Int) (0 : Int)).bind fun y1 => ((floatBits .mul .f64 a1.X y1).bind fun z3 => ((p_Mat_At a0 (0 : Int) (1 : Int)).bind fun y5 => ((floatBits .mul .f64 a1.Y y5).bind fun z7 => ((floatBits .add .f64 z3 z7).bind fun z9 => ((p_Mat_At a0 (0 : Int) (2 : Int)).bind fun y11 => ((floatBits .mul .f64 a1.Z y11).bind fun z13 => ((floatBits .add .f64 z9 z13).bind fun z15 => ((p_Mat_At a0 (1 : Int) (0 : Int)).bind fun y17 => ((floatBits .mul .f64 a1.X y17).bind fun z19 => ((p_Mat_At a0 (1 : Int) (1 : Int)).bind fun y21 => ((floatBits .mul .f64 a1.Y y21).bind fun z23 => ((floatBits .add .f64 z19 z23).bind fun z25 => ((p_Mat_At a0 (1 : Int) (2 : Int)).bind fun y27 => ((floatBits .mul .f64 a1.Z y27).bind fun z29 => ((floatBits .add .f64 z25 z29).bind fun z31 => ((p_Mat_At a0 (2 : Int) (0 : Int)).bind fun y33 => ((floatBits .mul .f64 a1.X y33).bind fun z35 => ((p_Mat_At a0 (2 : Int) (1 : Int)).bind fun y37 => ((floatBits .mul .f64 a1.Y y37).bind fun z39 => ((floatBits .add .f64 z35 z39).bind fun z41 => ((p_Mat_At a0 (2 : Int) (2 : Int)).bind fun y43 => ((floatBits .mul .f64 a1.Z y43).bind fun z45 => ((floatBits .add .f64 z41 z45).bind fun z47 => (some (TImpl_P3.mk z15 z31 z47)))))))))))))))))))))))))

/-- pub-orthodrome/impl.plainP3 -/
def p_plainP3 (a0 : TImpl_P3) : Option TImpl_P3 := some a0

/-- pub-orthodrome/impl.MatVec -/
def p_MatVec (a0 : TImpl_Mat) (a1 : TImpl_P3) : Option TImpl_P3 := (p_mat a0).bind fun y1 => ((p_vec3 a1).bind fun y3 => ((p_Mat_MulVec y1 y3).bind fun y5 => ((p_plainP3 y5).bind fun y7 => (some y7))))

def p_FnMatEye_k1 (a0 : TImpl_Mat) (a1 : TImpl_P3) (g1 : Bool) : Option Bool := (cond g1 (some true) ((p_MatEye).bind fun y3 => ((cond (feq y3.e0 (4607182418800017408 : Nat) && (feq y3.e1 (0 : Nat) && (feq y3.e2 (0 : Nat) && (feq y3.e3 (0 : Nat) && (feq y3.e4 (4607182418800017408 : Nat) && (feq y3.e5 (0 : Nat) && (feq y3.e6 (0 : Nat) && (feq y3.e7 (0 : Nat) && (feq y3.e8 (4607182418800017408 : Nat) && true))))))))) ((p_MatMul y3 a0).bind fun y6 => ((cond (feq y6.e0 a0.e0 && (feq y6.e1 a0.e1 && (feq y6.e2 a0.e2 && (feq y6.e3 a0.e3 && (feq y6.e4 a0.e4 && (feq y6.e5 a0.e5 && (feq y6.e6 a0.e6 && (feq y6.e7 a0.e7 && (feq y6.e8 a0.e8 && true))))))))) ((p_MatMul a0 y3).bind fun y9 => ((cond (feq y9.e0 a0.e0 && (feq y9.e1 a0.e1 && (feq y9.e2 a0.e2 && (feq y9.e3 a0.e3 && (feq y9.e4 a0.e4 && (feq y9.e5 a0.e5 && (feq y9.e6 a0.e6 && (feq y9.e7 a0.e7 && (feq y9.e8 a0.e8 && true))))))))) ((p_MatVec y3 a1).bind fun y12 => (some (feq y12.X a1.X && (feq y12.Y a1.Y && (feq y12.Z a1.Z && true))))) (some false)))) (some false)))) (some false)))))
/-- pub-orthodrome/laws.FnMatEye -/
def p_FnMatEye (F : Nat) (a0 : TImpl_Mat) (a1 : TImpl_P3) : Option Bool := (p_entries F [a0]).bind fun y14 => ((cond (!y14) ((p_FnMatEye_k1 a0 a1) true) ((p_small3 F [a1]).bind fun y17 => ((p_FnMatEye_k1 a0 a1) (!y17)))))

end Go.Proofs.YtiiibhcihbfmeaaDoor.Wk
