/- Printed: what functions of the program compute, as functions of Lean. No condition is laid on their arguments. -/
import Derived.Test.YtiiibhcihbfmeaaDoorPureKit
namespace Go.Proofs.YtiiibhcihbfmeaaDoor.Wk
open Go.Vm
set_option linter.unusedVariables false
structure TImpl_Mat where
  mk ::
  (e0 : Nat)
  (e1 : Nat)
  (e2 : Nat)
  (e3 : Nat)
  (e4 : Nat)
  (e5 : Nat)
  (e6 : Nat)
  (e7 : Nat)
  (e8 : Nat)
abbrev c_TImpl_Mat (x : TImpl_Mat) : List D := [dfl x.e0, dfl x.e1, dfl x.e2, dfl x.e3, dfl x.e4, dfl x.e5, dfl x.e6, dfl x.e7, dfl x.e8]
abbrev e_TImpl_Mat (x : TImpl_Mat) : D := .ag (c_TImpl_Mat x)
abbrev eS0 (l : List TImpl_Mat) : D := .ds 9 (l.flatMap c_TImpl_Mat)
abbrev keS1 (x : Nat) : D := dfl x
abbrev eS1 (l : List Nat) : D := .ds 1 (l.map keS1)
abbrev keS2 (x : (List Nat)) : D := eS1 x
abbrev eS2 (l : List (List Nat)) : D := .ds 1 (l.map keS2)
structure TImpl_P3 where
  mk ::
  (X : Nat)
  (Y : Nat)
  (Z : Nat)
abbrev c_TImpl_P3 (x : TImpl_P3) : List D := [dfl x.X, dfl x.Y, dfl x.Z]
abbrev e_TImpl_P3 (x : TImpl_P3) : D := .ag (c_TImpl_P3 x)
structure TR3_Mat where
  mk ::
  (data : TImpl_Mat)
abbrev c_TR3_Mat (x : TR3_Mat) : List D := [.pt (c_TImpl_Mat x.data)]
abbrev e_TR3_Mat (x : TR3_Mat) : D := .ag (c_TR3_Mat x)
def p_Grid_k1 (a1 : Int) (g3 : Unit) : Option Bool := some (decide ((0 : Int) < a1))
def p_Grid_k3 (g4 : Int) (K5 : Int → Option (Sum Unit Bool)) (g13 : Unit) : Option (Sum Unit Bool) := need (inI .i64 (g4 + (1 : Int))) (K5 (g4 + (1 : Int)))
def p_Grid_l4 (a2 : Nat) (x8 : (List Nat)) (K16 : Int → Option (Sum Unit Bool)) (g15 : Int) : Option (Sum Unit Bool) := (cond (decide (g15 < ((x8.length : Nat) : Int))) ((idx x8 g15).bind fun x19 => ((cond (fge x19 (fneg a2)) (cond (!(fle x19 a2)) (some (Sum.inr false)) (cond (!feq x19 (Flt.truncN x19)) (some (Sum.inr false)) (need (inI .i64 (g15 + (1 : Int))) (K16 (g15 + (1 : Int)))))) (some (Sum.inr false))))) (some (Sum.inl ())))
def p_Grid_l2 (a0 : (List (List Nat))) (a1 : Int) (a2 : Nat) (F : Nat) (K5 : Int → Option (Sum Unit Bool)) (g4 : Int) : Option (Sum Unit Bool) := (cond (decide (g4 < ((a0.length : Nat) : Int))) ((idx a0 g4).bind fun x8 => ((cond (!decide (((x8.length : Nat) : Int) = a1)) (some (Sum.inr false)) ((iter (p_Grid_l4 a2 x8) F (0 : Int)).bind fun o => aft o (fun r => some (Sum.inr r)) (p_Grid_k3 g4 K5))))) (some (Sum.inl ())))
/-- pub-orthodrome/spec.Grid -/
def p_Grid (F : Nat) (a0 : (List (List Nat))) (a1 : Int) (a2 : Nat) : Option Bool := (iter (p_Grid_l2 a0 a1 a2 F) F (0 : Int)).bind fun o => aft o some (p_Grid_k1 a1)

def p_entries_k1  (g3 : Unit) : Option Bool := some true
def p_entries_l2 (a0 : (List TImpl_Mat)) (F : Nat) (K5 : Int → Option (Sum Unit Bool)) (g4 : Int) : Option (Sum Unit Bool) := (cond (decide (g4 < ((a0.length : Nat) : Int))) ((idx a0 g4).bind fun x8 => (need ((9) = [x8.e0, x8.e1, x8.e2, x8.e3, x8.e4, x8.e5, x8.e6, x8.e7, x8.e8].length) ((p_Grid F [[x8.e0, x8.e1, x8.e2, x8.e3, x8.e4, x8.e5, x8.e6, x8.e7, x8.e8]] (9 : Int) (4652218415073722368 : Nat)).bind fun y11 => ((cond (!y11) (some (Sum.inr false)) (need (inI .i64 (g4 + (1 : Int))) (K5 (g4 + (1 : Int))))))))) (some (Sum.inl ())))
/-- pub-orthodrome/laws.entries -/
def p_entries (F : Nat) (a0 : (List TImpl_Mat)) : Option Bool := (iter (p_entries_l2 a0 F) F (0 : Int)).bind fun o => aft o some p_entries_k1

/-- pub-orthodrome/impl.mat -/
def p_mat (a0 : TImpl_Mat) : Option TR3_Mat := need ((9) = [a0.e0, a0.e1, a0.e2, a0.e3, a0.e4, a0.e5, a0.e6, a0.e7, a0.e8].length) (need ([a0.e0, a0.e1, a0.e2, a0.e3, a0.e4, a0.e5, a0.e6, a0.e7, a0.e8].length ≤ 4294967296) (some (TR3_Mat.mk a0)))

/-- (*pub-orthodrome/pub/gonum/spatial/r3.Mat).At -/
def p_Mat_At (a0 : TR3_Mat) (a1 : Int) (a2 : Int) : Option Nat := (cond (decide ((2 : Int) < (IntKind.u64.wrap a1))) none (cond (decide ((2 : Int) < (IntKind.u64.wrap a2))) none (need (inI .i64 (a1 * (3 : Int))) (need (inI .i64 ((a1 * (3 : Int)) + a2)) ((idx [a0.data.e0, a0.data.e1, a0.data.e2, a0.data.e3, a0.data.e4, a0.data.e5, a0.data.e6, a0.data.e7, a0.data.e8] ((a1 * (3 : Int)) + a2)).bind fun x5 => (some x5))))))

/-- (*pub-orthodrome/pub/gonum/spatial/r3.Mat).VecRow -/
def p_Mat_VecRow (a0 : TR3_Mat) (a1 : Int) : Option TImpl_P3 := (cond (decide ((2 : Int) < a1)) none ((p_Mat_At a0 a1 (0 : Int)).bind fun y2 => ((p_Mat_At a0 a1 (1 : Int)).bind fun y4 => ((p_Mat_At a0 a1 (2 : Int)).bind fun y6 => (some (TImpl_P3.mk y2 y4 y6))))))

/-- pub-orthodrome/impl.plainP3 -/
def p_plainP3 (a0 : TImpl_P3) : Option TImpl_P3 := some a0

/-- pub-orthodrome/impl.MatRow -/
def p_MatRow_in (a0 : TImpl_Mat) (a1 : Int) : Option (TImpl_P3 × Bool) := (p_mat a0).bind fun y1 => ((p_Mat_VecRow y1 a1).bind fun y3 => ((p_plainP3 y3).bind fun y5 => (some (y5, true))))

/-- (*pub-orthodrome/pub/gonum/spatial/r3.Mat).At: does it panic? -/
def pp_Mat_At (a0 : TR3_Mat) (a1 : Int) (a2 : Int) : Option Unit := (cond (decide ((2 : Int) < (IntKind.u64.wrap a1))) (some ()) (cond (decide ((2 : Int) < (IntKind.u64.wrap a2))) (some ()) (need (inI .i64 (a1 * (3 : Int))) (need (inI .i64 ((a1 * (3 : Int)) + a2)) ((idx [a0.data.e0, a0.data.e1, a0.data.e2, a0.data.e3, a0.data.e4, a0.data.e5, a0.data.e6, a0.data.e7, a0.data.e8] ((a1 * (3 : Int)) + a2)).bind fun x5 => (none))))))

/-- (*pub-orthodrome/pub/gonum/spatial/r3.Mat).VecRow: does it panic? -/
def pp_Mat_VecRow (a0 : TR3_Mat) (a1 : Int) : Option Unit := (cond (decide ((2 : Int) < a1)) (some ()) (pp_Mat_At a0 a1 (0 : Int)))

/-- pub-orthodrome/impl.MatRow: does it panic? -/
def pp_MatRow (a0 : TImpl_Mat) (a1 : Int) : Option Unit := (p_mat a0).bind fun y1 => ((pp_Mat_VecRow y1 a1))
def p_MatRow (a0 : TImpl_Mat) (a1 : Int) : Option (TImpl_P3 × Bool) := cond (pp_MatRow a0 a1).isSome (some ((TImpl_P3.mk (0 : Nat) (0 : Nat) (0 : Nat)), false)) (p_MatRow_in a0 a1)

/-- (*pub-orthodrome/pub/gonum/spatial/r3.Mat).VecCol -/
def p_Mat_VecCol (a0 : TR3_Mat) (a1 : Int) : Option TImpl_P3 := (cond (decide ((2 : Int) < a1)) none ((p_Mat_At a0 (0 : Int) a1).bind fun y2 => ((p_Mat_At a0 (1 : Int) a1).bind fun y4 => ((p_Mat_At a0 (2 : Int) a1).bind fun y6 => (some (TImpl_P3.mk y2 y4 y6))))))

/-- pub-orthodrome/impl.MatCol -/
def p_MatCol_in (a0 : TImpl_Mat) (a1 : Int) : Option (TImpl_P3 × Bool) := (p_mat a0).bind fun y1 => ((p_Mat_VecCol y1 a1).bind fun y3 => ((p_plainP3 y3).bind fun y5 => (some (y5, true))))

/-- (*pub-orthodrome/pub/gonum/spatial/r3.Mat).VecCol: does it panic? -/
def pp_Mat_VecCol (a0 : TR3_Mat) (a1 : Int) : Option Unit := (cond (decide ((2 : Int) < a1)) (some ()) (pp_Mat_At a0 (0 : Int) a1))

/-- pub-orthodrome/impl.MatCol: does it panic? -/
def pp_MatCol (a0 : TImpl_Mat) (a1 : Int) : Option Unit := (p_mat a0).bind fun y1 => ((pp_Mat_VecCol y1 a1))
def p_MatCol (a0 : TImpl_Mat) (a1 : Int) : Option (TImpl_P3 × Bool) := cond (pp_MatCol a0 a1).isSome (some ((TImpl_P3.mk (0 : Nat) (0 : Nat) (0 : Nat)), false)) (p_MatCol_in a0 a1)

def p_FnMatLines_k2  (g10 : Bool) : Option Bool := some g10
def p_FnMatLines_k1 (a0 : TImpl_Mat) (a1 : Int) (y4 : (TImpl_P3 × Bool)) (y6 : (TImpl_P3 × Bool)) (g8 : Bool) : Option Bool := (cond g8 (cond (!y4.2) (p_FnMatLines_k2 (!y6.2)) (p_FnMatLines_k2 false)) (cond y4.2 (cond y6.2 (need (inI .i64 ((3 : Int) * a1)) (need (0 ≤ ((3 : Int) * a1) ∧ ((3 : Int) * a1) < 9) ((idx [a0.e0, a0.e1, a0.e2, a0.e3, a0.e4, a0.e5, a0.e6, a0.e7, a0.e8] ((3 : Int) * a1)).bind fun x16 => (need (inI .i64 ((3 : Int) * a1)) (need (inI .i64 (((3 : Int) * a1) + (1 : Int))) (need (0 ≤ (((3 : Int) * a1) + (1 : Int)) ∧ (((3 : Int) * a1) + (1 : Int)) < 9) ((idx [a0.e0, a0.e1, a0.e2, a0.e3, a0.e4, a0.e5, a0.e6, a0.e7, a0.e8] (((3 : Int) * a1) + (1 : Int))).bind fun x21 => (need (inI .i64 ((3 : Int) * a1)) (need (inI .i64 (((3 : Int) * a1) + (2 : Int))) (need (0 ≤ (((3 : Int) * a1) + (2 : Int)) ∧ (((3 : Int) * a1) + (2 : Int)) < 9) ((idx [a0.e0, a0.e1, a0.e2, a0.e3, a0.e4, a0.e5, a0.e6, a0.e7, a0.e8] (((3 : Int) * a1) + (2 : Int))).bind fun x26 => ((cond (feq y4.1.X x16 && (feq y4.1.Y x21 && (feq y4.1.Z x26 && true))) (need (0 ≤ a1 ∧ a1 < 9) ((idx [a0.e0, a0.e1, a0.e2, a0.e3, a0.e4, a0.e5, a0.e6, a0.e7, a0.e8] a1).bind fun x30 => (need (inI .i64 ((3 : Int) + a1)) (need (0 ≤ ((3 : Int) + a1) ∧ ((3 : Int) + a1) < 9) ((idx [a0.e0, a0.e1, a0.e2, a0.e3, a0.e4, a0.e5, a0.e6, a0.e7, a0.e8] ((3 : Int) + a1)).bind fun x34 => (need (inI .i64 ((6 : Int) + a1)) (need (0 ≤ ((6 : Int) + a1) ∧ ((6 : Int) + a1) < 9) ((idx [a0.e0, a0.e1, a0.e2, a0.e3, a0.e4, a0.e5, a0.e6, a0.e7, a0.e8] ((6 : Int) + a1)).bind fun x38 => (some (feq y6.1.X x30 && (feq y6.1.Y x34 && (feq y6.1.Z x38 && true)))))))))))) (some false)))))))))))))) (some false)) (some false)))
/-- pub-orthodrome/laws.FnMatLines -/
def p_FnMatLines (F : Nat) (a0 : TImpl_Mat) (a1 : Int) : Option Bool := (p_entries F [a0]).bind fun y1 => ((cond (!y1) (some true) ((p_MatRow a0 a1).bind fun y4 => ((p_MatCol a0 a1).bind fun y6 => ((cond (decide (a1 < (0 : Int))) ((p_FnMatLines_k1 a0 a1 y4 y6) true) ((p_FnMatLines_k1 a0 a1 y4 y6) (decide ((2 : Int) < a1)))))))))

end Go.Proofs.YtiiibhcihbfmeaaDoor.Wk
