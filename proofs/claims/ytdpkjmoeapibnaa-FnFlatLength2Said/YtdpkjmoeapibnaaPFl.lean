/- Printed: what functions of the program compute, as functions of Lean. No condition is laid on their arguments. -/
import Derived.Test.YtdpkjmoeapibnaaPureKit
namespace Go.Proofs.Ytdpkjmoeapibnaa.Wk
open Go.Vm
set_option linter.unusedVariables false
abbrev keS0 (x : Nat) : D := dfl x
abbrev eS0 (l : List Nat) : D := .ds 1 (l.map keS0)
abbrev keS1 (x : Int) : D := di .i64 x
abbrev eS1 (l : List Int) : D := .ds 1 (l.map keS1)
structure TImpl_Geom where
  mk ::
  (Kind : Int)
  (Layout : Int)
  (SRID : Int)
  (Flat : (List Nat))
  (Ends : (List Int))
  (Endss : (List (List Int)))
  (Kids : (List TImpl_Geom))
abbrev keS3 (x : (List Int)) : D := eS1 x
abbrev eS3 (l : List (List Int)) : D := .ds 1 (l.map keS3)
mutual
def c0_TImpl_Geom : TImpl_Geom → List D
  | .mk x0 x1 x2 x3 x4 x5 x6 => [di .i64 x0, di .i64 x1, di .i64 x2, eS0 x3, eS1 x4, eS3 x5, .ds 7 (cs_TImpl_Geom x6)]
def cs_TImpl_Geom : List TImpl_Geom → List D
  | [] => []
  | g :: r => c0_TImpl_Geom g ++ cs_TImpl_Geom r
end
theorem cs_TImpl_Geom_eq : ∀ l : List TImpl_Geom, cs_TImpl_Geom l = l.flatMap c0_TImpl_Geom
  | [] => by simp [cs_TImpl_Geom]
  | g :: r => by simp [cs_TImpl_Geom, cs_TImpl_Geom_eq r]
abbrev eS2 (l : List TImpl_Geom) : D := .ds 7 (l.flatMap c0_TImpl_Geom)
abbrev c_TImpl_Geom (x : TImpl_Geom) : List D := [di .i64 x.Kind, di .i64 x.Layout, di .i64 x.SRID, eS0 x.Flat, eS1 x.Ends, eS3 x.Endss, eS2 x.Kids]
abbrev e_TImpl_Geom (x : TImpl_Geom) : D := .ag (c_TImpl_Geom x)
theorem c0_TImpl_Geom_eq (x : TImpl_Geom) : c0_TImpl_Geom x = c_TImpl_Geom x := by cases x; simp only [c0_TImpl_Geom, cs_TImpl_Geom_eq]
theorem c0_TImpl_Geom_len (x : TImpl_Geom) : (c0_TImpl_Geom x).length = 7 := by rw [c0_TImpl_Geom_eq]; rfl
theorem c0_TImpl_Geom_one (x : TImpl_Geom) : (c0_TImpl_Geom x).all D.one = true := by rw [c0_TImpl_Geom_eq]; rfl
abbrev keS4 (x : (List Nat)) : D := eS0 x
abbrev eS4 (l : List (List Nat)) : D := .ds 1 (l.map keS4)
/-- pub-orthodrome/laws.fStride -/
def p_fStride (a0 : Int) : Option Bool := (cond (decide ((2 : Int) ≤ a0)) (some (decide (a0 ≤ (9 : Int)))) (some false))

/-- pub-orthodrome/laws.fLayout -/
def p_fLayout (a0 : Int) : Option Int := (cond (decide (a0 = (2 : Int))) (some (1 : Int)) (cond (decide (a0 = (3 : Int))) (some (2 : Int)) (some a0)))

def p_Weight_k2  (g8 : Int) : Option Int := some g8
def p_Weight_l3 (a0 : TImpl_Geom) (a1 : Int) (Rec_ : TImpl_Geom → Int → Option Int) (K10 : (Int × Int) → Option (Sum Int Int)) (g9 : (Int × Int)) : Option (Sum Int Int) := (cond (decide (g9.2 < ((a0.Kids.length : Nat) : Int))) ((idx a0.Kids g9.2).bind fun x13 => ((cond (decide (a1 < g9.1)) (some (Sum.inr g9.1)) (need (inI .i64 (a1 - g9.1)) ((Rec_ x13 (a1 - g9.1)).bind fun y17 => (need (inI .i64 (g9.1 + y17)) (need (inI .i64 (g9.2 + (1 : Int))) (K10 ((g9.1 + y17), (g9.2 + (1 : Int))))))))))) (some (Sum.inl g9.1)))
def p_Weight_k1 (a0 : TImpl_Geom) (a1 : Int) (F : Nat) (Rec_ : TImpl_Geom → Int → Option Int) (g5 : Int) : Option Int := (iter (p_Weight_l3 a0 a1 Rec_) F (g5, (0 : Int))).bind fun o => aft o some p_Weight_k2
def p_Weight_l4 (a0 : TImpl_Geom) (K22 : (Int × Int) → Option (Sum Int Int)) (g21 : (Int × Int)) : Option (Sum Int Int) := (cond (decide (g21.2 < ((a0.Endss.length : Nat) : Int))) ((idx a0.Endss g21.2).bind fun x25 => (need (inI .i64 ((1 : Int) + ((x25.length : Nat) : Int))) (need (inI .i64 (g21.1 + ((1 : Int) + ((x25.length : Nat) : Int)))) (need (inI .i64 (g21.2 + (1 : Int))) (K22 ((g21.1 + ((1 : Int) + ((x25.length : Nat) : Int))), (g21.2 + (1 : Int)))))))) (some (Sum.inl g21.1)))
/-- pub-orthodrome/spec.Weight -/
def p_Weight_b (Rec_ : TImpl_Geom → Int → Option Int) (F : Nat) (a0 : TImpl_Geom) (a1 : Int) : Option Int := need (inI .i64 ((1 : Int) + ((a0.Flat.length : Nat) : Int))) (need (inI .i64 (((1 : Int) + ((a0.Flat.length : Nat) : Int)) + ((a0.Ends.length : Nat) : Int))) ((iter (p_Weight_l4 a0) F ((((1 : Int) + ((a0.Flat.length : Nat) : Int)) + ((a0.Ends.length : Nat) : Int)), (0 : Int))).bind fun o => aft o some (p_Weight_k1 a0 a1 F Rec_)))
def p_Weight : Nat → TImpl_Geom → Int → Option Int
  | 0, _, _ => none
  | F + 1, a0, a1 => p_Weight_b (fun a0 a1 => p_Weight F a0 a1) F a0 a1

def p_gLayouts_k1 (a0 : TImpl_Geom) (a1 : Int) (g3 : Unit) : Option Bool := (cond (decide (a0.Layout ≤ a1)) (cond (decide ((1 : Int) ≤ a0.Layout)) (some true) (cond (decide (a0.Kind = (7 : Int))) (some (decide ((0 : Int) ≤ a0.Layout))) (some false))) (some false))
def p_gLayouts_l2 (a0 : TImpl_Geom) (a1 : Int) (Rec_ : TImpl_Geom → Int → Option Bool) (K8 : Int → Option (Sum Unit Bool)) (g7 : Int) : Option (Sum Unit Bool) := (cond (decide (g7 < ((a0.Kids.length : Nat) : Int))) ((idx a0.Kids g7).bind fun x11 => ((Rec_ x11 a1).bind fun y13 => ((cond (!y13) (some (Sum.inr false)) (need (inI .i64 (g7 + (1 : Int))) (K8 (g7 + (1 : Int)))))))) (some (Sum.inl ())))
/-- pub-orthodrome/laws.gLayouts -/
def p_gLayouts_b (Rec_ : TImpl_Geom → Int → Option Bool) (F : Nat) (a0 : TImpl_Geom) (a1 : Int) : Option Bool := (iter (p_gLayouts_l2 a0 a1 Rec_) F (0 : Int)).bind fun o => aft o some (p_gLayouts_k1 a0 a1)
def p_gLayouts : Nat → TImpl_Geom → Int → Option Bool
  | 0, _, _ => none
  | F + 1, a0, a1 => p_gLayouts_b (fun a0 a1 => p_gLayouts F a0 a1) F a0 a1

def p_gSmall_k1  (g3 : Unit) : Option Bool := some true
def p_gSmall_l2 (a0 : (List TImpl_Geom)) (F : Nat) (K5 : (Int × Int) → Option (Sum Unit Bool)) (g4 : (Int × Int)) : Option (Sum Unit Bool) := (cond (decide (g4.2 < ((a0.length : Nat) : Int))) ((idx a0 g4.2).bind fun x8 => ((p_Weight F x8 g4.1).bind fun y10 => (need (inI .i64 (g4.1 - y10)) ((cond (decide ((g4.1 - y10) < (0 : Int))) (some (Sum.inr false)) ((p_gLayouts F x8 (9 : Int)).bind fun y14 => ((cond (!y14) (some (Sum.inr false)) (need (inI .i64 (g4.2 + (1 : Int))) (K5 ((g4.1 - y10), (g4.2 + (1 : Int))))))))))))) (some (Sum.inl ())))
/-- pub-orthodrome/laws.gSmall -/
def p_gSmall (F : Nat) (a0 : (List TImpl_Geom)) : Option Bool := (iter (p_gSmall_l2 a0 F) F ((2000 : Int), (0 : Int))).bind fun o => aft o some p_gSmall_k1

/-- pub-orthodrome/spec.Stride -/
def p_Stride (a0 : Int) : Option Int := (cond (decide (a0 < (1 : Int))) (some (0 : Int)) (cond (decide (a0 = (1 : Int))) (some (2 : Int)) (cond (decide (a0 = (2 : Int))) (some (3 : Int)) (cond (decide (a0 = (3 : Int))) (some (3 : Int)) (some a0)))))

/-- pub-orthodrome/spec.Cover -/
def p_Cover (a0 : Int) (a1 : Int) : Option Int := (cond (decide (a0 = (2 : Int))) (cond (decide (a1 = (3 : Int))) (some (4 : Int)) (cond (decide (a0 = (3 : Int))) (cond (decide (a1 = (2 : Int))) (some (4 : Int)) (some (if a0 < a1 then a1 else a0))) (some (if a0 < a1 then a1 else a0)))) (cond (decide (a0 = (3 : Int))) (cond (decide (a1 = (2 : Int))) (some (4 : Int)) (some (if a0 < a1 then a1 else a0))) (some (if a0 < a1 then a1 else a0))))

def p_LayoutOf_k2  (g5 : Int) : Option Int := some g5
def p_LayoutOf_l3 (a0 : TImpl_Geom) (Rec_ : TImpl_Geom → Option Int) (K7 : (Int × Int) → Option (Sum Int Int)) (g6 : (Int × Int)) : Option (Sum Int Int) := (cond (decide (g6.2 < ((a0.Kids.length : Nat) : Int))) ((idx a0.Kids g6.2).bind fun x10 => ((Rec_ x10).bind fun y12 => ((p_Cover g6.1 y12).bind fun y14 => (need (inI .i64 (g6.2 + (1 : Int))) (K7 (y14, (g6.2 + (1 : Int)))))))) (some (Sum.inl g6.1)))
def p_LayoutOf_k1 (a0 : TImpl_Geom) (F : Nat) (Rec_ : TImpl_Geom → Option Int) (g1 : Bool) : Option Int := (cond g1 (some a0.Layout) ((iter (p_LayoutOf_l3 a0 Rec_) F (a0.Layout, (0 : Int))).bind fun o => aft o some p_LayoutOf_k2))
/-- pub-orthodrome/spec.LayoutOf -/
def p_LayoutOf_b (Rec_ : TImpl_Geom → Option Int) (F : Nat) (a0 : TImpl_Geom) : Option Int := (cond (!decide (a0.Kind = (7 : Int))) ((p_LayoutOf_k1 a0 F Rec_) true) ((p_LayoutOf_k1 a0 F Rec_) (!decide (a0.Layout = (0 : Int)))))
def p_LayoutOf : Nat → TImpl_Geom → Option Int
  | 0, _ => none
  | F + 1, a0 => p_LayoutOf_b (fun a0 => p_LayoutOf F a0) F a0

def p_goodEnds_k1  (g3 : Int) : Option (Int × Bool) := some (g3, true)
def p_goodEnds_k3 (g4 : (Int × Int)) (K5 : (Int × Int) → Option (Sum Int (Int × Bool))) (x8 : Int) (g10 : Bool) : Option (Sum Int (Int × Bool)) := (cond g10 (some (Sum.inr (g4.1, false))) (need (inI .i64 (g4.2 + (1 : Int))) (K5 (x8, (g4.2 + (1 : Int))))))
def p_goodEnds_l2 (a0 : (List Int)) (a2 : Int) (a3 : Bool) (K5 : (Int × Int) → Option (Sum Int (Int × Bool))) (g4 : (Int × Int)) : Option (Sum Int (Int × Bool)) := (cond (decide (g4.2 < ((a0.length : Nat) : Int))) ((idx a0 g4.2).bind fun x8 => ((cond (decide (x8 < g4.1)) ((p_goodEnds_k3 g4 K5 x8) true) (need (inI .i64 (x8 - g4.1)) (need (a2 ≠ 0) ((cond (!decide ((Int.tmod (x8 - g4.1) a2) = (0 : Int))) ((p_goodEnds_k3 g4 K5 x8) true) (cond a3 (need (inI .i64 (x8 - g4.1)) ((p_goodEnds_k3 g4 K5 x8) (decide (a2 < (x8 - g4.1))))) ((p_goodEnds_k3 g4 K5 x8) false))))))))) (some (Sum.inl g4.1)))
/-- pub-orthodrome/spec.goodEnds -/
def p_goodEnds (F : Nat) (a0 : (List Int)) (a1 : Int) (a2 : Int) (a3 : Bool) : Option (Int × Bool) := (iter (p_goodEnds_l2 a0 a2 a3) F (a1, (0 : Int))).bind fun o => aft o some p_goodEnds_k1

def p_Good_k2  (g7 : Bool) : Option Bool := some g7
def p_Good_k1 (a0 : TImpl_Geom) (g6 : Unit) : Option Bool := (cond (decide ((0 : Int) ≤ a0.Layout)) (need (inI .i64 (((a0.Flat.length : Nat) : Int) + ((a0.Ends.length : Nat) : Int))) (need (inI .i64 ((((a0.Flat.length : Nat) : Int) + ((a0.Ends.length : Nat) : Int)) + ((a0.Endss.length : Nat) : Int))) (p_Good_k2 (decide (((((a0.Flat.length : Nat) : Int) + ((a0.Ends.length : Nat) : Int)) + ((a0.Endss.length : Nat) : Int)) = (0 : Int)))))) (p_Good_k2 false))
def p_Good_l3 (a0 : TImpl_Geom) (F : Nat) (Rec_ : TImpl_Geom → Option Bool) (K12 : Int → Option (Sum Unit Bool)) (g11 : Int) : Option (Sum Unit Bool) := (cond (decide (g11 < ((a0.Kids.length : Nat) : Int))) ((idx a0.Kids g11).bind fun x15 => ((Rec_ x15).bind fun y17 => ((cond (!y17) (some (Sum.inr false)) (cond (!decide (a0.Layout = (0 : Int))) ((p_LayoutOf F x15).bind fun y21 => ((cond (!decide (y21 = a0.Layout)) (some (Sum.inr false)) (need (inI .i64 (g11 + (1 : Int))) (K12 (g11 + (1 : Int))))))) (need (inI .i64 (g11 + (1 : Int))) (K12 (g11 + (1 : Int))))))))) (some (Sum.inl ())))
def p_Good_k7 (a0 : TImpl_Geom) (g39 : (Int × Bool)) : Option Bool := (cond g39.2 (cond (decide (g39.1 = ((a0.Flat.length : Nat) : Int))) (some (decide (((a0.Ends.length : Nat) : Int) = (0 : Int)))) (some false)) (some false))
def p_Good_l8 (a0 : TImpl_Geom) (F : Nat) (y1 : Int) (K43 : (Int × Bool × Int) → Option (Sum (Int × Bool) Bool)) (g42 : (Int × Bool × Int)) : Option (Sum (Int × Bool) Bool) := (cond (decide (g42.2.2 < ((a0.Endss.length : Nat) : Int))) ((idx a0.Endss g42.2.2).bind fun x46 => ((p_goodEnds F x46 g42.1 y1 false).bind fun y48 => ((cond g42.2.1 (need (inI .i64 (g42.2.2 + (1 : Int))) (K43 (y48.1, y48.2, (g42.2.2 + (1 : Int))))) (need (inI .i64 (g42.2.2 + (1 : Int))) (K43 (y48.1, false, (g42.2.2 + (1 : Int))))))))) (some (Sum.inl (g42.1, g42.2.1))))
def p_Good_k6 (a0 : TImpl_Geom) (F : Nat) (y1 : Int) (g31 : Bool) : Option Bool := (cond g31 ((p_goodEnds F a0.Ends (0 : Int) y1 (decide (a0.Kind = (4 : Int)))).bind fun y33 => ((cond y33.2 (some (decide (y33.1 = ((a0.Flat.length : Nat) : Int)))) (some false)))) (cond (decide (a0.Kind = (6 : Int))) ((iter (p_Good_l8 a0 F y1) F ((0 : Int), true, (0 : Int))).bind fun o => aft o some (p_Good_k7 a0)) (some false)))
def p_Good_k5 (a0 : TImpl_Geom) (F : Nat) (y1 : Int) (g29 : Bool) : Option Bool := (cond g29 (some (decide (((a0.Ends.length : Nat) : Int) = (0 : Int)))) (cond (decide (a0.Kind = (3 : Int))) ((p_Good_k6 a0 F y1) (decide (a0.Kind = (3 : Int)))) (cond (decide (a0.Kind = (4 : Int))) ((p_Good_k6 a0 F y1) (decide (a0.Kind = (4 : Int)))) ((p_Good_k6 a0 F y1) (decide (a0.Kind = (5 : Int)))))))
def p_Good_k4 (a0 : TImpl_Geom) (F : Nat) (y1 : Int) (g26 : Unit) : Option Bool := (cond (decide (a0.Kind = (1 : Int))) (cond (decide (((a0.Ends.length : Nat) : Int) = (0 : Int))) (some (decide (((a0.Flat.length : Nat) : Int) ≤ y1))) (some false)) (cond (decide (a0.Kind = (2 : Int))) ((p_Good_k5 a0 F y1) (decide (a0.Kind = (2 : Int)))) ((p_Good_k5 a0 F y1) (decide (a0.Kind = (8 : Int))))))
/-- pub-orthodrome/spec.Good -/
def p_Good_b (Rec_ : TImpl_Geom → Option Bool) (F : Nat) (a0 : TImpl_Geom) : Option Bool := (p_Stride a0.Layout).bind fun y1 => ((cond (decide (a0.Kind = (7 : Int))) ((iter (p_Good_l3 a0 F Rec_) F (0 : Int)).bind fun o => aft o some (p_Good_k1 a0)) (cond (decide (y1 = (0 : Int))) (some false) (need (y1 ≠ 0) ((cond (!decide ((Int.tmod ((a0.Flat.length : Nat) : Int) y1) = (0 : Int))) (some false) (cond (decide ((0 : Int) < ((a0.Kids.length : Nat) : Int))) (some false) (cond (decide ((0 : Int) < ((a0.Endss.length : Nat) : Int))) (cond (!decide (a0.Kind = (6 : Int))) (some false) ((p_Good_k4 a0 F y1) ())) ((p_Good_k4 a0 F y1) ())))))))))
def p_Good : Nat → TImpl_Geom → Option Bool
  | 0, _ => none
  | F + 1, a0 => p_Good_b (fun a0 => p_Good F a0) F a0

def p_gGood_k1  (g6 : Unit) : Option Bool := some true
def p_gGood_l2 (a0 : (List TImpl_Geom)) (F : Nat) (K8 : Int → Option (Sum Unit Bool)) (g7 : Int) : Option (Sum Unit Bool) := (cond (decide (g7 < ((a0.length : Nat) : Int))) ((idx a0 g7).bind fun x11 => ((p_Good F x11).bind fun y13 => ((cond (!y13) (some (Sum.inr false)) (need (inI .i64 (g7 + (1 : Int))) (K8 (g7 + (1 : Int)))))))) (some (Sum.inl ())))
/-- pub-orthodrome/laws.gGood -/
def p_gGood (F : Nat) (a0 : (List TImpl_Geom)) : Option Bool := (p_gSmall F a0).bind fun y1 => ((cond (!y1) (some false) ((iter (p_gGood_l2 a0 F) F (0 : Int)).bind fun o => aft o some p_gGood_k1)))

/-- pub-orthodrome/laws.fRows -/
def p_fRows (F : Nat) (a0 : (List Nat)) (a1 : (List Int)) (a2 : Int) : Option (TImpl_Geom × Bool) := (p_fStride a2).bind fun y1 => ((cond (!y1) (some ((TImpl_Geom.mk (0 : Int) (0 : Int) (0 : Int) [] [] [] []), false)) ((p_fLayout a2).bind fun y4 => ((p_gGood F [(TImpl_Geom.mk (3 : Int) y4 (0 : Int) a0 a1 [] [])]).bind fun y6 => (some ((TImpl_Geom.mk (3 : Int) y4 (0 : Int) a0 a1 [] []), y6))))))

/-- pub-orthodrome/laws.gWhole -/
def p_gWhole (a0 : Nat) : Option Bool := (cond (fge a0 (13920626448202203136 : Nat)) (cond (fle a0 (4697254411347427328 : Nat)) (some (feq a0 (Flt.truncN a0))) (some false)) (some false))

def p_gEach_k2  (g6 : Unit) : Option Bool := some true
def p_gEach_l3 (a0 : TImpl_Geom) (Rec_ : TImpl_Geom → Option Bool) (K8 : Int → Option (Sum Unit Bool)) (g7 : Int) : Option (Sum Unit Bool) := (cond (decide (g7 < ((a0.Kids.length : Nat) : Int))) ((idx a0.Kids g7).bind fun x11 => ((Rec_ x11).bind fun y13 => ((cond (!y13) (some (Sum.inr false)) (need (inI .i64 (g7 + (1 : Int))) (K8 (g7 + (1 : Int)))))))) (some (Sum.inl ())))
def p_gEach_k1 (a0 : TImpl_Geom) (F : Nat) (Rec_ : TImpl_Geom → Option Bool) (g3 : Unit) : Option Bool := (iter (p_gEach_l3 a0 Rec_) F (0 : Int)).bind fun o => aft o some p_gEach_k2
def p_gEach_l4 (a0 : TImpl_Geom) (K18 : Int → Option (Sum Unit Bool)) (g17 : Int) : Option (Sum Unit Bool) := (cond (decide (g17 < ((a0.Flat.length : Nat) : Int))) ((idx a0.Flat g17).bind fun x21 => ((p_gWhole x21).bind fun y23 => ((cond (!y23) (some (Sum.inr false)) (need (inI .i64 (g17 + (1 : Int))) (K18 (g17 + (1 : Int)))))))) (some (Sum.inl ())))
/-- pub-orthodrome/laws.gEach -/
def p_gEach_b (Rec_ : TImpl_Geom → Option Bool) (F : Nat) (a0 : TImpl_Geom) : Option Bool := (iter (p_gEach_l4 a0) F (0 : Int)).bind fun o => aft o some (p_gEach_k1 a0 F Rec_)
def p_gEach : Nat → TImpl_Geom → Option Bool
  | 0, _ => none
  | F + 1, a0 => p_gEach_b (fun a0 => p_gEach F a0) F a0

def p_NumParts_k1 (a0 : TImpl_Geom) (g1 : Bool) : Option Int := (cond g1 (some ((a0.Ends.length : Nat) : Int)) (cond (decide (a0.Kind = (6 : Int))) (some ((a0.Endss.length : Nat) : Int)) (some ((a0.Kids.length : Nat) : Int))))
/-- pub-orthodrome/spec.NumParts -/
def p_NumParts (a0 : TImpl_Geom) : Option Int := (cond (decide (a0.Kind = (3 : Int))) ((p_NumParts_k1 a0) (decide (a0.Kind = (3 : Int)))) (cond (decide (a0.Kind = (4 : Int))) ((p_NumParts_k1 a0) (decide (a0.Kind = (4 : Int)))) ((p_NumParts_k1 a0) (decide (a0.Kind = (5 : Int))))))

/-- pub-orthodrome/spec.KidOf -/
def p_KidOf (a0 : Int) : Option Int := (cond (decide ((4 : Int) ≤ a0)) (cond (decide (a0 ≤ (6 : Int))) (need (inI .i64 (a0 - (3 : Int))) (some (a0 - (3 : Int)))) (some (0 : Int))) (some (0 : Int)))

def p_Part_k2 (a0 : TImpl_Geom) (g8 : Int) (g13 : (Int × (List Int))) : Option TImpl_Geom := need ((0 ≤ g8 ∧ 0 ≤ g13.1) ∧ (g8).toNat ≤ (g13.1).toNat ∧ (g13.1).toNat ≤ a0.Flat.length) (need (0 + ((a0.Flat.drop (g8).toNat).take ((g13.1).toNat - (g8).toNat)).length ≤ 4294967296) (some (TImpl_Geom.mk (3 : Int) a0.Layout (0 : Int) ((a0.Flat.drop (g8).toNat).take ((g13.1).toNat - (g8).toNat)) g13.2 [] [])))
def p_Part_l3 (g8 : Int) (x9 : (List Int)) (K17 : (Int × Int × (List Int)) → Option (Sum (Int × (List Int)) TImpl_Geom)) (g16 : (Int × Int × (List Int))) : Option (Sum (Int × (List Int)) TImpl_Geom) := (cond (decide (g16.2.1 < ((x9.length : Nat) : Int))) ((idx x9 g16.2.1).bind fun x20 => (need (inI .i64 (x20 - g8)) (need (g16.2.2.length + [(x20 - g8)].length ≤ 4294967296) (need (inI .i64 (g16.2.1 + (1 : Int))) (K17 (x20, (g16.2.1 + (1 : Int)), (g16.2.2 ++ [(x20 - g8)]))))))) (some (Sum.inl (g16.1, g16.2.2))))
def p_Part_k1 (a0 : TImpl_Geom) (a1 : Int) (F : Nat) (g8 : Int) : Option TImpl_Geom := (idx a0.Endss a1).bind fun x9 => ((iter (p_Part_l3 g8 x9) F (g8, (0 : Int), [])).bind fun o => aft o some (p_Part_k2 a0 g8))
def p_Part_l4 (a0 : TImpl_Geom) (a1 : Int) (K26 : (Int × Int) → Option (Sum Int TImpl_Geom)) (g25 : (Int × Int)) : Option (Sum Int TImpl_Geom) := (cond (decide (g25.2 < ((((a0.Endss.drop 0).take ((a1).toNat - 0)).length : Nat) : Int))) ((idx ((a0.Endss.drop 0).take ((a1).toNat - 0)) g25.2).bind fun x29 => ((cond (decide ((0 : Int) < ((x29.length : Nat) : Int))) (need (inI .i64 (((x29.length : Nat) : Int) - (1 : Int))) ((idx x29 (((x29.length : Nat) : Int) - (1 : Int))).bind fun x33 => (need (inI .i64 (g25.2 + (1 : Int))) (K26 (x33, (g25.2 + (1 : Int))))))) (need (inI .i64 (g25.2 + (1 : Int))) (K26 (g25.1, (g25.2 + (1 : Int)))))))) (some (Sum.inl g25.1)))
def p_Part_k6 (a0 : TImpl_Geom) (a1 : Int) (g37 : Int) (g38 : Int) : Option TImpl_Geom := (idx a0.Ends a1).bind fun x39 => (need ((0 ≤ g37 ∧ 0 ≤ x39) ∧ (g37).toNat ≤ (x39).toNat ∧ (x39).toNat ≤ a0.Flat.length) (need (0 + ((a0.Flat.drop (g37).toNat).take ((x39).toNat - (g37).toNat)).length ≤ 4294967296) (some (TImpl_Geom.mk g38 a0.Layout (0 : Int) ((a0.Flat.drop (g37).toNat).take ((x39).toNat - (g37).toNat)) [] [] []))))
def p_Part_k5 (a0 : TImpl_Geom) (a1 : Int) (g37 : Int) : Option TImpl_Geom := (cond (!decide (a0.Kind = (3 : Int))) ((p_KidOf a0.Kind).bind fun y44 => ((p_Part_k6 a0 a1 g37) y44)) ((p_Part_k6 a0 a1 g37) (8 : Int)))
/-- pub-orthodrome/spec.Part -/
def p_Part (F : Nat) (a0 : TImpl_Geom) (a1 : Int) : Option TImpl_Geom := (cond (decide (a0.Kind = (7 : Int))) ((idx a0.Kids a1).bind fun x2 => (some x2)) (cond (decide (a0.Kind = (6 : Int))) (need ((True ∧ 0 ≤ a1) ∧ 0 ≤ (a1).toNat ∧ (a1).toNat ≤ a0.Endss.length) ((iter (p_Part_l4 a0 a1) F ((0 : Int), (0 : Int))).bind fun o => aft o some (p_Part_k1 a0 a1 F))) (cond (decide ((0 : Int) < a1)) (need (inI .i64 (a1 - (1 : Int))) ((idx a0.Ends (a1 - (1 : Int))).bind fun x48 => ((p_Part_k5 a0 a1) x48))) ((p_Part_k5 a0 a1) (0 : Int)))))

def p_Parts_k1  (g5 : (List TImpl_Geom)) : Option (List TImpl_Geom) := some g5
def p_Parts_l2 (a0 : TImpl_Geom) (F : Nat) (y1 : Int) (K7 : (Int × (List TImpl_Geom)) → Option (Sum (List TImpl_Geom) (List TImpl_Geom))) (g6 : (Int × (List TImpl_Geom))) : Option (Sum (List TImpl_Geom) (List TImpl_Geom)) := (cond (decide (g6.1 < y1)) ((p_Part F a0 g6.1).bind fun y10 => (need (g6.2.length + [y10].length ≤ 4294967296) (need (inI .i64 (g6.1 + (1 : Int))) (K7 ((g6.1 + (1 : Int)), (g6.2 ++ [y10])))))) (some (Sum.inl g6.2)))
/-- pub-orthodrome/spec.Parts -/
def p_Parts (F : Nat) (a0 : TImpl_Geom) : Option (List TImpl_Geom) := (p_NumParts a0).bind fun y1 => ((iter (p_Parts_l2 a0 F y1) F ((0 : Int), [])).bind fun o => aft o some p_Parts_k1)

def p_gLines_k3  (g9 : (List TImpl_Geom)) : Option (List TImpl_Geom) := some g9
def p_gLines_l4 (Rec_ : TImpl_Geom → Option (List TImpl_Geom)) (y5 : (List TImpl_Geom)) (K11 : (Int × (List TImpl_Geom)) → Option (Sum (List TImpl_Geom) (List TImpl_Geom))) (g10 : (Int × (List TImpl_Geom))) : Option (Sum (List TImpl_Geom) (List TImpl_Geom)) := (cond (decide (g10.1 < ((y5.length : Nat) : Int))) ((idx y5 g10.1).bind fun x14 => ((Rec_ x14).bind fun y16 => (need (g10.2.length + y16.length ≤ 4294967296) (need (inI .i64 (g10.1 + (1 : Int))) (K11 ((g10.1 + (1 : Int)), (g10.2 ++ y16))))))) (some (Sum.inl g10.2)))
def p_gLines_k2 (a0 : TImpl_Geom) (F : Nat) (Rec_ : TImpl_Geom → Option (List TImpl_Geom)) (g3 : Bool) : Option (List TImpl_Geom) := (cond g3 (some []) ((p_Parts F a0).bind fun y5 => ((iter (p_gLines_l4 Rec_ y5) F ((0 : Int), [])).bind fun o => aft o some p_gLines_k3)))
def p_gLines_k1 (a0 : TImpl_Geom) (F : Nat) (Rec_ : TImpl_Geom → Option (List TImpl_Geom)) (g1 : Bool) : Option (List TImpl_Geom) := (cond g1 (some [a0]) (cond (decide (a0.Kind = (1 : Int))) ((p_gLines_k2 a0 F Rec_) (decide (a0.Kind = (1 : Int)))) ((p_gLines_k2 a0 F Rec_) (decide (a0.Kind = (4 : Int))))))
/-- pub-orthodrome/laws.gLines -/
def p_gLines_b (Rec_ : TImpl_Geom → Option (List TImpl_Geom)) (F : Nat) (a0 : TImpl_Geom) : Option (List TImpl_Geom) := (cond (decide (a0.Kind = (2 : Int))) ((p_gLines_k1 a0 F Rec_) (decide (a0.Kind = (2 : Int)))) ((p_gLines_k1 a0 F Rec_) (decide (a0.Kind = (8 : Int)))))
def p_gLines : Nat → TImpl_Geom → Option (List TImpl_Geom)
  | 0, _ => none
  | F + 1, a0 => p_gLines_b (fun a0 => p_gLines F a0) F a0

def p_Rows_k1  (g3 : (List (List Nat))) : Option (List (List Nat)) := some g3
def p_Rows_k3 (a0 : (List Nat)) (a1 : Int) (g4 : (Int × (List (List Nat)))) (K5 : (Int × (List (List Nat))) → Option (Sum (List (List Nat)) (List (List Nat)))) (g7 : Bool) : Option (Sum (List (List Nat)) (List (List Nat))) := (cond g7 (need (inI .i64 (g4.1 + a1)) (need ((0 ≤ g4.1 ∧ 0 ≤ (g4.1 + a1)) ∧ (g4.1).toNat ≤ ((g4.1 + a1)).toNat ∧ ((g4.1 + a1)).toNat ≤ a0.length) (need (g4.2.length + [((a0.drop (g4.1).toNat).take (((g4.1 + a1)).toNat - (g4.1).toNat))].length ≤ 4294967296) (need (inI .i64 (g4.1 + a1)) (K5 ((g4.1 + a1), (g4.2 ++ [((a0.drop (g4.1).toNat).take (((g4.1 + a1)).toNat - (g4.1).toNat))]))))))) (some (Sum.inl g4.2)))
def p_Rows_l2 (a0 : (List Nat)) (a1 : Int) (K5 : (Int × (List (List Nat))) → Option (Sum (List (List Nat)) (List (List Nat)))) (g4 : (Int × (List (List Nat)))) : Option (Sum (List (List Nat)) (List (List Nat))) := need (inI .i64 (g4.1 + a1)) ((cond (decide ((g4.1 + a1) ≤ ((a0.length : Nat) : Int))) ((p_Rows_k3 a0 a1 g4 K5) (decide ((0 : Int) < a1))) ((p_Rows_k3 a0 a1 g4 K5) false)))
/-- pub-orthodrome/spec.Rows -/
def p_Rows (F : Nat) (a0 : (List Nat)) (a1 : Int) : Option (List (List Nat)) := (iter (p_Rows_l2 a0 a1) F ((0 : Int), [])).bind fun o => aft o some p_Rows_k1

def p_gAlong_k1  (g5 : Int) : Option (Int × Bool) := some (g5, true)
def p_gAlong_k3 (g6 : (Int × Int)) (K7 : (Int × Int) → Option (Sum Int (Int × Bool))) (g18 : Int) : Option (Sum Int (Int × Bool)) := need (inI .i64 (g6.2 + (1 : Int))) (K7 (g18, (g6.2 + (1 : Int))))
def p_gAlong_k5 (g20 : (Int × Int)) (K21 : (Int × Int) → Option (Sum Int (Int × Bool))) (z28 : Int) (z35 : Int) (z42 : Int) (z49 : Int) (g52 : Int) : Option (Sum Int (Int × Bool)) := need (inI .i64 (-(z28 - z35))) (need (inI .i64 (-(z42 - z49))) (need (inI .i64 ((if (z28 - z35) < (-(z28 - z35)) then (-(z28 - z35)) else (z28 - z35)) + (if (z42 - z49) < (-(z42 - z49)) then (-(z42 - z49)) else (z42 - z49)))) (need (inI .i64 (g52 + ((if (z28 - z35) < (-(z28 - z35)) then (-(z28 - z35)) else (z28 - z35)) + (if (z42 - z49) < (-(z42 - z49)) then (-(z42 - z49)) else (z42 - z49))))) (need (inI .i64 (g20.2 + (1 : Int))) (K21 ((g52 + ((if (z28 - z35) < (-(z28 - z35)) then (-(z28 - z35)) else (z28 - z35)) + (if (z42 - z49) < (-(z42 - z49)) then (-(z42 - z49)) else (z42 - z49)))), (g20.2 + (1 : Int))))))))
def p_gAlong_l4 (y14 : (List (List Nat))) (K21 : (Int × Int) → Option (Sum Int (Int × Bool))) (g20 : (Int × Int)) : Option (Sum Int (Int × Bool)) := (cond (decide (g20.2 < ((y14.length : Nat) : Int))) ((idx y14 g20.2).bind fun x24 => ((idx x24 (0 : Int)).bind fun x26 => ((floatToIntVal .f64 x26 .i64).bind fun z28 => (need (inI .i64 (g20.2 - (1 : Int))) ((idx y14 (g20.2 - (1 : Int))).bind fun x31 => ((idx x31 (0 : Int)).bind fun x33 => ((floatToIntVal .f64 x33 .i64).bind fun z35 => (need (inI .i64 (z28 - z35)) ((idx y14 g20.2).bind fun x38 => ((idx x38 (1 : Int)).bind fun x40 => ((floatToIntVal .f64 x40 .i64).bind fun z42 => (need (inI .i64 (g20.2 - (1 : Int))) ((idx y14 (g20.2 - (1 : Int))).bind fun x45 => ((idx x45 (1 : Int)).bind fun x47 => ((floatToIntVal .f64 x47 .i64).bind fun z49 => (need (inI .i64 (z42 - z49)) ((cond (!decide ((z28 - z35) = (0 : Int))) (cond (!decide ((z42 - z49) = (0 : Int))) (some (Sum.inr ((0 : Int), false))) ((p_gAlong_k5 g20 K21 z28 z35 z42 z49) g20.1)) ((p_gAlong_k5 g20 K21 z28 z35 z42 z49) g20.1))))))))))))))))))) (some (Sum.inl g20.1)))
def p_gAlong_l2 (F : Nat) (y1 : (List TImpl_Geom)) (K7 : (Int × Int) → Option (Sum Int (Int × Bool))) (g6 : (Int × Int)) : Option (Sum Int (Int × Bool)) := (cond (decide (g6.2 < ((y1.length : Nat) : Int))) ((idx y1 g6.2).bind fun x10 => ((p_Stride x10.Layout).bind fun y12 => ((p_Rows F x10.Flat y12).bind fun y14 => ((iter (p_gAlong_l4 y14) F (g6.1, (1 : Int))).bind fun o => aft o (fun r => some (Sum.inr r)) (p_gAlong_k3 g6 K7))))) (some (Sum.inl g6.1)))
/-- pub-orthodrome/laws.gAlong -/
def p_gAlong (F : Nat) (a0 : TImpl_Geom) : Option (Int × Bool) := (p_gLines F a0).bind fun y1 => ((iter (p_gAlong_l2 F y1) F ((0 : Int), (0 : Int))).bind fun o => aft o some p_gAlong_k1)

/-- math.Sqrt -/
def p_Sqrt (a0 : Nat) : Option Nat := (FloatKind.f64.format.sqrt a0).bind fun z1 => (some z1)

def p_length1_k1  (g4 : Nat) : Option Nat := some g4
def p_length1_l2 (a0 : (List Nat)) (a2 : Int) (a3 : Int) (K6 : (Nat × Int) → Option (Sum Nat Nat)) (g5 : (Nat × Int)) : Option (Sum Nat Nat) := (cond (decide (g5.2 < a2)) ((idx a0 g5.2).bind fun x9 => (need (inI .i64 (g5.2 - a3)) ((idx a0 (g5.2 - a3)).bind fun x12 => ((floatBits .sub .f64 x9 x12).bind fun z14 => (need (inI .i64 (g5.2 + (1 : Int))) ((idx a0 (g5.2 + (1 : Int))).bind fun x17 => (need (inI .i64 (g5.2 + (1 : Int))) (need (inI .i64 ((g5.2 + (1 : Int)) - a3)) ((idx a0 ((g5.2 + (1 : Int)) - a3)).bind fun x21 => ((floatBits .sub .f64 x17 x21).bind fun z23 => ((floatBits .mul .f64 z14 z14).bind fun z25 => ((floatBits .mul .f64 z23 z23).bind fun z27 => ((floatBits .add .f64 z25 z27).bind fun z29 => ((p_Sqrt z29).bind fun y31 => ((floatBits .add .f64 g5.1 y31).bind fun z33 => (need (inI .i64 (g5.2 + a3)) (K6 (z33, (g5.2 + a3))))))))))))))))))) (some (Sum.inl g5.1)))
/-- pub-orthodrome/pub/gogeom.length1 -/
def p_length1 (F : Nat) (a0 : (List Nat)) (a1 : Int) (a2 : Int) (a3 : Int) : Option Nat := need (inI .i64 (a1 + a3)) ((iter (p_length1_l2 a0 a2 a3) F ((0 : Nat), (a1 + a3))).bind fun o => aft o some p_length1_k1)

def p_length2_k1  (g3 : Nat) : Option Nat := some g3
def p_length2_l2 (a0 : (List Nat)) (a2 : (List Int)) (a3 : Int) (F : Nat) (K5 : (Int × Nat × Int) → Option (Sum Nat Nat)) (g4 : (Int × Nat × Int)) : Option (Sum Nat Nat) := (cond (decide (g4.2.2 < ((a2.length : Nat) : Int))) ((idx a2 g4.2.2).bind fun x8 => ((p_length1 F a0 g4.1 x8 a3).bind fun y10 => ((floatBits .add .f64 g4.2.1 y10).bind fun z12 => (need (inI .i64 (g4.2.2 + (1 : Int))) (K5 (x8, z12, (g4.2.2 + (1 : Int)))))))) (some (Sum.inl g4.2.1)))
/-- pub-orthodrome/pub/gogeom.length2 -/
def p_length2 (F : Nat) (a0 : (List Nat)) (a1 : Int) (a2 : (List Int)) (a3 : Int) : Option Nat := (iter (p_length2_l2 a0 a2 a3 F) F (a1, (0 : Nat), (0 : Int))).bind fun o => aft o some p_length2_k1

/-- pub-orthodrome/pub/gogeom.DoorLength2 -/
def p_DoorLength2 (F : Nat) (a0 : (List Nat)) (a1 : (List Int)) (a2 : Int) : Option Nat := (p_length2 F a0 (0 : Int) a1 a2).bind fun y1 => (some y1)

/-- pub-orthodrome/impl.FlatLength2 -/
def p_FlatLength2 (F : Nat) (a0 : (List Nat)) (a1 : (List Int)) (a2 : Int) : Option (Nat × Bool) := (p_DoorLength2 F a0 a1 a2).bind fun y1 => (some (y1, true))

def p_FnFlatLength2_k2 (a0 : (List Nat)) (a1 : (List Int)) (a2 : Int) (F : Nat) (y3 : (TImpl_Geom × Bool)) (g5 : Bool) : Option Bool := (cond g5 (some true) ((p_gAlong F y3.1).bind fun y7 => ((p_FlatLength2 F a0 a1 a2).bind fun y9 => ((cond (!y7.2) (some true) (cond y9.2 (some (feq y9.1 (ofInt y7.1))) (some false)))))))
def p_FnFlatLength2_k1 (a0 : (List Nat)) (a1 : (List Int)) (a2 : Int) (F : Nat) (g1 : Bool) : Option Bool := (cond g1 (some true) ((p_fRows F a0 a1 a2).bind fun y3 => ((cond (!y3.2) ((p_FnFlatLength2_k2 a0 a1 a2 F y3) true) ((p_gEach F y3.1).bind fun y14 => ((p_FnFlatLength2_k2 a0 a1 a2 F y3) (!y14)))))))
/-- pub-orthodrome/laws.FnFlatLength2 -/
def p_FnFlatLength2 (F : Nat) (a0 : (List Nat)) (a1 : (List Int)) (a2 : Int) : Option Bool := (cond (decide ((2147483647 : Int) < ((a0.length : Nat) : Int))) ((p_FnFlatLength2_k1 a0 a1 a2 F) true) ((p_FnFlatLength2_k1 a0 a1 a2 F) (decide ((2147483647 : Int) < ((a1.length : Nat) : Int)))))

end Go.Proofs.Ytdpkjmoeapibnaa.Wk
