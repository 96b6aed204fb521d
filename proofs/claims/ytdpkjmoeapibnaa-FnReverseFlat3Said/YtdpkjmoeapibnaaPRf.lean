/- Printed: what functions of the program compute, as functions of Lean. No condition is laid on their arguments. -/
import Derived.Test.YtdpkjmoeapibnaaPureKit
namespace Go.Proofs.Ytdpkjmoeapibnaa.Wk
open Go.Vm
set_option linter.unusedVariables false
abbrev keS0 (x : Nat) : D := dfl x
abbrev eS0 (l : List Nat) : D := .ds 1 (l.map keS0)
abbrev keS2 (x : Int) : D := di .i64 x
abbrev eS2 (l : List Int) : D := .ds 1 (l.map keS2)
abbrev keS1 (x : (List Int)) : D := eS2 x
abbrev eS1 (l : List (List Int)) : D := .ds 1 (l.map keS1)
structure TImpl_Geom where
  mk ::
  (Kind : Int)
  (Layout : Int)
  (SRID : Int)
  (Flat : (List Nat))
  (Ends : (List Int))
  (Endss : (List (List Int)))
  (Kids : (List TImpl_Geom))
mutual
def c0_TImpl_Geom : TImpl_Geom → List D
  | .mk x0 x1 x2 x3 x4 x5 x6 => [di .i64 x0, di .i64 x1, di .i64 x2, eS0 x3, eS2 x4, eS1 x5, .ds 7 (cs_TImpl_Geom x6)]
def cs_TImpl_Geom : List TImpl_Geom → List D
  | [] => []
  | g :: r => c0_TImpl_Geom g ++ cs_TImpl_Geom r
end
theorem cs_TImpl_Geom_eq : ∀ l : List TImpl_Geom, cs_TImpl_Geom l = l.flatMap c0_TImpl_Geom
  | [] => by simp [cs_TImpl_Geom]
  | g :: r => by simp [cs_TImpl_Geom, cs_TImpl_Geom_eq r]
abbrev eS3 (l : List TImpl_Geom) : D := .ds 7 (l.flatMap c0_TImpl_Geom)
abbrev c_TImpl_Geom (x : TImpl_Geom) : List D := [di .i64 x.Kind, di .i64 x.Layout, di .i64 x.SRID, eS0 x.Flat, eS2 x.Ends, eS1 x.Endss, eS3 x.Kids]
abbrev e_TImpl_Geom (x : TImpl_Geom) : D := .ag (c_TImpl_Geom x)
theorem c0_TImpl_Geom_eq (x : TImpl_Geom) : c0_TImpl_Geom x = c_TImpl_Geom x := by cases x; simp only [c0_TImpl_Geom, cs_TImpl_Geom_eq]
theorem c0_TImpl_Geom_len (x : TImpl_Geom) : (c0_TImpl_Geom x).length = 7 := by rw [c0_TImpl_Geom_eq]; rfl
theorem c0_TImpl_Geom_one (x : TImpl_Geom) : (c0_TImpl_Geom x).all D.one = true := by rw [c0_TImpl_Geom_eq]; rfl
def p_zzFits3_k1  (g4 : Unit) : Option Bool := some true
def p_zzFits3_l2 (a0 : (List (List Int))) (K6 : Int → Option (Sum Unit Bool)) (g5 : Int) : Option (Sum Unit Bool) := (cond (decide (g5 < ((a0.length : Nat) : Int))) ((idx a0 g5).bind fun x9 => ((cond (decide ((2147483647 : Int) < ((x9.length : Nat) : Int))) (some (Sum.inr false)) (need (inI .i64 (g5 + (1 : Int))) (K6 (g5 + (1 : Int))))))) (some (Sum.inl ())))
/-- pub-orthodrome/laws.zzFits3 -/
def p_zzFits3 (F : Nat) (a0 : (List (List Int))) : Option Bool := (cond (decide ((2147483647 : Int) < ((a0.length : Nat) : Int))) (some false) ((iter (p_zzFits3_l2 a0) F (0 : Int)).bind fun o => aft o some p_zzFits3_k1))

/-- pub-orthodrome/laws.fStride -/
def p_fStride (a0 : Int) : Option Bool := (cond (decide ((2 : Int) ≤ a0)) (some (decide (a0 ≤ (9 : Int)))) (some false))

/-- pub-orthodrome/laws.fLayout -/
def p_fLayout (a0 : Int) : Option Int := (cond (decide (a0 = (2 : Int))) (some (1 : Int)) (cond (decide (a0 = (3 : Int))) (some (2 : Int)) (some a0)))

def p_Weight_k2  (g8 : Int) : Option Int := some g8
def p_Weight_l3 (a0 : TImpl_Geom) (a1 : Int) (Rec_ : TImpl_Geom → Int → Option Int) (K10 : (Int × Int) → Option (Sum Int Int)) (g9 : (Int × Int)) : Option (Sum Int Int) := (cond (decide (g9.2 < ((a0.Kids.length : Nat) : Int))) ((idx a0.Kids g9.2).bind fun x13 => ((cond (decide (a1 < g9.1)) (some (Sum.inr g9.1)) (need (inI .i64 (a1 - g9.1)) ((Rec_ x13 (a1 - g9.1)).bind fun y17 => (need (inI .i64 (g9.1 + y17)) (need (inI .i64 (g9.2 + (1 : Int))) (K10 ((g9.1 + y17), (g9.2 + (1 : Int))))))))))) (some (Sum.inl g9.1)))
def p_Weight_k1 (a0 : TImpl_Geom) (a1 : Int) (F : Nat) (Rec_ : TImpl_Geom → Int → Option Int) (g5 : Int) : Option Int := (iter (p_Weight_l3 a0 a1 Rec_) F (g5, (0 : Int))).bind fun o => aft o some p_Weight_k2
def p_Weight_l4 (a0 : TImpl_Geom) (K22 : (Int × Int) → Option (Sum Int Int)) (g21 : (Int × Int)) : Option (Sum Int Int) := (cond (decide (g21.2 < ((a0.Endss.length : Nat) : Int))) ((idx a0.Endss g21.2).bind fun x25 => (need (inI .i64 ((1 : Int) + ((x25.length : Nat) : Int))) (need (inI .i64 (g21.1 + ((1 : Int) + ((x25.length : Nat) : Int)))) (need (inI .i64 (g21.2 + (1 : Int))) (K22 ((g21.1 + ((1 : Int) + ((x25.length : Nat) : Int))), (g21.2 + (1 : Int)))))))) (some (Sum.inl g21.1)))
/-- pub-orthodrome/spec.Weight -/
def p_Weight_b (Rec_ : TImpl_Geom → Int → Option Int) (F : Nat) (a0 : TImpl_Geom) (a1 : Int) : Option Int := need (inI .i64 ((1 : Int) + ((a0.Flat.length : Nat) : Int))) (need (inI .i64 (((1 : Int) + ((a0.Flat.length : Nat) : Int)) + ((a0.Ends.length : Nat) : Int))) ((iter (p_Weight_l4 a0) F ((((1 : Int) + ((a0.Flat.length : Nat) : Int)) + ((a0.Ends.length : Nat) : Int)), (0 : Int))).bind fun o => aft o some (p_Weight_k1 a0 a1 F Rec_)))
def p_Weight : Nat → TImpl_Geom → Int → Option Int
  | 0, _, _ => none
  | F + 1, a0, a1 => p_Weight_b (fun a0 a1 => p_Weight F a0 a1) F a0 a1

def p_gLayouts_k1 (a0 : TImpl_Geom) (a1 : Int) (g3 : Unit) : Option Bool := (cond (decide (a0.Layout ≤ a1)) (cond (decide ((1 : Int) ≤ a0.Layout)) (some true) (cond (decide (a0.Kind = (7 : Int))) (some (decide ((0 : Int) ≤ a0.Layout))) (some false))) (some false))
def p_gLayouts_l2 (a0 : TImpl_Geom) (a1 : Int) (Rec_ : TImpl_Geom → Int → Option Bool) (K8 : Int → Option (Sum Unit Bool)) (g7 : Int) : Option (Sum Unit Bool) := (cond (decide (g7 < ((a0.Kids.length : Nat) : Int))) ((idx a0.Kids g7).bind fun x11 => ((Rec_ x11 a1).bind fun y13 => ((cond (!y13) (some (Sum.inr false)) (need (inI .i64 (g7 + (1 : Int))) (K8 (g7 + (1 : Int)))))))) (some (Sum.inl ())))
/-- pub-orthodrome/laws.gLayouts -/
def p_gLayouts_b (Rec_ : TImpl_Geom → Int → Option Bool) (F : Nat) (a0 : TImpl_Geom) (a1 : Int) : Option Bool := (iter (p_gLayouts_l2 a0 a1 Rec_) F (0 : Int)).bind fun o => aft o some (p_gLayouts_k1 a0 a1)
def p_gLayouts : Nat → TImpl_Geom → Int → Option Bool
  | 0, _, _ => none
  | F + 1, a0, a1 => p_gLayouts_b (fun a0 a1 => p_gLayouts F a0 a1) F a0 a1

def p_gSmall_k1  (g3 : Unit) : Option Bool := some true
def p_gSmall_l2 (a0 : (List TImpl_Geom)) (F : Nat) (K5 : (Int × Int) → Option (Sum Unit Bool)) (g4 : (Int × Int)) : Option (Sum Unit Bool) := (cond (decide (g4.2 < ((a0.length : Nat) : Int))) ((idx a0 g4.2).bind fun x8 => ((p_Weight F x8 g4.1).bind fun y10 => (need (inI .i64 (g4.1 - y10)) ((cond (decide ((g4.1 - y10) < (0 : Int))) (some (Sum.inr false)) ((p_gLayouts F x8 (9 : Int)).bind fun y14 => ((cond (!y14) (some (Sum.inr false)) (need (inI .i64 (g4.2 + (1 : Int))) (K5 ((g4.1 - y10), (g4.2 + (1 : Int))))))))))))) (some (Sum.inl ())))
/-- pub-orthodrome/laws.gSmall -/
def p_gSmall (F : Nat) (a0 : (List TImpl_Geom)) : Option Bool := (iter (p_gSmall_l2 a0 F) F ((2000 : Int), (0 : Int))).bind fun o => aft o some p_gSmall_k1

/-- pub-orthodrome/spec.Stride -/
def p_Stride (a0 : Int) : Option Int := (cond (decide (a0 < (1 : Int))) (some (0 : Int)) (cond (decide (a0 = (1 : Int))) (some (2 : Int)) (cond (decide (a0 = (2 : Int))) (some (3 : Int)) (cond (decide (a0 = (3 : Int))) (some (3 : Int)) (some a0)))))

/-- pub-orthodrome/spec.Cover -/
def p_Cover (a0 : Int) (a1 : Int) : Option Int := (cond (decide (a0 = (2 : Int))) (cond (decide (a1 = (3 : Int))) (some (4 : Int)) (cond (decide (a0 = (3 : Int))) (cond (decide (a1 = (2 : Int))) (some (4 : Int)) (some (if a0 < a1 then a1 else a0))) (some (if a0 < a1 then a1 else a0)))) (cond (decide (a0 = (3 : Int))) (cond (decide (a1 = (2 : Int))) (some (4 : Int)) (some (if a0 < a1 then a1 else a0))) (some (if a0 < a1 then a1 else a0))))

def p_LayoutOf_k2  (g5 : Int) : Option Int := some g5
def p_LayoutOf_l3 (a0 : TImpl_Geom) (Rec_ : TImpl_Geom → Option Int) (K7 : (Int × Int) → Option (Sum Int Int)) (g6 : (Int × Int)) : Option (Sum Int Int) := (cond (decide (g6.2 < ((a0.Kids.length : Nat) : Int))) ((idx a0.Kids g6.2).bind fun x10 => ((Rec_ x10).bind fun y12 => ((p_Cover g6.1 y12).bind fun y14 => (need (inI .i64 (g6.2 + (1 : Int))) (K7 (y14, (g6.2 + (1 : Int)))))))) (some (Sum.inl g6.1)))
def p_LayoutOf_k1 (a0 : TImpl_Geom) (F : Nat) (Rec_ : TImpl_Geom → Option Int) (g1 : Bool) : Option Int := (cond g1 (some a0.Layout) ((iter (p_LayoutOf_l3 a0 Rec_) F (a0.Layout, (0 : Int))).bind fun o => aft o some p_LayoutOf_k2))
/-- pub-orthodrome/spec.LayoutOf -/
def p_LayoutOf_b (Rec_ : TImpl_Geom → Option Int) (F : Nat) (a0 : TImpl_Geom) : Option Int := (cond (!decide (a0.Kind = (7 : Int))) ((p_LayoutOf_k1 a0 F Rec_) true) ((p_LayoutOf_k1 a0 F Rec_) (!decide (a0.Layout = (0 : Int)))))
def p_LayoutOf : Nat → TImpl_Geom → Option Int
  | 0, _ => none
  | F + 1, a0 => p_LayoutOf_b (fun a0 => p_LayoutOf F a0) F a0

def p_goodEnds_k1  (g3 : Int) : Option (Int × Bool) := some (g3, true)
def p_goodEnds_k3 (g4 : (Int × Int)) (K5 : (Int × Int) → Option (Sum Int (Int × Bool))) (x8 : Int) (g10 : Bool) : Option (Sum Int (Int × Bool)) := (cond g10 (some (Sum.inr (g4.1, false))) (need (inI .i64 (g4.2 + (1 : Int))) (K5 (x8, (g4.2 + (1 : Int))))))
def p_goodEnds_l2 (a0 : (List Int)) (a2 : Int) (a3 : Bool) (K5 : (Int × Int) → Option (Sum Int (Int × Bool))) (g4 : (Int × Int)) : Option (Sum Int (Int × Bool)) := (cond (decide (g4.2 < ((a0.length : Nat) : Int))) ((idx a0 g4.2).bind fun x8 => ((cond (decide (x8 < g4.1)) ((p_goodEnds_k3 g4 K5 x8) true) (need (inI .i64 (x8 - g4.1)) (need (a2 ≠ 0) ((cond (!decide ((Int.tmod (x8 - g4.1) a2) = (0 : Int))) ((p_goodEnds_k3 g4 K5 x8) true) (cond a3 (need (inI .i64 (x8 - g4.1)) ((p_goodEnds_k3 g4 K5 x8) (decide (a2 < (x8 - g4.1))))) ((p_goodEnds_k3 g4 K5 x8) false))))))))) (some (Sum.inl g4.1)))
/-- pub-orthodrome/spec.goodEnds -/
def p_goodEnds (F : Nat) (a0 : (List Int)) (a1 : Int) (a2 : Int) (a3 : Bool) : Option (Int × Bool) := (iter (p_goodEnds_l2 a0 a2 a3) F (a1, (0 : Int))).bind fun o => aft o some p_goodEnds_k1

def p_Good_k2  (g7 : Bool) : Option Bool := some g7
def p_Good_k1 (a0 : TImpl_Geom) (g6 : Unit) : Option Bool := (cond (decide ((0 : Int) ≤ a0.Layout)) (need (inI .i64 (((a0.Flat.length : Nat) : Int) + ((a0.Ends.length : Nat) : Int))) (need (inI .i64 ((((a0.Flat.length : Nat) : Int) + ((a0.Ends.length : Nat) : Int)) + ((a0.Endss.length : Nat) : Int))) (p_Good_k2 (decide (((((a0.Flat.length : Nat) : Int) + ((a0.Ends.length : Nat) : Int)) + ((a0.Endss.length : Nat) : Int)) = (0 : Int)))))) (p_Good_k2 false))
def p_Good_l3 (a0 : TImpl_Geom) (F : Nat) (Rec_ : TImpl_Geom → Option Bool) (K12 : Int → Option (Sum Unit Bool)) (g11 : Int) : Option (Sum Unit Bool) := (cond (decide (g11 < ((a0.Kids.length : Nat) : Int))) ((idx a0.Kids g11).bind fun x15 => ((Rec_ x15).bind fun y17 => ((cond (!y17) (some (Sum.inr false)) (cond (!decide (a0.Layout = (0 : Int))) ((p_LayoutOf F x15).bind fun y21 => ((cond (!decide (y21 = a0.Layout)) (some (Sum.inr false)) (need (inI .i64 (g11 + (1 : Int))) (K12 (g11 + (1 : Int))))))) (need (inI .i64 (g11 + (1 : Int))) (K12 (g11 + (1 : Int))))))))) (some (Sum.inl ())))
def p_Good_k7 (a0 : TImpl_Geom) (g39 : (Int × Bool)) : Option Bool := (cond g39.2 (cond (decide (g39.1 = ((a0.Flat.length : Nat) : Int))) (some (decide (((a0.Ends.length : Nat) : Int) = (0 : Int)))) (some false)) (some false))
def p_Good_l8 (a0 : TImpl_Geom) (F : Nat) (y1 : Int) (K43 : (Int × Bool × Int) → Option (Sum (Int × Bool) Bool)) (g42 : (Int × Bool × Int)) : Option (Sum (Int × Bool) Bool) := (cond (decide (g42.2.2 < ((a0.Endss.length : Nat) : Int))) ((idx a0.Endss g42.2.2).bind fun x46 => ((p_goodEnds F x46 g42.1 y1 false).bind fun y48 => ((cond g42.2.1 (need (inI .i64 (g42.2.2 + (1 : Int))) (K43 (y48.1, y48.2, (g42.2.2 + (1 : Int))))) (need (inI .i64 (g42.2.2 + (1 : Int))) (K43 (y48.1, false, (g42.2.2 + (1 : Int))))))))) (some (Sum.inl (g42.1, g42.2.1))))
def p_Good_k6 (a0 : TImpl_Geom) (F : Nat) (y1 : Int) (g31 : Bool) : Option Bool := (cond g31 ((p_goodEnds F a0.Ends (0 : Int) y1 (decide (a0.Kind = (4 : Int)))).bind fun y33 => ((cond y33.2 (some (decide (y33.1 = ((a0.Flat.length : Nat) : Int)))) (some false)))) (cond (decide (a0.Kind = (6 : Int))) ((iter (p_Good_l8 a0 F y1) F ((0 : Int), true, (0 : Int))).bind fun o => aft o some (p_Good_k7 a0)) (some false)))
def p_Good_k5 (a0 : TImpl_Geom) (F : Nat) (y1 : Int) (g29 : Bool) : Option Bool := (cond g29 (some (decide (((a0.Ends.length : Nat) : Int) = (0 : Int)))) (cond (decide (a0.Kind = (3 : Int))) ((p_Good_k6 a0 F y1) (decide (a0.Kind = (3 : Int)))) (cond (decide (a0.Kind = (4 : Int))) ((p_Good_k6 a0 F y1) (decide (a0.Kind = (4 : Int)))) ((p_Good_k6 a0 F y1) (decide (a0.Kind = (5 : Int)))))))
def p_Good_k4 (a0 : TImpl_Geom) (F : Nat) (y1 : Int) (g26 : Unit) : Option Bool := (cond (decide (a0.Kind = (1 : Int))) (cond (decide (((a0.Ends.length : Nat) : Int) = (0 : Int))) (some (decide (((a0.Flat.length : Nat) : Int) ≤ y1))) (some false)) (cond (decide (a0.Kind = (2 : Int))) ((p_Good_k5 a0 F y1) (decide (a0.Kind = (2 : Int)))) ((p_Good_k5 a0 F y1) (decide (a0.Kind = (8 : Int))))))
/-- pub-orthodrome/spec.Good -/
def p_Good_b (Rec_ : TImpl_Geom → Option Bool) (F : Nat) (a0 : TImpl_Geom) : Option Bool := (p_Stride a0.Layout).bind fun y1 => ((cond (decide (a0.Kind = (7 : Int))) ((iter (p_Good_l3 a0 F Rec_) F (0 : Int)).bind fun o => aft o some (p_Good_k1 a0)) (cond (decide (y1 = (0 : Int))) (some false) (need (y1 ≠ 0) ((cond (!decide ((Int.tmod ((a0.Flat.length : Nat) : Int) y1) = (0 : Int))) (some false) (cond (decide ((0 : Int) < ((a0.Kids.length : Nat) : Int))) (some false) (cond (decide ((0 : Int) < ((a0.Endss.length : Nat) : Int))) (cond (!decide (a0.Kind = (6 : Int))) (some false) ((p_Good_k4 a0 F y1) ())) ((p_Good_k4 a0 F y1) ())))))))))
def p_Good : Nat → TImpl_Geom → Option Bool
  | 0, _ => none
  | F + 1, a0 => p_Good_b (fun a0 => p_Good F a0) F a0

def p_gGood_k1  (g6 : Unit) : Option Bool := some true
def p_gGood_l2 (a0 : (List TImpl_Geom)) (F : Nat) (K8 : Int → Option (Sum Unit Bool)) (g7 : Int) : Option (Sum Unit Bool) := (cond (decide (g7 < ((a0.length : Nat) : Int))) ((idx a0 g7).bind fun x11 => ((p_Good F x11).bind fun y13 => ((cond (!y13) (some (Sum.inr false)) (need (inI .i64 (g7 + (1 : Int))) (K8 (g7 + (1 : Int)))))))) (some (Sum.inl ())))
/-- pub-orthodrome/laws.gGood -/
def p_gGood (F : Nat) (a0 : (List TImpl_Geom)) : Option Bool := (p_gSmall F a0).bind fun y1 => ((cond (!y1) (some false) ((iter (p_gGood_l2 a0 F) F (0 : Int)).bind fun o => aft o some p_gGood_k1)))

/-- pub-orthodrome/laws.fRowss -/
def p_fRowss (F : Nat) (a0 : (List Nat)) (a1 : (List (List Int))) (a2 : Int) : Option (TImpl_Geom × Bool) := (p_fStride a2).bind fun y1 => ((cond (!y1) (some ((TImpl_Geom.mk (0 : Int) (0 : Int) (0 : Int) [] [] [] []), false)) ((p_fLayout a2).bind fun y4 => ((p_gGood F [(TImpl_Geom.mk (6 : Int) y4 (0 : Int) a0 [] a1 [])]).bind fun y6 => (some ((TImpl_Geom.mk (6 : Int) y4 (0 : Int) a0 [] a1 []), y6))))))

def p_gHollow_k1  (g3 : Unit) : Option Bool := some false
def p_gHollow_l2 (a0 : TImpl_Geom) (K5 : Int → Option (Sum Unit Bool)) (g4 : Int) : Option (Sum Unit Bool) := (cond (decide (g4 < ((a0.Endss.length : Nat) : Int))) ((idx a0.Endss g4).bind fun x8 => ((cond (decide (((x8.length : Nat) : Int) = (0 : Int))) (some (Sum.inr true)) (need (inI .i64 (g4 + (1 : Int))) (K5 (g4 + (1 : Int))))))) (some (Sum.inl ())))
/-- pub-orthodrome/laws.gHollow -/
def p_gHollow (F : Nat) (a0 : TImpl_Geom) : Option Bool := (iter (p_gHollow_l2 a0) F (0 : Int)).bind fun o => aft o some p_gHollow_k1

def p_ReverseFlat3_k1  (g7 : (List Nat)) : Option ((List Nat) × Bool) := some (g7, true)
def p_ReverseFlat3_k3 (g8 : (Int × Int × (List Nat))) (K9 : (Int × Int × (List Nat)) → Option (Sum (List Nat) ((List Nat) × Bool))) (x12 : (List Int)) (g19 : (List Nat)) : Option (Sum (List Nat) ((List Nat) × Bool)) := need (inI .i64 (((x12.length : Nat) : Int) - (1 : Int))) ((idx x12 (((x12.length : Nat) : Int) - (1 : Int))).bind fun x21 => (need (inI .i64 (g8.2.1 + (1 : Int))) (K9 (x21, (g8.2.1 + (1 : Int)), g19))))
def p_ReverseFlat3_k5 (g24 : (Int × Int × (List Nat))) (K25 : (Int × Int × (List Nat)) → Option (Sum (List Nat) ((List Nat) × Bool))) (x28 : Int) (g34 : (List Nat)) : Option (Sum (List Nat) ((List Nat) × Bool)) := need (inI .i64 (g24.2.1 + (1 : Int))) (K25 (x28, (g24.2.1 + (1 : Int)), g34))
def p_ReverseFlat3_k7 (a2 : Int) (g36 : (Int × Int × (List Nat))) (K37 : (Int × Int × (List Nat)) → Option (Sum (List Nat) ((List Nat) × Bool))) (g42 : (List Nat)) : Option (Sum (List Nat) ((List Nat) × Bool)) := need (inI .i64 (g36.1 + a2)) (need (inI .i64 (g36.2.1 - a2)) (K37 ((g36.1 + a2), (g36.2.1 - a2), g42)))
def p_ReverseFlat3_l8 (a2 : Int) (g36 : (Int × Int × (List Nat))) (K46 : (Int × (List Nat)) → Option (Sum (List Nat) ((List Nat) × Bool))) (g45 : (Int × (List Nat))) : Option (Sum (List Nat) ((List Nat) × Bool)) := (cond (decide (g45.1 < a2)) (need (inI .i64 (g36.1 - a2)) (need (inI .i64 ((g36.1 - a2) + g45.1)) (need (inI .i64 (g36.2.1 - a2)) (need (inI .i64 ((g36.2.1 - a2) + g45.1)) (need (inI .i64 (g36.2.1 - a2)) (need (inI .i64 ((g36.2.1 - a2) + g45.1)) (need (0 ≤ ((g36.2.1 - a2) + g45.1) ∧ ((g36.2.1 - a2) + g45.1) < ((g45.2.length : Nat) : Int)) ((idx g45.2 ((g36.2.1 - a2) + g45.1)).bind fun x56 => (need (inI .i64 (g36.1 - a2)) (need (inI .i64 ((g36.1 - a2) + g45.1)) (need (0 ≤ ((g36.1 - a2) + g45.1) ∧ ((g36.1 - a2) + g45.1) < ((g45.2.length : Nat) : Int)) ((idx g45.2 ((g36.1 - a2) + g45.1)).bind fun x61 => (need (0 ≤ ((g36.1 - a2) + g45.1) ∧ ((g36.1 - a2) + g45.1) < ((g45.2.length : Nat) : Int)) (need ((((g36.1 - a2) + g45.1)).toNat < g45.2.length) (need (0 ≤ ((g36.2.1 - a2) + g45.1) ∧ ((g36.2.1 - a2) + g45.1) < (((g45.2.set (((g36.1 - a2) + g45.1)).toNat x56).length : Nat) : Int)) (need ((((g36.2.1 - a2) + g45.1)).toNat < (g45.2.set (((g36.1 - a2) + g45.1)).toNat x56).length) (need (inI .i64 (g45.1 + (1 : Int))) (K46 ((g45.1 + (1 : Int)), ((g45.2.set (((g36.1 - a2) + g45.1)).toNat x56).set (((g36.2.1 - a2) + g45.1)).toNat x61)))))))))))))))))))) (some (Sum.inl g45.2)))
def p_ReverseFlat3_l6 (a2 : Int) (F : Nat) (K37 : (Int × Int × (List Nat)) → Option (Sum (List Nat) ((List Nat) × Bool))) (g36 : (Int × Int × (List Nat))) : Option (Sum (List Nat) ((List Nat) × Bool)) := (cond (decide (g36.1 ≤ g36.2.1)) ((iter (p_ReverseFlat3_l8 a2 g36) F ((0 : Int), g36.2.2)).bind fun o => aft o (fun r => some (Sum.inr r)) (p_ReverseFlat3_k7 a2 g36 K37)) (some (Sum.inl g36.2.2)))
def p_ReverseFlat3_l4 (a2 : Int) (F : Nat) (x12 : (List Int)) (K25 : (Int × Int × (List Nat)) → Option (Sum (List Nat) ((List Nat) × Bool))) (g24 : (Int × Int × (List Nat))) : Option (Sum (List Nat) ((List Nat) × Bool)) := (cond (decide (g24.2.1 < ((x12.length : Nat) : Int))) ((idx x12 g24.2.1).bind fun x28 => (need (inI .i64 (g24.1 + a2)) ((iter (p_ReverseFlat3_l6 a2 F) F ((g24.1 + a2), x28, g24.2.2)).bind fun o => aft o (fun r => some (Sum.inr r)) (p_ReverseFlat3_k5 g24 K25 x28)))) (some (Sum.inl g24.2.2)))
def p_ReverseFlat3_l2 (a1 : (List (List Int))) (a2 : Int) (F : Nat) (K9 : (Int × Int × (List Nat)) → Option (Sum (List Nat) ((List Nat) × Bool))) (g8 : (Int × Int × (List Nat))) : Option (Sum (List Nat) ((List Nat) × Bool)) := (cond (decide (g8.2.1 < ((a1.length : Nat) : Int))) ((idx a1 g8.2.1).bind fun x12 => ((cond (decide (((x12.length : Nat) : Int) = (0 : Int))) (need (inI .i64 (g8.2.1 + (1 : Int))) (K9 (g8.1, (g8.2.1 + (1 : Int)), g8.2.2))) ((iter (p_ReverseFlat3_l4 a2 F x12) F (g8.1, (0 : Int), g8.2.2)).bind fun o => aft o (fun r => some (Sum.inr r)) (p_ReverseFlat3_k3 g8 K9 x12))))) (some (Sum.inl g8.2.2)))
/-- pub-orthodrome/impl.ReverseFlat3 -/
def p_ReverseFlat3 (F : Nat) (a0 : (List Nat)) (a1 : (List (List Int))) (a2 : Int) : Option ((List Nat) × Bool) := need (a0.length ≤ 4294967296) ((iter (p_ReverseFlat3_l2 a1 a2 F) F ((0 : Int), (0 : Int), a0)).bind fun o => aft o some p_ReverseFlat3_k1)

def p_Backward_k3 (a0 : TImpl_Geom) (g10 : (List Nat)) : Option TImpl_Geom := some (TImpl_Geom.mk a0.Kind a0.Layout a0.SRID g10 a0.Ends a0.Endss [])
def p_Backward_k5 (g11 : (Int × Int × (List Nat))) (K12 : (Int × Int × (List Nat)) → Option (Sum (List Nat) TImpl_Geom)) (x15 : Int) (g20 : (List Nat)) : Option (Sum (List Nat) TImpl_Geom) := need (inI .i64 (g11.2.1 + (1 : Int))) (K12 (x15, (g11.2.1 + (1 : Int)), g20))
def p_Backward_l6 (a0 : TImpl_Geom) (y6 : Int) (g11 : (Int × Int × (List Nat))) (K23 : (Int × (List Nat)) → Option (Sum (List Nat) TImpl_Geom)) (g22 : (Int × (List Nat))) : Option (Sum (List Nat) TImpl_Geom) := (cond (decide (g11.1 ≤ g22.1)) (need (inI .i64 (g22.1 + y6)) (need ((0 ≤ g22.1 ∧ 0 ≤ (g22.1 + y6)) ∧ (g22.1).toNat ≤ ((g22.1 + y6)).toNat ∧ ((g22.1 + y6)).toNat ≤ a0.Flat.length) (need (g22.2.length + ((a0.Flat.drop (g22.1).toNat).take (((g22.1 + y6)).toNat - (g22.1).toNat)).length ≤ 4294967296) (need (inI .i64 (g22.1 - y6)) (K23 ((g22.1 - y6), (g22.2 ++ ((a0.Flat.drop (g22.1).toNat).take (((g22.1 + y6)).toNat - (g22.1).toNat))))))))) (some (Sum.inl g22.2)))
def p_Backward_l4 (a0 : TImpl_Geom) (F : Nat) (g5 : (List Int)) (y6 : Int) (K12 : (Int × Int × (List Nat)) → Option (Sum (List Nat) TImpl_Geom)) (g11 : (Int × Int × (List Nat))) : Option (Sum (List Nat) TImpl_Geom) := (cond (decide (g11.2.1 < ((g5.length : Nat) : Int))) ((idx g5 g11.2.1).bind fun x15 => (need (inI .i64 (x15 - y6)) ((iter (p_Backward_l6 a0 y6 g11) F ((x15 - y6), g11.2.2)).bind fun o => aft o (fun r => some (Sum.inr r)) (p_Backward_k5 g11 K12 x15)))) (some (Sum.inl g11.2.2)))
def p_Backward_k2 (a0 : TImpl_Geom) (F : Nat) (g5 : (List Int)) : Option TImpl_Geom := (p_Stride a0.Layout).bind fun y6 => ((iter (p_Backward_l4 a0 F g5 y6) F ((0 : Int), (0 : Int), [])).bind fun o => aft o some (p_Backward_k3 a0))
def p_Backward_k1 (a0 : TImpl_Geom) (F : Nat) (g4 : (List Int)) : Option TImpl_Geom := (cond (decide (a0.Kind = (1 : Int))) ((p_Backward_k2 a0 F) [((a0.Flat.length : Nat) : Int)]) (cond (decide (a0.Kind = (2 : Int))) ((p_Backward_k2 a0 F) [((a0.Flat.length : Nat) : Int)]) (cond (decide (a0.Kind = (8 : Int))) ((p_Backward_k2 a0 F) [((a0.Flat.length : Nat) : Int)]) ((p_Backward_k2 a0 F) g4))))
def p_Backward_l7 (a0 : TImpl_Geom) (K34 : (Int × (List Int)) → Option (Sum (List Int) TImpl_Geom)) (g33 : (Int × (List Int))) : Option (Sum (List Int) TImpl_Geom) := (cond (decide (g33.1 < ((a0.Endss.length : Nat) : Int))) ((idx a0.Endss g33.1).bind fun x37 => (need (g33.2.length + x37.length ≤ 4294967296) (need (inI .i64 (g33.1 + (1 : Int))) (K34 ((g33.1 + (1 : Int)), (g33.2 ++ x37)))))) (some (Sum.inl g33.2)))
/-- pub-orthodrome/spec.Backward -/
def p_Backward (F : Nat) (a0 : TImpl_Geom) : Option TImpl_Geom := need (0 + a0.Ends.length ≤ 4294967296) ((iter (p_Backward_l7 a0) F ((0 : Int), a0.Ends)).bind fun o => aft o some (p_Backward_k1 a0 F))

def p_SameFloats_k1  (g4 : Unit) : Option Bool := some true
def p_SameFloats_l2 (a0 : (List Nat)) (a1 : (List Nat)) (K6 : Int → Option (Sum Unit Bool)) (g5 : Int) : Option (Sum Unit Bool) := (cond (decide (g5 < ((a0.length : Nat) : Int))) ((idx a0 g5).bind fun x9 => ((idx a1 g5).bind fun x11 => ((cond (!decide (((x9 : Nat) : Int) = ((x11 : Nat) : Int))) (some (Sum.inr false)) (need (inI .i64 (g5 + (1 : Int))) (K6 (g5 + (1 : Int)))))))) (some (Sum.inl ())))
/-- pub-orthodrome/spec.SameFloats -/
def p_SameFloats (F : Nat) (a0 : (List Nat)) (a1 : (List Nat)) : Option Bool := (cond (!decide (((a0.length : Nat) : Int) = ((a1.length : Nat) : Int))) (some false) ((iter (p_SameFloats_l2 a0 a1) F (0 : Int)).bind fun o => aft o some p_SameFloats_k1))

def p_FnReverseFlat3_k2 (a0 : (List Nat)) (a1 : (List (List Int))) (a2 : Int) (F : Nat) (y3 : (TImpl_Geom × Bool)) (g5 : Bool) : Option Bool := (cond g5 (some true) ((p_ReverseFlat3 F a0 a1 a2).bind fun y7 => ((cond y7.2 ((p_Backward F y3.1).bind fun y10 => ((p_SameFloats F y7.1 y10.Flat).bind fun y12 => (some y12))) (some false)))))
def p_FnReverseFlat3_k1 (a0 : (List Nat)) (a1 : (List (List Int))) (a2 : Int) (F : Nat) (g1 : Bool) : Option Bool := (cond g1 (some true) ((p_fRowss F a0 a1 a2).bind fun y3 => ((cond (!y3.2) ((p_FnReverseFlat3_k2 a0 a1 a2 F y3) true) ((p_gHollow F y3.1).bind fun y15 => ((p_FnReverseFlat3_k2 a0 a1 a2 F y3) y15))))))
/-- pub-orthodrome/laws.FnReverseFlat3 -/
def p_FnReverseFlat3 (F : Nat) (a0 : (List Nat)) (a1 : (List (List Int))) (a2 : Int) : Option Bool := (cond (decide ((2147483647 : Int) < ((a0.length : Nat) : Int))) ((p_FnReverseFlat3_k1 a0 a1 a2 F) true) ((p_zzFits3 F a1).bind fun y18 => ((p_FnReverseFlat3_k1 a0 a1 a2 F) (!y18))))

end Go.Proofs.Ytdpkjmoeapibnaa.Wk
