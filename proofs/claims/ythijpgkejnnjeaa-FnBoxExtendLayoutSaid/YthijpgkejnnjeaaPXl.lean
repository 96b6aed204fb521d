/- Printed: what functions of the program compute, as functions of Lean. No condition is laid on their arguments. -/
import Derived.Test.YthijpgkejnnjeaaPureKit
namespace Go.Proofs.Ythijpgkejnnjeaa.Wk
open Go.Vm
set_option linter.unusedVariables false
structure TImpl_Box where
  mk ::
  (Layout : Int)
  (Min : (List Nat))
  (Max : (List Nat))
abbrev keS0 (x : Nat) : D := dfl x
abbrev eS0 (l : List Nat) : D := .ds 1 (l.map keS0)
abbrev c_TImpl_Box (x : TImpl_Box) : List D := [di .i64 x.Layout, eS0 x.Min, eS0 x.Max]
abbrev e_TImpl_Box (x : TImpl_Box) : D := .ag (c_TImpl_Box x)
abbrev eS1 (l : List TImpl_Box) : D := .ds 3 (l.flatMap c_TImpl_Box)
structure TImpl_Geom where
  mk ::
  (Kind : Int)
  (Layout : Int)
  (SRID : Int)
  (Flat : (List Nat))
  (Ends : (List Int))
  (Endss : (List (List Int)))
  (Kids : (List TImpl_Geom))
abbrev keS3 (x : Int) : D := di .i64 x
abbrev eS3 (l : List Int) : D := .ds 1 (l.map keS3)
abbrev keS4 (x : (List Int)) : D := eS3 x
abbrev eS4 (l : List (List Int)) : D := .ds 1 (l.map keS4)
mutual
def c0_TImpl_Geom : TImpl_Geom → List D
  | .mk x0 x1 x2 x3 x4 x5 x6 => [di .i64 x0, di .i64 x1, di .i64 x2, eS0 x3, eS3 x4, eS4 x5, .ds 7 (cs_TImpl_Geom x6)]
def cs_TImpl_Geom : List TImpl_Geom → List D
  | [] => []
  | g :: r => c0_TImpl_Geom g ++ cs_TImpl_Geom r
end
theorem cs_TImpl_Geom_eq : ∀ l : List TImpl_Geom, cs_TImpl_Geom l = l.flatMap c0_TImpl_Geom
  | [] => by simp [cs_TImpl_Geom]
  | g :: r => by simp [cs_TImpl_Geom, cs_TImpl_Geom_eq r]
abbrev eS2 (l : List TImpl_Geom) : D := .ds 7 (l.flatMap c0_TImpl_Geom)
abbrev c_TImpl_Geom (x : TImpl_Geom) : List D := [di .i64 x.Kind, di .i64 x.Layout, di .i64 x.SRID, eS0 x.Flat, eS3 x.Ends, eS4 x.Endss, eS2 x.Kids]
abbrev e_TImpl_Geom (x : TImpl_Geom) : D := .ag (c_TImpl_Geom x)
theorem c0_TImpl_Geom_eq (x : TImpl_Geom) : c0_TImpl_Geom x = c_TImpl_Geom x := by cases x; simp only [c0_TImpl_Geom, cs_TImpl_Geom_eq]
theorem c0_TImpl_Geom_len (x : TImpl_Geom) : (c0_TImpl_Geom x).length = 7 := by rw [c0_TImpl_Geom_eq]; rfl
theorem c0_TImpl_Geom_one (x : TImpl_Geom) : (c0_TImpl_Geom x).all D.one = true := by rw [c0_TImpl_Geom_eq]; rfl
/-- pub-orthodrome/laws.zzFits1 -/
def p_zzFits1 (a0 : TImpl_Box) : Option Bool := (cond (decide ((2147483647 : Int) < ((a0.Min.length : Nat) : Int))) (some false) (cond (decide ((2147483647 : Int) < ((a0.Max.length : Nat) : Int))) (some false) (some true)))

/-- pub-orthodrome/spec.Stride -/
def p_Stride (a0 : Int) : Option Int := (cond (decide (a0 < (1 : Int))) (some (0 : Int)) (cond (decide (a0 = (1 : Int))) (some (2 : Int)) (cond (decide (a0 = (2 : Int))) (some (3 : Int)) (cond (decide (a0 = (3 : Int))) (some (3 : Int)) (some a0)))))

/-- pub-orthodrome/laws.gNumber -/
def p_gNumber (a0 : Nat) : Option Bool := some (feq a0 a0)

def p_bBox_k1  (g3 : Unit) : Option Bool := some true
def p_bBox_k4 (g4 : Int) (K5 : Int → Option (Sum Unit Bool)) (g14 : Unit) : Option (Sum Unit Bool) := need (inI .i64 (g4 + (1 : Int))) (K5 (g4 + (1 : Int)))
def p_bBox_l5 (x8 : TImpl_Box) (K17 : Int → Option (Sum Unit Bool)) (g16 : Int) : Option (Sum Unit Bool) := (cond (decide (g16 < ((x8.Min.length : Nat) : Int))) ((idx x8.Min g16).bind fun x20 => ((p_gNumber x20).bind fun y22 => ((cond (!y22) (some (Sum.inr false)) ((idx x8.Max g16).bind fun x25 => ((p_gNumber x25).bind fun y27 => ((cond (!y27) (some (Sum.inr false)) (need (inI .i64 (g16 + (1 : Int))) (K17 (g16 + (1 : Int)))))))))))) (some (Sum.inl ())))
def p_bBox_k3 (F : Nat) (g4 : Int) (K5 : Int → Option (Sum Unit Bool)) (x8 : TImpl_Box) (g10 : Bool) : Option (Sum Unit Bool) := (cond g10 (some (Sum.inr false)) ((iter (p_bBox_l5 x8) F (0 : Int)).bind fun o => aft o (fun r => some (Sum.inr r)) (p_bBox_k4 g4 K5)))
def p_bBox_l2 (a0 : (List TImpl_Box)) (F : Nat) (K5 : Int → Option (Sum Unit Bool)) (g4 : Int) : Option (Sum Unit Bool) := (cond (decide (g4 < ((a0.length : Nat) : Int))) ((idx a0 g4).bind fun x8 => ((cond (decide (x8.Layout < (0 : Int))) ((p_bBox_k3 F g4 K5 x8) true) (cond (decide ((9 : Int) < x8.Layout)) ((p_bBox_k3 F g4 K5 x8) true) ((p_Stride x8.Layout).bind fun y33 => ((cond (!decide (((x8.Min.length : Nat) : Int) = y33)) ((p_bBox_k3 F g4 K5 x8) true) ((p_bBox_k3 F g4 K5 x8) (!decide (((x8.Max.length : Nat) : Int) = ((x8.Min.length : Nat) : Int))))))))))) (some (Sum.inl ())))
/-- pub-orthodrome/laws.bBox -/
def p_bBox (F : Nat) (a0 : (List TImpl_Box)) : Option Bool := (iter (p_bBox_l2 a0 F) F (0 : Int)).bind fun o => aft o some p_bBox_k1

/-- pub-orthodrome/impl.floats -/
def p_floats (a0 : (List Nat)) : Option (List Nat) := need (a0.length ≤ 4294967296) (some a0)

/-- math.Inf -/
def p_Inf (a0 : Int) : Option Nat := (cond (decide ((0 : Int) ≤ a0)) (need (((((9218868437227405312 : Int)).toNat : Nat) : Int) = (9218868437227405312 : Int)) (some (((9218868437227405312 : Int)).toNat))) (need (((((18442240474082181120 : Int)).toNat : Nat) : Int) = (18442240474082181120 : Int)) (some (((18442240474082181120 : Int)).toNat))))

/-- (pub-orthodrome/pub/gogeom.Layout).Stride -/
def p_Layout_Stride (a0 : Int) : Option Int := (cond (decide (a0 = (0 : Int))) (some (0 : Int)) (cond (decide (a0 = (1 : Int))) (some (2 : Int)) (cond (decide (a0 = (2 : Int))) (some (3 : Int)) (cond (decide (a0 = (3 : Int))) (some (3 : Int)) (cond (decide (a0 = (4 : Int))) (some (4 : Int)) (some a0))))))

def p_BoxExtendLayout_k3 (a1 : Int) (g53 : ((List Nat) × (List Nat))) : Option (TImpl_Box × Bool) := (p_floats g53.1).bind fun y56 => ((p_floats g53.2).bind fun y58 => (some ((TImpl_Box.mk a1 y56 y58), true)))
def p_BoxExtendLayout_l4 (y46 : Int) (K61 : (Int × (List Nat) × (List Nat)) → Option (Sum ((List Nat) × (List Nat)) (TImpl_Box × Bool))) (g60 : (Int × (List Nat) × (List Nat))) : Option (Sum ((List Nat) × (List Nat)) (TImpl_Box × Bool)) := (cond (decide (g60.1 < y46)) ((p_Inf (1 : Int)).bind fun y64 => (need (g60.2.1.length + [y64].length ≤ 4294967296) ((p_Inf (-1 : Int)).bind fun y67 => (need (g60.2.2.length + [y67].length ≤ 4294967296) (need (inI .i64 (g60.1 + (1 : Int))) (K61 ((g60.1 + (1 : Int)), (g60.2.1 ++ [y64]), (g60.2.2 ++ [y67])))))))) (some (Sum.inl (g60.2.1, g60.2.2))))
def p_BoxExtendLayout_k2 (a0 : TImpl_Box) (a1 : Int) (F : Nat) (y2 : (List Nat)) (y4 : (List Nat)) (g23 : Bool) : Option (TImpl_Box × Bool) := (cond g23 (need (0 ≤ (2 : Int) ∧ ((2 : Int)).toNat ≤ y2.length) ((p_Inf (1 : Int)).bind fun y26 => (need (0 ≤ (2 : Int) ∧ (2 : Int) < ((y2.length : Nat) : Int)) ((idx y2 (2 : Int)).bind fun x29 => (need (((2 : Int)).toNat ≤ y2.length ∧ ((2 : Int)).toNat + [y26, x29].length ≤ 4294967296) (need (0 ≤ (2 : Int) ∧ ((2 : Int)).toNat ≤ y4.length) ((p_Inf (-1 : Int)).bind fun y33 => (need (0 ≤ (2 : Int) ∧ (2 : Int) < ((y4.length : Nat) : Int)) ((idx y4 (2 : Int)).bind fun x36 => (need (((2 : Int)).toNat ≤ y4.length ∧ ((2 : Int)).toNat + [y33, x36].length ≤ 4294967296) ((p_floats (y2.take (((2 : Int)).toNat) ++ [y26, x29])).bind fun y41 => ((p_floats (y4.take (((2 : Int)).toNat) ++ [y33, x36])).bind fun y43 => (some ((TImpl_Box.mk (4 : Int) y41 y43), true)))))))))))))) (cond (decide (a0.Layout < a1)) ((p_Layout_Stride a1).bind fun y46 => ((p_Layout_Stride a0.Layout).bind fun y49 => ((iter (p_BoxExtendLayout_l4 y46) F (y49, y2, y4)).bind fun o => aft o some (p_BoxExtendLayout_k3 a1)))) ((p_floats y2).bind fun y73 => ((p_floats y4).bind fun y75 => (some ((TImpl_Box.mk a0.Layout y73 y75), true))))))
def p_BoxExtendLayout_k1 (a0 : TImpl_Box) (a1 : Int) (F : Nat) (y2 : (List Nat)) (y4 : (List Nat)) (g9 : Bool) : Option (TImpl_Box × Bool) := (cond g9 ((p_Inf (1 : Int)).bind fun y11 => (need (y2.length + [y11].length ≤ 4294967296) ((p_Inf (-1 : Int)).bind fun y14 => (need (y4.length + [y14].length ≤ 4294967296) ((p_floats (y2 ++ [y11])).bind fun y19 => ((p_floats (y4 ++ [y14])).bind fun y21 => (some ((TImpl_Box.mk (4 : Int) y19 y21), true)))))))) (cond (decide (a0.Layout = (3 : Int))) (cond (decide (a1 = (2 : Int))) ((p_BoxExtendLayout_k2 a0 a1 F y2 y4) true) ((p_BoxExtendLayout_k2 a0 a1 F y2 y4) (decide (a1 = (4 : Int))))) ((p_BoxExtendLayout_k2 a0 a1 F y2 y4) false)))
/-- pub-orthodrome/impl.BoxExtendLayout -/
def p_BoxExtendLayout (F : Nat) (a0 : TImpl_Box) (a1 : Int) : Option (TImpl_Box × Bool) := (p_floats a0.Min).bind fun y2 => ((p_floats a0.Max).bind fun y4 => ((cond (decide (a0.Layout = (2 : Int))) ((p_BoxExtendLayout_k1 a0 a1 F y2 y4) (decide (a1 = (3 : Int)))) ((p_BoxExtendLayout_k1 a0 a1 F y2 y4) false))))

/-- pub-orthodrome/spec.Cover -/
def p_Cover (a0 : Int) (a1 : Int) : Option Int := (cond (decide (a0 = (2 : Int))) (cond (decide (a1 = (3 : Int))) (some (4 : Int)) (cond (decide (a0 = (3 : Int))) (cond (decide (a1 = (2 : Int))) (some (4 : Int)) (some (if a0 < a1 then a1 else a0))) (some (if a0 < a1 then a1 else a0)))) (cond (decide (a0 = (3 : Int))) (cond (decide (a1 = (2 : Int))) (some (4 : Int)) (some (if a0 < a1 then a1 else a0))) (some (if a0 < a1 then a1 else a0))))

/-- pub-orthodrome/spec.BoxCover -/
def p_BoxCover (a0 : Int) (a1 : Int) : Option Int := (p_Cover a0 a1).bind fun y1 => (some y1)

/-- pub-orthodrome/spec.axis -/
def p_axis (a0 : Int) (a1 : Int) (a2 : Int) : Option Int := (cond (decide (a1 = (3 : Int))) (cond (decide (a2 = (4 : Int))) (cond (decide (a0 = (2 : Int))) (some (3 : Int)) (some a0)) (some a0)) (some a0))

def p_Extend_k3 (y1 : Int) (g16 : ((List Nat) × (List Nat))) : Option TImpl_Box := some (TImpl_Box.mk y1 g16.1 g16.2)
def p_Extend_l4 (a1 : TImpl_Geom) (y1 : Int) (y12 : Int) (K18 : (Int × (List Nat) × (List Nat)) → Option (Sum ((List Nat) × (List Nat)) TImpl_Box)) (g17 : (Int × (List Nat) × (List Nat))) : Option (Sum ((List Nat) × (List Nat)) TImpl_Box) := (cond (decide (g17.1 < ((a1.Flat.length : Nat) : Int))) ((idx a1.Flat g17.1).bind fun x21 => (need (y12 ≠ 0) ((p_axis (Int.tmod g17.1 y12) a1.Layout y1).bind fun y24 => (need (0 ≤ y24 ∧ y24 < ((g17.2.1.length : Nat) : Int)) ((idx g17.2.1 y24).bind fun x27 => (need ((FloatKind.f64.format.order x27 x21).isSome = true) (need (0 ≤ y24 ∧ y24 < ((g17.2.2.length : Nat) : Int)) ((idx g17.2.2 y24).bind fun x31 => (need ((FloatKind.f64.format.order x31 x21).isSome = true) (need (0 ≤ y24 ∧ y24 < ((g17.2.1.length : Nat) : Int)) (need ((y24).toNat < g17.2.1.length) (need (0 ≤ y24 ∧ y24 < ((g17.2.2.length : Nat) : Int)) (need ((y24).toNat < g17.2.2.length) (need (inI .i64 (g17.1 + (1 : Int))) (K18 ((g17.1 + (1 : Int)), (g17.2.1.set (y24).toNat (bmin x27 x21)), (g17.2.2.set (y24).toNat (bmax x31 x21)))))))))))))))))) (some (Sum.inl (g17.2.1, g17.2.2))))
def p_Extend_k2 (a1 : TImpl_Geom) (F : Nat) (y1 : Int) (g11 : ((List Nat) × (List Nat))) : Option TImpl_Box := (p_Stride a1.Layout).bind fun y12 => ((iter (p_Extend_l4 a1 y1 y12) F ((0 : Int), g11.1, g11.2)).bind fun o => aft o some (p_Extend_k3 y1))
def p_Extend_l5 (a0 : TImpl_Box) (y1 : Int) (K40 : (Int × (List Nat) × (List Nat)) → Option (Sum ((List Nat) × (List Nat)) TImpl_Box)) (g39 : (Int × (List Nat) × (List Nat))) : Option (Sum ((List Nat) × (List Nat)) TImpl_Box) := (cond (decide (g39.1 < ((a0.Min.length : Nat) : Int))) ((p_axis g39.1 a0.Layout y1).bind fun y43 => ((idx a0.Min g39.1).bind fun x45 => ((idx a0.Max g39.1).bind fun x47 => (need (0 ≤ y43 ∧ y43 < ((g39.2.1.length : Nat) : Int)) (need ((y43).toNat < g39.2.1.length) (need (0 ≤ y43 ∧ y43 < ((g39.2.2.length : Nat) : Int)) (need ((y43).toNat < g39.2.2.length) (need (inI .i64 (g39.1 + (1 : Int))) (K40 ((g39.1 + (1 : Int)), (g39.2.1.set (y43).toNat x45), (g39.2.2.set (y43).toNat x47))))))))))) (some (Sum.inl (g39.2.1, g39.2.2))))
def p_Extend_k1 (a0 : TImpl_Box) (a1 : TImpl_Geom) (F : Nat) (y1 : Int) (g8 : ((List Nat) × (List Nat))) : Option TImpl_Box := (iter (p_Extend_l5 a0 y1) F ((0 : Int), g8.1, g8.2)).bind fun o => aft o some (p_Extend_k2 a1 F y1)
def p_Extend_l6 (y4 : Int) (K55 : (Int × (List Nat) × (List Nat)) → Option (Sum ((List Nat) × (List Nat)) TImpl_Box)) (g54 : (Int × (List Nat) × (List Nat))) : Option (Sum ((List Nat) × (List Nat)) TImpl_Box) := (cond (decide (g54.1 < y4)) ((p_Inf (1 : Int)).bind fun y58 => (need (g54.2.1.length + [y58].length ≤ 4294967296) ((p_Inf (-1 : Int)).bind fun y61 => (need (g54.2.2.length + [y61].length ≤ 4294967296) (need (inI .i64 (g54.1 + (1 : Int))) (K55 ((g54.1 + (1 : Int)), (g54.2.1 ++ [y58]), (g54.2.2 ++ [y61])))))))) (some (Sum.inl (g54.2.1, g54.2.2))))
/-- pub-orthodrome/spec.Extend -/
def p_Extend (F : Nat) (a0 : TImpl_Box) (a1 : TImpl_Geom) : Option TImpl_Box := (p_BoxCover a0.Layout a1.Layout).bind fun y1 => ((p_Stride y1).bind fun y4 => ((iter (p_Extend_l6 y4) F ((0 : Int), [], [])).bind fun o => aft o some (p_Extend_k1 a0 a1 F y1)))

def p_SameBox_k2  (g5 : Unit) : Option Bool := some true
def p_SameBox_l3 (a0 : TImpl_Box) (a1 : TImpl_Box) (K7 : Int → Option (Sum Unit Bool)) (g6 : Int) : Option (Sum Unit Bool) := (cond (decide (g6 < ((a0.Min.length : Nat) : Int))) ((idx a0.Min g6).bind fun x10 => ((idx a1.Min g6).bind fun x12 => ((cond (!feq x10 x12) (some (Sum.inr false)) ((idx a0.Max g6).bind fun x15 => ((idx a1.Max g6).bind fun x17 => ((cond (!feq x15 x17) (some (Sum.inr false)) (need (inI .i64 (g6 + (1 : Int))) (K7 (g6 + (1 : Int)))))))))))) (some (Sum.inl ())))
def p_SameBox_k1 (a0 : TImpl_Box) (a1 : TImpl_Box) (F : Nat) (g1 : Bool) : Option Bool := (cond g1 (some false) ((iter (p_SameBox_l3 a0 a1) F (0 : Int)).bind fun o => aft o some p_SameBox_k2))
/-- pub-orthodrome/spec.SameBox -/
def p_SameBox (F : Nat) (a0 : TImpl_Box) (a1 : TImpl_Box) : Option Bool := (cond (!decide (a0.Layout = a1.Layout)) ((p_SameBox_k1 a0 a1 F) true) (cond (!decide (((a0.Min.length : Nat) : Int) = ((a1.Min.length : Nat) : Int))) ((p_SameBox_k1 a0 a1 F) true) (cond (!decide (((a0.Max.length : Nat) : Int) = ((a1.Max.length : Nat) : Int))) ((p_SameBox_k1 a0 a1 F) true) ((p_SameBox_k1 a0 a1 F) (!decide (((a0.Min.length : Nat) : Int) = ((a0.Max.length : Nat) : Int)))))))

def p_FnBoxExtendLayout_k1 (a0 : TImpl_Box) (a1 : Int) (F : Nat) (g4 : Bool) : Option Bool := (cond g4 (some true) ((p_BoxExtendLayout F a0 a1).bind fun y6 => ((cond y6.2 ((p_Extend F a0 (TImpl_Geom.mk (2 : Int) a1 (0 : Int) [] [] [] [])).bind fun y9 => ((p_SameBox F y6.1 y9).bind fun y11 => (some y11))) (some false)))))
/-- pub-orthodrome/laws.FnBoxExtendLayout -/
def p_FnBoxExtendLayout (F : Nat) (a0 : TImpl_Box) (a1 : Int) : Option Bool := (p_zzFits1 a0).bind fun y1 => ((cond (!y1) (some true) ((p_bBox F [a0]).bind fun y13 => ((cond (!y13) ((p_FnBoxExtendLayout_k1 a0 a1 F) true) (cond (decide ((4 : Int) < a0.Layout)) ((p_FnBoxExtendLayout_k1 a0 a1 F) true) (cond (decide (a1 < (1 : Int))) ((p_FnBoxExtendLayout_k1 a0 a1 F) true) ((p_FnBoxExtendLayout_k1 a0 a1 F) (decide ((4 : Int) < a1))))))))))

end Go.Proofs.Ythijpgkejnnjeaa.Wk
