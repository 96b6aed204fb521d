/- Printed: what functions of the program compute, as functions of Lean. No condition is laid on their arguments. -/
import Derived.Test.YtlafodjpnolmhaaPureKit
namespace Go.Proofs.Ytlafodjpnolmhaa.Wk
open Go.Vm
set_option linter.unusedVariables false
abbrev keS3 (x : Nat) : D := dfl x
abbrev eS3 (l : List Nat) : D := .ds 1 (l.map keS3)
abbrev keS2 (x : (List Nat)) : D := eS3 x
abbrev eS2 (l : List (List Nat)) : D := .ds 1 (l.map keS2)
abbrev keS1 (x : (List (List Nat))) : D := eS2 x
abbrev eS1 (l : List (List (List Nat))) : D := .ds 1 (l.map keS1)
abbrev keS0 (x : (List (List (List Nat)))) : D := eS1 x
abbrev eS0 (l : List (List (List (List Nat)))) : D := .ds 1 (l.map keS0)
abbrev keS4 (x : Int) : D := di .i64 x
abbrev eS4 (l : List Int) : D := .ds 1 (l.map keS4)
abbrev keS5 (x : (List Int)) : D := eS4 x
abbrev eS5 (l : List (List Int)) : D := .ds 1 (l.map keS5)
structure TImpl_Geom where
  mk ::
  (Kind : Int)
  (Layout : Int)
  (SRID : Int)
  (Flat : (List Nat))
  (Ends : (List Int))
  (Endss : (List (List Int)))
  (Kids : (List TImpl_Geom))
mutual
def c0_TImpl_Geom : TImpl_Geom → List D
  | .mk x0 x1 x2 x3 x4 x5 x6 => [di .i64 x0, di .i64 x1, di .i64 x2, eS3 x3, eS4 x4, eS5 x5, .ds 7 (cs_TImpl_Geom x6)]
def cs_TImpl_Geom : List TImpl_Geom → List D
  | [] => []
  | g :: r => c0_TImpl_Geom g ++ cs_TImpl_Geom r
end
theorem cs_TImpl_Geom_eq : ∀ l : List TImpl_Geom, cs_TImpl_Geom l = l.flatMap c0_TImpl_Geom
  | [] => by simp [cs_TImpl_Geom]
  | g :: r => by simp [cs_TImpl_Geom, cs_TImpl_Geom_eq r]
abbrev eS6 (l : List TImpl_Geom) : D := .ds 7 (l.flatMap c0_TImpl_Geom)
abbrev c_TImpl_Geom (x : TImpl_Geom) : List D := [di .i64 x.Kind, di .i64 x.Layout, di .i64 x.SRID, eS3 x.Flat, eS4 x.Ends, eS5 x.Endss, eS6 x.Kids]
abbrev e_TImpl_Geom (x : TImpl_Geom) : D := .ag (c_TImpl_Geom x)
theorem c0_TImpl_Geom_eq (x : TImpl_Geom) : c0_TImpl_Geom x = c_TImpl_Geom x := by cases x; simp only [c0_TImpl_Geom, cs_TImpl_Geom_eq]
theorem c0_TImpl_Geom_len (x : TImpl_Geom) : (c0_TImpl_Geom x).length = 7 := by rw [c0_TImpl_Geom_eq]; rfl
theorem c0_TImpl_Geom_one (x : TImpl_Geom) : (c0_TImpl_Geom x).all D.one = true := by rw [c0_TImpl_Geom_eq]; rfl
def p_zzFits4_k1  (g4 : Unit) : Option Bool := some true
def p_zzFits4_l2 (a0 : (List (List Nat))) (K6 : Int → Option (Sum Unit Bool)) (g5 : Int) : Option (Sum Unit Bool) := (cond (decide (g5 < ((a0.length : Nat) : Int))) ((idx a0 g5).bind fun x9 => ((cond (decide ((2147483647 : Int) < ((x9.length : Nat) : Int))) (some (Sum.inr false)) (need (inI .i64 (g5 + (1 : Int))) (K6 (g5 + (1 : Int))))))) (some (Sum.inl ())))
/-- pub-orthodrome/laws.zzFits4 -/
def p_zzFits4 (F : Nat) (a0 : (List (List Nat))) : Option Bool := (cond (decide ((2147483647 : Int) < ((a0.length : Nat) : Int))) (some false) ((iter (p_zzFits4_l2 a0) F (0 : Int)).bind fun o => aft o some p_zzFits4_k1))

def p_zzFits5_k1  (g4 : Unit) : Option Bool := some true
def p_zzFits5_l2 (a0 : (List (List (List Nat)))) (F : Nat) (K6 : Int → Option (Sum Unit Bool)) (g5 : Int) : Option (Sum Unit Bool) := (cond (decide (g5 < ((a0.length : Nat) : Int))) ((idx a0 g5).bind fun x9 => ((p_zzFits4 F x9).bind fun y11 => ((cond (!y11) (some (Sum.inr false)) (need (inI .i64 (g5 + (1 : Int))) (K6 (g5 + (1 : Int)))))))) (some (Sum.inl ())))
/-- pub-orthodrome/laws.zzFits5 -/
def p_zzFits5 (F : Nat) (a0 : (List (List (List Nat)))) : Option Bool := (cond (decide ((2147483647 : Int) < ((a0.length : Nat) : Int))) (some false) ((iter (p_zzFits5_l2 a0 F) F (0 : Int)).bind fun o => aft o some p_zzFits5_k1))

def p_zzFits6_k1  (g4 : Unit) : Option Bool := some true
def p_zzFits6_l2 (a0 : (List (List (List (List Nat))))) (F : Nat) (K6 : Int → Option (Sum Unit Bool)) (g5 : Int) : Option (Sum Unit Bool) := (cond (decide (g5 < ((a0.length : Nat) : Int))) ((idx a0 g5).bind fun x9 => ((p_zzFits5 F x9).bind fun y11 => ((cond (!y11) (some (Sum.inr false)) (need (inI .i64 (g5 + (1 : Int))) (K6 (g5 + (1 : Int)))))))) (some (Sum.inl ())))
/-- pub-orthodrome/laws.zzFits6 -/
def p_zzFits6 (F : Nat) (a0 : (List (List (List (List Nat))))) : Option Bool := (cond (decide ((2147483647 : Int) < ((a0.length : Nat) : Int))) (some false) ((iter (p_zzFits6_l2 a0 F) F (0 : Int)).bind fun o => aft o some p_zzFits6_k1))

def p_gCount_k1  (g3 : Int) : Option Int := some g3
def p_gCount_k3 (g4 : (Int × Int)) (K5 : (Int × Int) → Option (Sum Int Int)) (g13 : Int) : Option (Sum Int Int) := need (inI .i64 (g4.2 + (1 : Int))) (K5 (g13, (g4.2 + (1 : Int))))
def p_gCount_k5 (g15 : (Int × Int)) (K16 : (Int × Int) → Option (Sum Int Int)) (g24 : Int) : Option (Sum Int Int) := need (inI .i64 (g15.2 + (1 : Int))) (K16 (g24, (g15.2 + (1 : Int))))
def p_gCount_l6 (x19 : (List (List Nat))) (K27 : (Int × Int) → Option (Sum Int Int)) (g26 : (Int × Int)) : Option (Sum Int Int) := (cond (decide (g26.2 < ((x19.length : Nat) : Int))) ((idx x19 g26.2).bind fun x30 => (need (inI .i64 (g26.1 + ((x30.length : Nat) : Int))) (need (inI .i64 (g26.2 + (1 : Int))) (K27 ((g26.1 + ((x30.length : Nat) : Int)), (g26.2 + (1 : Int))))))) (some (Sum.inl g26.1)))
def p_gCount_l4 (F : Nat) (x8 : (List (List (List Nat)))) (K16 : (Int × Int) → Option (Sum Int Int)) (g15 : (Int × Int)) : Option (Sum Int Int) := (cond (decide (g15.2 < ((x8.length : Nat) : Int))) ((idx x8 g15.2).bind fun x19 => (need (inI .i64 (g15.1 + ((x19.length : Nat) : Int))) ((iter (p_gCount_l6 x19) F ((g15.1 + ((x19.length : Nat) : Int)), (0 : Int))).bind fun o => aft o (fun r => some (Sum.inr r)) (p_gCount_k5 g15 K16)))) (some (Sum.inl g15.1)))
def p_gCount_l2 (a0 : (List (List (List (List Nat))))) (F : Nat) (K5 : (Int × Int) → Option (Sum Int Int)) (g4 : (Int × Int)) : Option (Sum Int Int) := (cond (decide (g4.2 < ((a0.length : Nat) : Int))) ((idx a0 g4.2).bind fun x8 => (need (inI .i64 (g4.1 + ((x8.length : Nat) : Int))) ((iter (p_gCount_l4 F x8) F ((g4.1 + ((x8.length : Nat) : Int)), (0 : Int))).bind fun o => aft o (fun r => some (Sum.inr r)) (p_gCount_k3 g4 K5)))) (some (Sum.inl g4.1)))
/-- pub-orthodrome/laws.gCount -/
def p_gCount (F : Nat) (a0 : (List (List (List (List Nat))))) : Option Int := (iter (p_gCount_l2 a0 F) F (((a0.length : Nat) : Int), (0 : Int))).bind fun o => aft o some p_gCount_k1

/-- pub-orthodrome/spec.Stride -/
def p_Stride (a0 : Int) : Option Int := (cond (decide (a0 < (1 : Int))) (some (0 : Int)) (cond (decide (a0 = (1 : Int))) (some (2 : Int)) (cond (decide (a0 = (2 : Int))) (some (3 : Int)) (cond (decide (a0 = (3 : Int))) (some (3 : Int)) (some a0)))))

def p_gFlat_k1  (g3 : (Bool × (List Nat) × (List Int))) : Option ((List Nat) × (List Int) × Bool) := some (g3.2.1, g3.2.2, g3.1)
def p_gFlat_k3 (a1 : Bool) (g4 : (Bool × Int × (List Nat) × (List Int))) (K5 : (Bool × Int × (List Nat) × (List Int)) → Option (Sum (Bool × (List Nat) × (List Int)) ((List Nat) × (List Int) × Bool))) (x8 : (List Nat)) (g10 : Bool) : Option (Sum (Bool × (List Nat) × (List Int)) ((List Nat) × (List Int) × Bool)) := need (g4.2.2.1.length + x8.length ≤ 4294967296) ((cond a1 (need (g4.2.2.2.length + [(((g4.2.2.1 ++ x8).length : Nat) : Int)].length ≤ 4294967296) (need (inI .i64 (g4.2.1 + (1 : Int))) (K5 (g10, (g4.2.1 + (1 : Int)), (g4.2.2.1 ++ x8), (g4.2.2.2 ++ [(((g4.2.2.1 ++ x8).length : Nat) : Int)]))))) (need (inI .i64 (g4.2.1 + (1 : Int))) (K5 (g10, (g4.2.1 + (1 : Int)), (g4.2.2.1 ++ x8), g4.2.2.2)))))
def p_gFlat_l2 (a0 : Int) (a1 : Bool) (a2 : (List (List Nat))) (K5 : (Bool × Int × (List Nat) × (List Int)) → Option (Sum (Bool × (List Nat) × (List Int)) ((List Nat) × (List Int) × Bool))) (g4 : (Bool × Int × (List Nat) × (List Int))) : Option (Sum (Bool × (List Nat) × (List Int)) ((List Nat) × (List Int) × Bool)) := (cond (decide (g4.2.1 < ((a2.length : Nat) : Int))) ((idx a2 g4.2.1).bind fun x8 => ((cond g4.1 ((p_Stride a0).bind fun y17 => ((cond (decide (((x8.length : Nat) : Int) = y17)) ((p_gFlat_k3 a1 g4 K5 x8) true) (cond a1 (need (neO (some x8) = true) ((p_gFlat_k3 a1 g4 K5 x8) (((some x8)).isNone))) ((p_gFlat_k3 a1 g4 K5 x8) false))))) ((p_gFlat_k3 a1 g4 K5 x8) false)))) (some (Sum.inl (g4.1, g4.2.2.1, g4.2.2.2))))
/-- pub-orthodrome/laws.gFlat -/
def p_gFlat (F : Nat) (a0 : Int) (a1 : Bool) (a2 : (List (List Nat))) : Option ((List Nat) × (List Int) × Bool) := (iter (p_gFlat_l2 a0 a1 a2) F (true, (0 : Int), [], [])).bind fun o => aft o some p_gFlat_k1

def p_gFlats_k1  (g3 : (Bool × (List Nat) × (List Int))) : Option ((List Nat) × (List Int) × Bool) := some (g3.2.1, g3.2.2, g3.1)
def p_gFlats_k3 (a1 : Int) (g4 : (Bool × Int × (List Nat) × (List Int))) (K5 : (Bool × Int × (List Nat) × (List Int)) → Option (Sum (Bool × (List Nat) × (List Int)) ((List Nat) × (List Int) × Bool))) (g12 : (Bool × (List Nat))) : Option (Sum (Bool × (List Nat) × (List Int)) ((List Nat) × (List Int) × Bool)) := need (inI .i64 (a1 + ((g12.2.length : Nat) : Int))) (need (g4.2.2.2.length + [(a1 + ((g12.2.length : Nat) : Int))].length ≤ 4294967296) (need (inI .i64 (g4.2.1 + (1 : Int))) (K5 (g12.1, (g4.2.1 + (1 : Int)), g12.2, (g4.2.2.2 ++ [(a1 + ((g12.2.length : Nat) : Int))])))))
def p_gFlats_l2 (a0 : Int) (a1 : Int) (a2 : (List (List (List Nat)))) (F : Nat) (K5 : (Bool × Int × (List Nat) × (List Int)) → Option (Sum (Bool × (List Nat) × (List Int)) ((List Nat) × (List Int) × Bool))) (g4 : (Bool × Int × (List Nat) × (List Int))) : Option (Sum (Bool × (List Nat) × (List Int)) ((List Nat) × (List Int) × Bool)) := (cond (decide (g4.2.1 < ((a2.length : Nat) : Int))) ((idx a2 g4.2.1).bind fun x8 => ((p_gFlat F a0 false x8).bind fun y10 => (need (g4.2.2.1.length + y10.1.length ≤ 4294967296) ((cond g4.1 ((p_gFlats_k3 a1 g4 K5) (y10.2.2, (g4.2.2.1 ++ y10.1))) ((p_gFlats_k3 a1 g4 K5) (false, (g4.2.2.1 ++ y10.1)))))))) (some (Sum.inl (g4.1, g4.2.2.1, g4.2.2.2))))
/-- pub-orthodrome/laws.gFlats -/
def p_gFlats (F : Nat) (a0 : Int) (a1 : Int) (a2 : (List (List (List Nat)))) : Option ((List Nat) × (List Int) × Bool) := (iter (p_gFlats_l2 a0 a1 a2 F) F (true, (0 : Int), [], [])).bind fun o => aft o some p_gFlats_k1

/-- (pub-orthodrome/pub/gogeom.Layout).Stride -/
def p_Layout_Stride (a0 : Int) : Option Int := (cond (decide (a0 = (0 : Int))) (some (0 : Int)) (cond (decide (a0 = (1 : Int))) (some (2 : Int)) (cond (decide (a0 = (2 : Int))) (some (3 : Int)) (cond (decide (a0 = (3 : Int))) (some (3 : Int)) (cond (decide (a0 = (4 : Int))) (some (4 : Int)) (some a0))))))

/-- pub-orthodrome/impl.floats -/
def p_floats (a0 : (List Nat)) : Option (List Nat) := need (a0.length ≤ 4294967296) (some a0)

def p_coords1_k1  (g3 : (List (List Nat))) : Option (List (List Nat)) := some g3
def p_coords1_l2 (a0 : (List (List Nat))) (K5 : (Int × (List (List Nat))) → Option (Sum (List (List Nat)) (List (List Nat)))) (g4 : (Int × (List (List Nat)))) : Option (Sum (List (List Nat)) (List (List Nat))) := (cond (decide (g4.1 < ((a0.length : Nat) : Int))) ((idx a0 g4.1).bind fun x8 => ((p_floats x8).bind fun y10 => (need (g4.2.length + [y10].length ≤ 4294967296) (need (inI .i64 (g4.1 + (1 : Int))) (K5 ((g4.1 + (1 : Int)), (g4.2 ++ [y10]))))))) (some (Sum.inl g4.2)))
/-- pub-orthodrome/impl.coords1 -/
def p_coords1 (F : Nat) (a0 : (List (List Nat))) : Option (List (List Nat)) := (iter (p_coords1_l2 a0) F ((0 : Int), [])).bind fun o => aft o some p_coords1_k1

def p_coords2_k1  (g3 : (List (List (List Nat)))) : Option (List (List (List Nat))) := some g3
def p_coords2_l2 (a0 : (List (List (List Nat)))) (F : Nat) (K5 : (Int × (List (List (List Nat)))) → Option (Sum (List (List (List Nat))) (List (List (List Nat))))) (g4 : (Int × (List (List (List Nat))))) : Option (Sum (List (List (List Nat))) (List (List (List Nat)))) := (cond (decide (g4.1 < ((a0.length : Nat) : Int))) ((idx a0 g4.1).bind fun x8 => ((p_coords1 F x8).bind fun y10 => (need (g4.2.length + [y10].length ≤ 4294967296) (need (inI .i64 (g4.1 + (1 : Int))) (K5 ((g4.1 + (1 : Int)), (g4.2 ++ [y10]))))))) (some (Sum.inl g4.2)))
/-- pub-orthodrome/impl.coords2 -/
def p_coords2 (F : Nat) (a0 : (List (List (List Nat)))) : Option (List (List (List Nat))) := (iter (p_coords2_l2 a0 F) F ((0 : Int), [])).bind fun o => aft o some p_coords2_k1

def p_coords3_k1  (g3 : (List (List (List (List Nat))))) : Option (List (List (List (List Nat)))) := some g3
def p_coords3_l2 (a0 : (List (List (List (List Nat))))) (F : Nat) (K5 : (Int × (List (List (List (List Nat))))) → Option (Sum (List (List (List (List Nat)))) (List (List (List (List Nat)))))) (g4 : (Int × (List (List (List (List Nat)))))) : Option (Sum (List (List (List (List Nat)))) (List (List (List (List Nat))))) := (cond (decide (g4.1 < ((a0.length : Nat) : Int))) ((idx a0 g4.1).bind fun x8 => ((p_coords2 F x8).bind fun y10 => (need (g4.2.length + [y10].length ≤ 4294967296) (need (inI .i64 (g4.1 + (1 : Int))) (K5 ((g4.1 + (1 : Int)), (g4.2 ++ [y10]))))))) (some (Sum.inl g4.2)))
/-- pub-orthodrome/impl.coords3 -/
def p_coords3 (F : Nat) (a0 : (List (List (List (List Nat))))) : Option (List (List (List (List Nat)))) := (iter (p_coords3_l2 a0 F) F ((0 : Int), [])).bind fun o => aft o some p_coords3_k1

/-- pub-orthodrome/impl.ints -/
def p_ints (a0 : (List Int)) : Option (List Int) := need (a0.length ≤ 4294967296) (some a0)

def p_intss_k1  (g3 : (List (List Int))) : Option (List (List Int)) := some g3
def p_intss_l2 (a0 : (List (List Int))) (K5 : (Int × (List (List Int))) → Option (Sum (List (List Int)) (List (List Int)))) (g4 : (Int × (List (List Int)))) : Option (Sum (List (List Int)) (List (List Int))) := (cond (decide (g4.1 < ((a0.length : Nat) : Int))) ((idx a0 g4.1).bind fun x8 => ((p_ints x8).bind fun y10 => (need (g4.2.length + [y10].length ≤ 4294967296) (need (inI .i64 (g4.1 + (1 : Int))) (K5 ((g4.1 + (1 : Int)), (g4.2 ++ [y10]))))))) (some (Sum.inl g4.2)))
/-- pub-orthodrome/impl.intss -/
def p_intss (F : Nat) (a0 : (List (List Int))) : Option (List (List Int)) := (iter (p_intss_l2 a0) F ((0 : Int), [])).bind fun o => aft o some p_intss_k1

def p_SetAreas_k1 (a0 : Int) (F : Nat) (g12 : ((List Nat) × (List (List Int)))) : Option (TImpl_Geom × Bool) := (p_floats g12.1).bind fun y17 => ((p_ints []).bind fun y20 => ((p_intss F g12.2).bind fun y23 => (some ((TImpl_Geom.mk (6 : Int) a0 (0 : Int) y17 y20 y23 []), true))))
def p_SetAreas_k3 (g25 : (Int × (List Nat) × (List (List Int)))) (K26 : (Int × (List Nat) × (List (List Int))) → Option (Sum ((List Nat) × (List (List Int))) (TImpl_Geom × Bool))) (g34 : ((List Nat) × (List Int))) : Option (Sum ((List Nat) × (List (List Int))) (TImpl_Geom × Bool)) := need (g25.2.2.length + [g34.2].length ≤ 4294967296) (need (inI .i64 (g25.1 + (1 : Int))) (K26 ((g25.1 + (1 : Int)), g34.1, (g25.2.2 ++ [g34.2]))))
def p_SetAreas_k5 (g37 : (Int × (List Nat) × (List Int))) (K38 : (Int × (List Nat) × (List Int)) → Option (Sum ((List Nat) × (List Int)) (Sum ((List Nat) × (List (List Int))) (TImpl_Geom × Bool)))) (g46 : (List Nat)) : Option (Sum ((List Nat) × (List Int)) (Sum ((List Nat) × (List (List Int))) (TImpl_Geom × Bool))) := need (g37.2.2.length + [((g46.length : Nat) : Int)].length ≤ 4294967296) (need (inI .i64 (g37.1 + (1 : Int))) (K38 ((g37.1 + (1 : Int)), g46, (g37.2.2 ++ [((g46.length : Nat) : Int)]))))
def p_SetAreas_l6 (y3 : Int) (x41 : (List (List Nat))) (K50 : (Int × (List Nat)) → Option (Sum (List Nat) (Sum ((List Nat) × (List Int)) (Sum ((List Nat) × (List (List Int))) (TImpl_Geom × Bool))))) (g49 : (Int × (List Nat))) : Option (Sum (List Nat) (Sum ((List Nat) × (List Int)) (Sum ((List Nat) × (List (List Int))) (TImpl_Geom × Bool)))) := (cond (decide (g49.1 < ((x41.length : Nat) : Int))) ((idx x41 g49.1).bind fun x53 => ((cond (!decide (((x53.length : Nat) : Int) = y3)) ((((some ((TImpl_Geom.mk (0 : Int) (0 : Int) (0 : Int) [] [] [] []), false)).bind fun r_ => some (Sum.inr r_)).bind fun r_ => some (Sum.inr r_)).bind fun r_ => some (Sum.inr r_)) (need (g49.2.length + x53.length ≤ 4294967296) (need (inI .i64 (g49.1 + (1 : Int))) (K50 ((g49.1 + (1 : Int)), (g49.2 ++ x53)))))))) (some (Sum.inl g49.2)))
def p_SetAreas_l4 (F : Nat) (y3 : Int) (x29 : (List (List (List Nat)))) (K38 : (Int × (List Nat) × (List Int)) → Option (Sum ((List Nat) × (List Int)) (Sum ((List Nat) × (List (List Int))) (TImpl_Geom × Bool)))) (g37 : (Int × (List Nat) × (List Int))) : Option (Sum ((List Nat) × (List Int)) (Sum ((List Nat) × (List (List Int))) (TImpl_Geom × Bool))) := (cond (decide (g37.1 < ((x29.length : Nat) : Int))) ((idx x29 g37.1).bind fun x41 => ((iter (p_SetAreas_l6 y3 x41) F ((0 : Int), g37.2.1)).bind fun o => aft o some (p_SetAreas_k5 g37 K38))) (some (Sum.inl (g37.2.1, g37.2.2))))
def p_SetAreas_l2 (F : Nat) (y3 : Int) (y5 : (List (List (List (List Nat))))) (K26 : (Int × (List Nat) × (List (List Int))) → Option (Sum ((List Nat) × (List (List Int))) (TImpl_Geom × Bool))) (g25 : (Int × (List Nat) × (List (List Int)))) : Option (Sum ((List Nat) × (List (List Int))) (TImpl_Geom × Bool)) := (cond (decide (g25.1 < ((y5.length : Nat) : Int))) ((idx y5 g25.1).bind fun x29 => ((iter (p_SetAreas_l4 F y3 x29) F ((0 : Int), g25.2.1, [])).bind fun o => aft o some (p_SetAreas_k3 g25 K26))) (some (Sum.inl (g25.2.1, g25.2.2))))
/-- pub-orthodrome/impl.SetAreas -/
def p_SetAreas (F : Nat) (a0 : Int) (a1 : (List (List (List (List Nat))))) : Option (TImpl_Geom × Bool) := (p_Layout_Stride a0).bind fun y3 => ((p_coords3 F a1).bind fun y5 => ((iter (p_SetAreas_l2 F y3 y5) F ((0 : Int), [], [])).bind fun o => aft o some (p_SetAreas_k1 a0 F)))

def p_SameFloats_k1  (g4 : Unit) : Option Bool := some true
def p_SameFloats_l2 (a0 : (List Nat)) (a1 : (List Nat)) (K6 : Int → Option (Sum Unit Bool)) (g5 : Int) : Option (Sum Unit Bool) := (cond (decide (g5 < ((a0.length : Nat) : Int))) ((idx a0 g5).bind fun x9 => ((idx a1 g5).bind fun x11 => ((cond (!decide (((x9 : Nat) : Int) = ((x11 : Nat) : Int))) (some (Sum.inr false)) (need (inI .i64 (g5 + (1 : Int))) (K6 (g5 + (1 : Int)))))))) (some (Sum.inl ())))
/-- pub-orthodrome/spec.SameFloats -/
def p_SameFloats (F : Nat) (a0 : (List Nat)) (a1 : (List Nat)) : Option Bool := (cond (!decide (((a0.length : Nat) : Int) = ((a1.length : Nat) : Int))) (some false) ((iter (p_SameFloats_l2 a0 a1) F (0 : Int)).bind fun o => aft o some p_SameFloats_k1))

def p_sameInts_k1  (g4 : Unit) : Option Bool := some true
def p_sameInts_l2 (a0 : (List Int)) (a1 : (List Int)) (K6 : Int → Option (Sum Unit Bool)) (g5 : Int) : Option (Sum Unit Bool) := (cond (decide (g5 < ((a0.length : Nat) : Int))) ((idx a0 g5).bind fun x9 => ((idx a1 g5).bind fun x11 => ((cond (!decide (x9 = x11)) (some (Sum.inr false)) (need (inI .i64 (g5 + (1 : Int))) (K6 (g5 + (1 : Int)))))))) (some (Sum.inl ())))
/-- pub-orthodrome/spec.sameInts -/
def p_sameInts (F : Nat) (a0 : (List Int)) (a1 : (List Int)) : Option Bool := (cond (!decide (((a0.length : Nat) : Int) = ((a1.length : Nat) : Int))) (some false) ((iter (p_sameInts_l2 a0 a1) F (0 : Int)).bind fun o => aft o some p_sameInts_k1))

def p_SameGeom_k3  (g8 : Unit) : Option Bool := some true
def p_SameGeom_l4 (a0 : TImpl_Geom) (a1 : TImpl_Geom) (Rec_ : TImpl_Geom → TImpl_Geom → Option Bool) (K10 : Int → Option (Sum Unit Bool)) (g9 : Int) : Option (Sum Unit Bool) := (cond (decide (g9 < ((a0.Kids.length : Nat) : Int))) ((idx a0.Kids g9).bind fun x13 => ((idx a1.Kids g9).bind fun x15 => ((Rec_ x13 x15).bind fun y17 => ((cond (!y17) (some (Sum.inr false)) (need (inI .i64 (g9 + (1 : Int))) (K10 (g9 + (1 : Int))))))))) (some (Sum.inl ())))
def p_SameGeom_k2 (a0 : TImpl_Geom) (a1 : TImpl_Geom) (F : Nat) (Rec_ : TImpl_Geom → TImpl_Geom → Option Bool) (g5 : Unit) : Option Bool := (iter (p_SameGeom_l4 a0 a1 Rec_) F (0 : Int)).bind fun o => aft o some p_SameGeom_k3
def p_SameGeom_l5 (a0 : TImpl_Geom) (a1 : TImpl_Geom) (F : Nat) (K22 : Int → Option (Sum Unit Bool)) (g21 : Int) : Option (Sum Unit Bool) := (cond (decide (g21 < ((a0.Endss.length : Nat) : Int))) ((idx a0.Endss g21).bind fun x25 => ((idx a1.Endss g21).bind fun x27 => ((p_sameInts F x25 x27).bind fun y29 => ((cond (!y29) (some (Sum.inr false)) (need (inI .i64 (g21 + (1 : Int))) (K22 (g21 + (1 : Int))))))))) (some (Sum.inl ())))
def p_SameGeom_k1 (a0 : TImpl_Geom) (a1 : TImpl_Geom) (F : Nat) (Rec_ : TImpl_Geom → TImpl_Geom → Option Bool) (g1 : Bool) : Option Bool := (cond g1 (some false) ((iter (p_SameGeom_l5 a0 a1 F) F (0 : Int)).bind fun o => aft o some (p_SameGeom_k2 a0 a1 F Rec_)))
/-- pub-orthodrome/spec.SameGeom -/
def p_SameGeom_b (Rec_ : TImpl_Geom → TImpl_Geom → Option Bool) (F : Nat) (a0 : TImpl_Geom) (a1 : TImpl_Geom) : Option Bool := (cond (!decide (a0.Kind = a1.Kind)) ((p_SameGeom_k1 a0 a1 F Rec_) true) (cond (!decide (a0.Layout = a1.Layout)) ((p_SameGeom_k1 a0 a1 F Rec_) true) (cond (!decide (a0.SRID = a1.SRID)) ((p_SameGeom_k1 a0 a1 F Rec_) true) ((p_SameFloats F a0.Flat a1.Flat).bind fun y36 => ((cond (!y36) ((p_SameGeom_k1 a0 a1 F Rec_) true) ((p_sameInts F a0.Ends a1.Ends).bind fun y39 => ((cond (!y39) ((p_SameGeom_k1 a0 a1 F Rec_) true) (cond (!decide (((a0.Endss.length : Nat) : Int) = ((a1.Endss.length : Nat) : Int))) ((p_SameGeom_k1 a0 a1 F Rec_) true) ((p_SameGeom_k1 a0 a1 F Rec_) (!decide (((a0.Kids.length : Nat) : Int) = ((a1.Kids.length : Nat) : Int))))))))))))))
def p_SameGeom : Nat → TImpl_Geom → TImpl_Geom → Option Bool
  | 0, _, _ => none
  | F + 1, a0, a1 => p_SameGeom_b (fun a0 a1 => p_SameGeom F a0 a1) F a0 a1

def p_FnSetAreas_k2 (a0 : Int) (a1 : (List (List (List (List Nat))))) (F : Nat) (g8 : (Bool × (List Nat) × (List (List Int)))) : Option Bool := (p_SetAreas F a0 a1).bind fun y9 => ((p_SetAreas F (1 : Int) [[[[(4607182418800017408 : Nat), (4611686018427387904 : Nat)]]]]).bind fun y11 => ((cond y11.2 (cond (y9.2 == g8.1) (cond (!y9.2) (some true) ((p_SameGeom F y9.1 (TImpl_Geom.mk (6 : Int) a0 (0 : Int) g8.2.1 [] g8.2.2 [])).bind fun y16 => (some y16))) (some false)) (some false))))
def p_FnSetAreas_k4 (a0 : Int) (F : Nat) (g18 : (Bool × Int × (List Nat) × (List (List Int)))) (K19 : (Bool × Int × (List Nat) × (List (List Int))) → Option (Sum (Bool × (List Nat) × (List (List Int))) Bool)) (x22 : (List (List (List Nat)))) (g26 : Unit) : Option (Sum (Bool × (List Nat) × (List (List Int))) Bool) := (p_gFlats F a0 ((g18.2.2.1.length : Nat) : Int) x22).bind fun y27 => ((cond g18.1 (need (g18.2.2.1.length + y27.1.length ≤ 4294967296) (need (g18.2.2.2.length + [y27.2.1].length ≤ 4294967296) (need (inI .i64 (g18.2.1 + (1 : Int))) (K19 (y27.2.2, (g18.2.1 + (1 : Int)), (g18.2.2.1 ++ y27.1), (g18.2.2.2 ++ [y27.2.1])))))) (need (g18.2.2.1.length + y27.1.length ≤ 4294967296) (need (g18.2.2.2.length + [y27.2.1].length ≤ 4294967296) (need (inI .i64 (g18.2.1 + (1 : Int))) (K19 (false, (g18.2.1 + (1 : Int)), (g18.2.2.1 ++ y27.1), (g18.2.2.2 ++ [y27.2.1]))))))))
def p_FnSetAreas_k6 (g36 : Int) (K37 : Int → Option (Sum Unit Bool)) (g44 : Unit) : Option (Sum Unit Bool) := need (inI .i64 (g36 + (1 : Int))) (K37 (g36 + (1 : Int)))
def p_FnSetAreas_l7 (x40 : (List (List Nat))) (K47 : Int → Option (Sum Unit Bool)) (g46 : Int) : Option (Sum Unit Bool) := (cond (decide (g46 < ((x40.length : Nat) : Int))) ((idx x40 g46).bind fun x50 => ((cond (decide (((x50.length : Nat) : Int) = (0 : Int))) (some (Sum.inr true)) (need (inI .i64 (g46 + (1 : Int))) (K47 (g46 + (1 : Int))))))) (some (Sum.inl ())))
def p_FnSetAreas_l5 (F : Nat) (x22 : (List (List (List Nat)))) (K37 : Int → Option (Sum Unit Bool)) (g36 : Int) : Option (Sum Unit Bool) := (cond (decide (g36 < ((x22.length : Nat) : Int))) ((idx x22 g36).bind fun x40 => ((iter (p_FnSetAreas_l7 x40) F (0 : Int)).bind fun o => aft o (fun r => some (Sum.inr r)) (p_FnSetAreas_k6 g36 K37))) (some (Sum.inl ())))
def p_FnSetAreas_l3 (a0 : Int) (a1 : (List (List (List (List Nat))))) (F : Nat) (K19 : (Bool × Int × (List Nat) × (List (List Int))) → Option (Sum (Bool × (List Nat) × (List (List Int))) Bool)) (g18 : (Bool × Int × (List Nat) × (List (List Int)))) : Option (Sum (Bool × (List Nat) × (List (List Int))) Bool) := (cond (decide (g18.2.1 < ((a1.length : Nat) : Int))) ((idx a1 g18.2.1).bind fun x22 => ((iter (p_FnSetAreas_l5 F x22) F (0 : Int)).bind fun o => aft o (fun r => some (Sum.inr r)) (p_FnSetAreas_k4 a0 F g18 K19 x22))) (some (Sum.inl (g18.1, g18.2.2.1, g18.2.2.2))))
def p_FnSetAreas_k1 (a0 : Int) (a1 : (List (List (List (List Nat))))) (F : Nat) (g4 : Bool) : Option Bool := (cond g4 (some true) ((iter (p_FnSetAreas_l3 a0 a1 F) F (true, (0 : Int), [], [])).bind fun o => aft o some (p_FnSetAreas_k2 a0 a1 F)))
/-- pub-orthodrome/laws.FnSetAreas -/
def p_FnSetAreas (F : Nat) (a0 : Int) (a1 : (List (List (List (List Nat))))) : Option Bool := (p_zzFits6 F a1).bind fun y1 => ((cond (!y1) (some true) (cond (decide (a0 < (1 : Int))) ((p_FnSetAreas_k1 a0 a1 F) true) (cond (decide ((9 : Int) < a0)) ((p_FnSetAreas_k1 a0 a1 F) true) ((p_gCount F a1).bind fun y56 => ((p_FnSetAreas_k1 a0 a1 F) (decide ((2000 : Int) < y56))))))))

end Go.Proofs.Ytlafodjpnolmhaa.Wk
