/- Printed: what functions of the program compute, as functions of Lean. No condition is laid on their arguments. -/
import Derived.Test.YthodmgmachkglaaDoorPureKit
namespace Go.Proofs.YthodmgmachkglaaDoor.Wk
open Go.Vm
set_option linter.unusedVariables false

/-- math.IsNaN -/
def p_IsNaN (a0 : Nat) : Option Bool := some (!feq a0 a0)

/-- math.IsInf -/
def p_IsInf (a0 : Nat) (a1 : Int) : Option Bool := (cond (decide (a1 = (0 : Int))) (some (fgt (Flt.fabs a0) (9218868437227405311 : Nat))) (cond (decide (a1 < (0 : Int))) (some (fgt (fneg a0) (9218868437227405311 : Nat))) (some (fgt a0 (9218868437227405311 : Nat)))))

def p_sin_k5 (z23 : Nat) (g25 : (Bool × Int)) (z26 : Nat) (g28 : Bool) : Option Nat := (cond g28 ((floatBits .mul .f64 (4602678819172646912 : Nat) z26).bind fun z30 => ((floatBits .sub .f64 (4607182418800017408 : Nat) z30).bind fun z32 => ((floatBits .mul .f64 z26 z26).bind fun z34 => ((floatBits .mul .f64 (13666448263388469915 : Nat) z26).bind fun z36 => ((floatBits .add .f64 z36 (4477121864728985349 : Nat)).bind fun z38 => ((floatBits .mul .f64 z38 z26).bind fun z40 => ((floatBits .add .f64 z40 (13732177093698800582 : Nat)).bind fun z42 => ((floatBits .mul .f64 z42 z26).bind fun z44 => ((floatBits .add .f64 z44 (4537941361668146421 : Nat)).bind fun z46 => ((floatBits .mul .f64 z46 z26).bind fun z48 => ((floatBits .add .f64 z48 (13787419979223748497 : Nat)).bind fun z50 => ((floatBits .mul .f64 z50 z26).bind fun z52 => ((floatBits .add .f64 z52 (4586165620538955083 : Nat)).bind fun z54 => ((floatBits .mul .f64 z34 z54).bind fun z56 => ((floatBits .add .f64 z32 z56).bind fun z58 => ((cond g25.1 (some (fneg z58)) (some z58)))))))))))))))))) ((floatBits .mul .f64 z23 z26).bind fun z61 => ((floatBits .mul .f64 (4460209587652500685 : Nat) z26).bind fun z63 => ((floatBits .add .f64 z63 (13716528389658582877 : Nat)).bind fun z65 => ((floatBits .mul .f64 z65 z26).bind fun z67 => ((floatBits .add .f64 z67 (4523617212962785441 : Nat)).bind fun z69 => ((floatBits .mul .f64 z69 z26).bind fun z71 => ((floatBits .add .f64 z71 (13774824197404483331 : Nat)).bind fun z73 => ((floatBits .mul .f64 z73 z26).bind fun z75 => ((floatBits .add .f64 z75 (4575957461383575504 : Nat)).bind fun z77 => ((floatBits .mul .f64 z77 z26).bind fun z79 => ((floatBits .add .f64 z79 (13818544856648471880 : Nat)).bind fun z81 => ((floatBits .mul .f64 z61 z81).bind fun z83 => ((floatBits .add .f64 z23 z83).bind fun z85 => ((cond g25.1 (some (fneg z85)) (some z85)))))))))))))))))
def p_sin_k4 (z23 : Nat) (g25 : (Bool × Int)) : Option Nat := (floatBits .mul .f64 z23 z23).bind fun z26 => ((cond (decide (g25.2 = (1 : Int))) ((p_sin_k5 z23 g25 z26) true) ((p_sin_k5 z23 g25 z26) (decide (g25.2 = (2 : Int))))))
def p_sin_k3 (g6 : (Nat × Bool)) (g12 : (Int × Nat)) : Option Nat := (floatBits .mul .f64 g12.2 (4605249456957292544 : Nat)).bind fun z13 => ((floatBits .sub .f64 g6.1 z13).bind fun z15 => ((floatBits .mul .f64 g12.2 (4495793288086814720 : Nat)).bind fun z17 => ((floatBits .sub .f64 z15 z17).bind fun z19 => ((floatBits .mul .f64 g12.2 (4388835458085048688 : Nat)).bind fun z21 => ((floatBits .sub .f64 z19 z21).bind fun z23 => ((cond (decide ((3 : Int) < (bits .and .u64 g12.1 (7 : Int)))) (need (inI .u64 ((bits .and .u64 g12.1 (7 : Int)) - (4 : Int))) ((p_sin_k4 z23) ((!g6.2), ((bits .and .u64 g12.1 (7 : Int)) - (4 : Int))))) ((p_sin_k4 z23) (g6.2, (bits .and .u64 g12.1 (7 : Int)))))))))))
def p_sin_k2  (g6 : (Nat × Bool)) : Option Nat := (cond (fge g6.1 (4737786807993761792 : Nat)) none ((floatBits .mul .f64 g6.1 (4608412980311869571 : Nat)).bind fun z8 => ((floatToIntVal .f64 z8 .u64).bind fun z10 => ((cond (decide ((bits .and .u64 z10 (1 : Int)) = (1 : Int))) (need (inI .u64 (z10 + (1 : Int))) ((floatBits .add .f64 (ofInt z10) (4607182418800017408 : Nat)).bind fun z93 => ((p_sin_k3 g6) ((z10 + (1 : Int)), z93)))) ((p_sin_k3 g6) (z10, (ofInt z10))))))))
def p_sin_k1 (a0 : Nat) (g1 : Bool) : Option Nat := (cond g1 (some a0) ((p_IsInf a0 (0 : Int)).bind fun y3 => ((cond y3 none (cond (flt a0 (0 : Nat)) (p_sin_k2 ((fneg a0), true)) (p_sin_k2 (a0, false)))))))
/-- math.sin -/
def p_sin (a0 : Nat) : Option Nat := (cond (feq a0 (0 : Nat)) ((p_sin_k1 a0) true) ((p_IsNaN a0).bind fun y97 => ((p_sin_k1 a0) y97)))

/-- math.Sin -/
def p_Sin (a0 : Nat) : Option Nat := (p_sin a0).bind fun y1 => (some y1)

/-- pub-orthodrome/pub/gogeom/xy.AngleOrientation -/
def p_AngleOrientation_9 (a0 : Nat) (a1 : Nat) : Option Int := (floatBits .sub .f64 a1 a0).bind fun z1 => ((p_Sin z1).bind fun y3 => ((cond (fgt y3 (0 : Nat)) (some (1 : Int)) (cond (flt y3 (0 : Nat)) (some (-1 : Int)) (some (0 : Int))))))

/-- pub-orthodrome/impl.AngleOrientation -/
def p_AngleOrientation (a0 : Nat) (a1 : Nat) : Option Int := (p_AngleOrientation_9 a0 a1).bind fun y1 => (some y1)

def p_FnAngleOrientation_k1 (a0 : Nat) (a1 : Nat) (g1 : Bool) : Option Bool := (cond g1 (some true) ((p_AngleOrientation a0 a1).bind fun y3 => ((floatBits .sub .f64 a1 a0).bind fun z5 => ((p_Sin z5).bind fun y7 => ((cond (feq a0 a1) (some (decide (y3 = (0 : Int)))) (cond (fgt y7 (4517110426252607488 : Nat)) (some (decide (y3 = (1 : Int)))) (cond (flt y7 (13740482463107383296 : Nat)) (some (decide (y3 = (-1 : Int)))) (cond (decide ((-1 : Int) ≤ y3)) (some (decide (y3 ≤ (1 : Int)))) (some false))))))))))
/-- pub-orthodrome/laws.FnAngleOrientation -/
def p_FnAngleOrientation (a0 : Nat) (a1 : Nat) : Option Bool := (cond (fle (Flt.fabs a0) (4652007308841189376 : Nat)) ((p_FnAngleOrientation_k1 a0 a1) (!(fle (Flt.fabs a1) (4652007308841189376 : Nat)))) ((p_FnAngleOrientation_k1 a0 a1) (!false)))

end Go.Proofs.YthodmgmachkglaaDoor.Wk
