/- Truncation of what may be no number; calls of functions without a Go body that draw. -/
import Derived.Test.YtbgdonedjgkhiaaFltDy
import Derived.Test.YtbgdonedjgkhiaaFltOk
import Derived.Test.YtbgdonedjgkhiaaVmMore
set_option linter.unusedVariables false
set_option linter.unusedSimpArgs false
namespace Flt
open Go Ieee Go.Vm
def isNan (x : Nat) : Bool := (FloatKind.f64.decode x).isNaN
/-- Truncated, if it is a number. -/
def truncN (x : Nat) : Nat := bif isNan x then x else truncD x
/-- z is what truncation may give. -/
def TruncR (x z : Nat) : Prop := (isNan x = false → z = truncD x) ∧ (isNan x = true → isNan z = true)
theorem truncN_of {x : Nat} (h : isNan x = false) : truncN x = truncD x := by unfold truncN; rw [h]; rfl
theorem order_nan {x y : Nat} (h : isNan y = true) : FloatKind.f64.format.order x y = none := by
  unfold isNan at h
  have h' : (double.read y).isNaN = true := h
  unfold Ieee.Format.order
  show Ieee.Datum.order (double.read x) (double.read y) = none
  generalize double.read y = d at *
  generalize double.read x = c
  cases d with
  | nan s t => cases c <;> rfl
  | number s m e => cases h'
  | infinity s => cases h'
theorem order_nan' {x y : Nat} (h : isNan x = true) : FloatKind.f64.format.order x y = none := by
  unfold isNan at h
  have h' : (double.read x).isNaN = true := h
  unfold Ieee.Format.order
  show Ieee.Datum.order (double.read x) (double.read y) = none
  generalize double.read x = d at *
  generalize double.read y = c
  cases d with
  | nan s t => cases c <;> rfl
  | number s m e => cases h'
  | infinity s => cases h'
theorem TruncR.order {x z : Nat} (h : TruncR x z) (y : Nat) : FloatKind.f64.format.order y z = FloatKind.f64.format.order y (truncN x) := by
  cases hx : isNan x with
  | false => rw [h.1 hx, truncN_of hx]
  | true => rw [order_nan (h.2 hx), order_nan (by unfold truncN; rw [hx]; exact hx)]
theorem TruncR.order' {x z : Nat} (h : TruncR x z) (y : Nat) : FloatKind.f64.format.order z y = FloatKind.f64.format.order (truncN x) y := by
  cases hx : isNan x with
  | false => rw [h.1 hx, truncN_of hx]
  | true => rw [order_nan' (h.2 hx), order_nan' (by unfold truncN; rw [hx]; exact hx)]
theorem TruncR.feq {x z : Nat} (h : TruncR x z) (y : Nat) : feq y z = feq y (truncN x) := by unfold Vm.feq; exact congrArg (· == some Ordering.eq) (h.order y)
theorem TruncR.feq' {x z : Nat} (h : TruncR x z) (y : Nat) : Vm.feq z y = Vm.feq (truncN x) y := by unfold Vm.feq; exact congrArg (· == some Ordering.eq) (h.order' y)
theorem quiet_nan (s : Bool) (t : Nat) : isNan (FloatKind.f64.encode (.nan s (FloatKind.f64.format.quiet t))) = true := by
  show (double.read (double.write (.nan s (double.quiet t)))).isNaN = true
  have e1 : double.write (.nan s (double.quiet t)) = (if s then 9223372036854775808 + (9218868437227405312 + (t ||| 2251799813685248) % 4503599627370496) else 9218868437227405312 + (t ||| 2251799813685248) % 4503599627370496) := rfl
  have hr : 0 < (t ||| 2251799813685248) % 4503599627370496 := by
    have : ((t ||| 2251799813685248) % 4503599627370496).testBit 51 = true := by
      rw [show (4503599627370496 : Nat) = 2 ^ 52 from by decide, Nat.testBit_mod_two_pow, Nat.testBit_or]
      have : (2251799813685248 : Nat).testBit 51 = true := by decide
      simp [this]
    rcases Nat.eq_zero_or_pos ((t ||| 2251799813685248) % 4503599627370496) with h | h
    · rw [h] at this; simp at this
    · exact h
  have hl : (t ||| 2251799813685248) % 4503599627370496 < 4503599627370496 := Nat.mod_lt _ (by omega)
  generalize (t ||| 2251799813685248) % 4503599627370496 = r at *
  have e2 : (double.write (.nan s (double.quiet t))) % 9223372036854775808 = 9218868437227405312 + r := by
    rw [e1]; cases s
    · rw [if_neg (by simp)]; omega
    · rw [if_pos rfl]; omega
  have h3 : ∀ w : Nat, w % 9223372036854775808 = 9218868437227405312 + r → (double.read w).isNaN = true := fun w hw => by
    unfold Ieee.Format.read
    have f1 : double.signWeight = 9223372036854775808 := by decide
    have f2 : double.binade = 4503599627370496 := by decide
    have f3 : double.infRung = 9218868437227405312 := by decide
    simp only [f1, f2, f3, hw]
    rw [if_neg (by omega), if_neg (by omega), if_neg (by omega)]
    rfl
  exact h3 _ e2
def truncS (x : Nat) (d : Ieee.Datum) : Sem Value :=
  match d with
  | .nan s t =>
    if FloatKind.f64.format.quiet t = t then pure (.float .f64 x) else do
      let kept ← choose (.extern "math.Floor,Ceil,Trunc,RoundToEven.signallingNaN kept" 2)
      pure (.float .f64 (if kept == 1 then x else FloatKind.f64.encode (.nan s (FloatKind.f64.format.quiet t))))
  | d => pure (.float .f64 (FloatKind.f64.encode (d.integral .zero)))
theorem run_truncA (P : Program) (x : Nat) (h : isNan x = true) (w : World) : ∃ r w', (Extern.MathFloor.toIntegral "math.archTrunc" .zero #[.float .f64 x]).run P w = .ok r w' ∧ (w' = w ∨ w' = w.drew) ∧ ∃ z, r = .float .f64 z ∧ isNan z = true := by
  have e : Extern.MathFloor.toIntegral "math.archTrunc" .zero #[.float .f64 x] = truncS x (FloatKind.f64.decode x) := rfl
  rw [e]
  have hx := h
  unfold isNan at h
  generalize FloatKind.f64.decode x = d at *
  cases d with
  | number s m e => cases h
  | infinity s => cases h
  | nan s t =>
    unfold truncS
    simp only
    split
    · exact ⟨_, w, rfl, .inl rfl, x, rfl, hx⟩
    · have hq := quiet_nan s t
      simp only [Sem.run_bind, run_choose_drew]
      split
      · exact ⟨_, _, rfl, .inl rfl, _, rfl, by split <;> assumption⟩
      · exact ⟨_, _, rfl, .inr rfl, _, rfl, by split <;> assumption⟩
end Flt
namespace Go.Vm
section
variable {C : Ctx} {Q : Exit → St → Prop} {ops : Array Oper} {rest : List Oper} {o : Oper} {e : List (Nat × SV)} {obs : List Ob} {d : Nat}
/-- A function without a Go body that may draw. -/
theorem AOp.callXA {R : Value → Prop} {f : FuncId} {xs : List Operand} {ts : Array TypeId} (vals : List Value) (ho : o.op = .call { callee := .value (.func f), args := xs.toArray, argTypes := ts }) (hd : o.dst = some d) (hn : d < C.n)
    (hx : mapO (argD ⟨e, obs⟩) xs = some (vals.map .v)) (hrun : ∀ w, ∃ r w', (callFunc f vals.toArray).run C.P w = .ok (.value r) w' ∧ (w' = w ∨ w' = w.drew) ∧ R r) (h : ∀ r, R r → AO C ops rest ⟨(d, .d (.v r)) :: e, obs⟩ Q) : AOp C ops rest o ⟨e, obs⟩ Q :=
  AOp.drawn (R := R) hd hn (fun Ω a w hr => by
    obtain ⟨hl, hi⟩ := mapO_get hx
    obtain ⟨r, w', h1, h2, h3⟩ := hrun w
    refine ⟨r, w', ?_, h2, h3⟩
    have : xs.map a.eval = vals := by
      apply List.ext_getElem?
      intro i
      rw [List.getElem?_map]
      rcases Nat.lt_or_ge i xs.length with hlt | hge
      · have h1 : xs[i]? = some xs[i] := List.getElem?_eq_getElem hlt
        have h2 : vals[i]? = some (vals[i]'(by simp at hl; omega)) := List.getElem?_eq_getElem _
        have := hi i _ (.v (vals[i]'(by simp at hl; omega))) h1 (by rw [List.getElem?_map, h2]; rfl)
        unfold argD at this
        split at this
        · rename_i z hz
          rw [h1, h2]
          have hd := dataS_rep 9 this (hr.eval hz)
          exact congrArg some hd.valv
        · cases this
      · rw [List.getElem?_eq_none hge, List.getElem?_eq_none (by simp at hl; omega)]; rfl
    simp only [execOp, ho, resolve, Act.eval, Deferred.ofValue, Sem.run_bind, Sem.run_pure, Result.andThen_ok, invoke, Array.empty_append, Array.append_empty, List.map_toArray, this, h1]) h
end
end Go.Vm
