/- Floats that may be no numbers: arithmetic leaves the result open; what is finite. -/
import Derived.Test.YtbgdonedjgkhiaaVmDraw2
set_option linter.unusedVariables false
set_option linter.unusedSimpArgs false
namespace Flt
open Go Go.Vm Ieee
def nanB (r : Nat) : Prop := (double.read r).isNaN = true
theorem nan_word (t : Nat) : nanB ((t % 2) * 2 ^ 63 + 0x7ff0000000000000 + 1 + (t / 2) % (2 ^ 52 - 1)) := by
  unfold nanB Format.read
  rw [double_sw, double_bn, double_ir]
  have h1 : ((t % 2) * 2 ^ 63 + 0x7ff0000000000000 + 1 + (t / 2) % (2 ^ 52 - 1)) % 9223372036854775808 = 0x7ff0000000000000 + 1 + (t / 2) % (2 ^ 52 - 1) := by omega
  simp only [h1]
  rw [if_neg (by omega), if_neg (by omega), if_neg (by omega)]
  rfl
theorem feq_nan {r : Nat} (h : nanB r) (y : Nat) : feq r y = false := by
  unfold nanB at h
  show (double.order r y == some .eq) = false
  unfold Format.order
  generalize double.read r = a at *
  cases a with
  | nan => rfl
  | _ => cases h
/-- It is a number. -/
def isFin (x : Nat) : Bool := (V x).isSome
theorem isFin_V {x : Nat} (h : isFin x = true) : ∃ p, V x = some p := Option.isSome_iff_exists.1 h
theorem sub_self_none {x : Nat} (h : isFin x = false) : floatBits .sub .f64 x x = none := by
  show double.sub x x = none
  unfold isFin V at h
  unfold Format.sub
  generalize double.read x = a at *
  cases a with
  | nan => rfl
  | infinity s => cases s <;> rfl
  | number s m e => cases h
theorem sub_self_zero {x : Nat} (h : isFin x = true) : ∃ z, floatBits .sub .f64 x x = some z ∧ feq z 0 = true := by
  obtain ⟨p, hp⟩ := isFin_V h
  have e : p - p = ((0 : Int) : Rat) * 2 ^ (0 : Int) := by
    have : ((0 : Int) : Rat) = 0 := rfl
    rw [this]; grind
  obtain ⟨z, r, hz, hr, hR⟩ := sub_rnd hp hp (by rw [e]; exact ab_dy (by decide) (by omega))
  have := hR.exact 0 0 (by decide) (by omega) e
  refine ⟨z, hz, ?_⟩
  rw [feq_val hr zero_int, this, e]
  simp [zpow_zero']
end Flt
namespace Go.Vm
open Flt (nanB)
theorem run_arithA (P : Program) (op : BinOp) (hop : op = .add ∨ op = .sub ∨ op = .mul ∨ op = .quo) (t : TypeId) (x y : Nat) (w : World) :
    ∃ r w', (binOp op t (.float .f64 x) (.float .f64 y)).run P w = .ok (.float .f64 r) w' ∧ (w' = w ∨ w' = w.drew) ∧ (floatBits op .f64 x y = some r ∨ (floatBits op .f64 x y = none ∧ nanB r)) := by
  cases hb : floatBits op .f64 x y with
  | some r => exact ⟨r, w, run_float_arith w op t .f64 x y r hb, .inl rfl, .inl rfl⟩
  | none =>
    unfold floatBits at hb
    refine ⟨Question.cut (.nanBits .f64 x y) (w.tape w.drawn (.nanBits .f64 x y)), w.drew, ?_, .inr rfl, .inr ⟨rfl, ?_⟩⟩
    · rcases hop with rfl | rfl | rfl | rfl <;> simp only at hb <;> simp [binOp, Op.floatArith, hb, run_choose_drew, Question.forced]
    · exact Flt.nan_word _
section
variable {C : Ctx} {Q : Exit → St → Prop} {ops : Array Oper} {rest : List Oper} {o : Oper} {e : List (Nat × SV)} {obs : List Ob} {d : Nat} {t ty : TypeId} {x y : Operand}
theorem AOp.farithA {a b : Nat} {op : BinOp} (hop : op = .add ∨ op = .sub ∨ op = .mul ∨ op = .quo) (ho : o.op = .binOp op t x y ty) (hd : o.dst = some d) (hn : d < C.n) (hx : opS ⟨e, obs⟩ x = some (.d (dfl a))) (hy : opS ⟨e, obs⟩ y = some (.d (dfl b)))
    (h : ∀ r, (floatBits op .f64 a b = some r ∨ (floatBits op .f64 a b = none ∧ nanB r)) → AO C ops rest ⟨(d, .d (dfl r)) :: e, obs⟩ Q) : AOp C ops rest o ⟨e, obs⟩ Q :=
  AOp.drawn (R := fun v => ∃ r, v = .float .f64 r ∧ (floatBits op .f64 a b = some r ∨ (floatBits op .f64 a b = none ∧ nanB r))) hd hn (fun Ω a' w hr => by
    obtain ⟨r, w', h1, h2, h3⟩ := run_arithA C.P op hop t a b w
    have hg : eqGuard op t x y (.float .f64 a) (.float .f64 b) = pure () := by rcases hop with rfl | rfl | rfl | rfl <;> rfl
    exact ⟨.float .f64 r, w', by simp only [execOp, ho, hr.evalV hx, hr.evalV hy, hg, Sem.run_bind, Sem.run_pure, Result.andThen_ok, h1], h2, r, rfl, h3⟩) (fun v ⟨r, he, hr⟩ => by subst he; exact h r hr)
end
end Go.Vm
