/- min and max of floats that are numbers. -/
import Derived.Test.YtbgdonedjgkhiaaFltOk
import Derived.Test.YtbgdonedjgkhiaaVmEq
namespace Flt
open Go Go.Vm Ieee
set_option linter.unusedVariables false
set_option linter.unusedSimpArgs false

def archP (neg : Bool) (win : Ordering) (x y : Nat) : Nat :=
  let a := FloatKind.f64.decode x
  let b := FloatKind.f64.decode y
  if a == .infinity neg || b == .infinity neg then FloatKind.f64.encode (.infinity neg)
  else if a.isNaN || b.isNaN then 0x7FF8000000000001
  else if a.isZero && b.isZero then (if a.neg == neg then x else y)
  else if a.order b == some win then x else y
def amin (x y : Nat) : Nat := archP true .lt x y
def amax (x y : Nat) : Nat := archP false .gt x y
theorem run_archMin (P : Program) (x y : Nat) (w : World) : (Extern.MathDim.pick "math.archMin" true .lt #[.float .f64 x, .float .f64 y]).run P w = .ok (.float .f64 (amin x y)) w := rfl
theorem run_archMax (P : Program) (x y : Nat) (w : World) : (Extern.MathDim.pick "math.archMax" false .gt #[.float .f64 x, .float .f64 y]).run P w = .ok (.float .f64 (amax x y)) w := rfl

theorem ord_some {x y : Nat} {p q : Rat} (hx : V x = some p) (hy : V y = some q) : (FloatKind.f64.format.order x y).isSome = true := by
  show (double.order x y).isSome = true
  rw [order_val hx hy]; rfl
theorem ord_cases {x y : Nat} {p q : Rat} (hx : V x = some p) (hy : V y = some q) :
    (p < q ∧ double.order x y = some .lt) ∨ (p = q ∧ double.order x y = some .eq) ∨ (q < p ∧ double.order x y = some .gt) := by
  have h1 := order_lt hx hy
  have h2 := order_eq hx hy
  have h3 := order_gt hx hy
  have hs := ord_some hx hy
  change (double.order x y).isSome = true at hs
  cases ho : double.order x y with
  | none => rw [ho] at hs; cases hs
  | some r =>
    rw [ho] at h1 h2 h3
    cases r
    · exact .inl ⟨of_decide_eq_true (h1.symm.trans (by rfl)), rfl⟩
    · exact .inr (.inl ⟨of_decide_eq_true (h2.symm.trans (by rfl)), rfl⟩)
    · exact .inr (.inr ⟨of_decide_eq_true (h3.symm.trans (by rfl)), rfl⟩)
def rmin (p q : Rat) : Rat := if p ≤ q then p else q
def rmax (p q : Rat) : Rat := if p ≤ q then q else p
theorem bmin_V {x y : Nat} {p q : Rat} (hx : V x = some p) (hy : V y = some q) : V (bmin x y) = some (rmin p q) := by
  unfold bmin rmin
  change V (match double.order x y with | some .lt => x | some .gt => y | _ => _) = _
  rcases ord_cases hx hy with ⟨h, ho⟩ | ⟨h, ho⟩ | ⟨h, ho⟩ <;> rw [ho] <;> dsimp only
  · rw [if_pos (by grind)]; exact hx
  · subst h; rw [ite_self]; split <;> assumption
  · rw [if_neg (by grind)]; exact hy
theorem bmax_V {x y : Nat} {p q : Rat} (hx : V x = some p) (hy : V y = some q) : V (bmax x y) = some (rmax p q) := by
  unfold bmax rmax
  change V (match double.order x y with | some .lt => y | some .gt => x | _ => _) = _
  rcases ord_cases hx hy with ⟨h, ho⟩ | ⟨h, ho⟩ | ⟨h, ho⟩ <;> rw [ho] <;> dsimp only
  · rw [if_pos (by grind)]; exact hy
  · subst h; rw [ite_self]; split <;> assumption
  · rw [if_neg (by grind)]; exact hx
theorem zero_V {x : Nat} {p : Rat} (hx : V x = some p) (h : (double.read x).isZero = true) : p = 0 := by
  obtain ⟨s, m, i, hr, hv⟩ := V_num hx
  rw [hr] at h
  have : m = 0 := by
    cases m with
    | zero => rfl
    | succ m => cases h
  subst this
  rw [← hv]; unfold sg; cases s <;> simp <;> grind
theorem archP_V {neg : Bool} {win : Ordering} {x y : Nat} {p q : Rat} (hx : V x = some p) (hy : V y = some q) :
    archP neg win x y = (if (double.read x).isZero && (double.read y).isZero then (if (double.read x).neg == neg then x else y) else if double.order x y == some win then x else y) := by
  unfold archP
  change (if double.read x == .infinity neg || double.read y == .infinity neg then _ else _) = _
  obtain ⟨s, m, i, hr, hv⟩ := V_num hx
  obtain ⟨s2, m2, i2, hr2, hv2⟩ := V_num hy
  have e1 : (double.read x == .infinity neg) = false := by rw [hr]; rfl
  have e2 : (double.read y == .infinity neg) = false := by rw [hr2]; rfl
  have e3 : (double.read x).isNaN = false := by rw [hr]; rfl
  have e4 : (double.read y).isNaN = false := by rw [hr2]; rfl
  rw [e1, e2]
  simp only [Bool.or_self, Bool.false_eq_true, if_false]
  change (if (double.read x).isNaN || (double.read y).isNaN then _ else _) = _
  rw [e3, e4]
  simp only [Bool.or_self, Bool.false_eq_true, if_false]
  rfl
theorem amin_V {x y : Nat} {p q : Rat} (hx : V x = some p) (hy : V y = some q) : V (amin x y) = some (rmin p q) := by
  unfold amin rmin
  rw [archP_V hx hy]
  split
  · rename_i h
    simp only [Bool.and_eq_true] at h
    have h1 := zero_V hx h.1
    have h2 := zero_V hy h.2
    subst h1; subst h2; rw [ite_self]; split <;> assumption
  · rcases ord_cases hx hy with ⟨h, ho⟩ | ⟨h, ho⟩ | ⟨h, ho⟩ <;> rw [ho]
    · rw [if_pos (by decide), if_pos (by grind)]; exact hx
    · subst h; rw [if_neg (by decide), ite_self]; exact hy
    · rw [if_neg (by decide), if_neg (by grind)]; exact hy
theorem amax_V {x y : Nat} {p q : Rat} (hx : V x = some p) (hy : V y = some q) : V (amax x y) = some (rmax p q) := by
  unfold amax rmax
  rw [archP_V hx hy]
  split
  · rename_i h
    simp only [Bool.and_eq_true] at h
    have h1 := zero_V hx h.1
    have h2 := zero_V hy h.2
    subst h1; subst h2; rw [ite_self]; split <;> assumption
  · rcases ord_cases hx hy with ⟨h, ho⟩ | ⟨h, ho⟩ | ⟨h, ho⟩ <;> rw [ho]
    · rw [if_neg (by decide), if_pos (by grind)]; exact hy
    · subst h; rw [if_neg (by decide), ite_self]; exact hy
    · rw [if_pos (by decide), if_neg (by grind)]; exact hx
end Flt
