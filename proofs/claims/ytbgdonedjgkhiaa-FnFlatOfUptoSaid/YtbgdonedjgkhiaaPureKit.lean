/- Plain Lean about printed functions: steps, elements, loops that scan a list. -/
import Derived.Test.YtbgdonedjgkhiaaVmNaN
import Derived.Test.YtbgdonedjgkhiaaVmNsl
import Derived.Test.YtbgdonedjgkhiaaVmDraw3
import Derived.Test.YtbgdonedjgkhiaaFltOk
set_option linter.unusedVariables false
set_option linter.unusedSimpArgs false
namespace Go.Vm
theorem in64 {z : Int} (h1 : 0 ≤ z) (h2 : z ≤ 9223372036854775807) : inI .i64 z := ⟨by simp only [lo]; omega, by simp only [hi]; omega⟩
theorem in64m {z : Int} (h1 : -9223372036854775808 ≤ z) (h2 : z ≤ 9223372036854775807) : inI .i64 z := ⟨by simp only [lo]; omega, by simp only [hi]; omega⟩
theorem inu64 {z : Int} (h1 : 0 ≤ z) (h2 : z ≤ 18446744073709551615) : inI .u64 z := ⟨by simp only [lo]; omega, by simp only [hi]; omega⟩
theorem cond_t {α : Type} {b : Bool} (h : b = true) (x y : α) : cond b x y = x := by rw [h]; rfl
theorem cond_f {α : Type} {b : Bool} (h : b = false) (x y : α) : cond b x y = y := by rw [h]; rfl
theorem nT {p : Prop} [Decidable p] (h : ¬ p) : (!decide p) = true := by simp [h]
theorem nF {p : Prop} [Decidable p] (h : p) : (!decide p) = false := by simp [h]
theorem cond_if {α : Type} (b : Bool) (x y : α) : cond b x y = if b = true then x else y := by cases b <;> rfl
theorem aft_inl {V R T : Type} (v : V) (ret : R → Option T) (k : V → Option T) : aft (.inl v) ret k = k v := rfl
theorem aft_inr {V R T : Type} (r : R) (ret : R → Option T) (k : V → Option T) : aft (.inr r : Sum V R) ret k = ret r := rfl
theorem idx_get {α : Type} {l : List α} {k : Nat} {x : α} (h : l[k]? = some x) : idx l (k : Int) = some x := idx_some h rfl
theorem idx_lt {α : Type} (l : List α) (k : Nat) (d : α) (h : k < l.length) : idx l (k : Int) = some (l.getD k d) := idx_some (by rw [List.getD_eq_getElem?_getD, List.getElem?_eq_getElem h]; rfl) rfl
theorem succ_cast (k : Nat) : ((k : Int) + 1) = ((k + 1 : Nat) : Int) := by omega
/-- A loop that goes through a list and gives bad at the first element that is not p. -/
theorem scan_loop {α T : Type} (l : List α) (b : (Int → Option (Sum Unit T)) → Int → Option (Sum Unit T)) (p : α → Bool) (bad : T)
    (hend : ∀ K (k : Nat), l.length ≤ k → b K (k : Int) = some (Sum.inl ()))
    (hstep : ∀ K (k : Nat) x, l[k]? = some x → b K (k : Int) = if p x = true then K ((k + 1 : Nat) : Int) else some (Sum.inr bad)) :
    ∀ (F k : Nat), l.length - k < F → iter b F (k : Int) = some (if (l.drop k).all p = true then Sum.inl () else Sum.inr bad) := by
  intro F
  induction F with
  | zero => intro k h; omega
  | succ F ih =>
    intro k h
    show b (iter b F) (k : Int) = _
    by_cases hk : k < l.length
    · have hx : l[k]? = some l[k] := List.getElem?_eq_getElem hk
      rw [hstep _ k _ hx, List.drop_eq_getElem_cons hk, List.all_cons]
      by_cases hp : p l[k] = true
      · rw [if_pos hp, hp, Bool.true_and]; exact ih (k + 1) (by omega)
      · rw [if_neg hp]
        have : p l[k] = false := by simpa using hp
        rw [this, Bool.false_and, if_neg (by simp)]
    · rw [hend _ k (by omega), List.drop_eq_nil_of_le (by omega)]; rfl
theorem scan_loop0 {α T : Type} (l : List α) (b : (Int → Option (Sum Unit T)) → Int → Option (Sum Unit T)) (p : α → Bool) (bad : T)
    (hend : ∀ K (k : Nat), l.length ≤ k → b K (k : Int) = some (Sum.inl ()))
    (hstep : ∀ K (k : Nat) x, l[k]? = some x → b K (k : Int) = if p x = true then K ((k + 1 : Nat) : Int) else some (Sum.inr bad)) {F : Nat} (hF : l.length < F) :
    iter b F (0 : Int) = some (if l.all p = true then Sum.inl () else Sum.inr bad) := by
  have := scan_loop l b p bad hend hstep F 0 (by omega)
  rwa [List.drop_zero] at this
theorem nan_le (m x : Nat) (h : fle x m = true) : (FloatKind.f64.decode x).isNaN = false := by
  unfold fle at h
  unfold Ieee.Format.order at h
  show (Ieee.double.read x).isNaN = false
  generalize Ieee.double.read x = d at *
  cases d with
  | nan s t => simp [Ieee.Datum.order] at h
  | number s m e => rfl
  | infinity s => rfl
theorem wf64 {x : Nat} (h : (Lit.float .f64 x).wf = true) : x < 18446744073709551616 := by
  have : x < 2 ^ 64 := by simpa [Lit.wf] using h
  omega
theorem lenq {a b n s : Nat} (q : n = b) (h : a = b * s) : a = n * s := q ▸ h
end Go.Vm
