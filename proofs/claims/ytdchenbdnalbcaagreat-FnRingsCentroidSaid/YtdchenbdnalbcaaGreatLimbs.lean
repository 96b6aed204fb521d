/- Whole numbers as rows of limbs of 32 bits, the least first. -/
import Derived.Test.YtdchenbdnalbcaaGreatVmFreeze
set_option linter.unusedVariables false
namespace Limb
/-- what a row of limbs is worth -/
def val : List Nat → Nat
  | [] => 0
  | x :: r => x + 4294967296 * val r
/-- every limb has 32 bits -/
def ok (l : List Nat) : Prop := ∀ x, x ∈ l → x < 4294967296
/-- no zeros at the end -/
def trim : List Nat → List Nat
  | [] => []
  | x :: r => match trim r with
    | [] => if x = 0 then [] else [x]
    | y :: s => x :: y :: s
/-- a number's limbs -/
def limbs (n : Nat) : List Nat := if h : n = 0 then [] else (n % 4294967296) :: limbs (n / 4294967296)
termination_by n
decreasing_by omega

theorem limbs_zero : limbs 0 = [] := by unfold limbs; simp
theorem limbs_pos {n : Nat} (h : n ≠ 0) : limbs n = (n % 4294967296) :: limbs (n / 4294967296) := by rw [limbs, dif_neg h]
theorem limbs_ok (n : Nat) : ok (limbs n) := by
  induction n using Nat.strongRecOn with
  | _ n ih =>
    by_cases h : n = 0
    · subst h; rw [limbs_zero]; intro x hx; simp at hx
    · rw [limbs_pos h]
      intro x hx
      rcases List.mem_cons.1 hx with rfl | hx
      · omega
      · exact ih _ (by omega) x hx
theorem val_limbs (n : Nat) : val (limbs n) = n := by
  induction n using Nat.strongRecOn with
  | _ n ih =>
    by_cases h : n = 0
    · subst h; rw [limbs_zero]; rfl
    · rw [limbs_pos h, val, ih _ (by omega)]; omega
theorem trim_limbs : ∀ (l : List Nat), ok l → trim l = limbs (val l)
  | [], _ => by rw [val, limbs_zero]; rfl
  | x :: r, h => by
    have hx := h x (by simp)
    have ih := trim_limbs r fun y hy => h y (by simp [hy])
    by_cases h0 : val r = 0
    · rw [h0, limbs_zero] at ih
      simp only [trim, ih, val, h0]
      by_cases hx0 : x = 0
      · subst hx0; rw [if_pos rfl]; exact limbs_zero.symm
      · rw [if_neg hx0, limbs_pos (by omega)]
        have e1 : (x + 4294967296 * 0) % 4294967296 = x := by omega
        have e2 : (x + 4294967296 * 0) / 4294967296 = 0 := by omega
        rw [e1, e2, limbs_zero]
    · have hne : limbs (val r) ≠ [] := by rw [limbs_pos h0]; simp
      have hv : x + 4294967296 * val r ≠ 0 := by omega
      have e1 : (x + 4294967296 * val r) % 4294967296 = x := by omega
      have e2 : (x + 4294967296 * val r) / 4294967296 = val r := by omega
      rw [val, limbs_pos hv, e1, e2]
      simp only [trim, ih]
      cases hq : limbs (val r) with
      | nil => exact absurd hq hne
      | cons y s => rfl
theorem val_lt {l : List Nat} (h : ok l) : val l < 4294967296 ^ l.length := by
  induction l with
  | nil => simp [val]
  | cons x r ih =>
    have hx := h x (by simp)
    have := ih fun y hy => h y (by simp [hy])
    simp only [val, List.length_cons, Nat.pow_succ]
    omega
theorem val_append (a b : List Nat) : val (a ++ b) = val a + 4294967296 ^ a.length * val b := by
  induction a with
  | nil => simp [val]
  | cons x r ih => simp only [List.cons_append, val, ih, List.length_cons, Nat.pow_succ]; rw [Nat.mul_add, ← Nat.mul_assoc, Nat.mul_comm 4294967296 (4294967296 ^ r.length)]; omega
theorem trim_snoc (l : List Nat) (x : Nat) : trim (l ++ [x]) = if x = 0 then trim l else l ++ [x] := by
  induction l with
  | nil => simp [trim]
  | cons y r ih =>
    simp only [List.cons_append, trim, ih]
    by_cases hx : x = 0
    · rw [if_pos hx, if_pos hx]
    · rw [if_neg hx, if_neg hx]
      cases hq : r ++ [x] with
      | nil => simp at hq
      | cons z s => rfl
theorem val_take_any (l : List Nat) (k : Nat) : val (l.take (k + 1)) = val (l.take k) + 4294967296 ^ k * l.getD k 0 := by
  by_cases h : k < l.length
  · rw [List.take_succ_eq_append_getElem h, val_append]
    simp [val, h, Nat.min_eq_left (Nat.le_of_lt h)]
  · rw [List.take_of_length_le (by omega), List.take_of_length_le (by omega), List.getD_eq_getElem?_getD, List.getElem?_eq_none (by omega)]; simp
theorem add_step {x y out : List Nat} {k c s : Nat} (ho : out.length = k) (hv : val out + 4294967296 ^ k * c = val (x.take k) + val (y.take k)) (hs : s = x.getD k 0 + c + y.getD k 0) :
    val (out ++ [s % 4294967296]) + 4294967296 ^ (k + 1) * (s / 4294967296) = val (x.take (k + 1)) + val (y.take (k + 1)) := by
  rw [val_append, ho, val_take_any, val_take_any]
  have h1 : val [s % 4294967296] = s % 4294967296 := by simp [val]
  have h2 : s % 4294967296 + 4294967296 * (s / 4294967296) = s := Nat.mod_add_div _ _
  have h3 : 4294967296 ^ (k + 1) * (s / 4294967296) = 4294967296 ^ k * (4294967296 * (s / 4294967296)) := by rw [Nat.pow_succ, Nat.mul_assoc]
  have h4 : 4294967296 ^ k * (s % 4294967296) + 4294967296 ^ k * (4294967296 * (s / 4294967296)) = 4294967296 ^ k * s := by rw [← Nat.mul_add, h2]
  have h5 : 4294967296 ^ k * s = 4294967296 ^ k * x.getD k 0 + 4294967296 ^ k * c + 4294967296 ^ k * y.getD k 0 := by rw [hs, Nat.mul_add, Nat.mul_add]
  rw [h1, h3]
  omega
theorem ok_snoc {l : List Nat} (h : ok l) {s : Nat} : ok (l ++ [s % 4294967296]) := fun x hx => by
  rcases List.mem_append.1 hx with hx | hx
  · exact h x hx
  · rw [List.mem_singleton.1 hx]; omega
theorem limbs_len_lt {a b : Nat} (h : (limbs a).length < (limbs b).length) : a < b := by
  induction b using Nat.strongRecOn generalizing a with
  | _ b ih =>
    by_cases hb : b = 0
    · subst hb; rw [limbs_zero] at h; simp at h
    · by_cases ha : a = 0
      · omega
      · rw [limbs_pos hb, limbs_pos ha] at h
        have := ih (b / 4294967296) (by omega) (a := a / 4294967296) (by simpa using h)
        omega
theorem val_split (l : List Nat) (j : Nat) (h : j < l.length) : val l = val (l.take j) + 4294967296 ^ j * (l.getD j 0 + 4294967296 * val (l.drop (j + 1))) := by
  have e : l = l.take j ++ (l.getD j 0 :: l.drop (j + 1)) := by
    rw [List.getD_eq_getElem?_getD, List.getElem?_eq_getElem h, Option.getD_some, List.getElem_cons_drop, List.take_append_drop]
  have h1 : val l = val (l.take j ++ (l.getD j 0 :: l.drop (j + 1))) := congrArg val e
  rw [h1, val_append, val]
  simp [Nat.min_eq_left (Nat.le_of_lt h)]
theorem ok_take {l : List Nat} (h : ok l) (j : Nat) : ok (l.take j) := fun x hx => h x (List.mem_of_mem_take hx)
theorem cmp_at {x y : List Nat} (hx : ok x) (hy : ok y) {j : Nat} (h1 : j < x.length) (h2 : j < y.length) (hd : x.drop (j + 1) = y.drop (j + 1)) (hlt : x.getD j 0 < y.getD j 0) : val x < val y := by
  rw [val_split x j h1, val_split y j h2, hd]
  have h3 := val_lt (ok_take hx j)
  rw [List.length_take, Nat.min_eq_left (by omega)] at h3
  have h4 : 4294967296 ^ j * (x.getD j 0 + 4294967296 * val (y.drop (j + 1)) + 1) ≤ 4294967296 ^ j * (y.getD j 0 + 4294967296 * val (y.drop (j + 1))) := Nat.mul_le_mul_left _ (by omega)
  rw [Nat.mul_add _ _ 1, Nat.mul_one] at h4
  omega
end Limb
