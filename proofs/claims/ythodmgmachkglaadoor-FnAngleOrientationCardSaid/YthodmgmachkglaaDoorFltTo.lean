/- Whole numbers within a bound, as tested by truncation and absolute value. -/
import Derived.Test.YthodmgmachkglaaDoorVmNaN
set_option linter.unusedVariables false
set_option linter.unusedSimpArgs false
namespace Flt
open Go Ieee Go.Vm
def wT (K x : Nat) : Bool := feq x (truncN x) && !(fgt (fabs x) K)
theorem fgt_val {x y : Nat} {p q : Rat} (hx : V x = some p) (hy : V y = some q) : fgt x y = decide (q < p) := order_gt hx hy
theorem flt_val {x y : Nat} {p q : Rat} (hx : V x = some p) (hy : V y = some q) : Vm.flt x y = decide (p < q) := order_lt hx hy
theorem read_fabs (x : Nat) (s : Bool) (h : double.read x = .infinity s) : double.read (fabs x) = .infinity false := by
  unfold fabs Format.read at *
  rw [double_sw] at *
  simp only [Nat.mod_mod] at *
  have e : (x % 9223372036854775808 / 9223372036854775808 % 2 == 1) = false := by
    have : x % 9223372036854775808 / 9223372036854775808 = 0 := Nat.div_eq_of_lt (Nat.mod_lt _ (by omega))
    rw [this]; rfl
  rw [e]
  generalize (x / 9223372036854775808 % 2 == 1) = s' at h
  split at h
  · cases h
  · rename_i h1
    rw [if_neg h1]
    split at h
    · cases h
    · rename_i h2
      rw [if_neg h2]
      split at h
      · rename_i h3; rw [if_pos h3]
      · cases h
theorem wT_fin {K x : Nat} {k : Rat} (hk : V K = some k) (h : wT K x = true) : ∃ q, V x = some q := by
  unfold wT at h
  simp only [Bool.and_eq_true, Bool.not_eq_true'] at h
  obtain ⟨h1, h2⟩ := h
  cases hd : double.read x with
  | number s m e => exact ⟨_, by unfold V; rw [hd]; rfl⟩
  | nan s t =>
    have hn : isNan x = true := by show (double.read x).isNaN = true; rw [hd]; rfl
    unfold Vm.feq at h1
    rw [show double.order x (truncN x) = none from order_nan' hn] at h1
    cases h1
  | infinity s =>
    obtain ⟨s2, m, i, hr, _⟩ := V_num hk
    unfold Vm.fgt Format.order at h2
    rw [read_fabs x s hd, hr] at h2
    cases s2 <;> simp [Datum.order] at h2
theorem wT_int {K x : Nat} {k : Int} (hk : I K k) (hk0 : 0 ≤ k) (hk1 : k ≤ 4503599627370496) (hn : I (fneg K) (-k)) (h : wT K x = true) : ∃ n, I x n ∧ -k ≤ n ∧ n ≤ k := by
  obtain ⟨q, hq⟩ := wT_fin hk h
  unfold wT at h
  simp only [Bool.and_eq_true, Bool.not_eq_true'] at h
  obtain ⟨h1, h2⟩ := h
  have hnn : isNan x = false := by
    obtain ⟨s, m, i, hr, _⟩ := V_num hq
    show (double.read x).isNaN = false
    rw [hr]; rfl
  rw [truncN_of hnn] at h1
  rw [fgt_val (fabs_V hq) hk, decide_eq_false_iff_not] at h2
  refine okF_int hk hk0 hk1 hn ?_
  unfold okF inR
  rw [h1, fge_val hq hn, fle_val hq hk]
  have a1 : -q ≤ ab q := by unfold ab; split <;> grind
  have a2 : q ≤ ab q := by unfold ab; split <;> grind
  have h3 : ab q ≤ (k : Rat) := by grind
  rw [Rat.intCast_neg]
  have e1 : decide (-(k : Rat) ≤ q) = true := decide_eq_true (by grind)
  have e2 : decide (q ≤ (k : Rat)) = true := decide_eq_true (by grind)
  rw [e1, e2]; rfl
/-- A word for a whole number, and its opposite. -/
theorem wordI {K : Nat} (k : Int) (h : k.natAbs ≤ 9007199254740992) (e1 : K = ofInt k) (e2 : fneg K = ofInt (-k)) : I K k ∧ I (fneg K) (-k) := by
  rw [e2]; subst e1
  exact ⟨ofInt_int h, ofInt_int (by omega)⟩
theorem xor63 (x : Nat) : (x ^^^ 9223372036854775808) % 9223372036854775808 = x % 9223372036854775808 ∧ ((x ^^^ 9223372036854775808) / 9223372036854775808 % 2 == 1) = !(x / 9223372036854775808 % 2 == 1) := by
  constructor
  · have := @Nat.xor_mod_two_pow x 9223372036854775808 63
    rw [show (2 : Nat) ^ 63 = 9223372036854775808 from by decide] at this
    rw [this]; simp
  · have h1 : (x ^^^ 9223372036854775808) / 9223372036854775808 = (x / 9223372036854775808) ^^^ 1 := by
      have := @Nat.shiftRight_xor_distrib 63 x 9223372036854775808
      simp only [Nat.shiftRight_eq_div_pow] at this
      rw [show (2 : Nat) ^ 63 = 9223372036854775808 from by decide] at this
      rw [this]
    rw [h1]
    have h2 := @Nat.xor_mod_two_pow (x / 9223372036854775808) 1 1
    rw [show (2 : Nat) ^ 1 = 2 from by decide] at h2
    rw [h2]
    rcases Nat.mod_two_eq_zero_or_one (x / 9223372036854775808) with h | h <;> rw [h] <;> rfl
theorem fneg_V {x : Nat} {q : Rat} (hx : V x = some q) : V (fneg x) = some (-q) := by
  have e0 : fneg x = x ^^^ 9223372036854775808 := rfl
  rw [e0]
  obtain ⟨e1, e2⟩ := xor63 x
  unfold V Format.read at *
  rw [double_sw] at *
  simp only at *
  rw [e1, e2]
  have key : ∀ (s : Bool) (m : Nat) (i : Int), dval (.number s m i) = some q → dval (.number (!s) m i) = some (-q) := fun s m i h => opp_val (x := .number s m i) h
  generalize (x / 9223372036854775808 % 2 == 1) = s at hx
  split at hx
  · rename_i h; rw [if_pos h]; exact key _ _ _ hx
  · rename_i h
    rw [if_neg h]
    split at hx
    · rename_i h2; rw [if_pos h2]; exact key _ _ _ hx
    · rename_i h2
      split at hx <;> cases hx
theorem fneg_int {x : Nat} {n : Int} (h : I x n) : I (fneg x) (-n) := by
  unfold I; rw [Rat.intCast_neg]; exact fneg_V h
end Flt
