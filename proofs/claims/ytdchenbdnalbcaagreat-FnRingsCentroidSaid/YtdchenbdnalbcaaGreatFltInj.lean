/- Floating words, told apart by what they stand for. -/
import Derived.Test.YtdchenbdnalbcaaGreatFltTo
import Derived.Laws.FloatBits
set_option linter.unusedVariables false
set_option linter.unusedSimpArgs false
namespace Flt
open Go Ieee Go.Vm
/-- what a word stands for -/
theorem V_read' {x : Nat} {q : Rat} (h : V x = some q) : x % 9223372036854775808 < 9218868437227405312 ∧
    q = sg (x / 9223372036854775808 % 2 == 1) (if x % 9223372036854775808 < 4503599627370496 then ((x % 9223372036854775808 : Nat) : Rat) * (2 : Rat) ^ (-1074 : Int)
      else ((4503599627370496 + x % 9223372036854775808 % 4503599627370496 : Nat) : Rat) * (2 : Rat) ^ ((-1074 : Int) + ((x % 9223372036854775808 / 4503599627370496 - 1 : Nat) : Int))) := by
  unfold V Ieee.Format.read at h
  simp only [double_sw, double_bn, double_ir, double_lp] at h
  by_cases h1 : x % 9223372036854775808 < 4503599627370496
  · rw [if_pos h1] at h
    refine ⟨by omega, ?_⟩
    rw [if_pos h1]
    exact (Option.some.inj h).symm
  · rw [if_neg h1] at h
    by_cases h2 : x % 9223372036854775808 < 9218868437227405312
    · rw [if_pos h2] at h
      refine ⟨h2, ?_⟩
      rw [if_neg h1]
      exact (Option.some.inj h).symm
    · rw [if_neg h2] at h
      split at h <;> cases h
def KB (r : Nat) : Nat := if r < 4503599627370496 then r else (4503599627370496 + r % 4503599627370496) * 2 ^ (r / 4503599627370496 - 1)
theorem KB_lt {a b : Nat} (ha : 4503599627370496 ≤ a) (h : a / 4503599627370496 < b / 4503599627370496) : KB a < KB b := by
  unfold KB
  rw [if_neg (by omega), if_neg (by omega)]
  have h1 : (4503599627370496 + a % 4503599627370496) * 2 ^ (a / 4503599627370496 - 1) < 9007199254740992 * 2 ^ (a / 4503599627370496 - 1) := (Nat.mul_lt_mul_right (Nat.pow_pos (by omega))).2 (by omega)
  have h2 : 9007199254740992 * 2 ^ (a / 4503599627370496 - 1) = 4503599627370496 * 2 ^ (a / 4503599627370496 - 1 + 1) := by rw [Nat.pow_succ]; omega
  have h3 : 4503599627370496 * 2 ^ (a / 4503599627370496 - 1 + 1) ≤ 4503599627370496 * 2 ^ (b / 4503599627370496 - 1) := Nat.mul_le_mul_left _ (Nat.pow_le_pow_right (by omega) (by omega))
  have h4 : 4503599627370496 * 2 ^ (b / 4503599627370496 - 1) ≤ (4503599627370496 + b % 4503599627370496) * 2 ^ (b / 4503599627370496 - 1) := Nat.mul_le_mul_right _ (by omega)
  omega
theorem KB_inj {a b : Nat} (h : KB a = KB b) : a = b := by
  have big : ∀ {r : Nat}, 4503599627370496 ≤ r → 4503599627370496 ≤ KB r := fun {r} hr => by
    unfold KB
    rw [if_neg (by omega)]
    have h1 : 4503599627370496 * 1 ≤ (4503599627370496 + r % 4503599627370496) * 2 ^ (r / 4503599627370496 - 1) := Nat.mul_le_mul (by omega) (Nat.pow_pos (by omega))
    omega
  by_cases ha : a < 4503599627370496
  · by_cases hb : b < 4503599627370496
    · unfold KB at h; rw [if_pos ha, if_pos hb] at h; exact h
    · have := big (r := b) (by omega)
      have e : KB a = a := by unfold KB; rw [if_pos ha]
      omega
  · by_cases hb : b < 4503599627370496
    · have := big (r := a) (by omega)
      have e : KB b = b := by unfold KB; rw [if_pos hb]
      omega
    · rcases Nat.lt_trichotomy (a / 4503599627370496) (b / 4503599627370496) with hl | hl | hl
      · have := KB_lt (by omega) hl; omega
      · unfold KB at h
        rw [if_neg ha, if_neg hb, hl] at h
        have := Nat.eq_of_mul_eq_mul_right (Nat.pow_pos (by omega)) h
        omega
      · have := KB_lt (by omega) hl; omega
theorem V_KB {x : Nat} {q : Rat} (h : V x = some q) : q = sg (x / 9223372036854775808 % 2 == 1) ((KB (x % 9223372036854775808) : Rat) * 2 ^ (-1074 : Int)) := by
  obtain ⟨_, hq⟩ := V_read' h
  rw [hq]
  congr 1
  unfold KB
  split
  · rfl
  · rw [zpow_add, zpow_nat, Rat.natCast_mul]; grind
/-- What reads as the same number, not 0, is the same word. -/
theorem V_inj' {x y : Nat} {q : Rat} (hx : x < 18446744073709551616) (hy : y < 18446744073709551616) (h0 : q ≠ 0) (h1 : V x = some q) (h2 : V y = some q) : x = y := by
  have e1 := V_KB h1
  have e2 := V_KB h2
  have hp := zpow_pos (-1074)
  have k1 : (0 : Rat) ≤ (KB (x % 9223372036854775808) : Rat) := Rat.natCast_nonneg
  have k2 : (0 : Rat) ≤ (KB (y % 9223372036854775808) : Rat) := Rat.natCast_nonneg
  have m1 := Rat.mul_nonneg k1 (Rat.le_of_lt hp)
  have m2 := Rat.mul_nonneg k2 (Rat.le_of_lt hp)
  have hs : (x / 9223372036854775808 % 2 == 1) = (y / 9223372036854775808 % 2 == 1) ∧ (KB (x % 9223372036854775808) : Rat) * 2 ^ (-1074 : Int) = (KB (y % 9223372036854775808) : Rat) * 2 ^ (-1074 : Int) := by
    generalize (KB (x % 9223372036854775808) : Rat) * 2 ^ (-1074 : Int) = u at *
    generalize (KB (y % 9223372036854775808) : Rat) * 2 ^ (-1074 : Int) = v at *
    generalize (x / 9223372036854775808 % 2 == 1) = s at *
    generalize (y / 9223372036854775808 % 2 == 1) = t at *
    unfold sg at e1 e2
    cases s <;> cases t <;> simp at e1 e2 ⊢ <;> grind
  have hK : KB (x % 9223372036854775808) = KB (y % 9223372036854775808) := by
    have : (KB (x % 9223372036854775808) : Rat) = (KB (y % 9223372036854775808) : Rat) := by
      have hne : (2 : Rat) ^ (-1074 : Int) ≠ 0 := fun e => by rw [e] at hp; exact absurd hp (by decide)
      have hinv := Rat.mul_inv_cancel _ hne
      have e3 : (KB (x % 9223372036854775808) : Rat) * 2 ^ (-1074 : Int) * ((2 : Rat) ^ (-1074 : Int))⁻¹ = (KB (y % 9223372036854775808) : Rat) * 2 ^ (-1074 : Int) * ((2 : Rat) ^ (-1074 : Int))⁻¹ := by rw [hs.2]
      rw [Rat.mul_assoc, Rat.mul_assoc, hinv, Rat.mul_one, Rat.mul_one] at e3
      exact e3
    exact Rat.natCast_inj.1 this
  have hr := KB_inj hK
  have hb := hs.1
  have b1 : x / 9223372036854775808 % 2 = y / 9223372036854775808 % 2 := by
    by_cases h : x / 9223372036854775808 % 2 = 1
    · by_cases h' : y / 9223372036854775808 % 2 = 1
      · omega
      · simp [h, h'] at hb
    · by_cases h' : y / 9223372036854775808 % 2 = 1
      · simp [h, h'] at hb
      · omega
  omega
theorem add_lt64 {x y z : Nat} (h : floatBits .add .f64 x y = some z) : z < 18446744073709551616 := Ieee.Format.add_lt double h
theorem div_zero' {x y : Nat} {q : Rat} (hx : V x = some 0) (hy : V y = some q) (h0 : q ≠ 0) : ∃ z, floatBits .quo .f64 x y = some z ∧ V z = some 0 := by
  obtain ⟨s, m, i, hrx, hvx⟩ := V_num hx
  obtain ⟨t, n, j, hry, hvy⟩ := V_num hy
  have hn : n ≠ 0 := fun e => by subst e; apply h0; rw [← hvy]; unfold sg; cases t <;> simp
  have hm : m = 0 := by
    have hi := zpow_pos i
    apply Classical.byContradiction
    intro hne
    have h1 : (1 : Rat) ≤ (m : Rat) := Rat.natCast_le_natCast.2 (show 1 ≤ m by omega)
    have h2 := Rat.mul_le_mul_of_nonneg_right h1 (Rat.le_of_lt hi)
    unfold sg at hvx
    cases s <;> simp at hvx <;> grind
  subst hm
  have hdiv : Ieee.double.div x y = some (Ieee.double.write (.number (s ^^ t) 0 (i - j - (54 + n.log2 - (0 : Nat).log2 : Nat) - 1))) := by
    unfold Ieee.Format.div
    rw [hrx, hry]
    unfold Ieee.Datum.quotient
    have e54 : Ieee.double.fractionBits + 2 = 54 := by decide
    simp only [if_neg hn, e54, Nat.zero_shiftLeft, Nat.zero_div, Nat.zero_mod]
    rfl
  obtain ⟨r, hr, hR⟩ := write_rnd (s ^^ t) 0 (i - j - (54 + n.log2 - (0 : Nat).log2 : Nat) - 1) (by
    have e : (((0 : Nat) : Rat)) * (2 : Rat) ^ (i - j - (54 + n.log2 - (0 : Nat).log2 : Nat) - 1) = 0 := by simp
    rw [e]; exact zpow_pos 1023)
  have e0 : sg (s ^^ t) (((0 : Nat) : Rat) * (2 : Rat) ^ (i - j - (54 + n.log2 - (0 : Nat).log2 : Nat) - 1)) = 0 := by unfold sg; cases (s ^^ t) <;> simp
  rw [e0] at hR
  have h0 : r = 0 := hR.exact 0 0 (by decide) (by decide) (by rw [zpow_zero', Rat.mul_one]; rfl)
  subst h0
  exact ⟨_, hdiv, hr⟩
theorem quo_same {x x' y z z' : Nat} {p q : Rat} (hx : V x = some p) (hx' : V x' = some p) (h : p = 0 → V z = some 0 ∧ V z' = some 0) (l : x < 18446744073709551616) (l' : x' < 18446744073709551616)
    (hz : floatBits .quo .f64 x y = some z) (hz' : floatBits .quo .f64 x' y = some z') (hv : V z = some q) : feq z z' = true := by
  by_cases h0 : p = 0
  · obtain ⟨a, b⟩ := h h0
    rw [feq_val a b]; simp
  · have := V_inj' l l' h0 hx hx'
    subst this
    rw [hz] at hz'
    cases hz'
    rw [feq_val hv hv]; simp
end Flt
