/- Proved: a floating number times a power of two. -/
import Derived.Test.YtohpmbodfpjjmaaDFl
import Derived.Laws.FloatBits
namespace Go.Proofs.Ytohpmbodfpjjmaa.Wk
open Go.Vm Flt
set_option linter.unusedVariables false
set_option linter.unusedSimpArgs false
theorem bits_or64 {a c : Nat} (ha : a < 18446744073709551616) (hc : c < 18446744073709551616) : bits .or .u64 (a : Int) (c : Int) = ((a ||| c : Nat) : Int) := by
  unfold bits
  have e0 : (BitVec.ofInt 64 (a : Int) ||| BitVec.ofInt 64 (c : Int)).toNat = a ||| c := by
    rw [BitVec.toNat_or, BitVec.toNat_ofInt, BitVec.toNat_ofInt]
    have e : ∀ z : Nat, z < 18446744073709551616 → ((z : Int) % ((2 ^ 64 : Nat) : Int)).toNat = z := fun z hz => by omega
    rw [e a ha, e c hc]
  show IntKind.u64.wrap (((BitVec.ofInt 64 (a : Int) ||| BitVec.ofInt 64 (c : Int)).toNat : Nat) : Int) = _
  rw [e0]
  have hlt : a ||| c < 2 ^ 64 := Nat.or_lt_two_pow (by omega) (by omega)
  rw [w64 (by omega)]
/-- the digits without the exponent -/
theorem bits_clr {f E : Nat} (hf : f < 4503599627370496) (hE : E < 2048) : bits .andNot .u64 ((E * 4503599627370496 + f : Nat) : Int) 9218868437227405312 = ((f : Nat) : Int) := by
  unfold bits
  have e1 : ~~~(BitVec.ofInt 64 9218868437227405312) = BitVec.ofNat 64 (2 ^ 63 + (2 ^ 52 - 1)) := by decide
  have e0 : (BitVec.ofInt 64 ((E * 4503599627370496 + f : Nat) : Int) &&& ~~~(BitVec.ofInt 64 9218868437227405312)).toNat = f := by
    rw [e1, BitVec.toNat_and, BitVec.toNat_ofInt, BitVec.toNat_ofNat]
    have e3 : (((E * 4503599627370496 + f : Nat) : Int) % ((2 ^ 64 : Nat) : Int)).toNat = E * 4503599627370496 + f := by omega
    have e4 : (2 ^ 63 + (2 ^ 52 - 1)) % 2 ^ 64 = 2 ^ 63 + (2 ^ 52 - 1) := by decide
    rw [e3, e4]
    apply Nat.eq_of_testBit_eq
    intro i
    rw [Nat.testBit_and]
    have e5 : E * 4503599627370496 + f = 2 ^ 52 * E + f := by omega
    rw [e5, Nat.testBit_two_pow_mul_add _ (by omega)]
    have e6 : (2 ^ 63 + (2 ^ 52 - 1)).testBit i = (decide (i < 52) || decide (i = 63)) := by
      have e7 : 2 ^ 63 + (2 ^ 52 - 1) = 2 ^ 52 * 2 ^ 11 + (2 ^ 52 - 1) := by decide
      rw [e7, Nat.testBit_two_pow_mul_add _ (by omega), Nat.testBit_two_pow_sub_one, Nat.testBit_two_pow]
      by_cases h : i < 52
      · simp [h]
      · simp only [if_neg h]
        have : decide (i < 52) = false := decide_eq_false h
        rw [this, Bool.false_or]
        by_cases h2 : i = 63
        · subst h2; rfl
        · rw [decide_eq_false h2, decide_eq_false (by omega)]
    rw [e6]
    by_cases h : i < 52
    · rw [if_pos h]; simp [h]
    · rw [if_neg h]
      have hfi : f.testBit i = false := Nat.testBit_lt_two_pow (Nat.lt_of_lt_of_le hf (by
        have := Nat.pow_le_pow_right (show 0 < 2 by omega) (show 52 ≤ i by omega)
        exact this))
      rw [hfi]
      by_cases h2 : i = 63
      · subst h2
        have : E.testBit (63 - 52) = false := Nat.testBit_lt_two_pow (show E < 2 ^ 11 by omega)
        rw [this]; rfl
      · simp [h, h2]
  show IntKind.u64.wrap (((BitVec.ofInt 64 ((E * 4503599627370496 + f : Nat) : Int) &&& ~~~(BitVec.ofInt 64 9218868437227405312)).toNat : Nat) : Int) = _
  rw [e0, w64 (by omega)]
theorem bits_exp {f E : Nat} (hf : f < 4503599627370496) (hE : E < 2047) : bits .and .i64 (IntKind.i64.wrap (((E * 4503599627370496 + f : Nat) : Int) / 2 ^ 52)) 2047 = (E : Int) := by
  have e1 : ((E * 4503599627370496 + f : Nat) : Int) / 2 ^ 52 = (E : Int) := by omega
  rw [e1, wrap_in .i64 _ (by simp only [lo]; omega) (by simp only [hi]; omega)]
  unfold bits
  have e0 : (BitVec.ofInt 64 (E : Int) &&& BitVec.ofInt 64 2047).toNat = E := by
    rw [BitVec.toNat_and, BitVec.toNat_ofInt]
    have e3 : ((E : Int) % ((2 ^ 64 : Nat) : Int)).toNat = E := by omega
    have e4 : (BitVec.ofInt 64 2047).toNat = 2 ^ 11 - 1 := by decide
    rw [e3, e4, Nat.and_two_pow_sub_one_eq_mod]
    omega
  show IntKind.i64.wrap (((BitVec.ofInt 64 (E : Int) &&& BitVec.ofInt 64 2047).toNat : Nat) : Int) = _
  rw [e0, wrap_in .i64 _ (by simp only [lo]; omega) (by simp only [hi]; omega)]
theorem or_exp {f E : Nat} (hf : f < 4503599627370496) : f ||| E * 4503599627370496 = E * 4503599627370496 + f := by
  have := Nat.two_pow_add_eq_or_of_lt (i := 52) (b := f) (by omega) E
  have e : 2 ^ 52 * E = E * 4503599627370496 := by omega
  rw [e] at this
  rw [this, Nat.or_comm]
theorem word_pos (r : Nat) : Ieee.double.word false r = r := by unfold Ieee.Format.word; simp
theorem V_nrm {f E : Nat} (hf : f < 4503599627370496) (h1 : 1 ≤ E) (h2 : E < 2047) : V (E * 4503599627370496 + f) = some (((4503599627370496 + f : Nat) : Rat) * 2 ^ ((E : Int) - 1075)) := by
  have := val_rung false (E - 1) (4503599627370496 + f) (by omega) (.inr (by omega)) (by omega)
  rw [word_pos] at this
  have e1 : (E - 1) * 4503599627370496 + (4503599627370496 + f) = E * 4503599627370496 + f := by omega
  have e2 : ((E - 1 : Nat) : Int) - 1074 = (E : Int) - 1075 := by omega
  rw [e1, e2] at this
  exact this
theorem one_V : I 4607182418800017408 1 := by
  have := V_nrm (f := 0) (E := 1023) (by omega) (by omega) (by omega)
  have e : (((4503599627370496 + 0 : Nat) : Rat)) * 2 ^ (((1023 : Nat) : Int) - 1075) = ((1 : Int) : Rat) := by decide +kernel
  unfold I
  rw [← e]; exact this
theorem nrm_le {f E : Nat} (hf : f < 4503599627370496) (h1 : 1 ≤ E) : (2 : Rat) ^ (-1022 : Int) ≤ ((4503599627370496 + f : Nat) : Rat) * 2 ^ ((E : Int) - 1075) := by
  have a1 : (4503599627370496 : Rat) ≤ ((4503599627370496 + f : Nat) : Rat) := nat_le_rat (show 4503599627370496 ≤ 4503599627370496 + f by omega)
  have a2 : (2 : Rat) ^ (-1074 : Int) ≤ 2 ^ ((E : Int) - 1075) := zpow_le (by omega)
  have a3 : (2 : Rat) ^ (-1022 : Int) = 4503599627370496 * 2 ^ (-1074 : Int) := by
    have : (-1022 : Int) = 52 + (-1074) := by omega
    rw [this, zpow_add]
    have : (2 : Rat) ^ (52 : Int) = 4503599627370496 := by decide +kernel
    rw [this]
  have a4 := Rat.mul_le_mul_of_nonneg_right a1 (Rat.le_of_lt (zpow_pos (-1074)))
  have a5 := Rat.mul_le_mul_of_nonneg_left a2 (show (0 : Rat) ≤ ((4503599627370496 + f : Nat) : Rat) from Rat.natCast_nonneg)
  rw [a3]; exact Rat.le_trans a4 a5
theorem nrm_max {f E : Nat} (hf : f < 4503599627370496) (h2 : E < 2047) : ((4503599627370496 + f : Nat) : Rat) * 2 ^ ((E : Int) - 1075) ≤ ((9007199254740991 : Nat) : Rat) * 2 ^ (971 : Int) := by
  have a1 : ((4503599627370496 + f : Nat) : Rat) ≤ ((9007199254740991 : Nat) : Rat) := nat_le_rat (by omega)
  have a2 : (2 : Rat) ^ ((E : Int) - 1075) ≤ 2 ^ (971 : Int) := zpow_le (by omega)
  have a4 := Rat.mul_le_mul_of_nonneg_right a1 (Rat.le_of_lt (zpow_pos ((E : Int) - 1075)))
  have a5 := Rat.mul_le_mul_of_nonneg_left a2 (show (0 : Rat) ≤ ((9007199254740991 : Nat) : Rat) from Rat.natCast_nonneg)
  exact Rat.le_trans a4 a5
theorem max_V : V 9218868437227405311 = some (((9007199254740991 : Nat) : Rat) * 2 ^ (971 : Int)) := V_nrm (f := 4503599627370495) (E := 2046) (by omega) (by omega) (by omega)
theorem min_V : V 4503599627370496 = some ((2 : Rat) ^ (-1022 : Int)) := by
  have := V_nrm (f := 0) (E := 1) (by omega) (by omega) (by omega)
  have e : (((4503599627370496 + 0 : Nat) : Rat)) * 2 ^ (((1 : Nat) : Int) - 1075) = (2 : Rat) ^ (-1022 : Int) := by
    have e1 : (-1022 : Int) = 52 + (-1074) := by omega
    have e2 : ((1 : Nat) : Int) - 1075 = -1074 := by omega
    rw [e1, zpow_add, e2]
    have e3 : (2 : Rat) ^ (52 : Int) = 4503599627370496 := by decide +kernel
    rw [e3]; rfl
  rw [← e]; exact this
theorem ldexp_p {f E : Nat} (hf : f < 4503599627370496) (h1 : 1 ≤ E) (h2 : E < 2047) {a : Int} (h3 : 1 ≤ (E : Int) + a) (h4 : (E : Int) + a ≤ 1900) :
    ∃ z, p_Ldexp (E * 4503599627370496 + f) a = some z ∧ V z = some (((4503599627370496 + f : Nat) : Rat) * 2 ^ ((E : Int) - 1075 + a)) ∧ z < 18446744073709551616 := by
  obtain ⟨E2, hE2⟩ : ∃ E2 : Nat, (E : Int) + a = E2 := ⟨((E : Int) + a).toNat, by omega⟩
  have hv := V_nrm hf h1 h2
  have hle := nrm_le hf h1
  have hmx := nrm_max hf h2
  have hv2 := V_nrm (f := f) (E := E2) hf (by omega) (by omega)
  obtain ⟨x, hx⟩ : ∃ x, E * 4503599627370496 + f = x := ⟨_, rfl⟩
  rw [hx] at hv ⊢
  have hxb : x < 9223372036854775808 := by omega
  have hfa : fabs x = x := by unfold fabs; exact Nat.mod_eq_of_lt hxb
  have hp := zpow_pos (-1022)
  have hz : V 0 = some 0 := by have := zero_int; unfold I at this; simpa using this
  have g1 : feq x 0 = false := by
    rw [feq_val hv hz]
    exact decide_eq_false (fun e => by rw [e] at hle; exact absurd hp (Rat.not_lt.2 hle))
  have g2 : fgt x 9218868437227405311 = false := by
    rw [fgt_val hv max_V]
    exact decide_eq_false (Rat.not_lt.2 hmx)
  have g3 : feq x x = true := by rw [feq_val hv hv]; exact decide_eq_true rfl
  have g4 : Vm.flt x 4503599627370496 = false := by
    rw [flt_val hv min_V]
    exact decide_eq_false (Rat.not_lt.2 hle)
  have gi : p_IsInf x 0 = some false := by
    unfold p_IsInf
    rw [cond_t (decide_eq_true rfl), hfa, g2]
  have gn : p_IsNaN x = some false := by
    unfold p_IsNaN
    rw [g3]; rfl
  have gl : p_Ldexp x a = (p_ldexp_k1 x a false).bind fun y1 => some y1 := by
    unfold p_Ldexp p_ldexp
    rw [cond_f g1, gi, Option.bind_some, cond_f rfl, gn, Option.bind_some]
  rw [gl]
  unfold p_ldexp_k1 p_normalize
  rw [cond_f rfl, hfa, cond_f g4, Option.bind_some]
  dsimp only
  have eb : bits .and .i64 (IntKind.i64.wrap ((x : Int) / 2 ^ 52)) 2047 = (E : Int) := by rw [← hx]; exact bits_exp hf h2
  rw [need_pos (in64m (by omega) (by omega)), need_pos (by omega), eb, need_pos (in64m (by omega) (by omega)), need_pos (in64m (by omega) (by omega)), cond_f (decide_eq_false (by omega)), cond_f (decide_eq_false (by omega)), cond_f (decide_eq_false (by omega))]
  unfold p_ldexp_k2
  dsimp only
  have e1 : a + 0 + ((E : Int) - 1023) + 1023 = (E2 : Int) := by omega
  rw [e1, need_pos (in64m (by omega) (by omega)), w64 (by omega)]
  have e2 : (E2 : Int) * 2 ^ 52 = ((E2 * 4503599627370496 : Nat) : Int) := by omega
  have ec : bits .andNot .u64 (x : Int) 9218868437227405312 = ((f : Nat) : Int) := by rw [← hx]; exact bits_clr hf (by omega)
  rw [e2, w64 (by omega), ec, bits_or64 (by omega) (by omega), or_exp hf]
  have e3 : ∀ z : Nat, (z : Int).toNat = z := fun z => by omega
  rw [e3, need_pos rfl]
  have j1 : J 0 4607182418800017408 1 := one_V.J
  have j2 : J ((E2 : Int) - 1075) (E2 * 4503599627370496 + f) ((4503599627370496 + f : Nat) : Int) := by
    unfold J
    rw [Rat.intCast_natCast]; exact hv2
  obtain ⟨z, hz1, hz2⟩ := mul_dy j1 j2 (by omega) (by omega) (by omega)
  rw [hz1]
  refine ⟨z, rfl, ?_, Ieee.Format.mul_lt _ hz1⟩
  unfold J at hz2
  rw [hz2]
  have e4 : 0 + ((E2 : Int) - 1075) = (E : Int) - 1075 + a := by omega
  have e5 : (1 : Int) * ((4503599627370496 + f : Nat) : Int) = ((4503599627370496 + f : Nat) : Int) := by omega
  rw [e4, e5, Rat.intCast_natCast]
end Go.Proofs.Ytohpmbodfpjjmaa.Wk
