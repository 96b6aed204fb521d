/- Proved: relative nearness, roots of near squares. -/
import Derived.Test.YtohpmbodfpjjmaaDFl3
namespace Go.Proofs.Ytohpmbodfpjjmaa.Wk
open Go.Vm Flt
set_option linter.unusedVariables false
set_option linter.unusedSimpArgs false
/-- x is y, but for a share e of it -/
structure R (x y e : Rat) : Prop where
  lo : (1 - e) * y ≤ x
  hi : x ≤ (1 + e) * y
theorem R.mono {x y e f : Rat} (h : R x y e) (h0 : 0 ≤ y) (hf : e ≤ f) : R x y f := by
  have h1 := Rat.mul_le_mul_of_nonneg_right hf h0
  exact ⟨by have := h.lo; grind, by have := h.hi; grind⟩
theorem R.refl (x : Rat) : R x x 0 := ⟨by grind, by grind⟩
theorem R.mul {x y u v e f : Rat} (h : R x y e) (k : R u v f) (hy : 0 ≤ y) (hv : 0 ≤ v) (he : 0 ≤ e) (he1 : e ≤ 1) (hf : 0 ≤ f) (hf1 : f ≤ 1) : R (x * u) (y * v) (e + f + e * f) := by
  have x0 : 0 ≤ (1 - e) * y := Rat.mul_nonneg (by grind) hy
  have u0 : 0 ≤ (1 - f) * v := Rat.mul_nonneg (by grind) hv
  have hx : 0 ≤ x := by have := h.lo; grind
  have hu : 0 ≤ u := by have := k.lo; grind
  have yv : 0 ≤ y * v := Rat.mul_nonneg hy hv
  have ef : 0 ≤ e * f := Rat.mul_nonneg he hf
  have eyv := Rat.mul_nonneg ef yv
  constructor
  · have a1 : (1 - e) * y * ((1 - f) * v) ≤ x * ((1 - f) * v) := Rat.mul_le_mul_of_nonneg_right h.lo u0
    have a2 : x * ((1 - f) * v) ≤ x * u := Rat.mul_le_mul_of_nonneg_left k.lo hx
    have e1 : (1 - e) * y * ((1 - f) * v) = (1 - (e + f + e * f)) * (y * v) + 2 * (e * f * (y * v)) := by grind
    grind
  · have a1 : x * u ≤ (1 + e) * y * u := Rat.mul_le_mul_of_nonneg_right h.hi hu
    have a2 : (1 + e) * y * u ≤ (1 + e) * y * ((1 + f) * v) := Rat.mul_le_mul_of_nonneg_left k.hi (Rat.mul_nonneg (by grind) hy)
    have e1 : (1 + e) * y * ((1 + f) * v) = (1 + (e + f + e * f)) * (y * v) := by grind
    grind
theorem R.trans {x y z e f : Rat} (h : R x y e) (k : R y z f) (hz : 0 ≤ z) (he : 0 ≤ e) (he1 : e ≤ 1) (hf : 0 ≤ f) (hf1 : f ≤ 1) : R x z (e + f + e * f) := by
  have ef : 0 ≤ e * f := Rat.mul_nonneg he hf
  have efz := Rat.mul_nonneg ef hz
  constructor
  · have a1 : (1 - e) * ((1 - f) * z) ≤ (1 - e) * y := Rat.mul_le_mul_of_nonneg_left k.lo (by grind)
    have := h.lo
    have e1 : (1 - e) * ((1 - f) * z) = (1 - (e + f + e * f)) * z + 2 * (e * f * z) := by grind
    grind
  · have a1 : (1 + e) * y ≤ (1 + e) * ((1 + f) * z) := Rat.mul_le_mul_of_nonneg_left k.hi (by grind)
    have := h.hi
    have e1 : (1 + e) * ((1 + f) * z) = (1 + (e + f + e * f)) * z := by grind
    grind
theorem R.of {x y e : Rat} (h1 : x - y ≤ y * e) (h2 : y - x ≤ y * e) : R x y e := ⟨by grind, by grind⟩
abbrev ε44 : Rat := 1 / 17592186044416
abbrev ε42 : Rat := 1 / 4398046511104
theorem root_le {m v Q : Rat} (hm : 0 ≤ m) (hv : 0 ≤ v) (hQ : 0 ≤ Q) (h : R (m * m) Q ε44) (k : R (v * v) Q ε44) : m ≤ (1 + ε42) * v := by
  have hc : (1 + ε44) ≤ (1 + ε42) * (1 + ε42) * (1 - ε44) := by decide +kernel
  refine sq_le hm (Rat.mul_nonneg (by decide +kernel) hv) ?_
  have a1 := h.hi
  have a2 : (1 + ε42) * (1 + ε42) * ((1 - ε44) * Q) ≤ (1 + ε42) * (1 + ε42) * (v * v) := Rat.mul_le_mul_of_nonneg_left k.lo (by decide +kernel)
  have a3 := Rat.mul_le_mul_of_nonneg_right hc hQ
  have e1 : (1 + ε42) * v * ((1 + ε42) * v) = (1 + ε42) * (1 + ε42) * (v * v) := by generalize (1 + ε42) = c; grind
  rw [e1]
  have e2 : (1 + ε42) * (1 + ε42) * (1 - ε44) * Q = (1 + ε42) * (1 + ε42) * ((1 - ε44) * Q) := by generalize (1 + ε42) = c; grind
  rw [e2] at a3
  exact Rat.le_trans a1 (Rat.le_trans a3 a2)
theorem sqrt_zero {x : Nat} (hx : V x = some 0) : ∃ z, p_Sqrt x = some z ∧ V z = some 0 := by
  obtain ⟨y, r, s, hy, hr, hs0, hR, l1, l2, l3⟩ := sqrt_rnd hx Rat.le_refl (zpow_pos _)
  have := l3 0 (by omega) (by simp)
  have hs : s = 0 := by rw [this]; rfl
  subst hs
  have h0 : r = 0 := hR.exact 0 0 (by decide) (by decide) (by rw [zpow_zero', Rat.mul_one]; rfl)
  subst h0
  exact ⟨y, by unfold p_Sqrt; rw [show FloatKind.f64.format.sqrt x = some y from hy]; rfl, hr⟩
theorem sqrt_rel {x : Nat} {q : Rat} (hx : V x = some q) (h1 : 1 / 1099511627776 ≤ q) (h2 : q ≤ 4611686018427387904) : ∃ z r, p_Sqrt x = some z ∧ V z = some r ∧ 0 < r ∧ r ≤ 4294967296 ∧ R (r * r) q (1 / 281474976710656) := by
  have big : (2 : Rat) ^ (63 : Int) ≤ 2 ^ (2000 : Int) := zpow_le (by omega)
  have e61 : (2 : Rat) ^ (63 : Int) = 9223372036854775808 := by decide +kernel
  obtain ⟨y, r, s, hy, hr, hs0, hR, l1, l2, _⟩ := sqrt_rnd hx (by grind) (by grind)
  have hS : p_Sqrt x = some y := by unfold p_Sqrt; rw [show FloatKind.f64.format.sqrt x = some y from hy]; rfl
  have hs1 : s ≤ 3221225472 := sq_le hs0 (by decide +kernel) (by grind)
  have hs2 : 1 / 2097152 ≤ s := sq_le (by decide +kernel) hs0 (by grind)
  have hab : ab s = s := by unfold ab; rw [if_neg (by grind)]
  have n1 := hR.lo
  have n2 := hR.hi
  rw [hab, e53] at n1 n2
  have ht := tiny_le
  have hc : tiny ≤ (1 / 2097152) * (1 / 9007199254740992) := by decide +kernel
  have hc2 := Rat.mul_le_mul_of_nonneg_right hs2 (show (0 : Rat) ≤ 1 / 9007199254740992 by decide +kernel)
  have d1 : r - s ≤ s * (1 / 4503599627370496) := by grind
  have d2 : s - r ≤ s * (1 / 4503599627370496) := by grind
  have hr0 : 0 < r := by grind
  have hR1 : R r s (1 / 4503599627370496) := R.of d1 d2
  have hR2 := hR1.mul hR1 hs0 hs0 (by decide +kernel) (by decide +kernel) (by decide +kernel) (by decide +kernel)
  have hss : 0 ≤ s * s := Rat.mul_nonneg hs0 hs0
  have hR3 := hR2.mono hss (show _ ≤ (1 / 1125899906842624 : Rat) by decide +kernel)
  have hq : R (s * s) q (1 / 9007199254740992) := ⟨by grind, by grind⟩
  have hR4 := hR3.trans hq (by grind) (by decide +kernel) (by decide +kernel) (by decide +kernel) (by decide +kernel)
  refine ⟨y, r, hS, hr, hr0, by grind, hR4.mono (by grind) (by decide +kernel)⟩
theorem near_p {a b : Nat} {p q : Rat} (ha : V a = some p) (hb : V b = some q) (h1 : p - q ≤ 1 / 4194304) (h2 : q - p ≤ 1 / 4194304) : p_nearTo a b = some true := by
  have hbd : Bd (p - q) 1 := ⟨by grind, by grind⟩
  have hlt := huge_lt2 hbd (by decide +kernel)
  obtain ⟨z, t, hz, ht, hR⟩ := sub_rnd ha hb hlt
  obtain ⟨n1, n2⟩ := hR.near hbd
  have hc : (1 : Rat) * u53 + tiny ≤ 1 / 4194304 := by decide +kernel
  unfold p_nearTo
  rw [show floatBits .sub .f64 a b = some z from hz, Option.bind_some]
  have hf := fabs_V ht
  have hcv : V 4517110426252607488 = some (1 / 1048576) := by
    have := V_nrm (f := 0) (E := 1003) (by omega) (by omega) (by omega)
    have e : (((4503599627370496 + 0 : Nat) : Rat)) * 2 ^ (((1003 : Nat) : Int) - 1075) = 1 / 1048576 := by decide +kernel
    rw [e] at this; exact this
  have hab : ab t < 1 / 1048576 := by unfold ab; split <;> grind
  rw [flt_val hf hcv, decide_eq_true hab]
/-- A quotient of what is above 0. -/
theorem div_rel' {x y : Nat} {p q : Rat} (hx : V x = some p) (hy : V y = some q) (hq : 0 < q) (h1 : 1 / 1099511627776 ≤ p / q) (h2 : p / q ≤ 2305843009213693952) : ∃ z r, floatBits .quo .f64 x y = some z ∧ V z = some r ∧ R r (p / q) (1 / 2251799813685248) := by
  have hab : ab (p / q) = p / q := by unfold ab; rw [if_neg (by grind)]
  have big : (2 : Rat) ^ (62 : Int) ≤ 2 ^ (1022 : Int) := zpow_le (by omega)
  have e61 : (2 : Rat) ^ (62 : Int) = 4611686018427387904 := by decide +kernel
  obtain ⟨z, r, hz, hr, hN⟩ := div_rnd hx hy (by grind) (by rw [hab]; grind)
  have n1 := hN.lo
  have n2 := hN.hi
  have e52 : (2 : Rat) ^ (-52 : Int) = 1 / 4503599627370496 := by decide +kernel
  rw [hab, e52] at n1 n2
  have ht := tiny_le
  have hc : tiny ≤ (1 / 1099511627776) * (1 / 4503599627370496) := by decide +kernel
  have hc2 := Rat.mul_le_mul_of_nonneg_right h1 (show (0 : Rat) ≤ 1 / 4503599627370496 by decide +kernel)
  exact ⟨z, r, hz, hr, R.of (by grind) (by grind)⟩
theorem mul_rel {x y : Nat} {p q : Rat} (hx : V x = some p) (hy : V y = some q) (h1 : 1 / 1099511627776 ≤ p * q) (h2 : p * q ≤ 1152921504606846976) : ∃ z r, floatBits .mul .f64 x y = some z ∧ V z = some r ∧ R r (p * q) (1 / 4503599627370496) := by
  have hbd : Bd (p * q) 1152921504606846976 := ⟨by grind, h2⟩
  obtain ⟨z, r, hz, hr, hR⟩ := mul_rnd hx hy (huge_lt2 hbd (by decide +kernel))
  have hab : ab (p * q) = p * q := by unfold ab; rw [if_neg (by grind)]
  have n1 := hR.lo
  have n2 := hR.hi
  rw [hab, e53] at n1 n2
  have ht := tiny_le
  have hc : tiny ≤ (1 / 1099511627776) * (1 / 9007199254740992) := by decide +kernel
  have hc2 := Rat.mul_le_mul_of_nonneg_right h1 (show (0 : Rat) ≤ 1 / 9007199254740992 by decide +kernel)
  exact ⟨z, r, hz, hr, R.of (by grind) (by grind)⟩
theorem div_zero {x y : Nat} {q : Rat} (hx : V x = some 0) (hy : V y = some q) (h0 : q ≠ 0) : ∃ z, floatBits .quo .f64 x y = some z ∧ V z = some 0 := by
  obtain ⟨s, m, i, hrx, hvx⟩ := V_num hx
  obtain ⟨t, n, j, hry, hvy⟩ := V_num hy
  have hn : n ≠ 0 := fun e => by subst e; apply h0; rw [← hvy]; unfold sg; cases t <;> simp
  have hm : m = 0 := by
    have hi := zpow_pos i
    apply Classical.byContradiction
    intro hne
    have h1 : (1 : Rat) ≤ (m : Rat) := nat_le_rat (show 1 ≤ m by omega)
    have h2 := Rat.mul_le_mul_of_nonneg_right h1 (Rat.le_of_lt hi)
    unfold sg at hvx
    cases s <;> simp at hvx <;> grind
  subst hm
  have hdiv : Ieee.double.div x y = some (Ieee.double.write (.number (s ^^ t) 0 (i - j - (54 + n.log2 - (0 : Nat).log2 : Nat) - 1))) := by
    unfold Ieee.Format.div
    rw [hrx, hry]
    unfold Ieee.Datum.quotient
    have e54 : Ieee.double.fractionBits + 2 = 54 := by decide
    simp only [if_neg hn, e54, Nat.zero_shiftLeft, Nat.zero_div, Nat.zero_mod]
    rfl
  obtain ⟨r, hr, hR⟩ := write_rnd (s ^^ t) 0 (i - j - (54 + n.log2 - (0 : Nat).log2 : Nat) - 1) (by
    have e : (((0 : Nat) : Rat)) * (2 : Rat) ^ (i - j - (54 + n.log2 - (0 : Nat).log2 : Nat) - 1) = 0 := by simp
    rw [e]; exact zpow_pos 1023)
  have e0 : sg (s ^^ t) (((0 : Nat) : Rat) * (2 : Rat) ^ (i - j - (54 + n.log2 - (0 : Nat).log2 : Nat) - 1)) = 0 := by unfold sg; cases (s ^^ t) <;> simp
  rw [e0] at hR
  have h0 : r = 0 := hR.exact 0 0 (by decide) (by decide) (by rw [zpow_zero', Rat.mul_one]; rfl)
  subst h0
  exact ⟨_, hdiv, hr⟩
theorem R.inv {x y e : Rat} (h : R x y e) (hy : 0 < y) (he : 0 ≤ e) (he1 : e ≤ 1 / 4) : R x⁻¹ y⁻¹ (2 * e) := by
  have hx : 0 < x := by
    have := h.lo
    have h2 := Rat.mul_pos (show (0 : Rat) < 1 - e by grind) hy
    grind
  have ui := Rat.inv_pos.2 hx
  have wi := Rat.inv_pos.2 hy
  have xu := Rat.mul_inv_cancel x (by grind)
  have yw := Rat.mul_inv_cancel y (by grind)
  have uw : 0 ≤ x⁻¹ * y⁻¹ := Rat.mul_nonneg (Rat.le_of_lt ui) (Rat.le_of_lt wi)
  have eey : 0 ≤ e * e * y := Rat.mul_nonneg (Rat.mul_nonneg he he) (Rat.le_of_lt hy)
  have ey : 0 ≤ e * y := Rat.mul_nonneg he (Rat.le_of_lt hy)
  have ee : e * (e * y) ≤ (1 / 4) * (e * y) := Rat.mul_le_mul_of_nonneg_right he1 ey
  have g1 : (1 - 2 * e) * x ≤ y := by
    have := Rat.mul_le_mul_of_nonneg_left h.hi (show (0 : Rat) ≤ 1 - 2 * e by grind)
    grind
  have g2 : y ≤ (1 + 2 * e) * x := by
    have := Rat.mul_le_mul_of_nonneg_left h.lo (show (0 : Rat) ≤ 1 + 2 * e by grind)
    grind
  have m1 := Rat.mul_le_mul_of_nonneg_right g1 uw
  have m2 := Rat.mul_le_mul_of_nonneg_right g2 uw
  generalize x⁻¹ = u at *
  generalize y⁻¹ = w at *
  have k1 : (1 - 2 * e) * x * (u * w) = (1 - 2 * e) * w := by grind
  have k2 : y * (u * w) = u := by grind
  have k3 : (1 + 2 * e) * x * (u * w) = (1 + 2 * e) * w := by grind
  rw [k1, k2] at m1
  rw [k2, k3] at m2
  exact ⟨m1, m2⟩
/-- The exact root, as the laws tell it. -/
theorem rootOf_p {F : Nat} (hF : BigF F) {d : TSpec_Ratio} {n dd : Rat} {m k m' k' : Nat} (hn : Dyd d.N n m k) (hd : Dyd d.D dd m' k') (hm : m < 20000) (hm' : m' < 20000) (h0 : n = 0 ∨ 1 ≤ n) (h1 : 1 ≤ dd) (hb : n ≤ 1152921504606846976) (hb2 : dd ≤ 1073741824) :
    ∃ z v, p_rootOf F d = some z ∧ V z = some v ∧ 0 ≤ v ∧ (n = 0 → v = 0) ∧ R (v * v) (n / dd) ε44 ∧ v ≤ 4294967296 := by
  have big : (2 : Rat) ^ (61 : Int) ≤ 2 ^ (800 : Int) := zpow_le (by omega)
  have e61 : (2 : Rat) ^ (61 : Int) = 2305843009213693952 := by decide +kernel
  obtain ⟨y3, r3, t1, t2, _, t4, t5, _⟩ := float_p hd hm' h1 (by grind) hF
  have hR3 : R r3 dd (1 / 4503599627370496) := R.of t4 t5
  have hr3 : 1 / 2 ≤ r3 := by have := hR3.lo; grind
  have hdi := Rat.inv_pos.2 (show (0 : Rat) < dd by grind)
  have hmi := Rat.mul_inv_cancel dd (by grind)
  have hdl : dd⁻¹ ≤ 1 := by
    have := Rat.mul_le_mul_of_nonneg_right h1 (Rat.le_of_lt hdi)
    grind
  have hdg : 1 / 1073741824 ≤ dd⁻¹ := by
    have := Rat.mul_le_mul_of_nonneg_right hb2 (Rat.le_of_lt hdi)
    grind
  rcases h0 with h0 | h0
  · subst h0
    have hz : p_Dyadic_Float F d.N = some 0 := by
      unfold p_Dyadic_Float
      rw [dyd_sign hn, Option.bind_some]
      rfl
    have hz0 : V 0 = some 0 := by have := zero_int; unfold I at this; simpa using this
    obtain ⟨z5, e5, v5⟩ := div_zero hz0 t2 (by grind)
    obtain ⟨z, e7, v7⟩ := sqrt_zero v5
    refine ⟨z, 0, ?_, v7, Rat.le_refl, fun _ => rfl, ⟨by rw [Rat.div_def]; grind, by rw [Rat.div_def]; grind⟩, by decide +kernel⟩
    unfold p_rootOf
    rw [hz, Option.bind_some, t1, Option.bind_some, show floatBits .quo .f64 0 y3 = some z5 from e5, Option.bind_some, e7]
    rfl
  · obtain ⟨y1, r1, s1, s2, _, s4, s5, _⟩ := float_p hn hm h0 (by grind) hF
    have hR1 : R r1 n (1 / 4503599627370496) := R.of s4 s5
    have hI := hR3.inv (by grind) (by decide +kernel) (by decide +kernel)
    have hQ := hR1.mul hI (by grind) (Rat.le_of_lt hdi) (by decide +kernel) (by decide +kernel) (by decide +kernel) (by decide +kernel)
    have q1 : 1 / 1073741824 ≤ n * dd⁻¹ := by
      have a1 := Rat.mul_le_mul_of_nonneg_right h0 (Rat.le_of_lt hdi)
      grind
    have q2 : n * dd⁻¹ ≤ 1152921504606846976 := by
      have a1 := Rat.mul_le_mul_of_nonneg_left hdl (show (0 : Rat) ≤ n by grind)
      grind
    have hQ2 := hQ.mono (by grind) (show _ ≤ (1 / 1125899906842624 : Rat) by decide +kernel)
    have q3 := hQ2.lo
    have q4 := hQ2.hi
    have q5 : 1 / 1099511627776 ≤ r1 / r3 ∧ r1 / r3 ≤ 2305843009213693952 := by rw [Rat.div_def]; constructor <;> grind
    obtain ⟨z5, r5, e5, v5, hR5⟩ := div_rel' s2 t2 (by grind) q5.1 q5.2
    rw [Rat.div_def] at hR5
    have hR6 := hR5.trans hQ2 (by grind) (by decide +kernel) (by decide +kernel) (by decide +kernel) (by decide +kernel)
    have hR7 := hR6.mono (by grind) (show _ ≤ (1 / 281474976710656 : Rat) by decide +kernel)
    have q6 := hR7.lo
    have q7 := hR7.hi
    obtain ⟨z, v, e7, v7, v0, vb, hRv⟩ := sqrt_rel v5 (by grind) (by grind)
    have hR8 := hRv.trans hR7 (by grind) (by decide +kernel) (by decide +kernel) (by decide +kernel) (by decide +kernel)
    refine ⟨z, v, ?_, v7, Rat.le_of_lt v0, fun h => by grind, ?_, vb⟩
    · unfold p_rootOf
      rw [s1, Option.bind_some, t1, Option.bind_some, e5, Option.bind_some, e7]
      rfl
    · rw [Rat.div_def]; exact hR8.mono (by grind) (by decide +kernel)
end Go.Proofs.Ytohpmbodfpjjmaa.Wk
