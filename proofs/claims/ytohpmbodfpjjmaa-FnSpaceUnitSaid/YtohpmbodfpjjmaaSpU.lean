/- Proved: the law of vectors made a unit long. -/
import Derived.Test.YtohpmbodfpjjmaaTo3
import Derived.Test.YtohpmbodfpjjmaaExact4s
namespace Go.Proofs.Ytohpmbodfpjjmaa.Wk
open Go.Vm Flt
set_option linter.unusedVariables false
set_option linter.unusedSimpArgs false
theorem sub3_p {F : Nat} (hF : BigF F) {a b : TSpec_Point3} {ax ay az bx b_y bz : Rat} (ha : DydAt3 a ax ay az 2 1074) (hb : DydAt3 b bx b_y bz 2 1074) : ∃ d, p_Point3_Sub F a b = some d ∧ DydAt3 d (ax - bx) (ay - b_y) (az - bz) 74 2148 := by
  obtain ⟨d1, e1, k1⟩ := dyd_sub ha.1 hb.1 (by omega) (by omega) hF
  obtain ⟨d2, e2, k2⟩ := dyd_sub ha.2.1 hb.2.1 (by omega) (by omega) hF
  obtain ⟨d3, e3, k3⟩ := dyd_sub ha.2.2 hb.2.2 (by omega) (by omega) hF
  exact ⟨⟨d1, d2, d3⟩, by simp only [p_Point3_Sub, e1, e2, e3, Option.bind_some], k1, k2, k3⟩
theorem dot3_p {F : Nat} (hF : BigF F) {a b : TSpec_Point3} {ax ay az bx b_y bz : Rat} (ha : DydAt3 a ax ay az 74 2148) (hb : DydAt3 b bx b_y bz 74 2148) : ∃ d, p_Dot3 F a b = some d ∧ Dyd d (ax * bx + ay * b_y + az * bz) 1122 12888 := by
  obtain ⟨d1, e1, k1⟩ := dyd_mul ha.1 hb.1 (by omega) (by omega) hF
  obtain ⟨d2, e2, k2⟩ := dyd_mul ha.2.1 hb.2.1 (by omega) (by omega) hF
  obtain ⟨d3, e3, k3⟩ := dyd_add k1 k2 (by omega) (by omega) hF
  obtain ⟨d4, e4, k4⟩ := dyd_mul ha.2.2 hb.2.2 (by omega) (by omega) hF
  obtain ⟨d5, e5, k5⟩ := dyd_add k3 k4 (by omega) (by omega) hF
  exact ⟨d5, by simp only [p_Dot3, e1, e2, e3, e4, e5, Option.bind_some], k5.mono (by omega) (by omega)⟩
theorem ab_div_le {p q : Rat} (hq : 1 / 4 ≤ q) : ab (p / q) ≤ ab p * 4 := by
  have hq0 : 0 < q := by grind
  have hi := Rat.inv_pos.2 hq0
  have hm := Rat.mul_inv_cancel q (by grind)
  rw [Rat.div_def, ab_mul hi]
  have h1 : q⁻¹ ≤ 4 := by
    have := Rat.mul_le_mul_of_nonneg_right hq (Rat.le_of_lt hi)
    grind
  exact Rat.mul_le_mul_of_nonneg_left h1 (ab_nonneg p)
theorem sqrt_pos {x : Nat} {N : Nat} (hx : I x (N : Int)) (h1 : 1 ≤ N) (h2 : N ≤ 8796093022208) : ∃ L r, p_Sqrt x = some L ∧ V L = some r ∧ 1 / 4 ≤ r ∧ r ≤ 16777216 := by
  have hv : V x = some ((N : Nat) : Rat) := by have := hx; unfold I at this; rw [Rat.intCast_natCast] at this; exact this
  have a1 : (1 : Rat) ≤ (N : Rat) := nat_le_rat h1
  have a2 : (N : Rat) ≤ 8796093022208 := nat_le_rat h2
  have big : (2 : Rat) ^ (50 : Int) ≤ 2 ^ (2000 : Int) := zpow_le (by omega)
  have e50 : (2 : Rat) ^ (50 : Int) = 1125899906842624 := by decide +kernel
  obtain ⟨y, r, s, hy, hr, hs0, hR, l1, l2, _⟩ := sqrt_rnd hv Rat.natCast_nonneg (by grind)
  have hS : p_Sqrt x = some y := by unfold p_Sqrt; rw [show FloatKind.f64.format.sqrt x = some y from hy]; rfl
  have hs1 : s ≤ 8388608 := sq_le hs0 (by decide +kernel) (by grind)
  have hs2 : 1 / 2 ≤ s := sq_le (by decide +kernel) hs0 (by grind)
  obtain ⟨n1, n2⟩ := hR.near (B := 8388608) ⟨by grind, hs1⟩
  have hc : (8388608 : Rat) * u53 + tiny ≤ 1 / 8 := by decide +kernel
  exact ⟨y, r, hS, hr, by grind, by grind⟩
theorem close_same {u : Nat} {r : Rat} (h : V u = some r) : p_closeTo u u = some true := by
  have h0 : r - r = 0 := by grind
  have hp := zpow_pos 1023
  obtain ⟨z, t, hz, ht, hR⟩ := sub_rnd h h (by rw [h0]; unfold ab; rw [if_neg (by decide)]; exact hp)
  rw [h0] at hR
  have ht0 : t = 0 := hR.exact 0 0 (by decide) (by decide) (by rw [zpow_zero', Rat.mul_one]; rfl)
  subst ht0
  unfold p_closeTo
  rw [show floatBits .sub .f64 u u = some z from hz, Option.bind_some]
  have hf := fabs_V ht
  have hc : V 4472074429978902528 = some (1 / 1073741824) := by
    have := V_nrm (f := 0) (E := 993) (by omega) (by omega) (by omega)
    have e : (((4503599627370496 + 0 : Nat) : Rat)) * 2 ^ (((993 : Nat) : Int) - 1075) = 1 / 1073741824 := by decide +kernel
    rw [e] at this; exact this
  rw [flt_val hf hc, decide_eq_true (show ab (0 : Rat) < 1 / 1073741824 by decide +kernel)]
theorem quo_of {x L : Nat} {n : Int} {r : Rat} (hx : I x n) (hn : -1048576 ≤ n ∧ n ≤ 1048576) (hL : V L = some r) (hr : 1 / 4 ≤ r) : ∃ z q, floatBits .quo .f64 x L = some z ∧ V z = some q := by
  have h1 := ab_div_le (p := (n : Rat)) hr
  have h2 := ab_int_lt (n := 4 * n.natAbs) (by omega)
  have h3 : ab (n : Rat) ≤ 1048576 := by
    have b1 : ((-1048576 : Int) : Rat) ≤ (n : Rat) := Rat.intCast_le_intCast.2 hn.1
    have b2 : (n : Rat) ≤ ((1048576 : Int) : Rat) := Rat.intCast_le_intCast.2 hn.2
    have e1 : ((-1048576 : Int) : Rat) = -1048576 := rfl
    have e2 : ((1048576 : Int) : Rat) = 1048576 := rfl
    rw [e1] at b1; rw [e2] at b2
    unfold ab; split <;> grind
  have h4 : (2 : Rat) ^ (23 : Int) ≤ 2 ^ (1022 : Int) := zpow_le (by omega)
  have e : (2 : Rat) ^ (23 : Int) = 8388608 := by decide +kernel
  obtain ⟨z, q, hz, hq, _⟩ := div_rnd hx hL (by grind) (by grind)
  exact ⟨z, q, hz, hq⟩
theorem unit_main {F : Nat} (hF : BigF F) {p : TImpl_P3} (w : Wf3 p) {x y z : Int} (h : At3 p x y z) (hx : -1048576 ≤ x ∧ x ≤ 1048576) (hy : -1048576 ≤ y ∧ y ≤ 1048576) (hz : -1048576 ≤ z ∧ z ≤ 1048576) (hne : ¬ (x = 0 ∧ y = 0 ∧ z = 0)) :
    p_FnSpaceUnit_k1 p F false = some true := by
  obtain ⟨h1, h2, h3⟩ := h
  have sq : ∀ {n : Int}, -1048576 ≤ n ∧ n ≤ 1048576 → (n * n).natAbs ≤ 1099511627776 ∧ 0 ≤ n * n ∧ (n ≠ 0 → 1 ≤ n * n) := fun {n} hn => by
    have e : n * n = ((n.natAbs * n.natAbs : Nat) : Int) := by rw [Int.natAbs_mul_self]
    have hb : n.natAbs ≤ 1048576 := by omega
    have := Nat.mul_le_mul hb hb
    refine ⟨by rw [Int.natAbs_mul]; omega, by omega, fun h => ?_⟩
    have h0 : 1 ≤ n.natAbs := by omega
    have := Nat.mul_le_mul h0 h0
    omega
  obtain ⟨x1, x2, x3⟩ := sq hx
  obtain ⟨y1, y2, y3⟩ := sq hy
  obtain ⟨z1, z2, z3⟩ := sq hz
  obtain ⟨a1, e1, i1⟩ := mul_int h1 h1 (by omega)
  obtain ⟨a2, e2, i2⟩ := mul_int h2 h2 (by omega)
  obtain ⟨a3, e3, i3⟩ := add_int i1 i2 (by omega)
  obtain ⟨a4, e4, i4⟩ := mul_int h3 h3 (by omega)
  obtain ⟨a5, e5, i5⟩ := add_int i3 i4 (by omega)
  obtain ⟨N, hN⟩ : ∃ N : Nat, x * x + y * y + z * z = (N : Int) := ⟨(x * x + y * y + z * z).toNat, by omega⟩
  have hN1 : 1 ≤ N := by
    by_cases c1 : x = 0
    · by_cases c2 : y = 0
      · have := z3 (fun c3 => hne ⟨c1, c2, c3⟩); omega
      · have := y3 c2; omega
    · have := x3 c1; omega
  rw [hN] at i5
  obtain ⟨L, r, hL, hr, r1, r2⟩ := sqrt_pos i5 hN1 (by omega)
  have hlen : p_VectorLength [p.X, p.Y, p.Z] = some L := by
    unfold p_VectorLength
    rw [show idx [p.X, p.Y, p.Z] (0 : Int) = some p.X from rfl, show idx [p.X, p.Y, p.Z] (1 : Int) = some p.Y from rfl, show idx [p.X, p.Y, p.Z] (2 : Int) = some p.Z from rfl]
    simp only [Option.bind_some, e1, e2, e3, e4, e5, hL]
  obtain ⟨u1, q1, f1, g1⟩ := quo_of h1 hx hr r1
  obtain ⟨u2, q2, f2, g2⟩ := quo_of h2 hy hr r1
  obtain ⟨u3, q3, f3, g3⟩ := quo_of h3 hz hr r1
  have hunit : p_VectorUnit3 p = some ⟨u1, u2, u3⟩ := by
    unfold p_VectorUnit3 p_coord3 p_VectorNormalize
    rw [Option.bind_some, hlen, show idx [p.X, p.Y, p.Z] (0 : Int) = some p.X from rfl, show idx [p.X, p.Y, p.Z] (1 : Int) = some p.Y from rfl, show idx [p.X, p.Y, p.Z] (2 : Int) = some p.Z from rfl]
    simp only [Option.bind_some, f1, f2, f3]
    rfl
  obtain ⟨d1, s1, k1⟩ := exactly3_p hF (p := p) ⟨h1, h2, h3⟩ w
  have hz0 : At3 ⟨0, 0, 0⟩ 0 0 0 := ⟨zero_int, zero_int, zero_int⟩
  obtain ⟨d2, s2, k2⟩ := exactly3_p hF hz0 ⟨by decide, by decide, by decide⟩
  obtain ⟨d3, s3, k3⟩ := sub3_p hF k1 k2
  obtain ⟨d4, s4, k4⟩ := dot3_p hF k3 k3
  have hval : ((x : Rat) - ((0 : Int) : Rat)) * ((x : Rat) - ((0 : Int) : Rat)) + ((y : Rat) - ((0 : Int) : Rat)) * ((y : Rat) - ((0 : Int) : Rat)) + ((z : Rat) - ((0 : Int) : Rat)) * ((z : Rat) - ((0 : Int) : Rat)) = ((N : Nat) : Rat) := by
    have e0 : ((0 : Int) : Rat) = 0 := rfl
    have eN : (((N : Nat) : Int) : Rat) = ((N : Nat) : Rat) := Rat.intCast_natCast N
    rw [← eN, ← hN, e0]
    simp only [Rat.intCast_add, Rat.intCast_mul]
    grind
  rw [hval] at k4
  have c1 : (1 : Rat) ≤ (N : Rat) := nat_le_rat hN1
  have c2 : (N : Rat) ≤ 8796093022208 := nat_le_rat (show N ≤ 8796093022208 by omega)
  have big : (2 : Rat) ^ (50 : Int) ≤ 2 ^ (800 : Int) := zpow_le (by omega)
  have e50 : (2 : Rat) ^ (50 : Int) = 1125899906842624 := by decide +kernel
  obtain ⟨v, rv, t1, t2, t3, _, _, t6⟩ := float_p k4 (by omega) c1 (by grind) hF
  have hrv := t6 N (by omega) rfl
  subst hrv
  have hv5 : V a5 = some (N : Rat) := by have := i5; unfold I at this; rw [Rat.intCast_natCast] at this; exact this
  have hva : v = a5 := V_inj t3 (Ieee.Format.add_lt _ e5) (by grind) t2 hv5
  subst hva
  unfold p_FnSpaceUnit_k1
  rw [cond_f rfl, hunit, Option.bind_some, s1, Option.bind_some]
  rw [show p_exactly3 F (TImpl_P3.mk 0 0 0) = some d2 from s2, Option.bind_some]
  have hsq : p_Square3 F d1 d2 = some d4 := by unfold p_Square3; rw [s3, Option.bind_some, s4]; rfl
  rw [hsq, Option.bind_some, t1, Option.bind_some, hL, Option.bind_some, f1, Option.bind_some, close_same g1, Option.bind_some, cond_t rfl, f2, Option.bind_some, close_same g2, Option.bind_some, cond_t rfl, f3, Option.bind_some, close_same g3]
  rfl
theorem law_unit {F : Nat} (hF : 1073741826 ≤ F) (p : TImpl_P3) (w1 : p.X < 18446744073709551616) (w2 : p.Y < 18446744073709551616) (w3 : p.Z < 18446744073709551616) : p_FnSpaceUnit F p = some true := by
  unfold p_FnSpaceUnit
  rw [spaceTo_p hF _ _ (by simp), Option.bind_some]
  cases h : [p].all (spaceOk 4697254411347427328) with
  | false => rw [cond_t (by rfl)]; rfl
  | true =>
    rw [cond_f (by rfl)]
    have h' : spaceOk 4697254411347427328 p = true := by simpa using h
    obtain ⟨x, y, z, hat, hx, hy, hz⟩ := at3_of (K20_int) (by omega) (by omega) h'
    have e0 := zero_int
    rw [feq_int hat.1 e0, feq_int hat.2.1 e0, feq_int hat.2.2 e0]
    by_cases hne : x = 0 ∧ y = 0 ∧ z = 0
    · obtain ⟨rfl, rfl, rfl⟩ := hne
      rfl
    · have : (decide (x = 0) && (decide (y = 0) && (decide (z = 0) && true))) = false := by
        by_cases c1 : x = 0
        · by_cases c2 : y = 0
          · have c3 : z ≠ 0 := fun c3 => hne ⟨c1, c2, c3⟩
            simp [c3]
          · simp [c2]
        · simp [c1]
      rw [this]
      exact unit_main hF ⟨w1, w2, w3⟩ hat hx hy hz hne
end Go.Proofs.Ytohpmbodfpjjmaa.Wk
