/- Proved: the law of the distance of a place from a line. -/
import Derived.Test.YtohpmbodfpjjmaaRel
import Derived.Test.YtohpmbodfpjjmaaTos
namespace Go.Proofs.Ytohpmbodfpjjmaa.Wk
open Go.Vm Flt
set_option linter.unusedVariables false
set_option linter.unusedSimpArgs false
theorem dot_p {F : Nat} (hF : BigF F) {a b c d : TSpec_Point} {ax ay bx b_y cx cy dx dy : Rat} (ha : DydAt a ax ay) (hb : DydAt b bx b_y) (hc : DydAt c cx cy) (hd : DydAt d dx dy) : ∃ e, p_Dot F a b c d = some e ∧ Dyd e ((bx - ax) * (dx - cx) + (b_y - ay) * (dy - cy)) 567 8592 := by
  obtain ⟨d1, e1, k1⟩ := dyd_sub hb.1 ha.1 (by omega) (by omega) hF
  obtain ⟨d2, e2, k2⟩ := dyd_sub hd.1 hc.1 (by omega) (by omega) hF
  obtain ⟨d3, e3, k3⟩ := dyd_mul k1 k2 (by omega) (by omega) hF
  obtain ⟨d4, e4, k4⟩ := dyd_sub hb.2 ha.2 (by omega) (by omega) hF
  obtain ⟨d5, e5, k5⟩ := dyd_sub hd.2 hc.2 (by omega) (by omega) hF
  obtain ⟨d6, e6, k6⟩ := dyd_mul k4 k5 (by omega) (by omega) hF
  obtain ⟨d7, e7, k7⟩ := dyd_add k3 k6 (by omega) (by omega) hF
  exact ⟨d7, by simp only [p_Dot, e1, e2, e3, e4, e5, e6, e7, Option.bind_some], k7⟩
theorem mul_small {a b : Int} (ha : -16384 ≤ a ∧ a ≤ 16384) (hb : -16384 ≤ b ∧ b ≤ 16384) : (a * b).natAbs ≤ 268435456 := by
  rw [Int.natAbs_mul]
  have := Nat.mul_le_mul (show a.natAbs ≤ 16384 by omega) (show b.natAbs ≤ 16384 by omega)
  omega
theorem sq_pos' {n : Int} : 0 ≤ n * n ∧ (n ≠ 0 → 1 ≤ n * n) := by
  have e : n * n = ((n.natAbs * n.natAbs : Nat) : Int) := by rw [Int.natAbs_mul_self]
  refine ⟨by omega, fun h => ?_⟩
  have h0 : 1 ≤ n.natAbs := by omega
  have := Nat.mul_le_mul h0 h0
  omega
theorem IV {x : Nat} {n : Int} (h : I x n) : Flt.V x = some (n : Rat) := h
/-- The distance that the program gives: near, but for a share. -/
theorem perp_val {C D : Int} {z59 z29 : Nat} (hC : I z59 C) (hD : I z29 D) (hCb : C.natAbs ≤ 536870912) (hD1 : 1 ≤ D) (hDb : D ≤ 536870912) :
    ∃ z61 y63 z65 m, floatBits .quo .f64 z59 z29 = some z61 ∧ p_Sqrt z29 = some y63 ∧ floatBits .mul .f64 (Flt.fabs z61) y63 = some z65 ∧ V z65 = some m ∧ 0 ≤ m ∧ (C = 0 → m = 0) ∧ R (m * m) (((C : Rat) * C) / D) ε44 := by
  have d1 : (1 : Rat) ≤ (D : Rat) := by have := Rat.intCast_le_intCast.2 hD1; exact this
  have d2 : (D : Rat) ≤ 536870912 := by have := Rat.intCast_le_intCast.2 hDb; exact this
  have hdi := Rat.inv_pos.2 (show (0 : Rat) < (D : Rat) by grind)
  have hmi := Rat.mul_inv_cancel (D : Rat) (by grind)
  have hdl : ((D : Rat))⁻¹ ≤ 1 := by have := Rat.mul_le_mul_of_nonneg_right d1 (Rat.le_of_lt hdi); grind
  have hdg : 1 / 536870912 ≤ ((D : Rat))⁻¹ := by have := Rat.mul_le_mul_of_nonneg_right d2 (Rat.le_of_lt hdi); grind
  obtain ⟨y63, r, s1, s2, s3, s4, s5⟩ := sqrt_rel (IV hD) (by grind) (by grind)
  by_cases h0 : C = 0
  · subst h0
    have hz : V z59 = some 0 := by have := hC; unfold I at this; simpa using this
    obtain ⟨z61, e1, v1⟩ := div_zero hz (IV hD) (by grind)
    have v2 := fabs_V v1
    have hab0 : ab (0 : Rat) = 0 := by decide +kernel
    rw [hab0] at v2
    have hm0 : (0 : Rat) * r = 0 := by grind
    obtain ⟨z65, m, e2, v3, hR⟩ := mul_rnd v2 s2 (by rw [hm0, hab0]; exact zpow_pos 1023)
    rw [hm0] at hR
    have hm : m = 0 := hR.exact 0 0 (by decide) (by decide) (by rw [zpow_zero', Rat.mul_one]; rfl)
    subst hm
    refine ⟨z61, y63, z65, 0, e1, s1, e2, v3, Rat.le_refl, fun _ => rfl, ?_⟩
    have e0 : (((0 : Int) : Rat) * ((0 : Int) : Rat)) / (D : Rat) = 0 := by
      have : ((0 : Int) : Rat) = 0 := rfl
      rw [this, Rat.div_def]; grind
    rw [e0]
    exact ⟨by grind, by grind⟩
  · -- C is not 0
    obtain ⟨c, hc⟩ : ∃ c : Nat, c = C.natAbs := ⟨_, rfl⟩
    have c1 : (1 : Rat) ≤ (c : Rat) := nat_le_rat (show 1 ≤ c by omega)
    have c2 : (c : Rat) ≤ 536870912 := nat_le_rat (show c ≤ 536870912 by omega)
    have hcc : (C : Rat) * C = (c : Rat) * c := by
      have : C * C = ((c * c : Nat) : Int) := by rw [hc, Int.natAbs_mul_self]
      have h2 : ((C * C : Int) : Rat) = (((c * c : Nat) : Int) : Rat) := by rw [this]
      rw [Rat.intCast_mul, Rat.intCast_natCast, Rat.natCast_mul] at h2
      exact h2
    have habC : ab (C : Rat) = (c : Rat) := by rw [ab_int, ← hc, Rat.intCast_natCast]
    have habq : ab ((C : Rat) / D) = (c : Rat) * ((D : Rat))⁻¹ := by rw [Rat.div_def, ab_mul hdi, habC]
    have q1 : 1 / 536870912 ≤ (c : Rat) * ((D : Rat))⁻¹ := by have := Rat.mul_le_mul_of_nonneg_right c1 (Rat.le_of_lt hdi); grind
    have q2 : (c : Rat) * ((D : Rat))⁻¹ ≤ 536870912 := by have := Rat.mul_le_mul_of_nonneg_left hdl (show (0 : Rat) ≤ (c : Rat) by grind); grind
    have big : (2 : Rat) ^ (61 : Int) ≤ 2 ^ (1022 : Int) := zpow_le (by omega)
    have e61 : (2 : Rat) ^ (61 : Int) = 2305843009213693952 := by decide +kernel
    obtain ⟨z61, a, e1, v1, hN⟩ := div_rnd (IV hC) (IV hD) (by grind) (by rw [habq]; grind)
    have n1 := hN.lo
    have n2 := hN.hi
    have e52 : (2 : Rat) ^ (-52 : Int) = 1 / 4503599627370496 := by decide +kernel
    rw [habq, e52] at n1 n2
    have ht := tiny_le
    have hcs : tiny ≤ (1 / 536870912) * (1 / 4503599627370496) := by decide +kernel
    have hcs2 := Rat.mul_le_mul_of_nonneg_right q1 (show (0 : Rat) ≤ 1 / 4503599627370496 by decide +kernel)
    have hRa : R (ab a) ((c : Rat) * ((D : Rat))⁻¹) (1 / 2251799813685248) := by
      rw [← habq] at *
      generalize ((C : Rat) / D) = p at *
      have h1 : a - p ≤ ab p * (1 / 2251799813685248) := by grind
      have h2 : p - a ≤ ab p * (1 / 2251799813685248) := by grind
      unfold ab at *
      refine R.of ?_ ?_ <;> (split <;> split <;> grind)
    have va := fabs_V v1
    have a1 := hRa.lo
    have a2 := hRa.hi
    have hR0 : 0 ≤ (c : Rat) * ((D : Rat))⁻¹ := by grind
    -- r from below
    have r1 : 1 / 2 ≤ r := sq_le (by decide +kernel) (Rat.le_of_lt s3) (by have := s5.lo; grind)
    have r2 : r ≤ 65536 := sq_le (Rat.le_of_lt s3) (by decide +kernel) (by have := s5.hi; grind)
    have p1 : (1 / 1073741824) * (1 / 2) ≤ ab a * r := by
      have t1 := Rat.mul_le_mul_of_nonneg_right (show 1 / 1073741824 ≤ ab a by grind) (show (0 : Rat) ≤ 1 / 2 by decide +kernel)
      have t2 := Rat.mul_le_mul_of_nonneg_left r1 (show (0 : Rat) ≤ ab a by grind)
      exact Rat.le_trans t1 t2
    have p2 : ab a * r ≤ 1073741824 * 65536 := by
      have t1 := Rat.mul_le_mul_of_nonneg_right (show ab a ≤ 1073741824 by grind) (Rat.le_of_lt s3)
      have t2 := Rat.mul_le_mul_of_nonneg_left r2 (show (0 : Rat) ≤ 1073741824 by decide +kernel)
      exact Rat.le_trans t1 t2
    obtain ⟨z65, m, e2, v3, hRm⟩ := mul_rel va s2 (by grind) (by grind)
    have hm0 : 0 ≤ m := by have := hRm.lo; grind
    refine ⟨z61, y63, z65, m, e1, s1, e2, v3, hm0, fun h => absurd h h0, ?_⟩
    have har : 0 ≤ ab a * r := by grind
    have k1 := (hRm.mul hRm har har (by decide +kernel) (by decide +kernel) (by decide +kernel) (by decide +kernel)).mono (Rat.mul_nonneg har har) (show _ ≤ (1 / 1125899906842624 : Rat) by decide +kernel)
    have k2 := (hRa.mul hRa hR0 hR0 (by decide +kernel) (by decide +kernel) (by decide +kernel) (by decide +kernel)).mono (Rat.mul_nonneg hR0 hR0) (show _ ≤ (1 / 562949953421312 : Rat) by decide +kernel)
    have k3 := k2.mul s5 (Rat.mul_nonneg hR0 hR0) (by grind) (by decide +kernel) (by decide +kernel) (by decide +kernel) (by decide +kernel)
    have e3 : ab a * ab a * (r * r) = ab a * r * (ab a * r) := by grind
    have e4 : (c : Rat) * ((D : Rat))⁻¹ * ((c : Rat) * ((D : Rat))⁻¹) * (D : Rat) = ((C : Rat) * C) / D := by
      rw [hcc, Rat.div_def]; grind
    have hQ0 : 0 ≤ ((C : Rat) * C) / D := by rw [← e4]; exact Rat.mul_nonneg (Rat.mul_nonneg hR0 hR0) (by grind)
    rw [e3, e4] at k3
    have k4 := k3.mono hQ0 (show _ ≤ (1 / 140737488355328 : Rat) by decide +kernel)
    exact (k1.trans k4 hQ0 (by decide +kernel) (by decide +kernel) (by decide +kernel) (by decide +kernel)).mono hQ0 (by decide +kernel)
theorem perp_main {F : Nat} (hF : BigF F) {p a b : TImpl_P2} {px py ax ay bx b_y : Int} (hp : At p px py) (ha : At a ax ay) (hb : At b bx b_y)
    (wp : p.X < 18446744073709551616 ∧ p.Y < 18446744073709551616) (wa : a.X < 18446744073709551616 ∧ a.Y < 18446744073709551616) (wb : b.X < 18446744073709551616 ∧ b.Y < 18446744073709551616)
    (bp : (-8192 ≤ px ∧ px ≤ 8192) ∧ (-8192 ≤ py ∧ py ≤ 8192)) (ba : (-8192 ≤ ax ∧ ax ≤ 8192) ∧ (-8192 ≤ ay ∧ ay ≤ 8192)) (bb : (-8192 ≤ bx ∧ bx ≤ 8192) ∧ (-8192 ≤ b_y ∧ b_y ≤ 8192)) (hne : ¬ (ax = bx ∧ ay = b_y)) :
    p_FnPerpendicularDistance_k1 p a b F false = some true := by
  -- the program
  have m1 := mul_small (a := bx - ax) (b := bx - ax) (by omega) (by omega)
  have m2 := mul_small (a := b_y - ay) (b := b_y - ay) (by omega) (by omega)
  have m3 := mul_small (a := ay - py) (b := bx - ax) (by omega) (by omega)
  have m4 := mul_small (a := ax - px) (b := b_y - ay) (by omega) (by omega)
  obtain ⟨z5, e5, i5⟩ := sub_int hb.1 ha.1 (by omega)
  obtain ⟨z13, e13, i13⟩ := mul_int i5 i5 (by omega)
  obtain ⟨z19, e19, i19⟩ := sub_int hb.2 ha.2 (by omega)
  obtain ⟨z27, e27, i27⟩ := mul_int i19 i19 (by omega)
  obtain ⟨z29, e29, i29⟩ := add_int i13 i27 (by omega)
  obtain ⟨z35, e35, i35⟩ := sub_int ha.2 hp.2 (by omega)
  obtain ⟨z43, e43, i43⟩ := mul_int i35 i5 (by omega)
  obtain ⟨z49, e49, i49⟩ := sub_int ha.1 hp.1 (by omega)
  obtain ⟨z57, e57, i57⟩ := mul_int i49 i19 (by omega)
  obtain ⟨z59, e59, i59⟩ := sub_int i43 i57 (by omega)
  obtain ⟨C, hC⟩ : ∃ C : Int, C = (ay - py) * (bx - ax) - (ax - px) * (b_y - ay) := ⟨_, rfl⟩
  obtain ⟨D, hD⟩ : ∃ D : Int, D = (bx - ax) * (bx - ax) + (b_y - ay) * (b_y - ay) := ⟨_, rfl⟩
  rw [← hC] at i59
  rw [← hD] at i29
  have hx0 := sq_pos' (n := bx - ax)
  have hy0 := sq_pos' (n := b_y - ay)
  have hD1 : 1 ≤ D := by
    by_cases c1 : bx - ax = 0
    · have := hy0.2 (fun c2 => hne ⟨by omega, by omega⟩); omega
    · have := hx0.2 c1; omega
  have hDb : D ≤ 536870912 := by omega
  have hCb : C.natAbs ≤ 536870912 := by omega
  obtain ⟨z61, y63, z65, m, f1, f2, f3, f4, f5, f6, f7⟩ := perp_val i59 i29 hCb hD1 hDb
  have hprog : p_PerpendicularDistance p a b = some z65 := by
    unfold p_PerpendicularDistance p_coord p_PerpendicularDistanceFromPointToLine
    simp only [Option.bind_some]
    rw [show idx [b.X, b.Y] (0 : Int) = some b.X from rfl, show idx [b.X, b.Y] (1 : Int) = some b.Y from rfl, show idx [a.X, a.Y] (0 : Int) = some a.X from rfl, show idx [a.X, a.Y] (1 : Int) = some a.Y from rfl, show idx [p.X, p.Y] (0 : Int) = some p.X from rfl, show idx [p.X, p.Y] (1 : Int) = some p.Y from rfl]
    simp only [Option.bind_some, e5, e13, e19, e27, e29, e35, e43, e49, e57, e59, f1, f2, f3]
  -- the law
  obtain ⟨da, t1, ka⟩ := exactly_p hF ha wa.1 wa.2
  obtain ⟨db, t2, kb⟩ := exactly_p hF hb wb.1 wb.2
  obtain ⟨dp, t3, kp⟩ := exactly_p hF hp wp.1 wp.2
  obtain ⟨dc, t4, kc⟩ := cross_p hF ka kb kp
  obtain ⟨d2, t5, k2⟩ := dyd_mul kc kc (by omega) (by omega) hF
  obtain ⟨dd, t6, kd⟩ := dot_p hF ka kb ka kb
  have hcr : crossR (ax : Rat) ay bx b_y px py = -(C : Rat) := by
    unfold crossR
    rw [hC]
    simp only [Rat.intCast_sub, Rat.intCast_mul]
    grind
  have hdr : ((bx : Rat) - ax) * ((bx : Rat) - ax) + ((b_y : Rat) - ay) * ((b_y : Rat) - ay) = (D : Rat) := by
    rw [hD]
    simp only [Rat.intCast_sub, Rat.intCast_mul, Rat.intCast_add]
  rw [hcr] at k2
  rw [hdr] at kd
  have hcc : -(C : Rat) * -(C : Rat) = (C : Rat) * C := by grind
  rw [hcc] at k2
  have d1 : (1 : Rat) ≤ (D : Rat) := by have := Rat.intCast_le_intCast.2 hD1; exact this
  have d3 : (D : Rat) ≤ 536870912 := by have := Rat.intCast_le_intCast.2 hDb; exact this
  have hsg : p_Dyadic_Sign dd = some 1 := by
    rw [dyd_sign kd]
    unfold sgR
    rw [if_neg (by grind), if_neg (by grind)]
  have hratio : p_RatioOf d2 dd = some ⟨d2, dd⟩ := by
    unfold p_RatioOf
    rw [hsg, Option.bind_some, cond_f (by rfl)]
  have hCC : (C : Rat) * C = ((C * C : Int) : Rat) := by rw [Rat.intCast_mul]
  have hC0 : (C : Rat) * C = 0 ∨ 1 ≤ (C : Rat) * C := by
    by_cases h : C = 0
    · left; subst h; decide +kernel
    · right
      rw [hCC]
      have := Rat.intCast_le_intCast.2 ((sq_pos' (n := C)).2 h)
      exact this
  have hCB : (C : Rat) * C ≤ 1152921504606846976 := by
    rw [hCC]
    have : C * C ≤ 288230376151711744 := by
      have e : C * C = ((C.natAbs * C.natAbs : Nat) : Int) := by rw [Int.natAbs_mul_self]
      have := Nat.mul_le_mul hCb hCb
      omega
    have := Rat.intCast_le_intCast.2 this
    have e : ((288230376151711744 : Int) : Rat) = 288230376151711744 := rfl
    rw [e] at this
    grind
  obtain ⟨z, v, g1, g2, g3, g4, g5, g6⟩ := rootOf_p hF (d := ⟨d2, dd⟩) k2 kd (by omega) (by omega) hC0 d1 hCB (by grind)
  unfold p_FnPerpendicularDistance_k1
  rw [cond_f rfl, t1, Option.bind_some, t2, Option.bind_some, t3, Option.bind_some, t4, Option.bind_some, hprog, Option.bind_some, t5, Option.bind_some, Option.bind_some, Option.bind_some]
  have hsq : p_Square F da db = some dd := by unfold p_Square; rw [t6]; rfl
  rw [hsq, Option.bind_some, hratio, Option.bind_some, g1, Option.bind_some]
  have hfin : m - v ≤ 1 / 4194304 ∧ v - m ≤ 1 / 4194304 := by
    by_cases h : C = 0
    · have h1 := f6 h
      have h2 := g4 (by subst h; decide +kernel)
      rw [h1, h2]
      constructor <;> decide +kernel
    · have hdi := Rat.inv_pos.2 (show (0 : Rat) < (D : Rat) by grind)
      have hmi := Rat.mul_inv_cancel (D : Rat) (by grind)
      have hdl : ((D : Rat))⁻¹ ≤ 1 := by have := Rat.mul_le_mul_of_nonneg_right d1 (Rat.le_of_lt hdi); grind
      have hCC0 : 0 ≤ (C : Rat) * C := by
        rcases hC0 with h | h
        · rw [h]; exact Rat.le_refl
        · exact Rat.le_trans (by decide +kernel) h
      have hQ : 0 ≤ ((C : Rat) * C) / D := by
        rw [Rat.div_def]
        exact Rat.mul_nonneg hCC0 (Rat.le_of_lt hdi)
      have b1 := root_le f5 g3 hQ f7 g5
      have b2 := root_le g3 f5 hQ g5 f7
      -- how great they are
      obtain ⟨W, hW⟩ : ∃ W : Int, W = (ay - py) * (ay - py) + (ax - px) * (ax - px) := ⟨_, rfl⟩
      obtain ⟨E, hE⟩ : ∃ E : Int, E = (ax - px) * (bx - ax) + (ay - py) * (b_y - ay) := ⟨_, rfl⟩
      have hid : C * C + E * E = W * D := by rw [hC, hE, hW, hD]; grind
      have w1 := mul_small (a := ay - py) (b := ay - py) (by omega) (by omega)
      have w2 := mul_small (a := ax - px) (b := ax - px) (by omega) (by omega)
      have hWb : W ≤ 536870912 := by omega
      have hE0 := (sq_pos' (n := E)).1
      have hWD : C * C ≤ W * D := by omega
      have hWr : (W : Rat) ≤ 536870912 := by have := Rat.intCast_le_intCast.2 hWb; exact this
      have hWDr : (C : Rat) * C ≤ (W : Rat) * D := by
        have := Rat.intCast_le_intCast.2 hWD
        rw [Rat.intCast_mul, Rat.intCast_mul] at this; exact this
      have hQ2 : ((C : Rat) * C) / D ≤ 536870912 := by
        have h5 := Rat.mul_le_mul_of_nonneg_right hWDr (Rat.le_of_lt hdi)
        rw [Rat.mul_assoc (W : Rat), hmi, Rat.mul_one] at h5
        rw [Rat.div_def]; exact Rat.le_trans h5 hWr
      have hv : v ≤ 32768 := sq_le g3 (by decide +kernel) (by have := g5.hi; grind)
      have hmb : m ≤ 32768 := sq_le f5 (by decide +kernel) (by have := f7.hi; grind)
      have c1 := Rat.mul_le_mul_of_nonneg_left hv (show (0 : Rat) ≤ ε42 by decide +kernel)
      have c2 := Rat.mul_le_mul_of_nonneg_left hmb (show (0 : Rat) ≤ ε42 by decide +kernel)
      have c3 : ε42 * 32768 ≤ 1 / 4194304 := by decide +kernel
      rw [Rat.add_mul, Rat.one_mul] at b1 b2
      have c4 := Rat.le_trans c1 c3
      have c5 := Rat.le_trans c2 c3
      clear c1 c2 c3 hv hmb
      generalize ε42 * v = x at *
      generalize ε42 * m = y at *
      constructor <;> grind
  rw [near_p f4 g2 hfin.1 hfin.2]
  rfl
theorem K13 : I 4665729213955833856 8192 ∧ I (fneg 4665729213955833856) (-8192) := wordI 8192 (by decide) (by decide +kernel) (by decide +kernel)
theorem law_perp {F : Nat} (hF : 1073741826 ≤ F) (p a b : TImpl_P2) (w1 : p.X < 18446744073709551616) (w2 : p.Y < 18446744073709551616) (w3 : a.X < 18446744073709551616) (w4 : a.Y < 18446744073709551616) (w5 : b.X < 18446744073709551616) (w6 : b.Y < 18446744073709551616) :
    p_FnPerpendicularDistance F p a b = some true := by
  unfold p_FnPerpendicularDistance
  rw [planeTo_p hF _ _ (by simp), Option.bind_some]
  cases h : [p, a, b].all (planeOk 4665729213955833856) with
  | false => rw [cond_t (by rfl)]; rfl
  | true =>
    rw [cond_f (by rfl)]
    simp only [List.all_cons, List.all_nil, Bool.and_true, Bool.and_eq_true] at h
    obtain ⟨h1, h2, h3⟩ := h
    obtain ⟨px, py, hp, bp⟩ := at_of K13.1 (by omega) (by omega) h1
    obtain ⟨ax, ay, ha, ba⟩ := at_of K13.1 (by omega) (by omega) h2
    obtain ⟨bx, b_y, hb, bb⟩ := at_of K13.1 (by omega) (by omega) h3
    rw [feq_int ha.1 hb.1, feq_int ha.2 hb.2]
    by_cases hne : ax = bx ∧ ay = b_y
    · obtain ⟨rfl, rfl⟩ := hne
      simp only [decide_true, Bool.and_true]
      rfl
    · have : (decide (ax = bx) && (decide (ay = b_y) && true)) = false := by
        by_cases c1 : ax = bx
        · have c2 : ay ≠ b_y := fun c2 => hne ⟨c1, c2⟩
          simp [c2]
        · simp [c1]
      rw [this]
      exact perp_main hF hp ha hb ⟨w1, w2⟩ ⟨w3, w4⟩ ⟨w5, w6⟩ bp ba bb hne
end Go.Proofs.Ytohpmbodfpjjmaa.Wk
