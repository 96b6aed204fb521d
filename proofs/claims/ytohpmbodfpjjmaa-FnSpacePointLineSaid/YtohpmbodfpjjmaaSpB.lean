/- Proved: the law of the distance of a place in space from a segment. -/
import Derived.Test.YtohpmbodfpjjmaaSpA
namespace Go.Proofs.Ytohpmbodfpjjmaa.Wk
open Go.Vm Flt
set_option linter.unusedVariables false
set_option linter.unusedSimpArgs false
/-- how far along the segment the foot is -/
def Foot (D L : Int) (t : Rat) : Prop := (L = 0 → t = 0) ∧ (1 ≤ L → (D ≤ 0 → t = 0) ∧ (0 < D → L ≤ D → t = 1) ∧ (0 < D → D < L → t = (D : Rat) / L))
theorem bd_zero : Bd (0 : Rat) e37 := by constructor <;> decide +kernel
theorem bd_same {x y : Rat} (h : x = y) : Bd (x - y) e37 := by
  have : x - y = 0 := by rw [h]; grind
  rw [this]; exact bd_zero
theorem prog_p {p a b : TImpl_P3} {px py pz ax ay az bx b_y bz : Int} (hp : At3 p px py pz) (ha : At3 a ax ay az) (hb : At3 b bx b_y bz) (bp : B10 px ∧ B10 py ∧ B10 pz) (ba : B10 ax ∧ B10 ay ∧ B10 az) (bb : B10 bx ∧ B10 b_y ∧ B10 bz)
    {D L : Int} (hD : D = (px - ax) * (bx - ax) + (py - ay) * (b_y - ay) + (pz - az) * (bz - az)) (hL : L = (bx - ax) * (bx - ax) + (b_y - ay) * (b_y - ay) + (bz - az) * (bz - az)) :
    ∃ z m X Y Z t, p_DistancePointToLine [p.X, p.Y, p.Z] [a.X, a.Y, a.Z] [b.X, b.Y, b.Z] = some z ∧ V z = some m ∧ Root m (X * X + Y * Y + Z * Z) ∧ Foot D L t ∧
      Bd (X - ((px : Rat) - ((ax : Rat) + t * ((bx - ax : Int) : Rat)))) e37 ∧ Bd (Y - ((py : Rat) - ((ay : Rat) + t * ((b_y - ay : Int) : Rat)))) e37 ∧ Bd (Z - ((pz : Rat) - ((az : Rat) + t * ((bz - az : Int) : Rat)))) e37 := by
  have q1 := (sqp (n := bx - ax))
  have q2 := (sqp (n := b_y - ay))
  have q3 := (sqp (n := bz - az))
  -- at the beginning
  have atA : ∃ z m, p_Distance [p.X, p.Y, p.Z] [a.X, a.Y, a.Z] = some z ∧ V z = some m ∧ Root m (((px : Rat) - ax) * ((px : Rat) - ax) + ((py : Rat) - ay) * ((py : Rat) - ay) + ((pz : Rat) - az) * ((pz : Rat) - az)) := by
    obtain ⟨z, m, h1, h2, h3⟩ := distance_p hp ha bp ba
    refine ⟨z, m, h1, h2, ?_⟩
    simp only [Rat.intCast_add, Rat.intCast_mul, Rat.intCast_sub] at h3
    exact h3
  have atB : ∃ z m, p_Distance [p.X, p.Y, p.Z] [b.X, b.Y, b.Z] = some z ∧ V z = some m ∧ Root m (((px : Rat) - bx) * ((px : Rat) - bx) + ((py : Rat) - b_y) * ((py : Rat) - b_y) + ((pz : Rat) - bz) * ((pz : Rat) - bz)) := by
    obtain ⟨z, m, h1, h2, h3⟩ := distance_p hp hb bp bb
    refine ⟨z, m, h1, h2, ?_⟩
    simp only [Rat.intCast_add, Rat.intCast_mul, Rat.intCast_sub] at h3
    exact h3
  unfold p_DistancePointToLine
  rw [eq3_int ha hb, Option.bind_some]
  by_cases hab : ax = bx ∧ ay = b_y ∧ az = bz
  · rw [cond_t (decide_eq_true hab)]
    obtain ⟨z, m, h1, h2, h3⟩ := atA
    obtain ⟨rfl, rfl, rfl⟩ := hab
    have hL0 : L = 0 := by rw [hL]; simp
    refine ⟨z, m, _, _, _, 0, by rw [h1]; rfl, h2, h3, ⟨fun _ => rfl, fun h => by omega⟩, bd_same (by grind), bd_same (by grind), bd_same (by grind)⟩
  · rw [cond_f (decide_eq_false hab)]
    have hL1 : 1 ≤ L := by
      by_cases c1 : bx - ax = 0
      · by_cases c2 : b_y - ay = 0
        · have := q3.2 (fun c3 => hab ⟨by omega, by omega, by omega⟩); omega
        · have := q2.2 c2; omega
      · have := q1.2 c1; omega
    obtain ⟨b1, b2, b3⟩ := bp
    obtain ⟨b4, b5, b6⟩ := ba
    obtain ⟨b7, b8, b9⟩ := bb
    obtain ⟨d1, e1, j1⟩ := sub_int hb.1 ha.1 (by omega)
    obtain ⟨d2, e2, j2⟩ := sub_int hb.2.1 ha.2.1 (by omega)
    obtain ⟨d3, e3, j3⟩ := sub_int hb.2.2 ha.2.2 (by omega)
    obtain ⟨w1, f1, k1⟩ := sub_int hp.1 ha.1 (by omega)
    obtain ⟨w2, f2, k2⟩ := sub_int hp.2.1 ha.2.1 (by omega)
    obtain ⟨w3, f3, k3⟩ := sub_int hp.2.2 ha.2.2 (by omega)
    obtain ⟨s1, s2, s3, s4, s5, g1, g2, g3, g4, g5, hLI, _, hLb⟩ := three_sq (by omega) (by omega) (by omega) j1 j2 j3
    rw [← hL] at hLI hLb
    have m1 := mul_s (a := px - ax) (b := bx - ax) (by omega) (by omega)
    have m2 := mul_s (a := py - ay) (b := b_y - ay) (by omega) (by omega)
    have m3 := mul_s (a := pz - az) (b := bz - az) (by omega) (by omega)
    obtain ⟨u1, o1, r1⟩ := mul_int k1 j1 (by omega)
    obtain ⟨u2, o2, r2⟩ := mul_int k2 j2 (by omega)
    obtain ⟨u3, o3, r3⟩ := add_int r1 r2 (by omega)
    obtain ⟨u4, o4, r4⟩ := mul_int k3 j3 (by omega)
    obtain ⟨u5, o5, hDI⟩ := add_int r3 r4 (by omega)
    rw [← hD] at hDI
    have hDb : D.natAbs ≤ 12582912 := by omega
    have l1 : (1 : Rat) ≤ (L : Rat) := by have := Rat.intCast_le_intCast.2 hL1; exact this
    have l2 : (L : Rat) ≤ 12582912 := by have := Rat.intCast_le_intCast.2 hLb; exact this
    have hdi := Rat.inv_pos.2 (show (0 : Rat) < (L : Rat) by grind)
    have hmi := Rat.mul_inv_cancel (L : Rat) (by grind)
    have hdl : ((L : Rat))⁻¹ ≤ 1 := by have := Rat.mul_le_mul_of_nonneg_right l1 (Rat.le_of_lt hdi); grind
    have hdg : 1 / 12582912 ≤ ((L : Rat))⁻¹ := by have := Rat.mul_le_mul_of_nonneg_right l2 (Rat.le_of_lt hdi); grind
    have habD : ab (D : Rat) ≤ 12582912 := by
      rw [ab_int]
      have := Rat.intCast_le_intCast.2 (show ((D.natAbs : Nat) : Int) ≤ 12582912 by omega)
      exact this
    have habt : ab ((D : Rat) / L) = ab (D : Rat) * ((L : Rat))⁻¹ := by rw [Rat.div_def, ab_mul hdi]
    have habt2 : ab ((D : Rat) / L) ≤ 12582912 := by
      rw [habt]
      have := Rat.mul_le_mul_of_nonneg_left hdl (ab_nonneg (D : Rat))
      grind
    have big : (2 : Rat) ^ (61 : Int) ≤ 2 ^ (1022 : Int) := zpow_le (by omega)
    have e61 : (2 : Rat) ^ (61 : Int) = 2305843009213693952 := by decide +kernel
    obtain ⟨z101, T, o6, hT, hN⟩ := div_rnd (show V u5 = some (D : Rat) from hDI) (show V s5 = some (L : Rat) from hLI) (by grind) (by grind)
    have n1 := hN.lo
    have n2 := hN.hi
    have e52 : (2 : Rat) ^ (-52 : Int) = 1 / 4503599627370496 := by decide +kernel
    have ht := tiny_le
    have ct : tiny ≤ 1 / 4503599627370496 := by decide +kernel
    rw [e52] at n1 n2
    -- t, by D
    obtain ⟨t, hteq⟩ : ∃ t, t = (D : Rat) / L := ⟨_, rfl⟩
    rw [← hteq] at n1 n2 habt2
    have htv : t = (D : Rat) * ((L : Rat))⁻¹ := by rw [hteq, Rat.div_def]
    have tneg : D ≤ -1 → t ≤ -(1 / 12582912) := fun h => by
      have := Rat.intCast_le_intCast.2 h
      have e : ((-1 : Int) : Rat) = -1 := rfl
      rw [e] at this
      have := Rat.mul_le_mul_of_nonneg_right this (Rat.le_of_lt hdi)
      grind
    have tpos : 1 ≤ D → 1 / 12582912 ≤ t := fun h => by
      have : (1 : Rat) ≤ (D : Rat) := Rat.intCast_le_intCast.2 h
      have := Rat.mul_le_mul_of_nonneg_right this (Rat.le_of_lt hdi)
      grind
    have tbig : L + 1 ≤ D → 1 + 1 / 12582912 ≤ t := fun h => by
      have := Rat.intCast_le_intCast.2 h
      rw [Rat.intCast_add] at this
      have e : ((1 : Int) : Rat) = 1 := rfl
      rw [e] at this
      have := Rat.mul_le_mul_of_nonneg_right this (Rat.le_of_lt hdi)
      grind
    have tless : D ≤ L - 1 → t ≤ 1 - 1 / 12582912 := fun h => by
      have := Rat.intCast_le_intCast.2 h
      rw [Rat.intCast_sub] at this
      have e : ((1 : Int) : Rat) = 1 := rfl
      rw [e] at this
      have := Rat.mul_le_mul_of_nonneg_right this (Rat.le_of_lt hdi)
      grind
    have teq0 : D = 0 → t = 0 := fun h => by rw [htv, h]; have : ((0 : Int) : Rat) = 0 := rfl; rw [this]; grind
    have teq1 : D = L → t = 1 := fun h => by rw [htv, h]; exact hmi
    have ce : (1 / 12582912 : Rat) * (1 / 4503599627370496) + tiny < 1 / 12582912 := by decide +kernel
    have hT0 : D ≤ -1 → T < 0 := fun h => by
      have h1 := tneg h
      have : ab t = -t := by unfold ab; rw [if_pos (by grind)]
      rw [this] at n1
      grind
    have hT1 : 1 ≤ D → 0 < T := fun h => by
      have h1 := tpos h
      have : ab t = t := by unfold ab; rw [if_neg (by grind)]
      rw [this] at n2
      grind
    have hT2 : L + 1 ≤ D → 1 ≤ T := fun h => by
      have h1 := tbig h
      have : ab t = t := by unfold ab; rw [if_neg (by grind)]
      rw [this] at n2
      grind
    have hT3 : D ≤ L - 1 → T < 1 := fun h => by
      have h1 := tless h
      by_cases h2 : D ≤ -1
      · have := hT0 h2; grind
      · have h3 : 0 ≤ t := by
          by_cases h4 : D = 0
          · rw [teq0 h4]; exact Rat.le_refl
          · have := tpos (by omega); grind
        have : ab t = t := by unfold ab; rw [if_neg (by grind)]
        rw [this] at n1
        grind
    have z0 : V 0 = some 0 := by have := zero_int; unfold I at this; simpa using this
    have z1 : V 4607182418800017408 = some 1 := by have := one_V; unfold I at this; simpa using this
    have hpre : ∀ z : Option Nat, ((cond (fle z101 0) ((p_Distance [p.X, p.Y, p.Z] [a.X, a.Y, a.Z]).bind fun y104 => some y104) z) = (if T ≤ 0 then (p_Distance [p.X, p.Y, p.Z] [a.X, a.Y, a.Z]).bind fun y104 => some y104 else z)) := fun z => by
      rw [fle_val hT z0, cond_if]
      simp
    have hpre2 : ∀ z : Option Nat, ((cond (fge z101 4607182418800017408) ((p_Distance [p.X, p.Y, p.Z] [b.X, b.Y, b.Z]).bind fun y107 => some y107) z) = (if 1 ≤ T then (p_Distance [p.X, p.Y, p.Z] [b.X, b.Y, b.Z]).bind fun y107 => some y107 else z)) := fun z => by
      rw [fge_val hT z1, cond_if]
      simp
    simp only [i0, i1, i2, Option.bind_some, e1, e2, e3, f1, f2, f3, g1, g2, g3, g4, g5, o1, o2, o3, o4, o5, notNaN_int hLI, cond_false]
    rw [show floatBits .quo .f64 u5 s5 = some z101 from o6, Option.bind_some, hpre, hpre2]
    by_cases c1 : T ≤ 0
    · simp only [if_pos c1]
      obtain ⟨z, m, h1, h2, h3⟩ := atA
      have hD0 : D ≤ 0 := by
        apply Classical.byContradiction
        intro hc
        have := hT1 (by omega)
        grind
      refine ⟨z, m, _, _, _, 0, by rw [h1]; rfl, h2, h3, ⟨fun h => by omega, fun _ => ⟨fun _ => rfl, fun h => by omega, fun h => by omega⟩⟩, bd_same (by grind), bd_same (by grind), bd_same (by grind)⟩
    · simp only [if_neg c1]
      by_cases c2 : 1 ≤ T
      · simp only [if_pos c2]
        obtain ⟨z, m, h1, h2, h3⟩ := atB
        have hDL : L ≤ D := by
          apply Classical.byContradiction
          intro hc
          have := hT3 (by omega)
          grind
        refine ⟨z, m, _, _, _, 1, by rw [h1]; rfl, h2, h3, ⟨fun h => by omega, fun _ => ⟨fun h => by omega, fun _ _ => rfl, fun _ h => by omega⟩⟩, bd_same ?_, bd_same ?_, bd_same ?_⟩ <;> simp only [Rat.intCast_sub] <;> grind
      · simp only [if_neg c2]
        have hDr : 0 ≤ D ∧ D ≤ L := by
          constructor
          · apply Classical.byContradiction
            intro hc
            have := hT0 (by omega)
            grind
          · apply Classical.byContradiction
            intro hc
            have := hT2 (by omega)
            grind
        have t0 : 0 ≤ t := by
          by_cases h4 : D = 0
          · rw [teq0 h4]; exact Rat.le_refl
          · have := tpos (by omega); grind
        have t1 : t ≤ 1 := by
          by_cases h4 : D = L
          · rw [teq1 h4]; exact Rat.le_refl
          · have := tless (by omega); grind
        have habt3 : ab t = t := by unfold ab; rw [if_neg (by grind)]
        rw [habt3] at n1 n2
        have hA : App z101 t (1 / 2251799813685248) := ⟨T, hT, by grind, by grind⟩
        obtain ⟨x1, x2, x3, X, y1, y2, y3, y4, y5, y6⟩ := foot hA t0 t1 ha.1 hp.1 j1 b4 b1 (by omega)
        obtain ⟨x4, x5, x6, Y, y7, y8, y9, y10, y11, y12⟩ := foot hA t0 t1 ha.2.1 hp.2.1 j2 b5 b2 (by omega)
        obtain ⟨x7, x8, x9, Z, y13, y14, y15, y16, y17, y18⟩ := foot hA t0 t1 ha.2.2 hp.2.2 j3 b6 b3 (by omega)
        obtain ⟨v1, v2, v3, v4, v5, q, m, v6, v7, v8, v9, v10, v11, v12, v13⟩ := sum_near y4 y10 y16 y6 y12 y18
        refine ⟨q, m, X, Y, Z, t, ?_, v12, v13, ⟨fun h => by omega, fun _ => ⟨fun h => teq0 (by omega), fun _ h => teq1 (by omega), fun _ _ => hteq⟩⟩, y5, y11, y17⟩
        simp only [y1, y2, y3, y7, y8, y9, y13, y14, y15, v6, v7, v8, v9, v10, v11, Option.bind_some]
theorem sub3_p {F : Nat} (hF : BigF F) {a b : TSpec_Point3} {ax ay az bx b_y bz : Rat} (ha : DydAt3 a ax ay az 2 1074) (hb : DydAt3 b bx b_y bz 2 1074) : ∃ d, p_Point3_Sub F a b = some d ∧ DydAt3 d (ax - bx) (ay - b_y) (az - bz) 74 2148 := by
  obtain ⟨d1, e1, k1⟩ := dyd_sub ha.1 hb.1 (by omega) (by omega) hF
  obtain ⟨d2, e2, k2⟩ := dyd_sub ha.2.1 hb.2.1 (by omega) (by omega) hF
  obtain ⟨d3, e3, k3⟩ := dyd_sub ha.2.2 hb.2.2 (by omega) (by omega) hF
  exact ⟨⟨d1, d2, d3⟩, by simp only [p_Point3_Sub, e1, e2, e3, Option.bind_some], k1, k2, k3⟩
theorem dot3_p {F : Nat} (hF : BigF F) {a b : TSpec_Point3} {ax ay az bx b_y bz : Rat} {m k : Nat} (hm : m ≤ 600) (hk : k ≤ 9000) (ha : DydAt3 a ax ay az m k) (hb : DydAt3 b bx b_y bz m k) : ∃ d, p_Dot3 F a b = some d ∧ Dyd d (ax * bx + ay * b_y + az * bz) 9000 100000 := by
  obtain ⟨d1, e1, k1⟩ := dyd_mul ha.1 hb.1 (by omega) (by omega) hF
  obtain ⟨d2, e2, k2⟩ := dyd_mul ha.2.1 hb.2.1 (by omega) (by omega) hF
  obtain ⟨d3, e3, k3⟩ := dyd_add k1 k2 (by omega) (by omega) hF
  obtain ⟨d4, e4, k4⟩ := dyd_mul ha.2.2 hb.2.2 (by omega) (by omega) hF
  obtain ⟨d5, e5, k5⟩ := dyd_add k3 k4 (by omega) (by omega) hF
  exact ⟨d5, by simp only [p_Dot3, e1, e2, e3, e4, e5, Option.bind_some], k5.mono (by omega) (by omega)⟩
theorem cross3_p {F : Nat} (hF : BigF F) {a b : TSpec_Point3} {ax ay az bx b_y bz : Rat} (ha : DydAt3 a ax ay az 74 2148) (hb : DydAt3 b bx b_y bz 74 2148) : ∃ d, p_Cross3 F a b = some d ∧ DydAt3 d (ay * bz - az * b_y) (az * bx - ax * bz) (ax * b_y - ay * bx) 600 9000 := by
  obtain ⟨d1, e1, k1⟩ := dyd_mul ha.2.1 hb.2.2 (by omega) (by omega) hF
  obtain ⟨d2, e2, k2⟩ := dyd_mul ha.2.2 hb.2.1 (by omega) (by omega) hF
  obtain ⟨d3, e3, k3⟩ := dyd_sub k1 k2 (by omega) (by omega) hF
  obtain ⟨d4, e4, k4⟩ := dyd_mul ha.2.2 hb.1 (by omega) (by omega) hF
  obtain ⟨d5, e5, k5⟩ := dyd_mul ha.1 hb.2.2 (by omega) (by omega) hF
  obtain ⟨d6, e6, k6⟩ := dyd_sub k4 k5 (by omega) (by omega) hF
  obtain ⟨d7, e7, k7⟩ := dyd_mul ha.1 hb.2.1 (by omega) (by omega) hF
  obtain ⟨d8, e8, k8⟩ := dyd_mul ha.2.1 hb.1 (by omega) (by omega) hF
  obtain ⟨d9, e9, k9⟩ := dyd_sub k7 k8 (by omega) (by omega) hF
  exact ⟨⟨d3, d6, d9⟩, by simp only [p_Cross3, e1, e2, e3, e4, e5, e6, e7, e8, e9, Option.bind_some], k3.mono (by omega) (by omega), k6.mono (by omega) (by omega), k9.mono (by omega) (by omega)⟩
/-- What the law's exact square is. -/
theorem squareTo3_p {F : Nat} (hF : BigF F) {p a b : TSpec_Point3} {px py pz ax ay az bx b_y bz : Int} (hp : DydAt3 p px py pz 2 1074) (ha : DydAt3 a ax ay az 2 1074) (hb : DydAt3 b bx b_y bz 2 1074) {D L : Int}
    (hD : D = (px - ax) * (bx - ax) + (py - ay) * (b_y - ay) + (pz - az) * (bz - az)) (hL : L = (bx - ax) * (bx - ax) + (b_y - ay) * (b_y - ay) + (bz - az) * (bz - az)) :
    ∃ d n dd : TSpec_Dyadic, ∃ N M : Int, p_SquareTo3 F p a b = some ⟨n, dd⟩ ∧ Dyd n (N : Rat) 9000 100000 ∧ Dyd dd (M : Rat) 9000 100000 ∧
      (((L = 0 ∨ D ≤ 0) ∧ N = (px - ax) * (px - ax) + (py - ay) * (py - ay) + (pz - az) * (pz - az) ∧ M = 1) ∨
       (L ≠ 0 ∧ 0 < D ∧ L ≤ D ∧ N = (px - bx) * (px - bx) + (py - b_y) * (py - b_y) + (pz - bz) * (pz - bz) ∧ M = 1) ∨
       (L ≠ 0 ∧ 0 < D ∧ D < L ∧ M = L ∧ N = ((b_y - ay) * (pz - az) - (bz - az) * (py - ay)) * ((b_y - ay) * (pz - az) - (bz - az) * (py - ay)) + ((bz - az) * (px - ax) - (bx - ax) * (pz - az)) * ((bz - az) * (px - ax) - (bx - ax) * (pz - az)) + ((bx - ax) * (py - ay) - (b_y - ay) * (px - ax)) * ((bx - ax) * (py - ay) - (b_y - ay) * (px - ax)))) := by
  obtain ⟨u, e1, ku⟩ := sub3_p hF hb ha
  obtain ⟨w, e2, kw⟩ := sub3_p hF hp ha
  obtain ⟨dl, e3, kl⟩ := dot3_p hF (by omega) (by omega) ku ku
  obtain ⟨dd, e4, kd⟩ := dot3_p hF (by omega) (by omega) ku kw
  obtain ⟨one, e5, k5⟩ := intOf_p (n := 1) (by omega) (by omega) hF
  have vl : ((bx : Rat) - ax) * ((bx : Rat) - ax) + ((b_y : Rat) - ay) * ((b_y : Rat) - ay) + ((bz : Rat) - az) * ((bz : Rat) - az) = (L : Rat) := by
    rw [hL]; simp only [Rat.intCast_add, Rat.intCast_mul, Rat.intCast_sub]
  have vd : ((bx : Rat) - ax) * ((px : Rat) - ax) + ((b_y : Rat) - ay) * ((py : Rat) - ay) + ((bz : Rat) - az) * ((pz : Rat) - az) = (D : Rat) := by
    rw [hD]; simp only [Rat.intCast_add, Rat.intCast_mul, Rat.intCast_sub]; grind
  rw [vl] at kl
  rw [vd] at kd
  have start : p_SquareTo3 F p a b = (p_Dyadic_Sign dl).bind fun y24 => ((cond (decide (y24 = (0 : Int))) ((p_SquareTo3_k1 p a b F u w dl dd one) true) ((p_Dyadic_Sign dd).bind fun y27 => ((p_SquareTo3_k1 p a b F u w dl dd one) (decide (y27 ≤ (0 : Int))))))) := by
    unfold p_SquareTo3
    rw [e1, Option.bind_some, e2, Option.bind_some, e3, Option.bind_some, e4, Option.bind_some, e5, Option.bind_some]
  rw [start, dyd_sign kl, Option.bind_some, dyd_sign kd, Option.bind_some, sgR_int, sgR_int]
  have k5' : Dyd one ((1 : Int) : Rat) 9000 100000 := k5.mono (by omega) (by omega)
  -- the beginning's square
  have first : ∃ n, p_SquareTo3_k1 p a b F u w dl dd one true = some ⟨n, one⟩ ∧ Dyd n (((px - ax) * (px - ax) + (py - ay) * (py - ay) + (pz - az) * (pz - az) : Int) : Rat) 9000 100000 := by
    obtain ⟨v, f1, kv⟩ := sub3_p hF ha hp
    obtain ⟨n, f2, kn⟩ := dot3_p hF (by omega) (by omega) kv kv
    have vn : ((ax : Rat) - px) * ((ax : Rat) - px) + ((ay : Rat) - py) * ((ay : Rat) - py) + ((az : Rat) - pz) * ((az : Rat) - pz) = (((px - ax) * (px - ax) + (py - ay) * (py - ay) + (pz - az) * (pz - az) : Int) : Rat) := by
      simp only [Rat.intCast_add, Rat.intCast_mul, Rat.intCast_sub]; grind
    rw [vn] at kn
    refine ⟨n, ?_, kn⟩
    unfold p_SquareTo3_k1 p_Square3
    rw [cond_t rfl, f1, Option.bind_some, f2]
    rfl
  obtain ⟨n0, g0, kn0⟩ := first
  by_cases hL0 : L = 0
  · rw [if_pos hL0, cond_t (decide_eq_true rfl), g0]
    exact ⟨n0, n0, one, _, 1, rfl, kn0, k5', .inl ⟨.inl hL0, rfl, rfl⟩⟩
  · rw [if_neg hL0]
    have hs : ∀ c : Int, (if L < 0 then (-1 : Int) else 1) ≠ 0 := fun _ => by split <;> omega
    rw [cond_f (decide_eq_false (hs 0))]
    by_cases hD0 : D ≤ 0
    · have : ((if D = 0 then (0 : Int) else if D < 0 then -1 else 1) ≤ 0) := by
        by_cases h : D = 0
        · rw [if_pos h]; omega
        · rw [if_neg h, if_pos (by omega)]; omega
      rw [decide_eq_true this, g0]
      exact ⟨n0, n0, one, _, 1, rfl, kn0, k5', .inl ⟨.inr hD0, rfl, rfl⟩⟩
    · rw [if_neg (by omega), if_neg (by omega)]
      have : ¬ ((1 : Int) ≤ 0) := by omega
      rw [decide_eq_false this]
      unfold p_SquareTo3_k1
      rw [cond_f rfl, dyd_cmp kd kl (by omega) (by omega) hF, Option.bind_some]
      have hsub : (D : Rat) - (L : Rat) = ((D - L : Int) : Rat) := by rw [Rat.intCast_sub]
      rw [hsub, sgR_int]
      by_cases hDL : L ≤ D
      · have h2 : (0 : Int) ≤ (if D - L = 0 then (0 : Int) else if D - L < 0 then -1 else 1) := by
          by_cases h : D - L = 0
          · rw [if_pos h]; omega
          · rw [if_neg h, if_neg (by omega)]; omega
        rw [cond_t (decide_eq_true h2)]
        obtain ⟨v, f1, kv⟩ := sub3_p hF hb hp
        obtain ⟨n, f2, kn⟩ := dot3_p hF (by omega) (by omega) kv kv
        have vn : ((bx : Rat) - px) * ((bx : Rat) - px) + ((b_y : Rat) - py) * ((b_y : Rat) - py) + ((bz : Rat) - pz) * ((bz : Rat) - pz) = (((px - bx) * (px - bx) + (py - b_y) * (py - b_y) + (pz - bz) * (pz - bz) : Int) : Rat) := by
          simp only [Rat.intCast_add, Rat.intCast_mul, Rat.intCast_sub]; grind
        rw [vn] at kn
        refine ⟨n, n, one, _, 1, ?_, kn, k5', .inr (.inl ⟨hL0, by omega, hDL, rfl, rfl⟩)⟩
        unfold p_Square3
        rw [f1, Option.bind_some, f2]
        rfl
      · rw [if_neg (by omega), if_pos (by omega), cond_f (decide_eq_false (by omega))]
        obtain ⟨c, f1, kc⟩ := cross3_p hF ku kw
        obtain ⟨n, f2, kn⟩ := dot3_p hF (by omega) (by omega) kc kc
        refine ⟨n, n, dl, _, L, ?_, ?_, kl, .inr (.inr ⟨hL0, by omega, by omega, rfl, rfl⟩)⟩
        · rw [f1, Option.bind_some, f2]
          rfl
        · simp only [Rat.intCast_add, Rat.intCast_mul, Rat.intCast_sub]
          exact kn
/-- The foot's square is the law's. -/
theorem foot_sq {px py pz ax ay az bx b_y bz D L N M : Int} {t : Rat} (hD : D = (px - ax) * (bx - ax) + (py - ay) * (b_y - ay) + (pz - az) * (bz - az)) (hL : L = (bx - ax) * (bx - ax) + (b_y - ay) * (b_y - ay) + (bz - az) * (bz - az)) (hf : Foot D L t) (hL0 : 0 ≤ L)
    (hL1 : L = 0 → bx = ax ∧ b_y = ay ∧ bz = az)
    (h : (((L = 0 ∨ D ≤ 0) ∧ N = (px - ax) * (px - ax) + (py - ay) * (py - ay) + (pz - az) * (pz - az) ∧ M = 1) ∨
       (L ≠ 0 ∧ 0 < D ∧ L ≤ D ∧ N = (px - bx) * (px - bx) + (py - b_y) * (py - b_y) + (pz - bz) * (pz - bz) ∧ M = 1) ∨
       (L ≠ 0 ∧ 0 < D ∧ D < L ∧ M = L ∧ N = ((b_y - ay) * (pz - az) - (bz - az) * (py - ay)) * ((b_y - ay) * (pz - az) - (bz - az) * (py - ay)) + ((bz - az) * (px - ax) - (bx - ax) * (pz - az)) * ((bz - az) * (px - ax) - (bx - ax) * (pz - az)) + ((bx - ax) * (py - ay) - (b_y - ay) * (px - ax)) * ((bx - ax) * (py - ay) - (b_y - ay) * (px - ax))))) :
    (N : Rat) / M = ((px : Rat) - ((ax : Rat) + t * ((bx - ax : Int) : Rat))) * ((px : Rat) - ((ax : Rat) + t * ((bx - ax : Int) : Rat))) + ((py : Rat) - ((ay : Rat) + t * ((b_y - ay : Int) : Rat))) * ((py : Rat) - ((ay : Rat) + t * ((b_y - ay : Int) : Rat))) + ((pz : Rat) - ((az : Rat) + t * ((bz - az : Int) : Rat))) * ((pz : Rat) - ((az : Rat) + t * ((bz - az : Int) : Rat))) := by
  have one : ∀ x : Rat, x / ((1 : Int) : Rat) = x := fun x => by
    have : ((1 : Int) : Rat) = 1 := rfl
    rw [this, Rat.div_def]; grind
  rcases h with ⟨h1, rfl, rfl⟩ | ⟨h1, h2, h3, rfl, rfl⟩ | ⟨h1, h2, h3, rfl, hN⟩
  · rw [one]
    have ht : t = 0 := by
      rcases h1 with h1 | h1
      · exact hf.1 h1
      · by_cases h0 : L = 0
        · exact hf.1 h0
        · exact (hf.2 (by omega)).1 h1
    subst ht
    simp only [Rat.intCast_add, Rat.intCast_mul, Rat.intCast_sub]
    grind
  · rw [one]
    have ht : t = 1 := (hf.2 (by omega)).2.1 h2 h3
    subst ht
    simp only [Rat.intCast_add, Rat.intCast_mul, Rat.intCast_sub]
    grind
  · have ht : t = (D : Rat) / M := (hf.2 (by omega)).2.2 h2 h3
    have hMne : (M : Rat) ≠ 0 := fun e => h1 (Rat.intCast_inj.1 (by rw [e]; rfl))
    have hmi := Rat.mul_inv_cancel (M : Rat) hMne
    have htM : t * (M : Rat) = (D : Rat) := by rw [ht, Rat.div_def, Rat.mul_assoc, Rat.mul_comm ((M : Rat)⁻¹), hmi, Rat.mul_one]
    have hNr : (N : Rat) = (((px : Rat) - ax) * ((px : Rat) - ax) + ((py : Rat) - ay) * ((py : Rat) - ay) + ((pz : Rat) - az) * ((pz : Rat) - az)) * (M : Rat) - (D : Rat) * D := by
      rw [hN, hL, hD]
      simp only [Rat.intCast_add, Rat.intCast_mul, Rat.intCast_sub]
      grind
    have hMr : (M : Rat) = ((bx : Rat) - ax) * ((bx : Rat) - ax) + ((b_y : Rat) - ay) * ((b_y : Rat) - ay) + ((bz : Rat) - az) * ((bz : Rat) - az) := by
      rw [hL]; simp only [Rat.intCast_add, Rat.intCast_mul, Rat.intCast_sub]
    have hDr : (D : Rat) = ((px : Rat) - ax) * ((bx : Rat) - ax) + ((py : Rat) - ay) * ((b_y : Rat) - ay) + ((pz : Rat) - az) * ((bz : Rat) - az) := by
      rw [hD]; simp only [Rat.intCast_add, Rat.intCast_mul, Rat.intCast_sub]
    rw [Rat.div_def, hNr]
    simp only [Rat.intCast_sub]
    generalize (bx : Rat) - ax = u1 at *
    generalize (b_y : Rat) - ay = u2 at *
    generalize (bz : Rat) - az = u3 at *
    obtain ⟨w1, hw1⟩ : ∃ w, w = (px : Rat) - ax := ⟨_, rfl⟩
    obtain ⟨w2, hw2⟩ : ∃ w, w = (py : Rat) - ay := ⟨_, rfl⟩
    obtain ⟨w3, hw3⟩ : ∃ w, w = (pz : Rat) - az := ⟨_, rfl⟩
    have x1 : (px : Rat) - ((ax : Rat) + t * u1) = w1 - t * u1 := by rw [hw1]; grind
    have x2 : (py : Rat) - ((ay : Rat) + t * u2) = w2 - t * u2 := by rw [hw2]; grind
    have x3 : (pz : Rat) - ((az : Rat) + t * u3) = w3 - t * u3 := by rw [hw3]; grind
    rw [x1, x2, x3]
    rw [← hw1, ← hw2, ← hw3] at hDr ⊢
    have lhs : ((w1 * w1 + w2 * w2 + w3 * w3) * (M : Rat) - (D : Rat) * D) * ((M : Rat))⁻¹ = (w1 * w1 + w2 * w2 + w3 * w3) - t * D := by
      have e0 : ∀ d i : Rat, d * d * i = d * i * d := fun d i => by grind
      have e1 : (D : Rat) * D * ((M : Rat))⁻¹ = t * D := by rw [ht, Rat.div_def]; exact e0 _ _
      have e2 : (w1 * w1 + w2 * w2 + w3 * w3) * (M : Rat) * ((M : Rat))⁻¹ = w1 * w1 + w2 * w2 + w3 * w3 := by rw [Rat.mul_assoc, hmi, Rat.mul_one]
      rw [Rat.sub_eq_add_neg, Rat.add_mul, e2]
      have e3 : -((D : Rat) * D) * ((M : Rat))⁻¹ = -(t * D) := by rw [← e1]; grind
      rw [e3]; grind
    rw [lhs]
    have rhs : (w1 - t * u1) * (w1 - t * u1) + (w2 - t * u2) * (w2 - t * u2) + (w3 - t * u3) * (w3 - t * u3) = (w1 * w1 + w2 * w2 + w3 * w3) - 2 * (t * (w1 * u1 + w2 * u2 + w3 * u3)) + t * (t * (u1 * u1 + u2 * u2 + u3 * u3)) := by grind
    rw [rhs, ← hDr, ← hMr, htM]
    grind
theorem close_fin {m v S x y z X Y Z : Rat} (hm : Root m (X * X + Y * Y + Z * Z)) (hv0 : 0 ≤ v) (hv : R (v * v) S ε44) (hS : S = x * x + y * y + z * z) (bx : Bd (X - x) e37) (b_y : Bd (Y - y) e37) (bz : Bd (Z - z) e37) : m - v ≤ 1 / 4194304 ∧ v - m ≤ 1 / 4194304 := by
  obtain ⟨m0, m1, m2, m3⟩ := hm
  have hS0 : 0 ≤ S := by rw [hS]; have := nn x; have := nn y; have := nn z; grind
  have he : (0 : Rat) ≤ e37 := by decide +kernel
  have v1 : S ≤ ((1 + ε42) * v) * ((1 + ε42) * v) := by
    have hc : 1 ≤ (1 + ε42) * (1 + ε42) * (1 - ε44) := by decide +kernel
    have a2 : (1 + ε42) * (1 + ε42) * ((1 - ε44) * S) ≤ (1 + ε42) * (1 + ε42) * (v * v) := Rat.mul_le_mul_of_nonneg_left hv.lo (by decide +kernel)
    have a3 := Rat.mul_le_mul_of_nonneg_right hc hS0
    have e1 : (1 + ε42) * v * ((1 + ε42) * v) = (1 + ε42) * (1 + ε42) * (v * v) := by generalize (1 + ε42) = c; grind
    have e2 : (1 + ε42) * (1 + ε42) * (1 - ε44) * S = (1 + ε42) * (1 + ε42) * ((1 - ε44) * S) := by generalize (1 + ε42) = c; grind
    rw [e1]
    rw [e2, Rat.one_mul] at a3
    exact Rat.le_trans a3 a2
  have v2 : ∀ w, 0 ≤ w → S ≤ w * w → v ≤ (1 + ε42) * w := fun w hw hSw => by
    refine sq_le hv0 (Rat.mul_nonneg (by decide +kernel) hw) ?_
    have a1 := hv.hi
    have a2 := Rat.mul_le_mul_of_nonneg_left hSw (show (0 : Rat) ≤ 1 + ε44 by decide +kernel)
    have hc : 1 + ε44 ≤ (1 + ε42) * (1 + ε42) := by decide +kernel
    have a3 := Rat.mul_le_mul_of_nonneg_right hc (nn w)
    have e1 : (1 + ε42) * w * ((1 + ε42) * w) = (1 + ε42) * (1 + ε42) * (w * w) := by generalize (1 + ε42) = c; grind
    rw [e1]
    exact Rat.le_trans a1 (Rat.le_trans a2 a3)
  have c0 : (0 : Rat) ≤ 1 + ε42 := by decide +kernel
  have c1 : (0 : Rat) ≤ 1 + η48 := by decide +kernel
  have cκ : (0 : Rat) ≤ κ46 := by decide +kernel
  have hv' := Rat.mul_nonneg c0 hv0
  have hm' : 0 ≤ (1 + η48) * m + κ46 := by have := Rat.mul_nonneg c1 m0; grind
  have p1 := vec_le bx b_y bz he hv' (by rw [← hS]; exact v1)
  have p2 := m1 ((1 + ε42) * v + 2 * e37) (by generalize (1 + ε42) * v = r at *; grind) p1
  have bx' : Bd (x - X) e37 := by have := bd_neg bx; have e : -(X - x) = x - X := by grind
                                  rw [e] at this; exact this
  have b_y' : Bd (y - Y) e37 := by have := bd_neg b_y; have e : -(Y - y) = y - Y := by grind
                                   rw [e] at this; exact this
  have bz' : Bd (z - Z) e37 := by have := bd_neg bz; have e : -(Z - z) = z - Z := by grind
                                  rw [e] at this; exact this
  have p3 := vec_le bx' b_y' bz' he hm' m2
  have p4 := v2 ((1 + η48) * m + κ46 + 2 * e37) (by generalize (1 + η48) * m + κ46 = r at *; grind) (by rw [hS]; exact p3)
  have n1 : η48 * m ≤ 1 / 2147483648 := by
    have := Rat.mul_le_mul_of_nonneg_left m3 (show (0 : Rat) ≤ η48 by decide +kernel)
    have c : η48 * 65536 ≤ 1 / 2147483648 := by decide +kernel
    exact Rat.le_trans this c
  have n2 : ε42 * m ≤ 1 / 67108864 := by
    have := Rat.mul_le_mul_of_nonneg_left m3 (show (0 : Rat) ≤ ε42 by decide +kernel)
    have c : ε42 * 65536 ≤ 1 / 67108864 := by decide +kernel
    exact Rat.le_trans this c
  have e37' : e37 ≤ 1 / 1073741824 := by decide +kernel
  have κ' : κ46 ≤ 1 / 1073741824 := by decide +kernel
  have ε' : ε42 ≤ 1 := by decide +kernel
  have η' : η48 ≤ 1 := by decide +kernel
  have ε0 : (0 : Rat) ≤ ε42 := by decide +kernel
  have η0 : (0 : Rat) ≤ η48 := by decide +kernel
  -- v is not much above m
  have k1 : v - m ≤ 1 / 33554432 := by
    have q1 : ((1 + η48) * m + κ46 + 2 * e37) ≤ m + 1 / 2147483648 + 3 / 1073741824 := by
      have : (1 + η48) * m = m + η48 * m := by rw [Rat.add_mul, Rat.one_mul]
      rw [this]; generalize η48 * m = r at *; grind
    have q2 := Rat.mul_le_mul_of_nonneg_left q1 c0
    have q3 : (1 + ε42) * (m + 1 / 2147483648 + 3 / 1073741824) ≤ m + ε42 * m + 2 * (1 / 2147483648 + 3 / 1073741824) := by
      have e : (1 + ε42) * (m + 1 / 2147483648 + 3 / 1073741824) = m + ε42 * m + (1 + ε42) * (1 / 2147483648 + 3 / 1073741824) := by generalize ε42 = c; grind
      have c : (1 + ε42) * (1 / 2147483648 + 3 / 1073741824) ≤ 2 * (1 / 2147483648 + 3 / 1073741824) := by decide +kernel
      rw [e]; generalize ε42 * m = r at *; generalize (1 + ε42) * (1 / 2147483648 + 3 / 1073741824) = r2 at *; grind
    have q4 := Rat.le_trans p4 (Rat.le_trans q2 q3)
    generalize ε42 * m = r at *
    grind
  have hvb : v ≤ 65537 := by grind
  have n3 : ε42 * v ≤ 1 / 33554432 := by
    have := Rat.mul_le_mul_of_nonneg_left hvb ε0
    have c : ε42 * 65537 ≤ 1 / 33554432 := by decide +kernel
    exact Rat.le_trans this c
  have k2 : m - v ≤ 1 / 8388608 := by
    have q1 : (1 + ε42) * v + 2 * e37 ≤ v + 1 / 33554432 + 2 / 1073741824 := by
      have : (1 + ε42) * v = v + ε42 * v := by rw [Rat.add_mul, Rat.one_mul]
      rw [this]; generalize ε42 * v = r at *; grind
    have q2 := Rat.mul_le_mul_of_nonneg_left q1 c1
    have n4 : η48 * v ≤ 1 / 1073741824 := by
      have := Rat.mul_le_mul_of_nonneg_left hvb η0
      have c : η48 * 65537 ≤ 1 / 1073741824 := by decide +kernel
      exact Rat.le_trans this c
    have q3 : (1 + η48) * (v + 1 / 33554432 + 2 / 1073741824) ≤ v + 1 / 1073741824 + 2 * (1 / 33554432 + 2 / 1073741824) := by
      have e : (1 + η48) * (v + 1 / 33554432 + 2 / 1073741824) = v + η48 * v + (1 + η48) * (1 / 33554432 + 2 / 1073741824) := by generalize η48 = c; grind
      have c : (1 + η48) * (1 / 33554432 + 2 / 1073741824) ≤ 2 * (1 / 33554432 + 2 / 1073741824) := by decide +kernel
      rw [e]; generalize η48 * v = r at *; generalize (1 + η48) * (1 / 33554432 + 2 / 1073741824) = r2 at *; grind
    have q4 := Rat.le_trans q2 q3
    generalize (1 + η48) * ((1 + ε42) * v + 2 * e37) = r at *
    grind
  constructor <;> grind
theorem K10 : I 4652218415073722368 1024 ∧ I (fneg 4652218415073722368) (-1024) := wordI 1024 (by decide) (by decide +kernel) (by decide +kernel)
theorem law_line3 {F : Nat} (hF : 1073741826 ≤ F) (p a b : TImpl_P3) (w1 : p.X < 18446744073709551616) (w2 : p.Y < 18446744073709551616) (w3 : p.Z < 18446744073709551616) (w4 : a.X < 18446744073709551616) (w5 : a.Y < 18446744073709551616) (w6 : a.Z < 18446744073709551616)
    (w7 : b.X < 18446744073709551616) (w8 : b.Y < 18446744073709551616) (w9 : b.Z < 18446744073709551616) : p_FnSpacePointLine F p a b = some true := by
  unfold p_FnSpacePointLine
  rw [spaceTo_p hF _ _ (by simp), Option.bind_some]
  cases h : [p, a, b].all (spaceOk 4652218415073722368) with
  | false => rw [cond_t (by rfl)]
  | true =>
    rw [cond_f (by rfl)]
    simp only [List.all_cons, List.all_nil, Bool.and_true, Bool.and_eq_true] at h
    obtain ⟨h1, h2, h3⟩ := h
    obtain ⟨px, py, pz, hp, b1, b2, b3⟩ := at3_of K10.1 (by omega) (by omega) h1
    obtain ⟨ax, ay, az, ha, b4, b5, b6⟩ := at3_of K10.1 (by omega) (by omega) h2
    obtain ⟨bx, b_y, bz, hb, b7, b8, b9⟩ := at3_of K10.1 (by omega) (by omega) h3
    obtain ⟨D, hD⟩ : ∃ D : Int, D = (px - ax) * (bx - ax) + (py - ay) * (b_y - ay) + (pz - az) * (bz - az) := ⟨_, rfl⟩
    obtain ⟨L, hL⟩ : ∃ L : Int, L = (bx - ax) * (bx - ax) + (b_y - ay) * (b_y - ay) + (bz - az) * (bz - az) := ⟨_, rfl⟩
    obtain ⟨z, m, X, Y, Z, t, g1, g2, g3, g4, g5, g6, g7⟩ := prog_p hp ha hb ⟨b1, b2, b3⟩ ⟨b4, b5, b6⟩ ⟨b7, b8, b9⟩ hD hL
    obtain ⟨dp, e1, kp⟩ := exactly3_p hF hp ⟨w1, w2, w3⟩
    obtain ⟨da, e2, ka⟩ := exactly3_p hF ha ⟨w4, w5, w6⟩
    obtain ⟨db, e3, kb⟩ := exactly3_p hF hb ⟨w7, w8, w9⟩
    obtain ⟨_, n, dd, N, M, e4, kn, km, hor⟩ := squareTo3_p hF kp ka kb hD hL
    have s1 := sqp (n := bx - ax); have s2 := sqp (n := b_y - ay); have s3 := sqp (n := bz - az)
    have q1 := mul_s (a := bx - ax) (b := bx - ax) (by omega) (by omega)
    have q2 := mul_s (a := b_y - ay) (b := b_y - ay) (by omega) (by omega)
    have q3 := mul_s (a := bz - az) (b := bz - az) (by omega) (by omega)
    have hL0 : 0 ≤ L := by omega
    have hL1 : L = 0 → bx = ax ∧ b_y = ay ∧ bz = az := fun h0 => by
      refine ⟨?_, ?_, ?_⟩
      · apply Classical.byContradiction; intro hc; have := s1.2 (by omega); omega
      · apply Classical.byContradiction; intro hc; have := s2.2 (by omega); omega
      · apply Classical.byContradiction; intro hc; have := s3.2 (by omega); omega
    have hsq := foot_sq hD hL g4 hL0 hL1 hor
    have hM : 1 ≤ M ∧ M ≤ 12582912 := by rcases hor with ⟨_, _, h⟩ | ⟨_, _, _, _, h⟩ | ⟨_, _, _, h, _⟩ <;> omega
    have bnd : ∀ {a b : Int}, -2048 ≤ a ∧ a ≤ 2048 → -2048 ≤ b ∧ b ≤ 2048 → -4194304 ≤ a * b ∧ a * b ≤ 4194304 := fun ha hb => by have := mul_s ha hb; omega
    have big2 : ∀ {a : Int}, -8388608 ≤ a ∧ a ≤ 8388608 → 0 ≤ a * a ∧ a * a ≤ 70368744177664 := fun {a} ha => by
      have e : a * a = ((a.natAbs * a.natAbs : Nat) : Int) := by rw [Int.natAbs_mul_self]
      have hb : a.natAbs ≤ 8388608 := by omega
      have := Nat.mul_le_mul hb hb
      omega
    have hN : 0 ≤ N ∧ N ≤ 211106232532992 := by
      rcases hor with ⟨_, h, _⟩ | ⟨_, _, _, h, _⟩ | ⟨_, _, _, _, h⟩
      · have := bnd (a := px - ax) (b := px - ax) (by omega) (by omega); have := bnd (a := py - ay) (b := py - ay) (by omega) (by omega); have := bnd (a := pz - az) (b := pz - az) (by omega) (by omega)
        have := (sqp (n := px - ax)).1; have := (sqp (n := py - ay)).1; have := (sqp (n := pz - az)).1
        omega
      · have := bnd (a := px - bx) (b := px - bx) (by omega) (by omega); have := bnd (a := py - b_y) (b := py - b_y) (by omega) (by omega); have := bnd (a := pz - bz) (b := pz - bz) (by omega) (by omega)
        have := (sqp (n := px - bx)).1; have := (sqp (n := py - b_y)).1; have := (sqp (n := pz - bz)).1
        omega
      · have x1 := bnd (a := b_y - ay) (b := pz - az) (by omega) (by omega); have x2 := bnd (a := bz - az) (b := py - ay) (by omega) (by omega)
        have x3 := bnd (a := bz - az) (b := px - ax) (by omega) (by omega); have x4 := bnd (a := bx - ax) (b := pz - az) (by omega) (by omega)
        have x5 := bnd (a := bx - ax) (b := py - ay) (by omega) (by omega); have x6 := bnd (a := b_y - ay) (b := px - ax) (by omega) (by omega)
        have y1 := big2 (a := (b_y - ay) * (pz - az) - (bz - az) * (py - ay)) (by omega)
        have y2 := big2 (a := (bz - az) * (px - ax) - (bx - ax) * (pz - az)) (by omega)
        have y3 := big2 (a := (bx - ax) * (py - ay) - (b_y - ay) * (px - ax)) (by omega)
        omega
    have n0 : (N : Rat) = 0 ∨ 1 ≤ (N : Rat) := by
      by_cases h0 : N = 0
      · left; rw [h0]; rfl
      · right; exact Rat.intCast_le_intCast.2 (show (1 : Int) ≤ N by omega)
    have n1 : (N : Rat) ≤ 1152921504606846976 := Rat.intCast_le_intCast.2 (show N ≤ (1152921504606846976 : Int) by omega)
    have m1 : (1 : Rat) ≤ (M : Rat) := Rat.intCast_le_intCast.2 hM.1
    have m2 : (M : Rat) ≤ 1073741824 := Rat.intCast_le_intCast.2 (show M ≤ (1073741824 : Int) by omega)
    obtain ⟨zr, v, f1, f2, f3, _, f5, _⟩ := rootOf_p hF (d := ⟨n, dd⟩) kn km (by omega) (by omega) n0 m1 n1 m2
    have hc := close_fin g3 f3 f5 hsq g5 g6 g7
    unfold p_PointLine3 p_coord3
    simp only [Option.bind_some]
    rw [g1, Option.bind_some, Option.bind_some, cond_t rfl, e1, Option.bind_some, e2, Option.bind_some, e3, Option.bind_some, e4, Option.bind_some, f1, Option.bind_some]
    show (p_nearTo z zr).bind _ = _
    rw [near_p g2 f2 hc.1 hc.2]
    rfl
end Go.Proofs.Ytohpmbodfpjjmaa.Wk
