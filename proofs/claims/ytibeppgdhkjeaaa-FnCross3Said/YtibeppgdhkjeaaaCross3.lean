/- Proved: the law of the cross product of space, of what is printed of it. Its arguments are words of 64 bits. -/
import Derived.Test.YtibeppgdhkjeaaaGrid
import Derived.Test.YtibeppgdhkjeaaaDyd
namespace Go.Proofs.Ytibeppgdhkjeaaa.Wk
open Go.Vm
set_option linter.unusedVariables false
set_option linter.unusedSimpArgs false
theorem whole3_p {F : Nat} (hF : BigF F) (pts : List TImpl_P3) (hp : pts.length < 1000) : p_whole3 F pts = some (pts.all fun p => Flt.okF Flt.K20 p.X && (Flt.okF Flt.K20 p.Y && Flt.okF Flt.K20 p.Z)) := by
  have hF' : 1073741826 ≤ F := hF
  unfold p_whole3
  have outer : iter (p_whole3_l4 pts F) F (0 : Int) = some (if (pts.all fun p => Flt.okF Flt.K20 p.X && (Flt.okF Flt.K20 p.Y && Flt.okF Flt.K20 p.Z)) = true then Sum.inl () else Sum.inr false) := by
    refine scan_loop0 pts _ _ _ (fun K k hk => ?_) (fun K k x hx => ?_) (by omega)
    · unfold p_whole3_l4; rw [cond_f (decide_eq_false (by omega))]
    · have hk := (List.getElem?_eq_some_iff.1 hx).1
      unfold p_whole3_l4
      have hg : p_Grid F [[x.X, x.Y, x.Z]] 3 (4697254411347427328 : Nat) = some (Flt.okF Flt.K20 x.X && (Flt.okF Flt.K20 x.Y && Flt.okF Flt.K20 x.Z)) := by
        rw [grid_p (by simp; omega) (by simp; omega) (by simp) (by simp)]
        simp [gridB, rowB, Flt.K20]
      rw [cond_t (decide_eq_true (by omega)), idx_get hx, Option.bind_some]
      simp only [p_off3, Option.bind_some, hg, succ_cast]
      cases hc : (Flt.okF Flt.K20 x.X && (Flt.okF Flt.K20 x.Y && Flt.okF Flt.K20 x.Z)) with
      | false => rfl
      | true => rw [cond_f (show (!true) = false from rfl), need_pos (in64 (by omega) (by omega))]; rfl
  rw [outer, Option.bind_some]
  split
  · rename_i h; rw [h]; rfl
  · rename_i h
    have : (pts.all fun p => Flt.okF Flt.K20 p.X && (Flt.okF Flt.K20 p.Y && Flt.okF Flt.K20 p.Z)) = false := by simpa using h
    rw [this]; rfl
/-- the dot product of places that are whole numbers -/
def dotR (a b c x y z : Int) : Rat := (a : Rat) * (x : Rat) + (b : Rat) * (y : Rat) + (c : Rat) * (z : Rat)
theorem dot_p {F : Nat} (hF : BigF F) {p q : TImpl_P3} {a b c x y z : Int} (ha : Flt.I p.X a) (hb : Flt.I p.Y b) (hc : Flt.I p.Z c) (hx : Flt.I q.X x) (hy : Flt.I q.Y y) (hz : Flt.I q.Z z)
    (wa : p.X < 18446744073709551616) (wb : p.Y < 18446744073709551616) (wc : p.Z < 18446744073709551616) (wx : q.X < 18446744073709551616) (wy : q.Y < 18446744073709551616) (wz : q.Z < 18446744073709551616) :
    ∃ u v d, p_FnCross3_c1 F p = some u ∧ p_FnCross3_c1 F q = some v ∧ p_Dot3 F u v = some d ∧ p_Dyadic_Sign d = some (sgR (dotR a b c x y z)) := by
  obtain ⟨d1, e1, k1⟩ := dyd_of wa ha hF
  obtain ⟨d2, e2, k2⟩ := dyd_of wb hb hF
  obtain ⟨d3, e3, k3⟩ := dyd_of wc hc hF
  obtain ⟨d4, e4, k4⟩ := dyd_of wx hx hF
  obtain ⟨d5, e5, k5⟩ := dyd_of wy hy hF
  obtain ⟨d6, e6, k6⟩ := dyd_of wz hz hF
  obtain ⟨m1, f1, j1⟩ := dyd_mul k1 k4 (by omega) (by omega) hF
  obtain ⟨m2, f2, j2⟩ := dyd_mul k2 k5 (by omega) (by omega) hF
  obtain ⟨m3, f3, j3⟩ := dyd_mul k3 k6 (by omega) (by omega) hF
  obtain ⟨s1, g1, i1⟩ := dyd_add j1 j2 (by omega) (by omega) hF
  obtain ⟨s2, g2, i2⟩ := dyd_add i1 j3 (by omega) (by omega) hF
  refine ⟨⟨d1, d2, d3⟩, ⟨d4, d5, d6⟩, s2, ?_, ?_, ?_, dyd_sign i2⟩
  · simp only [p_FnCross3_c1, p_PointOf3, e1, e2, e3, Option.bind_some]
  · simp only [p_FnCross3_c1, p_PointOf3, e4, e5, e6, Option.bind_some]
  · simp only [p_Dot3, f1, f2, f3, g1, g2, Option.bind_some]
theorem mul40 {f m : Int} (f1 : -1048576 ≤ f) (f2 : f ≤ 1048576) (m1 : -1048576 ≤ m) (m2 : m ≤ 1048576) : -1099511627776 ≤ f * m ∧ f * m ≤ 1099511627776 := by
  have h1 : (f + 1048576) * (m + 1048576) ≥ 0 := Int.mul_nonneg (by omega) (by omega)
  have h2 : (1048576 - f) * (1048576 - m) ≥ 0 := Int.mul_nonneg (by omega) (by omega)
  have h3 : (f + 1048576) * (1048576 - m) ≥ 0 := Int.mul_nonneg (by omega) (by omega)
  have h4 : (1048576 - f) * (m + 1048576) ≥ 0 := Int.mul_nonneg (by omega) (by omega)
  simp only [Int.add_mul, Int.mul_add, Int.sub_mul, Int.mul_sub] at h1 h2 h3 h4
  omega
theorem pair_p {x y z w : Nat} {a b c d : Int} (hx : Flt.I x a) (hy : Flt.I y b) (hz : Flt.I z c) (hw : Flt.I w d) (la : -1048576 ≤ a ∧ a ≤ 1048576) (lb : -1048576 ≤ b ∧ b ≤ 1048576) (lc : -1048576 ≤ c ∧ c ≤ 1048576) (ld : -1048576 ≤ d ∧ d ≤ 1048576) :
    ∃ u v r, floatBits .mul .f64 x y = some u ∧ floatBits .mul .f64 z w = some v ∧ floatBits .sub .f64 u v = some r ∧ Flt.I r (a * b - c * d) ∧ r < 18446744073709551616 := by
  have b1 := mul40 la.1 la.2 lb.1 lb.2
  have b2 := mul40 lc.1 lc.2 ld.1 ld.2
  obtain ⟨u, h1, i1⟩ := Flt.mul_int hx hy (by omega)
  obtain ⟨v, h2, i2⟩ := Flt.mul_int hz hw (by omega)
  obtain ⟨r, h3, i3⟩ := Flt.sub_int i1 i2 (by omega)
  exact ⟨u, v, r, h1, h2, h3, i3, wf64 (floatBits_wf h3)⟩
theorem law_p {F : Nat} (hF : BigF F) (p q : TImpl_P3) (w1 : p.X < 18446744073709551616) (w2 : p.Y < 18446744073709551616) (w3 : p.Z < 18446744073709551616) (w4 : q.X < 18446744073709551616) (w5 : q.Y < 18446744073709551616) (w6 : q.Z < 18446744073709551616) :
    p_FnCross3 F p q = some true := by
  unfold p_FnCross3
  rw [whole3_p hF _ (by simp), Option.bind_some]
  cases hc : ([p, q].all fun p => Flt.okF Flt.K20 p.X && (Flt.okF Flt.K20 p.Y && Flt.okF Flt.K20 p.Z)) with
  | false => rfl
  | true =>
    rw [cond_f (show (!true) = false from rfl)]
    simp only [List.all_cons, List.all_nil, Bool.and_true, Bool.and_eq_true] at hc
    obtain ⟨⟨h1, h2, h3⟩, h4, h5, h6⟩ := hc
    obtain ⟨a, ia, la⟩ := Flt.okF_K20 h1
    obtain ⟨b, ib, lb⟩ := Flt.okF_K20 h2
    obtain ⟨c, ic, lc⟩ := Flt.okF_K20 h3
    obtain ⟨x, ix, lx⟩ := Flt.okF_K20 h4
    obtain ⟨y, iy, ly⟩ := Flt.okF_K20 h5
    obtain ⟨z, iz, lz⟩ := Flt.okF_K20 h6
    obtain ⟨u1, v1, r1, f1, g1, e1, i1, t1⟩ := pair_p ib iz ic iy lb lz lc ly
    obtain ⟨u2, v2, r2, f2, g2, e2, i2, t2⟩ := pair_p ic ix ia iz lc lx la lz
    obtain ⟨u3, v3, r3, f3, g3, e3, i3, t3⟩ := pair_p ia iy ib ix la ly lb lx
    have hcr : p_Cross3 p q = some ⟨r1, r2, r3⟩ := by
      simp only [p_Cross3, p_vec3, p_plainP3, p_Cross, f1, g1, e1, f2, g2, e2, f3, g3, e3, Option.bind_some]
    have q1 := Flt.feq_int i1 i1
    have q2 := Flt.feq_int i2 i2
    have q3 := Flt.feq_int i3 i3
    simp only [decide_true] at q1 q2 q3
    obtain ⟨m1, m2, m3, n1, n2, n3, n4⟩ := dot_p hF (p := ⟨r1, r2, r3⟩) (q := p) i1 i2 i3 ia ib ic t1 t2 t3 w1 w2 w3
    obtain ⟨m4, m5, m6, n5, n6, n7, n8⟩ := dot_p hF (p := ⟨r1, r2, r3⟩) (q := q) i1 i2 i3 ix iy iz t1 t2 t3 w4 w5 w6
    rw [n1] at n5; cases n5
    have z1 : dotR (b * z - c * y) (c * x - a * z) (a * y - b * x) a b c = 0 := by
      unfold dotR; simp only [Rat.intCast_sub, Rat.intCast_mul]; grind
    have z2 : dotR (b * z - c * y) (c * x - a * z) (a * y - b * x) x y z = 0 := by
      unfold dotR; simp only [Rat.intCast_sub, Rat.intCast_mul]; grind
    rw [z1] at n4
    rw [z2] at n8
    simp only [hcr, f1, g1, e1, f2, g2, e2, f3, g3, e3, Option.bind_some, q1, q2, q3, Bool.and_true, n1, n2, n3, n4, n6, n7, n8]
    rfl
end Go.Proofs.Ytibeppgdhkjeaaa.Wk
