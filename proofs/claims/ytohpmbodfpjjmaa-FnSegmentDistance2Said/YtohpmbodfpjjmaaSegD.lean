/- Proved: the law of the square of a place's distance from a segment. -/
import Derived.Test.YtohpmbodfpjjmaaTo
import Derived.Test.YtohpmbodfpjjmaaExact5
import Derived.Test.YtohpmbodfpjjmaaFltApp
namespace Go.Proofs.Ytohpmbodfpjjmaa.Wk
open Go.Vm
set_option linter.unusedVariables false
set_option linter.unusedSimpArgs false
abbrev K10 : Nat := 4652218415073722368
theorem K10_int : Flt.I K10 1024 := by
  have e : K10 = ofInt 1024 := by decide +kernel
  rw [e]; exact Flt.ofInt_int (by decide)
theorem one_int : Flt.I 4607182418800017408 1 := by
  have e : (4607182418800017408 : Nat) = ofInt 1 := by decide +kernel
  rw [e]; exact Flt.ofInt_int (by decide)
def dotR (ax ay bx b_y cx cy dx dy : Rat) : Rat := (bx - ax) * (dx - cx) + (b_y - ay) * (dy - cy)
theorem dot_p {F : Nat} (hF : BigF F) {a b c d : TSpec_Point} {ax ay bx b_y cx cy dx dy : Rat} (ha : DydAt a ax ay) (hb : DydAt b bx b_y) (hc : DydAt c cx cy) (hd : DydAt d dx dy) : ∃ r, p_Dot F a b c d = some r ∧ Dyd r (dotR ax ay bx b_y cx cy dx dy) 567 8592 := by
  obtain ⟨d1, e1, k1⟩ := dyd_sub hb.1 ha.1 (by omega) (by omega) hF
  obtain ⟨d2, e2, k2⟩ := dyd_sub hd.1 hc.1 (by omega) (by omega) hF
  obtain ⟨d3, e3, k3⟩ := dyd_mul k1 k2 (by omega) (by omega) hF
  obtain ⟨d4, e4, k4⟩ := dyd_sub hb.2 ha.2 (by omega) (by omega) hF
  obtain ⟨d5, e5, k5⟩ := dyd_sub hd.2 hc.2 (by omega) (by omega) hF
  obtain ⟨d6, e6, k6⟩ := dyd_mul k4 k5 (by omega) (by omega) hF
  obtain ⟨d7, e7, k7⟩ := dyd_add k3 k6 (by omega) (by omega) hF
  exact ⟨d7, by simp only [p_Dot, e1, e2, e3, e4, e5, e6, e7, Option.bind_some], k7⟩
theorem square_p {F : Nat} (hF : BigF F) {a b : TSpec_Point} {ax ay bx b_y : Rat} (ha : DydAt a ax ay) (hb : DydAt b bx b_y) : ∃ r, p_Square F a b = some r ∧ Dyd r (dotR ax ay bx b_y ax ay bx b_y) 567 8592 := by
  obtain ⟨d, e, k⟩ := dot_p hF ha hb ha hb
  exact ⟨d, by simp only [p_Square, e, Option.bind_some], k⟩
/-- what the square of the distance is -/
def sqTo (ax ay bx b_y px py : Rat) : Rat :=
  if dotR ax ay bx b_y ax ay bx b_y = 0 ∨ dotR ax ay bx b_y ax ay px py ≤ 0 then dotR ax ay px py ax ay px py
  else if dotR ax ay bx b_y ax ay bx b_y ≤ dotR ax ay bx b_y ax ay px py then dotR bx b_y px py bx b_y px py
  else crossR ax ay bx b_y px py * crossR ax ay bx b_y px py / dotR ax ay bx b_y ax ay bx b_y
theorem dot_nonneg (ax ay bx b_y : Rat) : 0 ≤ dotR ax ay bx b_y ax ay bx b_y := by
  have sq : ∀ x : Rat, 0 ≤ x * x := fun x => by
    rcases (Rat.le_total : (0 : Rat) ≤ x ∨ x ≤ 0) with h | h
    · exact Rat.mul_nonneg h h
    · have : 0 ≤ (-x) * (-x) := Rat.mul_nonneg (by grind) (by grind)
      grind
  unfold dotR
  have := sq (bx - ax)
  have := sq (b_y - ay)
  grind
theorem squareTo_p {F : Nat} (hF : BigF F) {p a b : TSpec_Point} {ax ay bx b_y px py : Rat} (ha : DydAt a ax ay) (hb : DydAt b bx b_y) (hp : DydAt p px py) :
    ∃ N D d, p_SquareTo F p a b = some ⟨N, D⟩ ∧ 0 < d ∧ Dyd D d 567 8592 ∧ Dyd N (sqTo ax ay bx b_y px py * d) 1134 17184 := by
  obtain ⟨l, e1, k1⟩ := square_p hF ha hb
  obtain ⟨dt, e2, k2⟩ := dot_p hF ha hb ha hp
  obtain ⟨o, e3, k3⟩ := intOf_p (n := 1) (by omega) (by omega) hF
  obtain ⟨s1, e4, k4⟩ := square_p hF ha hp
  obtain ⟨s2, e5, k5⟩ := square_p hF hb hp
  obtain ⟨c, e6, k6⟩ := cross_p hF ha hb hp
  obtain ⟨c2, e7, k7⟩ := dyd_mul k6 k6 (by omega) (by omega) hF
  have hL0 := dot_nonneg ax ay bx b_y
  have one : ((1 : Int) : Rat) = 1 := rfl
  rw [one] at k3
  unfold p_SquareTo
  rw [e1, Option.bind_some, e2, Option.bind_some, e3, Option.bind_some, dyd_sign k1, Option.bind_some]
  have first : dotR ax ay bx b_y ax ay bx b_y = 0 ∨ dotR ax ay bx b_y ax ay px py ≤ 0 → ∃ N D d, p_SquareTo_k1 p a b F l dt o true = some ⟨N, D⟩ ∧ 0 < d ∧ Dyd D d 567 8592 ∧ Dyd N (sqTo ax ay bx b_y px py * d) 1134 17184 := fun h => by
    refine ⟨s1, o, 1, ?_, by decide, k3.mono (by omega) (by omega), ?_⟩
    · unfold p_SquareTo_k1; rw [cond_t rfl, e4, Option.bind_some]
    · unfold sqTo; rw [if_pos h, Rat.mul_one]; exact k4.mono (by omega) (by omega)
  by_cases h1 : dotR ax ay bx b_y ax ay bx b_y = 0
  · rw [cond_t (decide_eq_true (sgR_zero.2 h1))]; exact first (.inl h1)
  · rw [cond_f (decide_eq_false (fun h => h1 (sgR_zero.1 h))), dyd_sign k2, Option.bind_some]
    by_cases h2 : dotR ax ay bx b_y ax ay px py ≤ 0
    · rw [decide_eq_true (sgR_le.2 h2)]; exact first (.inr h2)
    · rw [decide_eq_false (fun h => h2 (sgR_le.1 h))]
      unfold p_SquareTo_k1
      rw [cond_f rfl, dyd_cmp k2 k1 (by omega) (by omega) hF, Option.bind_some]
      have hsg : ∀ q : Rat, 0 ≤ sgR q ↔ 0 ≤ q := fun q => by
        have := @sgR_neg q
        constructor
        · intro h; by_cases hq : q < 0
          · have := this.2 hq; omega
          · grind
        · intro h; by_cases hq : sgR q < 0
          · have := this.1 hq; grind
          · omega
      by_cases h3 : dotR ax ay bx b_y ax ay bx b_y ≤ dotR ax ay bx b_y ax ay px py
      · rw [cond_t (decide_eq_true ((hsg _).2 (by grind))), e5, Option.bind_some]
        refine ⟨s2, o, 1, rfl, by decide, k3.mono (by omega) (by omega), ?_⟩
        unfold sqTo; rw [if_neg (by simp [h1, h2]), if_pos h3, Rat.mul_one]; exact k5.mono (by omega) (by omega)
      · rw [cond_f (decide_eq_false (fun h => h3 (by have := (hsg _).1 h; grind))), e6, Option.bind_some, e7, Option.bind_some]
        refine ⟨c2, l, _, rfl, by grind, k1, ?_⟩
        unfold sqTo; rw [if_neg (by simp [h1, h2]), if_neg h3]
        have e : crossR ax ay bx b_y px py * crossR ax ay bx b_y px py / dotR ax ay bx b_y ax ay bx b_y * dotR ax ay bx b_y ax ay bx b_y = crossR ax ay bx b_y px py * crossR ax ay bx b_y px py := by
          rw [Rat.div_def, Rat.mul_assoc, Rat.mul_comm _ (dotR ax ay bx b_y ax ay bx b_y), Rat.mul_inv_cancel _ h1, Rat.mul_one]
        rw [e]; exact k7.mono (by omega) (by omega)
theorem shift_p {d : TSpec_Dyadic} {q : Rat} {m k : Nat} (h : Dyd d q m k) (hk : k < 1000000) : ∃ d', p_Dyadic_Shift d (-20) = some d' ∧ Dyd d' (q * (1 / 1048576)) m (k + 20) := by
  obtain ⟨n, e, rfl, rfl, h1, h2, h3⟩ := h
  unfold p_Dyadic_Shift
  rw [need_pos (in64m (by simp only; omega) (by simp only; omega))]
  refine ⟨_, rfl, n, e + -20, rfl, ?_, h1, by omega, by omega⟩
  have e20 : (2 : Rat) ^ (-20 : Int) = 1 / 1048576 := by decide +kernel
  rw [Flt.zpow_add, e20]; grind
theorem near_p {F : Nat} (hF : BigF F) {v : Nat} {r R d : Rat} {N D : TSpec_Dyadic} (hv : Flt.V v = some r) (hw : v < 18446744073709551616) (hd : 0 < d) (hD : Dyd D d 567 8592) (hN : Dyd N (R * d) 1134 17184) (h1 : r - R < 1 / 1048576) (h2 : R - r < 1 / 1048576) : p_nearRatio F v ⟨N, D⟩ (-20) = some true := by
  have hfin : Flt.isFin v = true := by unfold Flt.isFin; rw [hv]; rfl
  obtain ⟨d1, e1, k1⟩ := dyd_of hw hv hF
  obtain ⟨d2, e2, k2⟩ := dyd_mul k1 hD (by omega) (by omega) hF
  obtain ⟨d3, e3, k3⟩ := dyd_sub k2 hN (by omega) (by omega) hF
  obtain ⟨d4, e4, k4⟩ := dyd_abs k3
  obtain ⟨d5, e5, k5⟩ := shift_p hD (by omega)
  have e6 := dyd_cmp k4 k5 (by omega) (by omega) hF
  unfold p_nearRatio
  rw [cond_t hfin, e1, Option.bind_some, e2, Option.bind_some, e3, Option.bind_some, e4, Option.bind_some, e5, Option.bind_some, e6, Option.bind_some]
  congr 1
  refine decide_eq_true (sgR_neg.2 ?_)
  have a1 := Rat.mul_lt_mul_of_pos_right h1 hd
  have a2 := Rat.mul_lt_mul_of_pos_right h2 hd
  unfold Flt.ab
  split <;> grind
end Go.Proofs.Ytohpmbodfpjjmaa.Wk
