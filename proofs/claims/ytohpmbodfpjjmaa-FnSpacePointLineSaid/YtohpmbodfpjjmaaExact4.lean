/- Proved: differences, opposites, absolute values and comparisons of the exact dyadic numbers of the reference. -/
import Derived.Test.YtohpmbodfpjjmaaDyd
namespace Go.Proofs.Ytohpmbodfpjjmaa.Wk
open Go.Vm Limb
set_option linter.unusedVariables false
set_option linter.unusedSimpArgs false
theorem minus_p (n : Int) : p_Whole_Minus (W n) = some (W (-n)) := by
  unfold p_Whole_Minus W
  simp only
  have hz : (nl (limbs n.natAbs)).length = 0 ↔ n = 0 := by
    rw [nl_len, List.length_eq_zero_iff, limbs_nil, Int.natAbs_eq_zero]
  by_cases h : n < 0
  · rw [show (!decide (n < 0)) = false by simp [h], Int.natAbs_neg, show decide (-n < 0) = false by simp; omega]; rfl
  · rw [show (!decide (n < 0)) = true by simp [h], Int.natAbs_neg]
    simp only [cond_true]
    congr 2
    apply decide_eq_decide.2
    constructor
    · intro h1
      have : ¬ n = 0 := fun e => by have := hz.2 e; omega
      omega
    · intro h1
      have : ¬ (nl (limbs n.natAbs)).length = 0 := fun e => by have := hz.1 e; omega
      omega
theorem dyd_minus {d : TSpec_Dyadic} {q : Rat} {m k : Nat} (h : Dyd d q m k) : ∃ d', p_Dyadic_Minus d = some d' ∧ Dyd d' (-q) m k := by
  obtain ⟨n, e, rfl, rfl, h1, h2, h3⟩ := h
  unfold p_Dyadic_Minus
  rw [minus_p, Option.bind_some]
  refine ⟨_, rfl, -n, e, rfl, ?_, by rw [sz_neg]; exact h1, h2, h3⟩
  rw [Rat.intCast_neg]; grind
theorem dyd_sub {a b : TSpec_Dyadic} {p q : Rat} {m k m' k' : Nat} (ha : Dyd a p m k) (hb : Dyd b q m' k') (hm : m + m' < 1000000) (hk : k + k' < 1000000) {F : Nat} (hF : BigF F) : ∃ d, p_Dyadic_Sub F a b = some d ∧ Dyd d (p - q) (m + m' + (k + k') / 32 + 3) (k + k') := by
  obtain ⟨b', h1, hb'⟩ := dyd_minus hb
  obtain ⟨d, h2, hd⟩ := dyd_add ha hb' hm hk hF
  refine ⟨d, ?_, ?_⟩
  · unfold p_Dyadic_Sub; rw [h1, Option.bind_some, h2, Option.bind_some]
  · rw [Rat.sub_eq_add_neg]; exact hd
theorem dyd_cmp {a b : TSpec_Dyadic} {p q : Rat} {m k m' k' : Nat} (ha : Dyd a p m k) (hb : Dyd b q m' k') (hm : m + m' < 1000000) (hk : k + k' < 1000000) {F : Nat} (hF : BigF F) : p_Dyadic_Cmp F a b = some (sgR (p - q)) := by
  obtain ⟨d, h1, hd⟩ := dyd_sub ha hb hm hk hF
  unfold p_Dyadic_Cmp
  rw [h1, Option.bind_some, dyd_sign hd, Option.bind_some]
theorem sgR_neg {q : Rat} : sgR q < 0 ↔ q < 0 := by
  unfold sgR
  split
  · rename_i h; subst h; simp
  · split
    · rename_i h; simp [h]
    · rename_i h; simp [h]
theorem sgR_le {q : Rat} : sgR q ≤ 0 ↔ q ≤ 0 := by
  unfold sgR
  split
  · rename_i h; subst h; simp
  · split
    · rename_i h; simp; grind
    · rename_i h; simp; grind
theorem sgR_zero {q : Rat} : sgR q = 0 ↔ q = 0 := by
  unfold sgR
  split
  · rename_i h; simp [h]
  · split
    · rename_i h1 h; simp [h1]
    · rename_i h1 h; simp [h1]
theorem sgR_int (n : Int) : sgR (n : Rat) = if n = 0 then 0 else if n < 0 then -1 else 1 := by
  have := @sg_dy n 0
  rw [Flt.zpow_zero', Rat.mul_one] at this
  exact this
end Go.Proofs.Ytohpmbodfpjjmaa.Wk
