/- Proved: sums, products and signs of the exact dyadic numbers of the reference. No conditions but bounds on how long they are. -/
import Derived.Test.YtohpmbodfpjjmaaExact3
namespace Go.Proofs.Ytohpmbodfpjjmaa.Wk
open Go.Vm Limb
set_option linter.unusedVariables false
set_option linter.unusedSimpArgs false
/-- d is the number q, of m limbs at most, its exponent at most k -/
def Dyd (d : TSpec_Dyadic) (q : Rat) (m k : Nat) : Prop := ∃ (n e : Int), d = ⟨W n, e⟩ ∧ q = (n : Rat) * (2 : Rat) ^ e ∧ sz n ≤ m ∧ -(k : Int) ≤ e ∧ e ≤ k
def BigF (F : Nat) : Prop := 1073741826 ≤ F
def sgR (q : Rat) : Int := if q = 0 then 0 else if q < 0 then -1 else 1
theorem sg_dy {n e : Int} : sgR ((n : Rat) * (2 : Rat) ^ e) = if n = 0 then 0 else if n < 0 then -1 else 1 := by
  have hp : (0 : Rat) < (2 : Rat) ^ e := Flt.zpow_pos e
  have h0 : ((n : Rat) * (2 : Rat) ^ e = 0) ↔ n = 0 := by
    constructor
    · intro h
      rcases Rat.mul_eq_zero.1 h with h | h
      · exact Rat.intCast_inj.1 h
      · grind
    · rintro rfl; simp
  have h1 : ((n : Rat) * (2 : Rat) ^ e < 0) ↔ n < 0 := by
    constructor
    · intro h
      by_cases hn : n < 0
      · exact hn
      · have : (0 : Rat) ≤ (n : Rat) := by
          have := Rat.intCast_le_intCast.2 (show 0 ≤ n by omega); simpa using this
        have := Rat.mul_nonneg this (Rat.le_of_lt hp); grind
    · intro h
      have h2 : (n : Rat) < 0 := by have := Rat.intCast_lt_intCast.2 h; simpa using this
      have := Rat.mul_lt_mul_of_pos_right h2 hp
      simpa using this
  unfold sgR
  simp only [h0, h1]
theorem Dyd.mono {d : TSpec_Dyadic} {q : Rat} {m k m' k' : Nat} (h : Dyd d q m k) (hm : m ≤ m') (hk : k ≤ k') : Dyd d q m' k' := by
  obtain ⟨n, e, h1, h2, h3, h4, h5⟩ := h
  exact ⟨n, e, h1, h2, by omega, by omega, by omega⟩
theorem dyd_of {x : Nat} {q : Rat} (hx : x < 18446744073709551616) (h : Flt.V x = some q) {F : Nat} (hF : BigF F) : ∃ d, p_DyadicOf F x = some d ∧ Dyd d q 2 1074 := by
  obtain ⟨n, e, h1, h2, h3, h4, h5⟩ := dyadicOf_p hx h (F := F) (by unfold BigF at hF; omega)
  exact ⟨_, h1, n, e, rfl, h2, sz_of (by have : (4294967296 : Nat) ^ 2 = 18446744073709551616 := by decide
                                         omega), by omega, by omega⟩
theorem dyd_sign {d : TSpec_Dyadic} {q : Rat} {m k : Nat} (h : Dyd d q m k) : p_Dyadic_Sign d = some (sgR q) := by
  obtain ⟨n, e, rfl, rfl, _⟩ := h
  unfold p_Dyadic_Sign
  rw [sign_p, Option.bind_some, sg_dy]
theorem dyd_mul {a b : TSpec_Dyadic} {p q : Rat} {m k m' k' : Nat} (ha : Dyd a p m k) (hb : Dyd b q m' k') (hm : m + m' < 1000000) (hk : k + k' < 1000000) {F : Nat} (hF : BigF F) : ∃ d, p_Dyadic_Mul F a b = some d ∧ Dyd d (p * q) (m + m') (k + k') := by
  obtain ⟨n, e, rfl, rfl, h1, h2, h3⟩ := ha
  obtain ⟨n', e', rfl, rfl, h1', h2', h3'⟩ := hb
  unfold p_Dyadic_Mul
  rw [mul_p (by omega) hF, Option.bind_some, need_pos (in64m (by simp only; omega) (by simp only; omega))]
  refine ⟨_, rfl, n * n', e + e', rfl, ?_, ?_, by omega, by omega⟩
  · rw [Rat.intCast_mul, Flt.zpow_add]; grind
  · have := sz_mul n n'; omega
theorem dyd_add {a b : TSpec_Dyadic} {p q : Rat} {m k m' k' : Nat} (ha : Dyd a p m k) (hb : Dyd b q m' k') (hm : m + m' < 1000000) (hk : k + k' < 1000000) {F : Nat} (hF : BigF F) : ∃ d, p_Dyadic_Add F a b = some d ∧ Dyd d (p + q) (m + m' + (k + k') / 32 + 3) (k + k') := by
  have sa := dyd_sign ha
  have sb := dyd_sign hb
  unfold p_Dyadic_Add
  rw [sa, Option.bind_some]
  by_cases hp : p = 0
  · rw [cond_t (decide_eq_true (by unfold sgR; rw [if_pos hp]))]
    refine ⟨b, rfl, ?_⟩
    rw [hp, Rat.zero_add]; exact hb.mono (by omega) (by omega)
  · have hsp : ¬ sgR p = 0 := by unfold sgR; rw [if_neg hp]; split <;> decide
    rw [cond_f (decide_eq_false hsp), sb, Option.bind_some]
    by_cases hq : q = 0
    · rw [cond_t (decide_eq_true (by unfold sgR; rw [if_pos hq]))]
      refine ⟨a, rfl, ?_⟩
      rw [hq, Rat.add_zero]; exact ha.mono (by omega) (by omega)
    · have hsq : ¬ sgR q = 0 := by unfold sgR; rw [if_neg hq]; split <;> decide
      rw [cond_f (decide_eq_false hsq)]
      obtain ⟨n, e, rfl, rfl, h1, h2, h3⟩ := ha
      obtain ⟨n', e', rfl, rfl, h1', h2', h3'⟩ := hb
      have key : ∀ (x y : Int) (u v : Int), v ≤ u → u - v ≤ (k + k' : Nat) → sz x + sz y ≤ m + m' → ∃ N : Nat, u - v = (N : Int) ∧ p_Whole_Up F (W x) (u - v) = some (W (x * 2 ^ N)) ∧ p_Whole_Add F (W (x * 2 ^ N)) (W y) = some (W (x * 2 ^ N + y)) ∧
          ((x * 2 ^ N + y : Int) : Rat) * (2 : Rat) ^ v = (x : Rat) * (2 : Rat) ^ u + (y : Rat) * (2 : Rat) ^ v ∧ sz (x * 2 ^ N + y) ≤ m + m' + (k + k') / 32 + 3 := by
        intro x y u v huv hk2 hs
        obtain ⟨N, hN⟩ : ∃ N : Nat, u - v = (N : Int) := ⟨(u - v).toNat, by omega⟩
        have hsz := sz_up x N
        have hNk : N / 32 ≤ (k + k') / 32 := Nat.div_le_div_right (by omega)
        have hF' : 1073741826 ≤ F := hF
        refine ⟨N, hN, by rw [hN]; exact up_p (by omega) hF, add_p (by omega) (by omega) hF, ?_, ?_⟩
        · have e1 : u = v + (N : Int) := by omega
          rw [e1, Flt.zpow_add, Flt.zpow_nat, Rat.intCast_add, Rat.intCast_mul, Rat.intCast_pow]
          have e2 : ((2 ^ N : Nat) : Rat) = (2 : Rat) ^ N := Rat.natCast_pow 2 N
          have e3 : ((2 : Int) : Rat) = 2 := rfl
          rw [e2, e3]; grind
        · have := sz_add (x * 2 ^ N) y
          omega
      by_cases he : e' < e
      · obtain ⟨N, k0, k1, k2, k3, k4⟩ := key n n' e e' (by omega) (by omega) (by omega)
        rw [cond_t (decide_eq_true he), need_pos (in64m (by simp only; omega) (by simp only; omega))]
        simp only
        rw [k1, Option.bind_some, k2, Option.bind_some]
        exact ⟨_, rfl, _, e', rfl, k3.symm, k4, by omega, by omega⟩
      · obtain ⟨N, k0, k1, k2, k3, k4⟩ := key n' n e' e (by omega) (by omega) (by omega)
        rw [cond_f (decide_eq_false he), need_pos (in64m (by simp only; omega) (by simp only; omega))]
        simp only
        rw [k1, Option.bind_some, k2, Option.bind_some]
        refine ⟨_, rfl, _, e, rfl, ?_, k4, by omega, by omega⟩
        rw [k3, Rat.add_comm]
end Go.Proofs.Ytohpmbodfpjjmaa.Wk
