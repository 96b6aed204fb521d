/- Proved: exact numbers, told as floating numbers. -/
import Derived.Test.YtohpmbodfpjjmaaDFl2
namespace Go.Proofs.Ytohpmbodfpjjmaa.Wk
open Go.Vm Flt
set_option linter.unusedVariables false
set_option linter.unusedSimpArgs false
def KK (r : Nat) : Nat := if r < 4503599627370496 then r else (4503599627370496 + r % 4503599627370496) * 2 ^ (r / 4503599627370496 - 1)
theorem KK_lt {a b : Nat} (ha : 4503599627370496 ≤ a) (h : a / 4503599627370496 < b / 4503599627370496) : KK a < KK b := by
  unfold KK
  rw [if_neg (by omega), if_neg (by omega)]
  have h1 : (4503599627370496 + a % 4503599627370496) * 2 ^ (a / 4503599627370496 - 1) < 9007199254740992 * 2 ^ (a / 4503599627370496 - 1) := (Nat.mul_lt_mul_right (Nat.pow_pos (by omega))).2 (by omega)
  have h2 : 9007199254740992 * 2 ^ (a / 4503599627370496 - 1) = 4503599627370496 * 2 ^ (a / 4503599627370496 - 1 + 1) := by rw [Nat.pow_succ]; omega
  have h3 : 4503599627370496 * 2 ^ (a / 4503599627370496 - 1 + 1) ≤ 4503599627370496 * 2 ^ (b / 4503599627370496 - 1) := Nat.mul_le_mul_left _ (Nat.pow_le_pow_right (by omega) (by omega))
  have h4 : 4503599627370496 * 2 ^ (b / 4503599627370496 - 1) ≤ (4503599627370496 + b % 4503599627370496) * 2 ^ (b / 4503599627370496 - 1) := Nat.mul_le_mul_right _ (by omega)
  omega
theorem KK_inj {a b : Nat} (h : KK a = KK b) : a = b := by
  have big : ∀ {r : Nat}, 4503599627370496 ≤ r → 4503599627370496 ≤ KK r := fun {r} hr => by
    unfold KK
    rw [if_neg (by omega)]
    have h1 : 4503599627370496 * 1 ≤ (4503599627370496 + r % 4503599627370496) * 2 ^ (r / 4503599627370496 - 1) := Nat.mul_le_mul (by omega) (Nat.pow_pos (by omega))
    omega
  by_cases ha : a < 4503599627370496
  · by_cases hb : b < 4503599627370496
    · unfold KK at h; rw [if_pos ha, if_pos hb] at h; exact h
    · have := big (r := b) (by omega)
      have e : KK a = a := by unfold KK; rw [if_pos ha]
      omega
  · by_cases hb : b < 4503599627370496
    · have := big (r := a) (by omega)
      have e : KK b = b := by unfold KK; rw [if_pos hb]
      omega
    · rcases Nat.lt_trichotomy (a / 4503599627370496) (b / 4503599627370496) with hl | hl | hl
      · have := KK_lt (by omega) hl; omega
      · unfold KK at h
        rw [if_neg ha, if_neg hb, hl] at h
        have := Nat.eq_of_mul_eq_mul_right (Nat.pow_pos (by omega)) h
        omega
      · have := KK_lt (by omega) hl; omega
theorem V_KK {x : Nat} {q : Rat} (h : V x = some q) : q = sg (x / 9223372036854775808 % 2 == 1) ((KK (x % 9223372036854775808) : Rat) * 2 ^ (-1074 : Int)) := by
  obtain ⟨_, hq⟩ := V_read h
  rw [hq]
  congr 1
  unfold KK
  split
  · rfl
  · rw [zpow_add, zpow_nat, Rat.natCast_mul]; grind
/-- What reads as the same number, not 0, is the same word. -/
theorem V_inj {x y : Nat} {q : Rat} (hx : x < 18446744073709551616) (hy : y < 18446744073709551616) (h0 : q ≠ 0) (h1 : V x = some q) (h2 : V y = some q) : x = y := by
  have e1 := V_KK h1
  have e2 := V_KK h2
  have hp := zpow_pos (-1074)
  have k1 : (0 : Rat) ≤ (KK (x % 9223372036854775808) : Rat) := Rat.natCast_nonneg
  have k2 : (0 : Rat) ≤ (KK (y % 9223372036854775808) : Rat) := Rat.natCast_nonneg
  have m1 := Rat.mul_nonneg k1 (Rat.le_of_lt hp)
  have m2 := Rat.mul_nonneg k2 (Rat.le_of_lt hp)
  have hs : (x / 9223372036854775808 % 2 == 1) = (y / 9223372036854775808 % 2 == 1) ∧ (KK (x % 9223372036854775808) : Rat) * 2 ^ (-1074 : Int) = (KK (y % 9223372036854775808) : Rat) * 2 ^ (-1074 : Int) := by
    generalize (KK (x % 9223372036854775808) : Rat) * 2 ^ (-1074 : Int) = u at *
    generalize (KK (y % 9223372036854775808) : Rat) * 2 ^ (-1074 : Int) = v at *
    generalize (x / 9223372036854775808 % 2 == 1) = s at *
    generalize (y / 9223372036854775808 % 2 == 1) = t at *
    unfold sg at e1 e2
    cases s <;> cases t <;> simp at e1 e2 ⊢ <;> grind
  have hK : KK (x % 9223372036854775808) = KK (y % 9223372036854775808) := by
    have : (KK (x % 9223372036854775808) : Rat) = (KK (y % 9223372036854775808) : Rat) := by
      have hne : (2 : Rat) ^ (-1074 : Int) ≠ 0 := fun e => by rw [e] at hp; exact absurd hp (by decide)
      have hinv := Rat.mul_inv_cancel _ hne
      have e3 : (KK (x % 9223372036854775808) : Rat) * 2 ^ (-1074 : Int) * ((2 : Rat) ^ (-1074 : Int))⁻¹ = (KK (y % 9223372036854775808) : Rat) * 2 ^ (-1074 : Int) * ((2 : Rat) ^ (-1074 : Int))⁻¹ := by rw [hs.2]
      rw [Rat.mul_assoc, Rat.mul_assoc, hinv, Rat.mul_one, Rat.mul_one] at e3
      exact e3
    exact Rat.natCast_inj.1 this
  have hr := KK_inj hK
  have hb := hs.1
  have b1 : x / 9223372036854775808 % 2 = y / 9223372036854775808 % 2 := by
    by_cases h : x / 9223372036854775808 % 2 = 1
    · by_cases h' : y / 9223372036854775808 % 2 = 1
      · omega
      · simp [h, h'] at hb
    · by_cases h' : y / 9223372036854775808 % 2 = 1
      · simp [h, h'] at hb
      · omega
  omega
theorem ofInt_lt (n : Int) : ofInt n < 18446744073709551616 := Ieee.Format.nearest_lt Ieee.double _ _ _
theorem ofInt_word {g : Nat} (h1 : 4503599627370496 ≤ g) (h2 : g ≤ 9007199254740992) : ∃ E f, ofInt (g : Int) = E * 4503599627370496 + f ∧ f < 4503599627370496 ∧ 1 ≤ E ∧ E ≤ 1076 ∧ 1075 ≤ E ∧ ((4503599627370496 + f : Nat) : Rat) * 2 ^ ((E : Int) - 1075) = (g : Rat) := by
  have hi := ofInt_int (n := (g : Int)) (by omega)
  unfold I at hi
  rw [Rat.intCast_natCast] at hi
  have hg0 : (g : Rat) ≠ 0 := by
    have : (4503599627370496 : Rat) ≤ (g : Rat) := nat_le_rat h1
    intro e
    rw [e] at this
    exact absurd this (by decide)
  by_cases h : g = 9007199254740992
  · have hv := V_nrm (f := 0) (E := 1076) (by omega) (by omega) (by omega)
    have e : (((4503599627370496 + 0 : Nat) : Rat)) * 2 ^ (((1076 : Nat) : Int) - 1075) = (g : Rat) := by subst h; decide +kernel
    rw [e] at hv
    exact ⟨1076, 0, V_inj (ofInt_lt _) (by omega) hg0 hi hv, by omega, by omega, by omega, by omega, e⟩
  · have hv := V_nrm (f := g - 4503599627370496) (E := 1075) (by omega) (by omega) (by omega)
    have e : (((4503599627370496 + (g - 4503599627370496) : Nat) : Rat)) * 2 ^ (((1075 : Nat) : Int) - 1075) = (g : Rat) := by
      have e1 : 4503599627370496 + (g - 4503599627370496) = g := by omega
      have e2 : ((1075 : Nat) : Int) - 1075 = 0 := by omega
      rw [e1, e2, zpow_zero', Rat.mul_one]
    rw [e] at hv
    exact ⟨1075, _, V_inj (ofInt_lt _) (by omega) hg0 hi hv, by omega, by omega, by omega, by omega, e⟩
theorem float_fin {n e : Int} {T : Nat} (hn : 0 < n) {g : Nat} (h1 : 4503599627370496 ≤ g) (h2 : g ≤ 9007199254740992) (ha : 1 ≤ (T : Int) + e) (hb : (T : Int) + e ≤ 805) (hT : T ≤ 1000000) :
    ∃ z, p_Dyadic_Float_k2 ⟨W n, e⟩ (T : Int) (T : Int) (g : Int) = some z ∧ V z = some ((g : Rat) * 2 ^ (e + ((T : Int) - 53))) ∧ z < 18446744073709551616 := by
  obtain ⟨E, f, hw, hf, hE1, hE2, hE3, hval⟩ := ofInt_word h1 h2
  obtain ⟨z, hz, hv, hlt⟩ := ldexp_p (f := f) (E := E) (a := e + ((T : Int) - 53)) hf hE1 (by omega) (by omega) (by omega)
  refine ⟨z, ?_, ?_, hlt⟩
  · unfold p_Dyadic_Float_k2
    dsimp only
    rw [if_neg (by omega), need_pos (in64m (by omega) (by omega)), hw, hz, Option.bind_some, cond_f (show (W n).Neg = false from decide_eq_false (by omega))]
  · rw [hv, zpow_add, ← Rat.mul_assoc, hval]
theorem float_p {d : TSpec_Dyadic} {q : Rat} {m k : Nat} (h : Dyd d q m k) (hm : m < 20000) (h1 : 1 ≤ q) (h2 : q < 2 ^ (800 : Int)) {F : Nat} (hF : BigF F) : ∃ z r, p_Dyadic_Float F d = some z ∧ V z = some r ∧ z < 18446744073709551616 ∧
    r - q ≤ q * (1 / 4503599627370496) ∧ q - r ≤ q * (1 / 4503599627370496) ∧ ∀ j : Nat, j < 9007199254740992 → q = (j : Rat) → r = q := by
  have hF' : 1073741826 ≤ F := hF
  have hsg := dyd_sign h
  obtain ⟨n, e, rfl, hq, hs, he1, he2⟩ := h
  have hpe := zpow_pos e
  have hnp : (0 : Rat) < (n : Rat) := by
    apply Classical.byContradiction
    intro hc
    have : (n : Rat) ≤ 0 := Rat.not_lt.1 hc
    have := Rat.mul_le_mul_of_nonneg_right this (Rat.le_of_lt hpe)
    rw [← hq] at this
    grind
  have hn : 0 < n := by exact_mod_cast hnp
  obtain ⟨T, hT, hT1, hT2, hT3, hT4⟩ := top_p (n := n) (by omega) (by omega) (F := F) (by omega)
  obtain ⟨N, hN⟩ : ∃ N, N = n.natAbs := ⟨_, rfl⟩
  have hqN : q = (N : Rat) * 2 ^ e := by
    rw [hq]
    congr 1
    have : n = (N : Int) := by omega
    rw [this, Rat.intCast_natCast]
  rw [← hN] at hT2 hT3
  have u1 : (N : Rat) < ((2 ^ T : Nat) : Rat) := Rat.natCast_lt_natCast.2 hT3
  have u2 : ((2 ^ (T - 1) : Nat) : Rat) ≤ (N : Rat) := nat_le_rat hT2
  have u3 : q < 2 ^ ((T : Int) + e) := by
    rw [hqN, zpow_add, zpow_nat]
    exact Rat.mul_lt_mul_of_pos_right u1 hpe
  have u4 : (2 : Rat) ^ (((T - 1 : Nat) : Int) + e) ≤ q := by
    rw [hqN, zpow_add, zpow_nat]
    exact Rat.mul_le_mul_of_nonneg_right u2 (Rat.le_of_lt hpe)
  have r1 : 0 < (T : Int) + e := zpow_lt_iff (by rw [zpow_zero']; grind)
  have r2 : ((T - 1 : Nat) : Int) + e < 800 := zpow_lt_iff (by grind)
  have hnorm : ¬ (((T : Int) + e) + 1074 < 53) := by omega
  have hsign : p_Dyadic_Sign ⟨W n, e⟩ = some 1 := by
    rw [hsg]
    unfold sgR
    rw [if_neg (by grind), if_neg (by grind)]
  have hml := mant_loop (n := n) (e := e) (T := T) (by omega) (by omega) (G := F) (by omega) hT hT4 (by rw [← hN]; exact hT3) hnorm F 0 (by omega) (by omega)
  rw [← hN] at hml
  have hsh0 : sh N T 0 = 0 := by
    unfold sh
    rw [if_pos (by omega)]
    exact Nat.div_eq_of_lt hT3
  rw [hsh0] at hml
  have hml' : iter (p_Dyadic_Float_l3 ⟨W n, e⟩ F (T : Int)) F ((0 : Int), (0 : Int)) = some (.inl ((sh N T 53 : Nat) : Int)) := hml
  have start : p_Dyadic_Float F ⟨W n, e⟩ = p_Dyadic_Float_k1 ⟨W n, e⟩ F (T : Int) (T : Int) ((sh N T 53 : Nat) : Int) := by
    unfold p_Dyadic_Float
    rw [hsign, Option.bind_some, cond_f (by rfl)]
    dsimp only
    rw [hT, Option.bind_some, need_pos (in64m (by omega) (by omega)), need_pos (in64m (by omega) (by omega)), Option.bind_some, if_neg hnorm, need_pos (in64m (by omega) (by omega)), hml', Option.bind_some, aft_inl]
  rw [start]
  have hq0 : 0 ≤ q * (1 / 4503599627370496) := Rat.mul_nonneg (by grind) (by decide +kernel)
  have hM53 : sh N T 53 < 2 ^ 53 := sh_lt hT3
  by_cases hTs : T ≤ 53
  · -- all digits are kept
    have hMv : sh N T 53 = N * 2 ^ (53 - T) := by
      unfold sh
      by_cases h53 : 53 ≤ T
      · have : T = 53 := by omega
        subst this; simp
      · rw [if_neg h53]
    have hMlo : 4503599627370496 ≤ sh N T 53 := by
      rw [hMv]
      have h5 : 2 ^ (T - 1) * 2 ^ (53 - T) ≤ N * 2 ^ (53 - T) := Nat.mul_le_mul_right _ hT2
      rw [← Nat.pow_add] at h5
      have : T - 1 + (53 - T) = 52 := by omega
      rw [this] at h5
      omega
    obtain ⟨z, hz, hv, hlt⟩ := float_fin (e := e) (T := T) hn hMlo (by omega) (by omega) (by omega) (by omega)
    have hval : ((sh N T 53 : Nat) : Rat) * 2 ^ (e + ((T : Int) - 53)) = q := by
      rw [hMv, Rat.natCast_mul, ← zpow_nat, hqN, Rat.mul_assoc, ← zpow_add]
      congr 2
      omega
    rw [hval] at hv
    refine ⟨z, q, ?_, hv, hlt, by grind, by grind, fun _ _ _ => rfl⟩
    unfold p_Dyadic_Float_k1
    dsimp only
    rw [if_neg hnorm, cond_f (decide_eq_false (by omega))]
    exact hz
  · -- some are rounded off
    obtain ⟨D, hD⟩ : ∃ D, T = D + 53 := ⟨T - 53, by omega⟩
    have hD0 : 1 ≤ D := by omega
    have hMv : sh N T 53 = N / 2 ^ D := by
      unfold sh
      rw [if_pos (by omega)]
      congr 2
      omega
    have hpD : 0 < 2 ^ D := Nat.pow_pos (by omega)
    have hMlo : 4503599627370496 ≤ sh N T 53 := by
      rw [hMv]
      have h5 : 4503599627370496 * 2 ^ D ≤ N := by
        have : T - 1 = 52 + D := by omega
        rw [this, Nat.pow_add] at hT2
        exact hT2
      exact (Nat.le_div_iff_mul_le hpD).2 h5
    have hdm : sh N T 53 * 2 ^ D ≤ N := by rw [hMv]; exact Nat.div_mul_le_self _ _
    have hdM : N < (sh N T 53 + 1) * 2 ^ D := by
      rw [hMv]
      have := Nat.lt_mul_div_succ N hpD
      rw [Nat.mul_comm] at this; exact this
    have eD : (T : Int) - 53 = (D : Int) := by omega
    generalize hMM : sh N T 53 = M at *
    -- either way of rounding
    have fin : ∀ g : Nat, g = M ∨ g = M + 1 → (g = M + 1 → N.testBit (D - 1) = true) → ∃ z r, p_Dyadic_Float_k2 ⟨W n, e⟩ (T : Int) (T : Int) (g : Int) = some z ∧ V z = some r ∧ z < 18446744073709551616 ∧
        r - q ≤ q * (1 / 4503599627370496) ∧ q - r ≤ q * (1 / 4503599627370496) ∧ ∀ j : Nat, j < 9007199254740992 → q = (j : Rat) → r = q := by
      intro g hg hbit
      obtain ⟨z, hz, hv, hlt⟩ := float_fin (e := e) (T := T) (g := g) hn (by omega) (by omega) (by omega) (by omega) (by omega)
      rw [eD] at hv
      have hr : (g : Rat) * 2 ^ (e + (D : Int)) = ((g * 2 ^ D : Nat) : Rat) * 2 ^ e := by
        rw [zpow_add, zpow_nat, Rat.natCast_mul]; grind
      rw [hr] at hv
      have n1 : g * 2 ^ D ≤ N + 2 ^ D := by
        rcases hg with rfl | rfl
        · omega
        · rw [Nat.add_mul]; omega
      have n2 : N ≤ g * 2 ^ D + 2 ^ D := by
        rw [Nat.add_mul] at hdM
        rcases hg with rfl | rfl
        · omega
        · rw [Nat.add_mul]; omega
      have n3 : 4503599627370496 * 2 ^ D ≤ N := Nat.le_trans (Nat.mul_le_mul_right _ hMlo) hdm
      have v1 : ((g * 2 ^ D : Nat) : Rat) ≤ (N : Rat) + ((2 ^ D : Nat) : Rat) := by have := nat_le_rat n1; rw [Rat.natCast_add] at this; exact this
      have v2 : (N : Rat) ≤ ((g * 2 ^ D : Nat) : Rat) + ((2 ^ D : Nat) : Rat) := by have := nat_le_rat n2; rw [Rat.natCast_add] at this; exact this
      have v3 : ((2 ^ D : Nat) : Rat) ≤ (N : Rat) * (1 / 4503599627370496) := by
        have := nat_le_rat n3
        rw [Rat.natCast_mul] at this
        have e5 : ((4503599627370496 : Nat) : Rat) = 4503599627370496 := rfl
        rw [e5] at this
        have e6 : (4503599627370496 : Rat) * (1 / 4503599627370496) = 1 := by decide +kernel
        have := Rat.mul_le_mul_of_nonneg_right this (show (0 : Rat) ≤ 1 / 4503599627370496 by decide +kernel)
        grind
      have w1 : ((g * 2 ^ D : Nat) : Rat) - (N : Rat) ≤ (N : Rat) * (1 / 4503599627370496) := by grind
      have w2 : (N : Rat) - ((g * 2 ^ D : Nat) : Rat) ≤ (N : Rat) * (1 / 4503599627370496) := by grind
      have x1 := Rat.mul_le_mul_of_nonneg_right w1 (Rat.le_of_lt hpe)
      have x2 := Rat.mul_le_mul_of_nonneg_right w2 (Rat.le_of_lt hpe)
      refine ⟨z, _, hz, hv, hlt, by rw [hqN]; grind, by rw [hqN]; grind, fun j hj hqj => ?_⟩
      -- whole numbers
      have hen : e < 0 := by
        apply Classical.byContradiction
        intro hc
        have y1 : (2 : Rat) ^ (0 : Int) ≤ 2 ^ e := zpow_le (by omega)
        rw [zpow_zero'] at y1
        have y2 := Rat.mul_le_mul_of_nonneg_left y1 (show (0 : Rat) ≤ (N : Rat) from Rat.natCast_nonneg)
        rw [← hqN, hqj] at y2
        have y3 : N ≤ j := Rat.natCast_le_natCast.1 (by grind)
        have y4 : 4503599627370496 * 2 ≤ 4503599627370496 * 2 ^ D := Nat.mul_le_mul_left _ (by
          have := Nat.pow_le_pow_right (show 0 < 2 by omega) hD0
          simpa using this)
        omega
      obtain ⟨c, hc⟩ : ∃ c : Nat, e = -(c : Int) := ⟨e.natAbs, by omega⟩
      have hDc : (2 : Rat) ^ e * ((2 ^ c : Nat) : Rat) = 1 := by
        rw [← zpow_nat, ← zpow_add, hc]
        have : -(c : Int) + (c : Int) = 0 := by omega
        rw [this, zpow_zero']
      have hNj : N = j * 2 ^ c := by
        have : (N : Rat) = ((j * 2 ^ c : Nat) : Rat) := by
          rw [Rat.natCast_mul, ← hqj, hqN]; grind
        exact Rat.natCast_inj.1 this
      have hDcle : D ≤ c := by
        apply Classical.byContradiction
        intro hcc
        have y5 : T - 1 = 53 + (D - 1) := by omega
        rw [y5, Nat.pow_add, hNj] at hT2
        have y6 : 2 ^ c ≤ 2 ^ (D - 1) := Nat.pow_le_pow_right (by omega) (by omega)
        have y7 : j * 2 ^ c ≤ j * 2 ^ (D - 1) := Nat.mul_le_mul_left _ y6
        have y8 : j * 2 ^ (D - 1) < 2 ^ 53 * 2 ^ (D - 1) := (Nat.mul_lt_mul_right (Nat.pow_pos (by omega))).2 (by omega)
        omega
      have hcut : N = j * 2 ^ (c - D) * 2 ^ D := by
        rw [Nat.mul_assoc, ← Nat.pow_add]
        have : c - D + D = c := by omega
        rw [this]; exact hNj
      have hMj : M = j * 2 ^ (c - D) := by
        have e7 : N / 2 ^ D = j * 2 ^ (c - D) := by rw [hcut]; exact Nat.mul_div_cancel _ hpD
        rw [hMv, e7]
      have hgM : g = M := by
        rcases hg with h | h
        · exact h
        · have hb := hbit h
          rw [Nat.testBit_eq_decide_div_mod_eq] at hb
          have e8 : N = j * 2 ^ (c - D) * 2 * 2 ^ (D - 1) := by
            have : 2 ^ D = 2 * 2 ^ (D - 1) := by
              have : D = D - 1 + 1 := by omega
              rw [this, Nat.pow_succ, Nat.mul_comm]; simp
            rw [Nat.mul_assoc, ← this]; exact hcut
          rw [e8, Nat.mul_div_cancel _ (Nat.pow_pos (by omega))] at hb
          have := of_decide_eq_true hb
          omega
      rw [hgM, hMj, ← hcut, hqN]
    unfold p_Dyadic_Float_k1
    dsimp only
    rw [if_neg hnorm, cond_t (decide_eq_true (by omega)), need_pos (in64m (by omega) (by omega)), eD]
    have e9 : (D : Int) - 1 = ((D - 1 : Nat) : Int) := by omega
    rw [e9, bit_p n (D - 1) (by omega) (by omega), Option.bind_some, ← hN]
    obtain ⟨b, hb⟩ : ∃ b, N.testBit (D - 1) = b := ⟨_, rfl⟩
    rw [hb]
    have e10 : (M : Int) + 1 = ((M + 1 : Nat) : Int) := by omega
    cases b with
    | false => rw [cond_f rfl]; exact fin M (.inl rfl) (fun h => by omega)
    | true =>
      rw [cond_t rfl, need_pos (by decide)]
      by_cases hodd : Int.tmod (M : Int) 2 = 1
      · rw [cond_t (decide_eq_true hodd), need_pos (inu64 (by omega) (by omega)), e10]
        exact fin (M + 1) (.inr rfl) (fun _ => hb)
      · rw [cond_f (decide_eq_false hodd), need_pos (in64m (by omega) (by omega))]
        obtain ⟨b2, hb2⟩ := low_any n (by omega) (F := F) (k := D - 1) (by omega) (by omega)
        rw [hb2, Option.bind_some]
        cases b2 with
        | true =>
          rw [cond_t rfl, need_pos (inu64 (by omega) (by omega)), e10]
          exact fin (M + 1) (.inr rfl) (fun _ => hb)
        | false => rw [cond_f rfl]; exact fin M (.inl rfl) (fun h => by omega)
end Go.Proofs.Ytohpmbodfpjjmaa.Wk
