/- Square roots of floating numbers: how near they are. -/
import Derived.Test.YtdchenbdnalbcaaGreatFltApp
set_option linter.unusedVariables false
set_option linter.unusedSimpArgs false
namespace Flt
open Go Ieee Go.Vm
theorem rootFrom_spec (n : Nat) : ∀ (t r : Nat), r * r ≤ n → n < (r + 2 ^ t) * (r + 2 ^ t) →
    Datum.rootFrom n t r * Datum.rootFrom n t r ≤ n ∧ n < (Datum.rootFrom n t r + 1) * (Datum.rootFrom n t r + 1)
  | 0, r, h1, h2 => ⟨h1, by simpa [Datum.rootFrom] using h2⟩
  | t + 1, r, h1, h2 => by
    unfold Datum.rootFrom
    have e : 1 <<< t = 2 ^ t := by rw [Nat.shiftLeft_eq, Nat.one_mul]
    simp only [e]
    split
    · rename_i h
      exact rootFrom_spec n t _ h (by
        have e2 : r + 2 ^ (t + 1) = r + 2 ^ t + 2 ^ t := by rw [Nat.pow_succ]; omega
        rw [e2] at h2; exact h2)
    · rename_i h; exact rootFrom_spec n t _ h1 (by omega)
/-- The digits of a root. -/
theorem root_dig {m : Nat} {i : Int} (hm : m ≠ 0) (hb : m < 9007199254740992) : ∃ (n w : Nat) (E : Int), Datum.root 54 (.number false m i) = some (.number false (2 * w + (w * w != n).toNat) (E - 1)) ∧
    (m : Rat) * 2 ^ i = (n : Rat) * 2 ^ (2 * E) ∧ w * w ≤ n ∧ n ≤ w * w + 2 * w ∧ 18014398509481984 ≤ w := by
  have hl : m.log2 < 53 := log_lt (by have : (2 : Nat) ^ 53 = 9007199254740992 := by decide
                                      omega) hm
  obtain ⟨more, hmore⟩ : ∃ more, more = 2 * 54 - m.log2 + ((i - ((2 * 54 - m.log2 : Nat) : Int)) % 2).toNat := ⟨_, rfl⟩
  obtain ⟨n, hn⟩ : ∃ n, n = m <<< more := ⟨_, rfl⟩
  have hn' : n = m * 2 ^ more := by rw [hn, Nat.shiftLeft_eq]
  have h108 : 2 ^ 108 ≤ n := by
    have g1 : 2 ^ m.log2 ≤ m := Nat.log2_self_le hm
    have g2 : 2 ^ 108 ≤ 2 ^ (m.log2 + more) := Nat.pow_le_pow_right (by omega) (by omega)
    rw [Nat.pow_add] at g2
    rw [hn']; exact Nat.le_trans g2 (Nat.mul_le_mul_right _ g1)
  have hlog : n < 2 ^ (n.log2 + 1) := Nat.lt_log2_self
  obtain ⟨w1, w2⟩ := rootFrom_spec n (n.log2 / 2 + 1) 0 (by omega) (by
    rw [Nat.zero_add, ← Nat.pow_add]
    exact Nat.lt_of_lt_of_le hlog (Nat.pow_le_pow_right (by omega) (by omega)))
  obtain ⟨w, hw⟩ : ∃ w, w = Datum.rootFrom n (n.log2 / 2 + 1) 0 := ⟨_, rfl⟩
  rw [← hw] at w1 w2
  refine ⟨n, w, (i - more) / 2, ?_, ?_, w1, ?_, ?_⟩
  · unfold Datum.root
    simp only [if_neg hm, Bool.false_eq_true, if_false]
    rw [← hmore, ← hn, ← hw]
  · have e : i = ((more : Nat) : Int) + 2 * ((i - more) / 2) := by omega
    have e1 : (2 : Rat) ^ i = 2 ^ (((more : Nat) : Int) + 2 * ((i - more) / 2)) := congrArg (fun z : Int => (2 : Rat) ^ z) e
    rw [e1, zpow_add, zpow_nat, hn', Rat.natCast_mul]
    grind
  · have : (w + 1) * (w + 1) = w * w + 2 * w + 1 := by rw [Nat.add_mul, Nat.mul_add]; omega
    omega
  · apply Classical.byContradiction
    intro h
    have h1 : w + 1 ≤ 18014398509481984 := by omega
    have h2 := Nat.mul_le_mul h1 h1
    have h3 : 18014398509481984 * 18014398509481984 = 2 ^ 108 := by decide
    omega
theorem zpow_dbl (E : Int) : (2 : Rat) ^ (2 * E) = 2 ^ E * 2 ^ E := by
  have : 2 * E = E + E := by omega
  rw [this, zpow_add]
theorem sq_lt {a b : Rat} (ha : 0 ≤ a) (hb : 0 ≤ b) (h : a * a < b * b) : a < b := by
  apply Classical.byContradiction
  intro hn
  have h1 : b ≤ a := Rat.not_lt.1 hn
  have h2 := Rat.mul_le_mul_of_nonneg_right h1 hb
  have h3 := Rat.mul_le_mul_of_nonneg_right h1 ha
  grind
theorem sq_le {a b : Rat} (ha : 0 ≤ a) (hb : 0 ≤ b) (h : a * a ≤ b * b) : a ≤ b := by
  apply Classical.byContradiction
  intro hn
  have h1 : b < a := Rat.not_le.1 hn
  have h2 : b * b ≤ a * b := Rat.mul_le_mul_of_nonneg_right (Rat.le_of_lt h1) hb
  have h3 : b * a < a * a := Rat.mul_lt_mul_of_pos_right h1 (by grind)
  grind
theorem nat_le_rat {a b : Nat} (h : a ≤ b) : (a : Rat) ≤ (b : Rat) := Rat.natCast_le_natCast.2 h
/-- The root of a number: as near as its digits go, then rounded. -/
theorem sqrt_rnd {x : Nat} {q : Rat} (hx : V x = some q) (h0 : 0 ≤ q) (hlt : q < 2 ^ (2000 : Int)) : ∃ z r s, double.sqrt x = some z ∧ V z = some r ∧ 0 ≤ s ∧ Rnd r s ∧
    s * s - q ≤ s * s * (1 / 18014398509481984) ∧ q - s * s ≤ s * s * (1 / 18014398509481984) ∧ ∀ k : Nat, k ≤ 9007199254740992 → q = (k : Rat) * k → s = k := by
  obtain ⟨b, m, i, hrx, hvx⟩ := V_num hx
  have hm := read_mag hrx
  have e54 : double.fractionBits + 2 = 54 := by decide
  have hi := zpow_pos i
  by_cases hm0 : m = 0
  · subst hm0
    have hq : q = 0 := by rw [← hvx]; unfold sg; cases b <;> simp
    have hs : double.sqrt x = some (double.write (.number b 0 i)) := by
      unfold Format.sqrt
      rw [hrx, e54]
      simp [Datum.root]
    obtain ⟨r, hr, hR⟩ := write_rnd b 0 i (by
      have e : (((0 : Nat) : Rat)) * (2 : Rat) ^ i = 0 := by simp
      rw [e]; exact zpow_pos 1023)
    have e0 : sg b (((0 : Nat) : Rat) * 2 ^ i) = 0 := by unfold sg; cases b <;> simp
    rw [e0] at hR
    subst hq
    refine ⟨_, r, 0, hs, hr, Rat.le_refl, hR, by grind, by grind, fun k _ hk => ?_⟩
    have hk0 : (0 : Rat) ≤ (k : Rat) := Rat.natCast_nonneg
    apply Classical.byContradiction
    intro hne
    have : (0 : Rat) < (k : Rat) := by grind
    have := Rat.mul_pos this this
    grind
  · have hmp : (0 : Rat) < (m : Rat) := by have : 0 < m := Nat.pos_of_ne_zero hm0
                                           exact_mod_cast this
    have hb : b = false := by
      cases b with
      | false => rfl
      | true =>
        have := Rat.mul_pos hmp hi
        unfold sg at hvx
        simp at hvx
        grind
    subst hb
    obtain ⟨n, w, E, hroot, hval, h1, h2, h3⟩ := root_dig (i := i) hm0 hm
    have hq : q = (n : Rat) * 2 ^ (2 * E) := by rw [← hvx, ← hval]; rfl
    rw [zpow_dbl] at hq
    have hE := zpow_pos E
    have h1' : (w : Rat) * w ≤ (n : Rat) := by have := nat_le_rat h1; rw [Rat.natCast_mul] at this; exact this
    have h2' : (n : Rat) ≤ (w : Rat) * w + 2 * w := by have := nat_le_rat h2; rw [Rat.natCast_add, Rat.natCast_mul, Rat.natCast_mul] at this; exact this
    have h3' : (18014398509481984 : Rat) ≤ (w : Rat) := by have := nat_le_rat h3; exact this
    obtain ⟨A, hA⟩ : ∃ A, A = 2 * w + (w * w != n).toNat := ⟨_, rfl⟩
    rw [← hA] at hroot
    have hEE : 0 < (2 : Rat) ^ E * 2 ^ E := Rat.mul_pos hE hE
    -- the root's size
    have hsz : (w : Rat) * 2 ^ E < 2 ^ (1000 : Int) := by
      apply sq_lt (Rat.mul_nonneg Rat.natCast_nonneg (Rat.le_of_lt hE)) (Rat.le_of_lt (zpow_pos _))
      have e : (2 : Rat) ^ (2000 : Int) = 2 ^ (1000 : Int) * 2 ^ (1000 : Int) := zpow_dbl 1000
      rw [← e]
      have := Rat.mul_le_mul_of_nonneg_right h1' (Rat.le_of_lt hEE)
      grind
    have hhalf : (2 : Rat) ^ E = 2 * 2 ^ (E - 1) := half E
    have hH := zpow_pos (E - 1)
    have hA1 : (A : Rat) ≤ 2 * (w : Rat) + 1 := by
      have : A ≤ 2 * w + 1 := by rw [hA]; have := Bool.toNat_le (w * w != n); omega
      have := nat_le_rat this
      rw [Rat.natCast_add, Rat.natCast_mul] at this
      exact this
    have hA2 : 2 * (w : Rat) ≤ (A : Rat) := by
      have : 2 * w ≤ A := by omega
      have := nat_le_rat this
      rw [Rat.natCast_mul] at this
      exact this
    have hlt2 : (A : Rat) * 2 ^ (E - 1) < 2 ^ (1023 : Int) := by
      have g1 := Rat.mul_le_mul_of_nonneg_right hA1 (Rat.le_of_lt hH)
      have g2 : 1 * 2 ^ (E - 1) ≤ (w : Rat) * 2 ^ (E - 1) := Rat.mul_le_mul_of_nonneg_right (by grind) (Rat.le_of_lt hH)
      have g3 : (2 : Rat) ^ (1000 : Int) ≤ 2 ^ (1022 : Int) := zpow_le (by omega)
      have g4 : (2 : Rat) ^ (1023 : Int) = 2 * 2 ^ (1022 : Int) := half 1023
      rw [hhalf] at hsz
      grind
    have hs : double.sqrt x = some (double.write (.number false A (E - 1))) := by
      unfold Format.sqrt
      rw [hrx, e54, hroot]
      rfl
    obtain ⟨r, hr, hR⟩ := write_rnd false A (E - 1) hlt2
    have es : sg false ((A : Rat) * 2 ^ (E - 1)) = (A : Rat) * 2 ^ (E - 1) := rfl
    rw [es] at hR
    have hss : (A : Rat) * 2 ^ (E - 1) * ((A : Rat) * 2 ^ (E - 1)) * 4 = (A : Rat) * A * (2 ^ E * 2 ^ E) := by rw [hhalf]; grind
    -- the digits against the number
    have key : ((A : Rat) * A - 4 * (n : Rat)) ≤ (A : Rat) * A * (1 / 18014398509481984) ∧ (4 * (n : Rat) - (A : Rat) * A) ≤ (A : Rat) * A * (1 / 18014398509481984) := by
      have c1 : 36028797018963968 * (A : Rat) ≤ (A : Rat) * A := Rat.mul_le_mul_of_nonneg_right (by grind) Rat.natCast_nonneg
      have c2 : 2 * (A : Rat) ≤ (A : Rat) * A * (1 / 18014398509481984) := by
        have := Rat.mul_le_mul_of_nonneg_right c1 (show (0 : Rat) ≤ 1 / 18014398509481984 by decide +kernel)
        have e : 36028797018963968 * (A : Rat) * (1 / 18014398509481984) = 2 * (A : Rat) := by
          have : (36028797018963968 : Rat) * (1 / 18014398509481984) = 2 := by decide +kernel
          grind
        rw [e] at this; exact this
      by_cases hf : w * w = n
      · have eA : (A : Rat) = 2 * (w : Rat) := by
          have : A = 2 * w := by rw [hA]; simp [hf]
          rw [this, Rat.natCast_mul]; rfl
        have en : (n : Rat) = (w : Rat) * w := by rw [← hf, Rat.natCast_mul]
        have hA0 : 0 ≤ (A : Rat) := Rat.natCast_nonneg
        have hp2 : 0 ≤ (A : Rat) * A * (1 / 18014398509481984) := Rat.mul_nonneg (Rat.mul_nonneg hA0 hA0) (by decide +kernel)
        have e5 : (A : Rat) * A = 4 * (n : Rat) := by rw [en, eA]; grind
        rw [e5] at hp2 ⊢
        constructor <;> grind
      · have eA : (A : Rat) = 2 * (w : Rat) + 1 := by
          have : A = 2 * w + 1 := by rw [hA]; simp [hf]
          rw [this, Rat.natCast_add, Rat.natCast_mul]; rfl
        have e6 : (A : Rat) * A = 4 * ((w : Rat) * w) + 4 * w + 1 := by rw [eA]; grind
        clear hval hq hss hlt2 hsz hroot hR es c1
        generalize (A : Rat) * A = AA at *
        generalize (w : Rat) * w = ww at *
        constructor <;> grind
    have k1 := Rat.mul_le_mul_of_nonneg_right key.1 (Rat.le_of_lt hEE)
    have k2 := Rat.mul_le_mul_of_nonneg_right key.2 (Rat.le_of_lt hEE)
    refine ⟨_, r, (A : Rat) * 2 ^ (E - 1), hs, hr, Rat.mul_nonneg Rat.natCast_nonneg (Rat.le_of_lt hH), hR, ?_, ?_, fun k hk hkq => ?_⟩
    · rw [hq]; grind
    · rw [hq]; grind
    · -- whole roots
      have hk0 : (0 : Rat) ≤ (k : Rat) := Rat.natCast_nonneg
      have hEn : E < 0 := by
        apply Classical.byContradiction
        intro hge
        have g1 : (2 : Rat) ^ (0 : Int) ≤ 2 ^ E := zpow_le (by omega)
        rw [zpow_zero'] at g1
        have g2 : (1 : Rat) * 1 ≤ 2 ^ E * 2 ^ E := by
          have := Rat.mul_le_mul_of_nonneg_right g1 (Rat.le_of_lt hE)
          grind
        have g3 := Rat.mul_le_mul_of_nonneg_right g2 (show (0 : Rat) ≤ (n : Rat) from Rat.natCast_nonneg)
        have g4 : (k : Rat) ≤ 9007199254740992 := nat_le_rat hk
        have g5 := Rat.mul_le_mul_of_nonneg_right g4 hk0
        have g6 := Rat.mul_le_mul_of_nonneg_right h3' (show (0 : Rat) ≤ (w : Rat) from Rat.natCast_nonneg)
        have g8 : (k : Rat) * k ≤ 9007199254740992 * 9007199254740992 := by grind
        have g9 : (18014398509481984 : Rat) * 18014398509481984 ≤ (n : Rat) := by grind
        have g10 : (n : Rat) ≤ (k : Rat) * k := by rw [← hkq, hq]; grind
        grind
      obtain ⟨d, hd⟩ : ∃ d : Nat, E = -(d : Int) := ⟨E.natAbs, by omega⟩
      have hD : (2 : Rat) ^ E * ((2 ^ d : Nat) : Rat) = 1 := by
        rw [← zpow_nat, ← zpow_add, hd]
        have : -(d : Int) + (d : Int) = 0 := by omega
        rw [this, zpow_zero']
      have hK : n = (k * 2 ^ d) * (k * 2 ^ d) := by
        have : (n : Rat) = (((k * 2 ^ d) * (k * 2 ^ d) : Nat) : Rat) := by
          rw [Rat.natCast_mul, Rat.natCast_mul]
          have e1 : (n : Rat) = (n : Rat) * (2 ^ E * 2 ^ E) * (((2 ^ d : Nat) : Rat) * ((2 ^ d : Nat) : Rat)) := by grind
          rw [e1, ← hq, hkq]
          grind
        exact Rat.natCast_inj.1 this
      have hwK : w = k * 2 ^ d := by
        clear hA
        generalize k * 2 ^ d = K at *
        rcases Nat.lt_trichotomy w K with h | h | h
        · have t1 : (w + 1) * (w + 1) ≤ K * K := Nat.mul_le_mul h h
          have e : (w + 1) * (w + 1) = w * w + 2 * w + 1 := by rw [Nat.add_mul, Nat.mul_add]; omega
          omega
        · exact h
        · have t1 : (K + 1) * (K + 1) ≤ w * w := Nat.mul_le_mul h h
          have e : (K + 1) * (K + 1) = K * K + 2 * K + 1 := by rw [Nat.add_mul, Nat.mul_add]; omega
          omega
      have eA : A = 2 * w := by rw [hA, hK, ← hwK]; simp
      rw [eA, hwK, Rat.natCast_mul, Rat.natCast_mul]
      have e2 : (2 : Rat) * 2 ^ (E - 1) = 2 ^ E := hhalf.symm
      have e3 : ((2 : Nat) : Rat) = 2 := rfl
      rw [e3]
      have : 2 * ((k : Rat) * ((2 ^ d : Nat) : Rat)) * 2 ^ (E - 1) = (k : Rat) * (((2 ^ d : Nat) : Rat) * (2 * 2 ^ (E - 1))) := by grind
      rw [this, e2]
      grind
theorem sqrt_int {x k : Nat} (hx : I x ((k * k : Nat) : Int)) (hk : k ≤ 9007199254740992) : ∃ z, double.sqrt x = some z ∧ I z (k : Int) := by
  have hq : (((k * k : Nat) : Int) : Rat) = (k : Rat) * k := by rw [Rat.intCast_natCast, Rat.natCast_mul]
  have hx' : V x = some ((k : Rat) * k) := by rw [← hq]; exact hx
  have hk0 : (0 : Rat) ≤ (k : Rat) := Rat.natCast_nonneg
  obtain ⟨z, r, s, h1, h2, _, hR, _, _, h6⟩ := sqrt_rnd hx' (Rat.mul_nonneg hk0 hk0) (by
    have g4 : (k : Rat) ≤ 9007199254740992 := nat_le_rat hk
    have g5 := Rat.mul_le_mul_of_nonneg_right g4 hk0
    have g7 : (2 : Rat) ^ (107 : Int) ≤ 2 ^ (2000 : Int) := zpow_le (by omega)
    have e : (2 : Rat) ^ (107 : Int) = 2 * (9007199254740992 * 9007199254740992) := by decide +kernel
    grind)
  have hs := h6 k hk rfl
  subst hs
  refine ⟨z, h1, ?_⟩
  have hr : r = (k : Rat) := by
    have := hR.exact (k : Int) 0 (by omega) (by omega) (by rw [zpow_zero', Rat.mul_one, Rat.intCast_natCast])
    exact this
  unfold I
  rw [h2, hr, Rat.intCast_natCast]
end Flt
