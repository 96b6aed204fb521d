/- Quotients of floating numbers: how near they are. -/
import Derived.Test.YthodmgmachkglaaDoorFltTo
set_option linter.unusedVariables false
set_option linter.unusedSimpArgs false
namespace Flt
open Go Ieee Go.Vm
theorem read_mag {x : Nat} {s : Bool} {m : Nat} {i : Int} (h : double.read x = .number s m i) : m < 9007199254740992 := by
  unfold Format.read at h
  have f2 : double.binade = 4503599627370496 := by decide
  simp only at h
  split at h
  · rename_i h1; rw [f2] at h1; cases h; omega
  · split at h
    · rename_i h1; cases h
      rw [f2]
      have := Nat.mod_lt (x % double.signWeight) (show 0 < 4503599627370496 by omega)
      omega
    · split at h <;> cases h
/-- r is near q: as a quotient is, rounded. -/
structure Near (r q : Rat) : Prop where
  lo : r - q ≤ ab q * 2 ^ (-52 : Int) + 2 ^ (-1075 : Int)
  hi : q - r ≤ ab q * 2 ^ (-52 : Int) + 2 ^ (-1075 : Int)
theorem log_lt {m k : Nat} (h : m < 2 ^ k) (h0 : m ≠ 0) : m.log2 < k := (Nat.log2_lt h0).2 h
/-- The quotient's digits: a 1 behind them where anything is left over. -/
theorem quot_dig {m n : Nat} (hn : n ≠ 0) (hm : m < 9007199254740992) : ∀ N more : Nat, more = 54 + n.log2 - m.log2 → N = m <<< more →
    (N % n = 0 ∧ (2 * (N / n) + (N % n != 0).toNat) * n = 2 * N) ∨ ((2 * (N / n) + (N % n != 0).toNat) * n ≤ 2 * N + n ∧ 2 * N ≤ (2 * (N / n) + (N % n != 0).toNat) * n + n ∧ 9007199254740992 * n ≤ N) := by
  intro N more hmore hN
  have hd := Nat.div_add_mod N n
  have hr := Nat.mod_lt N (Nat.pos_of_ne_zero hn)
  by_cases h0 : N % n = 0
  · left
    refine ⟨h0, ?_⟩
    rw [h0] at hd ⊢
    simp only [bne_self_eq_false, Bool.toNat_false, Nat.add_zero] at hd ⊢
    rw [Nat.mul_assoc, Nat.mul_comm (N / n) n, hd]
  · right
    have e1 : (N % n != 0).toNat = 1 := by simp [h0]
    rw [e1]
    have e2 : (2 * (N / n) + 1) * n = 2 * (n * (N / n)) + n := by rw [Nat.add_mul, Nat.one_mul, Nat.mul_assoc, Nat.mul_comm (N / n) n]
    rw [e2]
    refine ⟨by omega, by omega, ?_⟩
    have hm0 : m ≠ 0 := fun e => by subst e; simp at hN; subst hN; simp at h0
    have l1 : m.log2 < 53 := log_lt (by have : (2 : Nat) ^ 53 = 9007199254740992 := by decide
                                        omega) hm0
    have g1 : 2 ^ m.log2 ≤ m := Nat.log2_self_le hm0
    have g2 : n < 2 ^ (n.log2 + 1) := Nat.lt_log2_self
    have hN' : N = m * 2 ^ more := by rw [hN, Nat.shiftLeft_eq]
    have e3 : 2 ^ (54 + n.log2) ≤ N := by
      have : 54 + n.log2 = m.log2 + more := by omega
      rw [this, Nat.pow_add, hN']
      exact Nat.mul_le_mul_right _ g1
    have e4 : 2 ^ (54 + n.log2) = 9007199254740992 * 2 ^ (n.log2 + 1) := by
      have : 54 + n.log2 = 53 + (n.log2 + 1) := by omega
      rw [this, Nat.pow_add]
    have e5 : 9007199254740992 * n ≤ 9007199254740992 * 2 ^ (n.log2 + 1) := Nat.mul_le_mul_left _ (by omega)
    omega
theorem sg_mul (s t : Bool) (a b : Rat) : sg s a * sg t b = sg (s ^^ t) (a * b) := by
  unfold sg; cases s <;> cases t <;> simp <;> grind
theorem sg_sub (s : Bool) (a b : Rat) : sg s a - sg s b = sg s (a - b) := by unfold sg; cases s <;> simp <;> grind
theorem ab_sg' (s : Bool) (q : Rat) : ab (sg s q) = ab q := by unfold ab sg; cases s <;> simp <;> grind
theorem div_rnd {x y : Nat} {p q : Rat} (hx : V x = some p) (hy : V y = some q) (h0 : q ≠ 0) (h : ab (p / q) < 2 ^ (1022 : Int)) : ∃ z r, double.div x y = some z ∧ V z = some r ∧ Near r (p / q) := by
  obtain ⟨s, m, i, hrx, hvx⟩ := V_num hx
  obtain ⟨t, n, j, hry, hvy⟩ := V_num hy
  have hn : n ≠ 0 := fun e => by subst e; apply h0; rw [← hvy]; unfold sg; cases t <;> simp
  have hm := read_mag hrx
  obtain ⟨N, hN⟩ : ∃ N, N = m <<< (54 + n.log2 - m.log2) := ⟨_, rfl⟩
  have hdig := quot_dig hn hm N _ rfl hN
  generalize hmo : 54 + n.log2 - m.log2 = more at *
  generalize hA : 2 * (N / n) + (N % n != 0).toNat = A at *
  have hdiv : double.div x y = some (double.write (.number (s ^^ t) A (i - j - more - 1))) := by
    unfold Format.div
    rw [hrx, hry]
    unfold Datum.quotient
    simp only [if_neg hn]
    have e54 : double.fractionBits + 2 = 54 := by decide
    rw [e54, hmo, ← hN, hA]
    rfl
  -- the quotient, as it is
  have hp : (0 : Rat) < (2 : Rat) ^ (i - j - more - 1) := zpow_pos _
  have hnq : (0 : Rat) < (n : Rat) := by
    have : 0 < n := Nat.pos_of_ne_zero hn
    exact_mod_cast this
  have hB : p / q = sg (s ^^ t) ((2 * (N : Rat) / n) * 2 ^ (i - j - more - 1)) := by
    have hN' : (N : Rat) = (m : Rat) * 2 ^ ((more : Nat) : Int) := by
      rw [hN, Nat.shiftLeft_eq, zpow_nat]
      exact Rat.natCast_mul _ _
    have hqm : q * sg (s ^^ t) ((2 * (N : Rat) / n) * 2 ^ (i - j - more - 1)) = p := by
      rw [← hvx, ← hvy, sg_mul]
      have e : (t ^^ (s ^^ t)) = s := by cases s <;> cases t <;> rfl
      rw [e]
      congr 1
      have e1 : (2 : Rat) ^ i = 2 ^ j * 2 * 2 ^ ((more : Nat) : Int) * 2 ^ (i - j - more - 1) := by
        have e2 : i = j + (1 + (((more : Nat) : Int) + (i - j - more - 1))) := by omega
        have e3 : (2 : Rat) ^ i = 2 ^ (j + (1 + (((more : Nat) : Int) + (i - j - more - 1)))) := congrArg (fun z : Int => (2 : Rat) ^ z) e2
        rw [e3, zpow_add, zpow_add, zpow_add, pow_one']
        grind
      rw [e1, hN']
      have e4 : (n : Rat) * (2 ^ j) * ((2 * ((m : Rat) * 2 ^ ((more : Nat) : Int)) / n) * 2 ^ (i - j - more - 1)) = ((n : Rat) * (2 * ((m : Rat) * 2 ^ ((more : Nat) : Int)) / n)) * (2 ^ j * 2 ^ (i - j - more - 1)) := by grind
      have e5 : (n : Rat) * (2 * ((m : Rat) * 2 ^ ((more : Nat) : Int)) / n) = 2 * ((m : Rat) * 2 ^ ((more : Nat) : Int)) := by
        have hne : (n : Rat) ≠ 0 := fun e => by rw [e] at hnq; exact absurd hnq (by decide)
        have := Rat.mul_inv_cancel (n : Rat) hne
        rw [Rat.div_def]; grind
      rw [e4, e5]
      grind
    rw [← hqm, Rat.div_def, Rat.mul_comm q, Rat.mul_assoc, Rat.mul_inv_cancel _ h0, Rat.mul_one]
  generalize hT : (2 : Rat) ^ (i - j - more - 1) = T at *
  generalize hu : (s ^^ t) = u at *
  have hinv : (n : Rat) * (n : Rat)⁻¹ = 1 := Rat.mul_inv_cancel (n : Rat) (fun e => by rw [e] at hnq; exact absurd hnq (by decide))
  have hinv0 : 0 < (n : Rat)⁻¹ := Rat.inv_pos.2 hnq
  obtain ⟨B, hBd⟩ : ∃ B : Rat, B = 2 * (N : Rat) / n := ⟨_, rfl⟩
  rw [← hBd] at hB
  have hBn : B * n = 2 * (N : Rat) := by rw [hBd, Rat.div_def]; grind
  have hN0 : (0 : Rat) ≤ (N : Rat) := Rat.natCast_nonneg
  have hB0 : 0 ≤ B := by rw [hBd, Rat.div_def]; exact Rat.mul_nonneg (by grind) (Rat.le_of_lt hinv0)
  have e54 : (2 : Rat) ^ (-54 : Int) = 1 / 18014398509481984 := by decide +kernel
  have e53 : (2 : Rat) ^ (-53 : Int) = 1 / 9007199254740992 := by decide +kernel
  have e52 : (2 : Rat) ^ (-52 : Int) = 1 / 4503599627370496 := by decide +kernel
  have key : (A : Rat) - B ≤ B * (1 / 18014398509481984) ∧ B - (A : Rat) ≤ B * (1 / 18014398509481984) := by
    rcases hdig with ⟨_, h1⟩ | ⟨h1, h2, h3⟩
    · have h1' : (A : Rat) * n = 2 * (N : Rat) := by
        have := congrArg (fun z : Nat => (z : Rat)) h1
        simp only [Rat.natCast_mul] at this
        exact this
      have : (A : Rat) = B := by
        have e1 : (A : Rat) * n * (n : Rat)⁻¹ = B * n * (n : Rat)⁻¹ := by rw [h1', hBn]
        rw [Rat.mul_assoc, Rat.mul_assoc, hinv, Rat.mul_one, Rat.mul_one] at e1
        exact e1
      rw [this]
      have : 0 ≤ B * (1 / 18014398509481984) := Rat.mul_nonneg hB0 (by decide +kernel)
      constructor <;> grind
    · have c1 : (A : Rat) * n ≤ 2 * (N : Rat) + n := by
        have : ((A * n : Nat) : Rat) ≤ ((2 * N + n : Nat) : Rat) := by exact_mod_cast h1
        simpa [Rat.natCast_mul, Rat.natCast_add] using this
      have c2 : 2 * (N : Rat) ≤ (A : Rat) * n + n := by
        have : ((2 * N : Nat) : Rat) ≤ ((A * n + n : Nat) : Rat) := by exact_mod_cast h2
        simpa [Rat.natCast_mul, Rat.natCast_add] using this
      have c3 : 9007199254740992 * (n : Rat) ≤ (N : Rat) := by
        have : ((9007199254740992 * n : Nat) : Rat) ≤ ((N : Nat) : Rat) := Rat.natCast_le_natCast.2 h3
        rw [Rat.natCast_mul] at this
        exact this
      have d1 : (A : Rat) ≤ B + 1 := by
        have := Rat.mul_le_mul_of_nonneg_right c1 (Rat.le_of_lt hinv0)
        rw [← hBn] at this
        have e1 : (A : Rat) * n * (n : Rat)⁻¹ = A := by rw [Rat.mul_assoc, hinv, Rat.mul_one]
        have e2 : (B * n + n) * (n : Rat)⁻¹ = B + 1 := by rw [Rat.add_mul, Rat.mul_assoc, hinv, Rat.mul_one]
        rw [e1, e2] at this; exact this
      have d2 : B ≤ (A : Rat) + 1 := by
        have := Rat.mul_le_mul_of_nonneg_right c2 (Rat.le_of_lt hinv0)
        rw [← hBn] at this
        have e1 : B * n * (n : Rat)⁻¹ = B := by rw [Rat.mul_assoc, hinv, Rat.mul_one]
        have e2 : ((A : Rat) * n + n) * (n : Rat)⁻¹ = A + 1 := by rw [Rat.add_mul, Rat.mul_assoc, hinv, Rat.mul_one]
        rw [e1, e2] at this; exact this
      have d3 : 18014398509481984 ≤ B := by
        have := Rat.mul_le_mul_of_nonneg_right c3 (Rat.le_of_lt hinv0)
        have e1 : 9007199254740992 * (n : Rat) * (n : Rat)⁻¹ = 9007199254740992 := by rw [Rat.mul_assoc, hinv, Rat.mul_one]
        rw [e1] at this
        have e2 : B = 2 * ((N : Rat) * (n : Rat)⁻¹) := by rw [hBd, Rat.div_def, Rat.mul_assoc]
        rw [e2]; grind
      have d4 : 1 ≤ B * (1 / 18014398509481984) := by
        have := Rat.mul_le_mul_of_nonneg_right d3 (show (0 : Rat) ≤ 1 / 18014398509481984 by decide +kernel)
        have e1 : (18014398509481984 : Rat) * (1 / 18014398509481984) = 1 := by decide +kernel
        rw [e1] at this; exact this
      constructor <;> grind
  have hab : ab (p / q) = B * T := by rw [hB, ab_sg' , ]; unfold ab; rw [if_neg (by have := Rat.mul_nonneg hB0 (Rat.le_of_lt hp); grind)]
  have hBT : 0 ≤ B * T := Rat.mul_nonneg hB0 (Rat.le_of_lt hp)
  have k1 := Rat.mul_le_mul_of_nonneg_right key.1 (Rat.le_of_lt hp)
  have k2 := Rat.mul_le_mul_of_nonneg_right key.2 (Rat.le_of_lt hp)
  have hA0 : 0 ≤ (A : Rat) * T := Rat.mul_nonneg Rat.natCast_nonneg (Rat.le_of_lt hp)
  have hlt : (A : Rat) * T < 2 ^ (1023 : Int) := by
    have e1 : (2 : Rat) ^ (1023 : Int) = 2 * 2 ^ (1022 : Int) := half 1023
    rw [hab] at h
    rw [e1]; grind
  obtain ⟨r, hr, hR⟩ := write_rnd u A (i - j - more - 1) (by rw [hT]; exact hlt)
  rw [hT] at hR
  refine ⟨_, r, hdiv, hr, ?_⟩
  have l1 := hR.lo
  have l2 := hR.hi
  rw [ab_sg u hA0, e53] at l1 l2
  have hs : sg u ((A : Rat) * T) - p / q ≤ B * T * (1 / 18014398509481984) ∧ p / q - sg u ((A : Rat) * T) ≤ B * T * (1 / 18014398509481984) := by
    rw [hB]
    unfold sg
    cases u <;> simp <;> constructor <;> grind
  refine ⟨?_, ?_⟩ <;> rw [hab, e52] <;> grind
end Flt
