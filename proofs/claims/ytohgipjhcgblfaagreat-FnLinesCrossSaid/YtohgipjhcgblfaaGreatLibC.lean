/- The framework by which a function is walked through: what this claim needs of it. -/
import Derived.Test.YtohgipjhcgblfaaGreatLibA
import Derived.Test.YtohgipjhcgblfaaGreatLibB
/- Floating words, told apart by what they stand for. -/
set_option linter.unusedVariables false
set_option linter.unusedSimpArgs false
namespace Flt
open Go Ieee Go.Vm
def KB (r : Nat) : Nat := if r < 4503599627370496 then r else (4503599627370496 + r % 4503599627370496) * 2 ^ (r / 4503599627370496 - 1)
theorem add_lt64 {x y z : Nat} (h : floatBits .add .f64 x y = some z) : z < 18446744073709551616 := Ieee.Format.add_lt double h
theorem div_zero' {x y : Nat} {q : Rat} (hx : V x = some 0) (hy : V y = some q) (h0 : q ≠ 0) : ∃ z, floatBits .quo .f64 x y = some z ∧ V z = some 0 := by
 obtain ⟨s, m, i, hrx, hvx⟩ := V_num hx
 obtain ⟨t, n, j, hry, hvy⟩ := V_num hy
 have hn : n ≠ 0 := fun e => by subst e; apply h0; rw [← hvy]; unfold sg; cases t <;> simp
 have hm : m = 0 := by
  have hi := zpow_pos i
  apply Classical.byContradiction
  intro hne
  have h1 : (1 : Rat) ≤ (m : Rat) := Rat.natCast_le_natCast.2 (show 1 ≤ m by omega)
  have h2 := Rat.mul_le_mul_of_nonneg_right h1 (Rat.le_of_lt hi)
  unfold sg at hvx
  cases s <;> simp at hvx <;> grind
 subst hm
 have hdiv : Ieee.double.div x y = some (Ieee.double.write (.number (s ^^ t) 0 (i - j - (54 + n.log2 - (0 : Nat).log2 : Nat) - 1))) := by
  unfold Ieee.Format.div
  rw [hrx, hry]
  unfold Ieee.Datum.quotient
  have e54 : Ieee.double.fractionBits + 2 = 54 := by decide
  simp only [if_neg hn, e54, Nat.zero_shiftLeft, Nat.zero_div, Nat.zero_mod]
  rfl
 obtain ⟨r, hr, hR⟩ := write_rnd (s ^^ t) 0 (i - j - (54 + n.log2 - (0 : Nat).log2 : Nat) - 1) (by
  have e : (((0 : Nat) : Rat)) * (2 : Rat) ^ (i - j - (54 + n.log2 - (0 : Nat).log2 : Nat) - 1) = 0 := by simp
  rw [e]; exact zpow_pos 1023)
 have e0 : sg (s ^^ t) (((0 : Nat) : Rat) * (2 : Rat) ^ (i - j - (54 + n.log2 - (0 : Nat).log2 : Nat) - 1)) = 0 := by unfold sg; cases (s ^^ t) <;> simp
 rw [e0] at hR
 have h0 : r = 0 := hR.exact 0 0 (by decide) (by decide) (by rw [zpow_zero', Rat.mul_one]; rfl)
 subst h0
 exact ⟨_, hdiv, hr⟩
end Flt

/- Quotients of floating numbers: how near they are. -/
set_option linter.unusedVariables false
set_option linter.unusedSimpArgs false
namespace Flt
open Go Ieee Go.Vm
theorem read_mag {x : Nat} {s : Bool} {m : Nat} {i : Int} (h : double.read x = .number s m i) : m < 9007199254740992 := by
 unfold Format.read at h
 have f2 : double.binade = 4503599627370496 := by decide
 simp only at h
 split at h
 ·rename_i h1; rw [f2] at h1; cases h; omega
 ·split at h
  ·rename_i h1; cases h
   rw [f2]
   have := Nat.mod_lt (x % double.signWeight) (show 0 < 4503599627370496 by omega)
   omega
  ·split at h <;> cases h
/-- r is near q: as a quotient is, rounded. -/
structure Near (r q : Rat) : Prop where
 lo : r - q ≤ ab q * 2 ^ (-52 : Int) + 2 ^ (-1075 : Int)
 hi : q - r ≤ ab q * 2 ^ (-52 : Int) + 2 ^ (-1075 : Int)
theorem log_lt {m k : Nat} (h : m < 2 ^ k) (h0 : m ≠ 0) : m.log2 < k := (Nat.log2_lt h0).2 h
/-- The quotient's digits: a 1 behind them where anything is left over. -/
theorem quot_dig {m n : Nat} (hn : n ≠ 0) (hm : m < 9007199254740992) : ∀ N more : Nat, more = 54 + n.log2 - m.log2 → N = m <<< more →
  (N % n = 0 ∧ (2 * (N / n) + (N % n != 0).toNat) * n = 2 * N) ∨ ((2 * (N / n) + (N % n != 0).toNat) * n ≤ 2 * N + n ∧ 2 * N ≤ (2 * (N / n) + (N % n != 0).toNat) * n + n ∧ 9007199254740992 * n ≤ N) := by
 intro N more hmore hN
 have hd := Nat.div_add_mod N n
 have hr := Nat.mod_lt N (Nat.pos_of_ne_zero hn)
 by_cases h0 : N % n = 0
 ·left
  refine ⟨h0, ?_⟩
  rw [h0] at hd ⊢
  simp only [bne_self_eq_false, Bool.toNat_false, Nat.add_zero] at hd ⊢
  rw [Nat.mul_assoc, Nat.mul_comm (N / n) n, hd]
 ·right
  have e1 : (N % n != 0).toNat = 1 := by simp [h0]
  rw [e1]
  have e2 : (2 * (N / n) + 1) * n = 2 * (n * (N / n)) + n := by rw [Nat.add_mul, Nat.one_mul, Nat.mul_assoc, Nat.mul_comm (N / n) n]
  rw [e2]
  refine ⟨by omega, by omega, ?_⟩
  have hm0 : m ≠ 0 := fun e => by subst e; simp at hN; subst hN; simp at h0
  have l1 : m.log2 < 53 := log_lt (by
   have : (2 : Nat) ^ 53 = 9007199254740992 := by decide
   omega) hm0
  have g1 : 2 ^ m.log2 ≤ m := Nat.log2_self_le hm0
  have g2 : n < 2 ^ (n.log2 + 1) := Nat.lt_log2_self
  have hN' : N = m * 2 ^ more := by rw [hN, Nat.shiftLeft_eq]
  have e3 : 2 ^ (54 + n.log2) ≤ N := by
   have : 54 + n.log2 = m.log2 + more := by omega
   rw [this, Nat.pow_add, hN']
   exact Nat.mul_le_mul_right _ g1
  have e4 : 2 ^ (54 + n.log2) = 9007199254740992 * 2 ^ (n.log2 + 1) := by
   have : 54 + n.log2 = 53 + (n.log2 + 1) := by omega
   rw [this, Nat.pow_add]
  have e5 : 9007199254740992 * n ≤ 9007199254740992 * 2 ^ (n.log2 + 1) := Nat.mul_le_mul_left _ (by omega)
  omega
theorem sg_mul (s t : Bool) (a b : Rat) : sg s a * sg t b = sg (s ^^ t) (a * b) := by
 unfold sg; cases s <;> cases t <;> simp <;> grind
theorem ab_sg' (s : Bool) (q : Rat) : ab (sg s q) = ab q := by unfold ab sg; cases s <;> simp <;> grind
theorem div_rnd {x y : Nat} {p q : Rat} (hx : V x = some p) (hy : V y = some q) (h0 : q ≠ 0) (h : ab (p / q) < 2 ^ (1022 : Int)) : ∃ z r, double.div x y = some z ∧ V z = some r ∧ Near r (p / q) := by
 obtain ⟨s, m, i, hrx, hvx⟩ := V_num hx
 obtain ⟨t, n, j, hry, hvy⟩ := V_num hy
 have hn : n ≠ 0 := fun e => by subst e; apply h0; rw [← hvy]; unfold sg; cases t <;> simp
 have hm := read_mag hrx
 obtain ⟨N, hN⟩ : ∃ N, N = m <<< (54 + n.log2 - m.log2) := ⟨_, rfl⟩
 have hdig := quot_dig hn hm N _ rfl hN
 generalize hmo : 54 + n.log2 - m.log2 = more at *
 generalize hA : 2 * (N / n) + (N % n != 0).toNat = A at *
 have hdiv : double.div x y = some (double.write (.number (s ^^ t) A (i - j - more - 1))) := by
  unfold Format.div
  rw [hrx, hry]
  unfold Datum.quotient
  simp only [if_neg hn]
  have e54 : double.fractionBits + 2 = 54 := by decide
  rw [e54, hmo, ← hN, hA]
  rfl
 -- the quotient, as it is
 have hp : (0 : Rat) < (2 : Rat) ^ (i - j - more - 1) := zpow_pos _
 have hnq : (0 : Rat) < (n : Rat) := by
  have : 0 < n := Nat.pos_of_ne_zero hn
  exact_mod_cast this
 have hB : p / q = sg (s ^^ t) ((2 * (N : Rat) / n) * 2 ^ (i - j - more - 1)) := by
  have hN' : (N : Rat) = (m : Rat) * 2 ^ ((more : Nat) : Int) := by
   rw [hN, Nat.shiftLeft_eq, zpow_nat]
   exact Rat.natCast_mul _ _
  have hqm : q * sg (s ^^ t) ((2 * (N : Rat) / n) * 2 ^ (i - j - more - 1)) = p := by
   rw [← hvx, ← hvy, sg_mul]
   have e : (t ^^ (s ^^ t)) = s := by cases s <;> cases t <;> rfl
   rw [e]
   congr 1
   have e1 : (2 : Rat) ^ i = 2 ^ j * 2 * 2 ^ ((more : Nat) : Int) * 2 ^ (i - j - more - 1) := by
    have e2 : i = j + (1 + (((more : Nat) : Int) + (i - j - more - 1))) := by omega
    have e3 : (2 : Rat) ^ i = 2 ^ (j + (1 + (((more : Nat) : Int) + (i - j - more - 1)))) := congrArg (fun z : Int => (2 : Rat) ^ z) e2
    rw [e3, zpow_add, zpow_add, zpow_add, pow_one']
    grind
   rw [e1, hN']
   have e4 : (n : Rat) * (2 ^ j) * ((2 * ((m : Rat) * 2 ^ ((more : Nat) : Int)) / n) * 2 ^ (i - j - more - 1)) = ((n : Rat) * (2 * ((m : Rat) * 2 ^ ((more : Nat) : Int)) / n)) * (2 ^ j * 2 ^ (i - j - more - 1)) := by grind
   have e5 : (n : Rat) * (2 * ((m : Rat) * 2 ^ ((more : Nat) : Int)) / n) = 2 * ((m : Rat) * 2 ^ ((more : Nat) : Int)) := by
    have hne : (n : Rat) ≠ 0 := fun e => by rw [e] at hnq; exact absurd hnq (by decide)
    have := Rat.mul_inv_cancel (n : Rat) hne
    rw [Rat.div_def]; grind
   rw [e4, e5]
   grind
  rw [← hqm, Rat.div_def, Rat.mul_comm q, Rat.mul_assoc, Rat.mul_inv_cancel _ h0, Rat.mul_one]
 generalize hT : (2 : Rat) ^ (i - j - more - 1) = T at *
 generalize hu : (s ^^ t) = u at *
 have hinv : (n : Rat) * (n : Rat)⁻¹ = 1 := Rat.mul_inv_cancel (n : Rat) (fun e => by rw [e] at hnq; exact absurd hnq (by decide))
 have hinv0 : 0 < (n : Rat)⁻¹ := Rat.inv_pos.2 hnq
 obtain ⟨B, hBd⟩ : ∃ B : Rat, B = 2 * (N : Rat) / n := ⟨_, rfl⟩
 rw [← hBd] at hB
 have hBn : B * n = 2 * (N : Rat) := by rw [hBd, Rat.div_def]; grind
 have hN0 : (0 : Rat) ≤ (N : Rat) := Rat.natCast_nonneg
 have hB0 : 0 ≤ B := by rw [hBd, Rat.div_def]; exact Rat.mul_nonneg (by grind) (Rat.le_of_lt hinv0)
 have e54 : (2 : Rat) ^ (-54 : Int) = 1 / 18014398509481984 := by decide +kernel
 have e53 : (2 : Rat) ^ (-53 : Int) = 1 / 9007199254740992 := by decide +kernel
 have e52 : (2 : Rat) ^ (-52 : Int) = 1 / 4503599627370496 := by decide +kernel
 have key : (A : Rat) - B ≤ B * (1 / 18014398509481984) ∧ B - (A : Rat) ≤ B * (1 / 18014398509481984) := by
  rcases hdig with ⟨_, h1⟩ | ⟨h1, h2, h3⟩
  ·have h1' : (A : Rat) * n = 2 * (N : Rat) := by
    have := congrArg (fun z : Nat => (z : Rat)) h1
    simp only [Rat.natCast_mul] at this
    exact this
   have : (A : Rat) = B := by
    have e1 : (A : Rat) * n * (n : Rat)⁻¹ = B * n * (n : Rat)⁻¹ := by rw [h1', hBn]
    rw [Rat.mul_assoc, Rat.mul_assoc, hinv, Rat.mul_one, Rat.mul_one] at e1
    exact e1
   rw [this]
   have : 0 ≤ B * (1 / 18014398509481984) := Rat.mul_nonneg hB0 (by decide +kernel)
   constructor <;> grind
  ·have c1 : (A : Rat) * n ≤ 2 * (N : Rat) + n := by
    have : ((A * n : Nat) : Rat) ≤ ((2 * N + n : Nat) : Rat) := by exact_mod_cast h1
    simpa [Rat.natCast_mul, Rat.natCast_add] using this
   have c2 : 2 * (N : Rat) ≤ (A : Rat) * n + n := by
    have : ((2 * N : Nat) : Rat) ≤ ((A * n + n : Nat) : Rat) := by exact_mod_cast h2
    simpa [Rat.natCast_mul, Rat.natCast_add] using this
   have c3 : 9007199254740992 * (n : Rat) ≤ (N : Rat) := by
    have : ((9007199254740992 * n : Nat) : Rat) ≤ ((N : Nat) : Rat) := Rat.natCast_le_natCast.2 h3
    rw [Rat.natCast_mul] at this
    exact this
   have d1 : (A : Rat) ≤ B + 1 := by
    have := Rat.mul_le_mul_of_nonneg_right c1 (Rat.le_of_lt hinv0)
    rw [← hBn] at this
    have e1 : (A : Rat) * n * (n : Rat)⁻¹ = A := by rw [Rat.mul_assoc, hinv, Rat.mul_one]
    have e2 : (B * n + n) * (n : Rat)⁻¹ = B + 1 := by rw [Rat.add_mul, Rat.mul_assoc, hinv, Rat.mul_one]
    rw [e1, e2] at this; exact this
   have d2 : B ≤ (A : Rat) + 1 := by
    have := Rat.mul_le_mul_of_nonneg_right c2 (Rat.le_of_lt hinv0)
    rw [← hBn] at this
    have e1 : B * n * (n : Rat)⁻¹ = B := by rw [Rat.mul_assoc, hinv, Rat.mul_one]
    have e2 : ((A : Rat) * n + n) * (n : Rat)⁻¹ = A + 1 := by rw [Rat.add_mul, Rat.mul_assoc, hinv, Rat.mul_one]
    rw [e1, e2] at this; exact this
   have d3 : 18014398509481984 ≤ B := by
    have := Rat.mul_le_mul_of_nonneg_right c3 (Rat.le_of_lt hinv0)
    have e1 : 9007199254740992 * (n : Rat) * (n : Rat)⁻¹ = 9007199254740992 := by rw [Rat.mul_assoc, hinv, Rat.mul_one]
    rw [e1] at this
    have e2 : B = 2 * ((N : Rat) * (n : Rat)⁻¹) := by rw [hBd, Rat.div_def, Rat.mul_assoc]
    rw [e2]; grind
   have d4 : 1 ≤ B * (1 / 18014398509481984) := by
    have := Rat.mul_le_mul_of_nonneg_right d3 (show (0 : Rat) ≤ 1 / 18014398509481984 by decide +kernel)
    have e1 : (18014398509481984 : Rat) * (1 / 18014398509481984) = 1 := by decide +kernel
    rw [e1] at this; exact this
   constructor <;> grind
 have hab : ab (p / q) = B * T := by rw [hB, ab_sg' , ]; unfold ab; rw [if_neg (by have := Rat.mul_nonneg hB0 (Rat.le_of_lt hp); grind)]
 have hBT : 0 ≤ B * T := Rat.mul_nonneg hB0 (Rat.le_of_lt hp)
 have k1 := Rat.mul_le_mul_of_nonneg_right key.1 (Rat.le_of_lt hp)
 have k2 := Rat.mul_le_mul_of_nonneg_right key.2 (Rat.le_of_lt hp)
 have hA0 : 0 ≤ (A : Rat) * T := Rat.mul_nonneg Rat.natCast_nonneg (Rat.le_of_lt hp)
 have hlt : (A : Rat) * T < 2 ^ (1023 : Int) := by
  have e1 : (2 : Rat) ^ (1023 : Int) = 2 * 2 ^ (1022 : Int) := half 1023
  rw [hab] at h
  rw [e1]; grind
 obtain ⟨r, hr, hR⟩ := write_rnd u A (i - j - more - 1) (by rw [hT]; exact hlt)
 rw [hT] at hR
 refine ⟨_, r, hdiv, hr, ?_⟩
 have l1 := hR.lo
 have l2 := hR.hi
 rw [ab_sg u hA0, e53] at l1 l2
 have hs : sg u ((A : Rat) * T) - p / q ≤ B * T * (1 / 18014398509481984) ∧ p / q - sg u ((A : Rat) * T) ≤ B * T * (1 / 18014398509481984) := by
  rw [hB]
  unfold sg
  cases u <;> simp <;> constructor <;> grind
 refine ⟨?_, ?_⟩ <;> rw [hab, e52] <;> grind
end Flt

/- Floors of quotients of whole numbers. -/
set_option linter.unusedVariables false
set_option linter.unusedSimpArgs false
namespace Flt
open Go Ieee Go.Vm
def floorD (x : Nat) : Nat := FloatKind.f64.encode ((FloatKind.f64.decode x).integral .down)
def floorS (x : Nat) (d : Ieee.Datum) : Sem Value :=
 match d with
 | .nan s t =>
  if FloatKind.f64.format.quiet t = t then pure (.float .f64 x) else do
   let kept ← choose (.extern "math.Floor,Ceil,Trunc,RoundToEven.signallingNaN kept" 2)
   pure (.float .f64 (if kept == 1 then x else FloatKind.f64.encode (.nan s (FloatKind.f64.format.quiet t))))
 | d => pure (.float .f64 (FloatKind.f64.encode (d.integral .down)))
/-- A quotient that can be told exactly, is. -/
theorem quo_exact {x y : Nat} {p q : Rat} {c E : Int} (hx : V x = some p) (hy : V y = some q) (h0 : q ≠ 0) (hc : p / q = (c : Rat) * 2 ^ E) (hb : c.natAbs ≤ 9007199254740992) (hE : -1074 ≤ E) (hE2 : E ≤ 900) : ∃ z, double.div x y = some z ∧ V z = some (p / q) := by
 obtain ⟨s, m, i, hrx, hvx⟩ := V_num hx
 obtain ⟨t, n, j, hry, hvy⟩ := V_num hy
 have hn : n ≠ 0 := fun e => by subst e; apply h0; rw [← hvy]; unfold sg; cases t <;> simp
 have hm := read_mag hrx
 obtain ⟨N, hN⟩ : ∃ N, N = m <<< (54 + n.log2 - m.log2) := ⟨_, rfl⟩
 have hdig := quot_dig hn hm N _ rfl hN
 generalize hmo : 54 + n.log2 - m.log2 = more at *
 generalize hA : 2 * (N / n) + (N % n != 0).toNat = A at *
 have hdiv : double.div x y = some (double.write (.number (s ^^ t) A (i - j - more - 1))) := by
  unfold Format.div
  rw [hrx, hry]
  unfold Datum.quotient
  simp only [if_neg hn]
  have e54 : double.fractionBits + 2 = 54 := by decide
  rw [e54, hmo, ← hN, hA]
  rfl
 have hp : (0 : Rat) < (2 : Rat) ^ (i - j - more - 1) := zpow_pos _
 have hnq : (0 : Rat) < (n : Rat) := by
  have : 0 < n := Nat.pos_of_ne_zero hn
  exact_mod_cast this
 have hB : p / q = sg (s ^^ t) ((2 * (N : Rat) / n) * 2 ^ (i - j - more - 1)) := by
  have hN' : (N : Rat) = (m : Rat) * 2 ^ ((more : Nat) : Int) := by
   rw [hN, Nat.shiftLeft_eq, zpow_nat]
   exact Rat.natCast_mul _ _
  have hqm : q * sg (s ^^ t) ((2 * (N : Rat) / n) * 2 ^ (i - j - more - 1)) = p := by
   rw [← hvx, ← hvy, sg_mul]
   have e : (t ^^ (s ^^ t)) = s := by cases s <;> cases t <;> rfl
   rw [e]
   congr 1
   have e1 : (2 : Rat) ^ i = 2 ^ j * 2 * 2 ^ ((more : Nat) : Int) * 2 ^ (i - j - more - 1) := by
    have e2 : i = j + (1 + (((more : Nat) : Int) + (i - j - more - 1))) := by omega
    have e3 : (2 : Rat) ^ i = 2 ^ (j + (1 + (((more : Nat) : Int) + (i - j - more - 1)))) := congrArg (fun z : Int => (2 : Rat) ^ z) e2
    rw [e3, zpow_add, zpow_add, zpow_add, pow_one']
    grind
   rw [e1, hN']
   have e4 : (n : Rat) * (2 ^ j) * ((2 * ((m : Rat) * 2 ^ ((more : Nat) : Int)) / n) * 2 ^ (i - j - more - 1)) = ((n : Rat) * (2 * ((m : Rat) * 2 ^ ((more : Nat) : Int)) / n)) * (2 ^ j * 2 ^ (i - j - more - 1)) := by grind
   have e5 : (n : Rat) * (2 * ((m : Rat) * 2 ^ ((more : Nat) : Int)) / n) = 2 * ((m : Rat) * 2 ^ ((more : Nat) : Int)) := by
    have hne : (n : Rat) ≠ 0 := fun e => by rw [e] at hnq; exact absurd hnq (by decide)
    have := Rat.mul_inv_cancel (n : Rat) hne
    rw [Rat.div_def]; grind
   rw [e4, e5]
   grind
  rw [← hqm, Rat.div_def, Rat.mul_comm q, Rat.mul_assoc, Rat.mul_inv_cancel _ h0, Rat.mul_one]
 have hinv : (n : Rat) * (n : Rat)⁻¹ = 1 := Rat.mul_inv_cancel (n : Rat) (fun e => by rw [e] at hnq; exact absurd hnq (by decide))
 obtain ⟨B, hBd⟩ : ∃ B : Rat, B = 2 * (N : Rat) / n := ⟨_, rfl⟩
 rw [← hBd] at hB
 have hBn : B * n = 2 * (N : Rat) := by rw [hBd, Rat.div_def]; grind
 have hAB : (A : Rat) = B := by
  have h1 : A * n = 2 * N := by
   by_cases hz : N % n = 0
   ·have hd := Nat.div_add_mod N n
    rw [hz, Nat.add_zero] at hd
    have e0 : (N % n != 0).toNat = 0 := by rw [hz]; rfl
    rw [← hA, e0, Nat.add_zero, Nat.mul_assoc, Nat.mul_comm (N / n) n, hd]
   ·exfalso
    apply hz
    rcases hdig with ⟨h1, _⟩ | ⟨_, _, h3⟩
    ·exact h1
    ·have hE0 : (0 : Rat) < 2 ^ E := zpow_pos E
     have hB0 : 0 ≤ B := by
      have hN0 : (0 : Rat) ≤ (N : Rat) := Rat.natCast_nonneg
      rw [hBd, Rat.div_def]; exact Rat.mul_nonneg (by grind) (Rat.le_of_lt (Rat.inv_pos.2 hnq))
     have hac : ab (c : Rat) = (c.natAbs : Rat) := by
      have h := sg_natAbs c
      rw [← h, sg_ab (by rw [zpow_zero', Rat.mul_one]; exact Rat.natCast_nonneg), zpow_zero', Rat.mul_one]
     have hBT : B * 2 ^ (i - j - more - 1) = (c.natAbs : Rat) * 2 ^ E := by
      have h1 : ab (p / q) = B * 2 ^ (i - j - more - 1) := by rw [hB, sg_ab (Rat.mul_nonneg hB0 (Rat.le_of_lt hp))]
      have h2 : ab (p / q) = (c.natAbs : Rat) * 2 ^ E := by rw [hc, ab_mul hE0, hac]
      rw [← h1, h2]
     obtain ⟨e, he⟩ : ∃ e, e = E - (i - j - more - 1) := ⟨_, rfl⟩
     have hEe : (2 : Rat) ^ E = 2 ^ (i - j - more - 1) * 2 ^ e := by rw [← zpow_add]; congr 1; omega
     have hBe : B = (c.natAbs : Rat) * 2 ^ e := by
      rw [hEe] at hBT
      generalize (2 : Rat) ^ (i - j - more - 1) = T at *
      have hT0 : T ≠ 0 := fun h => by rw [h] at hp; exact absurd hp (by decide)
      have h1 : B * T * T⁻¹ = (c.natAbs : Rat) * (T * 2 ^ e) * T⁻¹ := by rw [hBT]
      have h2 := Rat.mul_inv_cancel T hT0
      have h3 : (c.natAbs : Rat) * (T * 2 ^ e) * T⁻¹ = (c.natAbs : Rat) * 2 ^ e * (T * T⁻¹) := by grind
      rw [h3, Rat.mul_assoc, h2, Rat.mul_one, Rat.mul_one] at h1
      exact h1
     have hBge : (18014398509481984 : Rat) ≤ B := by
      have c3 : 9007199254740992 * (n : Rat) ≤ (N : Rat) := by
       have : ((9007199254740992 * n : Nat) : Rat) ≤ ((N : Nat) : Rat) := Rat.natCast_le_natCast.2 h3
       rw [Rat.natCast_mul] at this
       exact this
      have h4 := Rat.mul_le_mul_of_nonneg_right c3 (Rat.le_of_lt (Rat.inv_pos.2 hnq))
      have e1 : 9007199254740992 * (n : Rat) * (n : Rat)⁻¹ = 9007199254740992 := by rw [Rat.mul_assoc, hinv, Rat.mul_one]
      rw [e1] at h4
      have e2 : B = 2 * ((N : Rat) * (n : Rat)⁻¹) := by rw [hBd, Rat.div_def, Rat.mul_assoc]
      rw [e2]; grind
     have hcb : (c.natAbs : Rat) ≤ 9007199254740992 := by
      have : ((c.natAbs : Nat) : Rat) ≤ ((9007199254740992 : Nat) : Rat) := Rat.natCast_le_natCast.2 hb
      exact this
     have he1 : 1 ≤ e := by
      apply Classical.byContradiction
      intro hne
      have h5 : (2 : Rat) ^ e ≤ 1 := by have := zpow_le (a := e) (b := 0) (by omega); rw [zpow_zero'] at this; exact this
      have h9 := Rat.mul_le_mul_of_nonneg_left h5 (show (0 : Rat) ≤ (c.natAbs : Rat) from Rat.natCast_nonneg)
      rw [← hBe, Rat.mul_one] at h9
      grind
     obtain ⟨k, hk⟩ : ∃ k : Nat, e - 1 = (k : Int) := ⟨(e - 1).toNat, by omega⟩
     have h10 : (N : Rat) = (c.natAbs : Rat) * ((2 ^ k : Nat) : Rat) * (n : Rat) := by
      have h11 := half e
      rw [hk, zpow_nat] at h11
      rw [hBe, h11] at hBn
      generalize ((2 ^ k : Nat) : Rat) = M at *
      grind
     have h12 : N = c.natAbs * 2 ^ k * n := by
      rw [← Rat.natCast_mul, ← Rat.natCast_mul] at h10
      exact Rat.natCast_inj.1 h10
     rw [h12]; exact Nat.mul_mod_left _ _
  have h1' : (A : Rat) * n = 2 * (N : Rat) := by
   have := congrArg (fun z : Nat => (z : Rat)) h1
   simp only [Rat.natCast_mul] at this
   exact this
  have e1 : (A : Rat) * n * (n : Rat)⁻¹ = B * n * (n : Rat)⁻¹ := by rw [h1', hBn]
  rw [Rat.mul_assoc, Rat.mul_assoc, hinv, Rat.mul_one, Rat.mul_one] at e1
  exact e1
 have hq : sg (s ^^ t) ((A : Rat) * 2 ^ (i - j - more - 1)) = (c : Rat) * 2 ^ E := by rw [hAB, ← hB, hc]
 obtain ⟨r, hr, hR⟩ := write_rnd (s ^^ t) A (i - j - more - 1) (sg_lt hq (ab_dy hb hE2))
 rw [hq] at hR
 have h13 := hR.exact c E hb hE rfl
 exact ⟨_, hdiv, by rw [hr, h13, hc]⟩
end Flt

/- Floating numbers that are near what is meant: sums, differences, products, with the errors told. -/
set_option linter.unusedVariables false
set_option linter.unusedSimpArgs false
namespace Flt
open Go Ieee Go.Vm
/-- x is nearer than e to q. -/
def App (x : Nat) (q e : Rat) : Prop := ∃ r, V x = some r ∧ r - q ≤ e ∧ q - r ≤ e
def Bd (q B : Rat) : Prop := -B ≤ q ∧ q ≤ B
abbrev u53 : Rat := 1 / 9007199254740992
abbrev tiny : Rat := 1 / 1267650600228229401496703205376
abbrev huge : Rat := 1267650600228229401496703205376
theorem App.int {x : Nat} {n : Int} (h : I x n) : App x n 0 := ⟨n, h, by grind, by grind⟩
theorem App.mono {x : Nat} {q e f : Rat} (h : App x q e) (hf : e ≤ f) : App x q f := by
 obtain ⟨r, h1, h2, h3⟩ := h
 exact ⟨r, h1, by grind, by grind⟩
theorem tiny_le : (2 : Rat) ^ (-1075 : Int) ≤ tiny := by
 have h1 : (2 : Rat) ^ (-1075 : Int) ≤ (2 : Rat) ^ (-100 : Int) := zpow_le (by omega)
 have e : (2 : Rat) ^ (-100 : Int) = tiny := by decide +kernel
 rw [e] at h1; exact h1
theorem e53 : (2 : Rat) ^ (-53 : Int) = u53 := by decide +kernel
theorem huge_lt : huge < (2 : Rat) ^ (1022 : Int) := by
 have h1 : (2 : Rat) ^ (101 : Int) ≤ (2 : Rat) ^ (1022 : Int) := zpow_le (by omega)
 have e : (2 : Rat) ^ (101 : Int) = 2 * huge := by decide +kernel
 have e2 : (0 : Rat) < huge := by decide +kernel
 rw [e] at h1
 grind
theorem ab_le {q B : Rat} (h : Bd q B) : ab q ≤ B := by unfold ab; obtain ⟨h1, h2⟩ := h; split <;> grind
theorem huge_lt2 {q B : Rat} (h : Bd q B) (hB : B ≤ huge) : ab q < (2 : Rat) ^ (1023 : Int) := by
 have h1 := ab_le h
 have h2 := huge_lt
 have h3 : (2 : Rat) ^ (1022 : Int) ≤ (2 : Rat) ^ (1023 : Int) := zpow_le (by omega)
 grind
theorem Rnd.near {r q B : Rat} (h : Rnd r q) (hB : Bd q B) : r - q ≤ B * u53 + tiny ∧ q - r ≤ B * u53 + tiny := by
 have h1 := h.lo
 have h2 := h.hi
 have h3 := tiny_le
 have h4 := Rat.mul_le_mul_of_nonneg_right (ab_le hB) (show (0 : Rat) ≤ u53 by decide +kernel)
 rw [e53] at h1 h2
 constructor <;> grind
theorem app_add {x y : Nat} {p q e f B g : Rat} (hx : App x p e) (hy : App y q f) (h1 : Bd (p + q) (B - e - f)) (h2 : B ≤ huge) (hg : e + f + B * u53 + tiny ≤ g) : ∃ z, floatBits .add .f64 x y = some z ∧ App z (p + q) g := by
 obtain ⟨r, hr, r1, r2⟩ := hx
 obtain ⟨s, hs, s1, s2⟩ := hy
 have hb : Bd (r + s) B := by unfold Bd at *; constructor <;> grind
 obtain ⟨z, t, hz, ht, hR⟩ := add_rnd hr hs (huge_lt2 hb h2)
 obtain ⟨t1, t2⟩ := hR.near hb
 exact ⟨z, hz, t, ht, by grind, by grind⟩
end Flt
