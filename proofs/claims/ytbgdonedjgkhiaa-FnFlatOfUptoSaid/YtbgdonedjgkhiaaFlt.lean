/- Floating numbers of 64 bits as rational numbers: what a word stands for, and how sums, products, quotients and roots are rounded. -/
import Ieee.Arith
namespace Flt
open Ieee

def sg (s : Bool) (q : Rat) : Rat := if s then -q else q
/-- The value of a finite word. -/
def dval : Datum → Option Rat
  | .number s m e => some (sg s ((m : Rat) * (2 : Rat) ^ e))
  | _ => none
def V (b : Nat) : Option Rat := dval (double.read b)

theorem two_ne : (2 : Rat) ≠ 0 := by decide
theorem zpow_add (a b : Int) : (2 : Rat) ^ (a + b) = 2 ^ a * 2 ^ b := Rat.zpow_add two_ne a b
theorem zpow_nat (n : Nat) : (2 : Rat) ^ ((n : Nat) : Int) = ((2 ^ n : Nat) : Rat) := by
  rw [Rat.zpow_natCast]; exact (Rat.natCast_pow 2 n).symm
theorem zpow_pos (a : Int) : (0 : Rat) < 2 ^ a := Rat.zpow_pos (by decide)

theorem double_sw : double.signWeight = 9223372036854775808 := by decide
theorem double_bn : double.binade = 4503599627370496 := by decide
theorem double_ir : double.infRung = 9218868437227405312 := by decide
theorem double_lp : double.leastPlace = -1074 := by decide
theorem double_fb : double.fractionBits = 52 := by decide

theorem word_div (s : Bool) (r : Nat) (h : r < 9223372036854775808) : (double.word s r / double.signWeight % 2 == 1) = s := by
  unfold Format.word
  rw [double_sw]
  cases s <;> simp <;> omega
theorem word_mod (s : Bool) (r : Nat) (h : r < 9223372036854775808) : double.word s r % double.signWeight = r := by
  unfold Format.word
  rw [double_sw]
  cases s <;> simp <;> omega

/-- What a word with a rung below infinity reads as. -/
theorem read_word (s : Bool) (r : Nat) (h : r < 9218868437227405312) :
    double.read (double.word s r) = if r < 4503599627370496 then .number s r (-1074)
      else .number s (4503599627370496 + r % 4503599627370496) (-1074 + (r / 4503599627370496 - 1 : Nat)) := by
  unfold Format.read
  simp only [word_div s r (by omega), word_mod s r (by omega), double_bn, double_ir, double_lp]
  rw [if_pos h]

theorem pow_one' : (2 : Rat) ^ (1 : Int) = 2 := by decide
theorem two53 (q : Rat) : ((4503599627370496 : Nat) : Rat) * (q * 2) = ((9007199254740992 : Nat) : Rat) * q := by
  have e4 : ((4503599627370496 : Nat) : Rat) = 4503599627370496 := by norm_cast
  have e5 : ((9007199254740992 : Nat) : Rat) = 9007199254740992 := by norm_cast
  rw [e4, e5]; grind

theorem val_rung (s : Bool) (E k : Nat) (hk : k ≤ 9007199254740992) (h : E = 0 ∨ 4503599627370496 ≤ k) (hf : E * 4503599627370496 + k < 9218868437227405312) :
    V (double.word s (E * 4503599627370496 + k)) = some (sg s ((k : Rat) * (2 : Rat) ^ ((E : Int) - 1074))) := by
  unfold V
  rw [read_word s _ hf]
  by_cases h1 : k < 4503599627370496
  · have hE : E = 0 := by omega
    subst hE
    rw [if_pos (by omega)]
    have e1 : ((0 : Nat) : Int) - 1074 = -1074 := by omega
    have e2 : 0 * 4503599627370496 + k = k := by omega
    rw [e1, e2]; rfl
  · rw [if_neg (by omega)]
    by_cases h2 : k = 9007199254740992
    · have e1 : (E * 4503599627370496 + k) % 4503599627370496 = 0 := by omega
      have e2 : (E * 4503599627370496 + k) / 4503599627370496 - 1 = E + 1 := by omega
      have e3 : ((-1074 : Int) + ((E + 1 : Nat) : Int)) = ((E : Int) - 1074) + 1 := by omega
      have e7 : ∀ z : Int, dval (Datum.number s (4503599627370496 + 0) z) = some (sg s (((4503599627370496 : Nat) : Rat) * (2 : Rat) ^ z)) := fun z => rfl
      rw [e1, e2, e3, e7, zpow_add, pow_one', two53, h2]
    · have e1 : (E * 4503599627370496 + k) % 4503599627370496 = k - 4503599627370496 := by omega
      have e2 : (E * 4503599627370496 + k) / 4503599627370496 - 1 = E := by omega
      have e3 : 4503599627370496 + (k - 4503599627370496) = k := by omega
      have e4 : ((-1074 : Int) + (E : Int)) = (E : Int) - 1074 := by omega
      rw [e1, e2, e3, e4]; rfl

/-- Rounding to the nearest: within half a unit. -/
theorem cut_near (neg : Bool) (n d : Nat) : 2 * (Toward.even.cut neg n d * 2 ^ d) ≤ 2 * n + 2 ^ d ∧ 2 * n ≤ 2 * (Toward.even.cut neg n d * 2 ^ d) + 2 ^ d := by
  unfold Toward.cut
  by_cases hd : d ≤ n.log2 + 2
  · rw [Nat.min_eq_left hd, Nat.one_shiftLeft]
    have hg : 0 < 2 ^ d := Nat.two_pow_pos d
    have hn := Nat.div_add_mod n (2 ^ d)
    have hr := Nat.mod_lt n hg
    dsimp only
    generalize hp : 2 ^ d * (n / 2 ^ d) = p at *
    rw [Nat.add_mul, Nat.mul_comm (n / 2 ^ d), hp]
    generalize n % 2 ^ d = r at *
    generalize 2 ^ d = g at *
    cases hb : (decide (g < 2 * r) || (g == 2 * r && n / g % 2 == 1))
    · simp only [Bool.or_eq_false_iff, decide_eq_false_iff_not] at hb
      simp only [Bool.toNat_false]; omega
    · simp only [Bool.or_eq_true, Bool.and_eq_true, decide_eq_true_eq, beq_iff_eq] at hb
      simp only [Bool.toNat_true]; omega
  · rw [Nat.min_eq_right (by omega), Nat.one_shiftLeft]
    have h1 : n < 2 ^ (n.log2 + 1) := Nat.lt_log2_self
    have h2 : 2 ^ (n.log2 + 2) = 2 * 2 ^ (n.log2 + 1) := by rw [Nat.pow_succ 2 (n.log2 + 1)]; omega
    have h3 : 2 ^ (n.log2 + 2) ≤ 2 ^ d := Nat.pow_le_pow_right (by omega) (by omega)
    dsimp only
    have e1 : n / 2 ^ (n.log2 + 2) = 0 := Nat.div_eq_of_lt (by omega)
    have e2 : n % 2 ^ (n.log2 + 2) = n := Nat.mod_eq_of_lt (by omega)
    rw [e1, e2]
    have e3 : (decide (2 ^ (n.log2 + 2) < 2 * n) || (2 ^ (n.log2 + 2) == 2 * n && 0 % 2 == 1)) = false := by
      simp; omega
    rw [e3]
    simp only [Bool.toNat_false]; omega

theorem cut_exact (neg : Bool) (n d k : Nat) (h : n = k * 2 ^ d) : Toward.even.cut neg n d = k := by
  have h1 := (cut_near neg n d).1
  have h2 := (cut_near neg n d).2
  have hg : 0 < 2 ^ d := Nat.two_pow_pos d
  generalize Toward.even.cut neg n d = c at *
  subst h
  generalize 2 ^ d = g at *
  rcases Nat.lt_trichotomy c k with h | h | h
  · have := Nat.mul_le_mul_right g (show c + 1 ≤ k from h)
    rw [Nat.add_mul] at this; omega
  · exact h
  · have := Nat.mul_le_mul_right g (show k + 1 ≤ c from h)
    rw [Nat.add_mul] at this; omega

theorem kept_bounds (s : Bool) (mag : Nat) (place last : Int) (hm : mag ≠ 0) (hl : last = max (place + mag.log2 - 52) (-1074)) :
    Toward.even.cut s (mag <<< (place - last).toNat) (last - place).toNat ≤ 9007199254740992 ∧
    (last = -1074 ∨ 4503599627370496 ≤ Toward.even.cut s (mag <<< (place - last).toNat) (last - place).toNat) := by
  have lo := Nat.log2_self_le hm
  have hi : mag < 2 ^ (mag.log2 + 1) := Nat.lt_log2_self
  rw [Nat.shiftLeft_eq]
  by_cases hc : last ≤ place
  · have hd : (last - place).toNat = 0 := by omega
    rw [hd, cut_exact s _ 0 _ (by rw [Nat.pow_zero, Nat.mul_one])]
    generalize ha : (place - last).toNat = a
    have h1 : mag * 2 ^ a < 2 ^ (mag.log2 + 1) * 2 ^ a := Nat.mul_lt_mul_of_pos_right hi (Nat.two_pow_pos a)
    have h2 : 2 ^ mag.log2 * 2 ^ a ≤ mag * 2 ^ a := Nat.mul_le_mul_right _ lo
    rw [← Nat.pow_add] at h1 h2
    have h3 : 2 ^ (mag.log2 + 1 + a) ≤ 2 ^ 53 := Nat.pow_le_pow_right (by omega) (by omega)
    refine ⟨by omega, ?_⟩
    by_cases hE : last = -1074
    · exact .inl hE
    · right
      have h4 : mag.log2 + a = 52 := by omega
      rw [h4] at h2
      omega
  · have ha : (place - last).toNat = 0 := by omega
    rw [ha, Nat.pow_zero, Nat.mul_one]
    generalize hd : (last - place).toNat = d
    have c := cut_near s mag d
    generalize Toward.even.cut s mag d = k at *
    have hg : 0 < 2 ^ d := Nat.two_pow_pos d
    have h1 : 2 ^ (mag.log2 + 1) ≤ 2 ^ (53 + d) := Nat.pow_le_pow_right (by omega) (by omega)
    rw [Nat.pow_add 2 53 d] at h1
    constructor
    · apply Nat.le_of_not_lt
      intro hk
      have := Nat.mul_le_mul_right (2 ^ d) (show 9007199254740992 + 1 ≤ k from hk)
      rw [Nat.add_mul] at this
      omega
    · by_cases hE : last = -1074
      · exact .inl hE
      · right
        have h4 : mag.log2 = 52 + d := by omega
        rw [h4, Nat.pow_add] at lo
        apply Nat.le_of_not_lt
        intro hk
        have := Nat.mul_le_mul_right (2 ^ d) (show k + 1 ≤ 4503599627370496 from hk)
        rw [Nat.add_mul] at this
        omega

theorem nat_mul_cast (a b : Nat) : ((a * b : Nat) : Rat) = (a : Rat) * (b : Rat) := Rat.natCast_mul a b

theorem rat_scale {x y c : Rat} (hc : 0 < c) (h : x ≤ y) : x * c ≤ y * c := Rat.mul_le_mul_of_nonneg_right h (Rat.le_of_lt hc)

/-- Rounding to the nearest word. -/
theorem nearest_near (s : Bool) (mag : Nat) (place last : Int) (hm : mag ≠ 0) (hl : last = max (place + mag.log2 - 52) (-1074)) (ho : place + mag.log2 ≤ 1022) :
    ∃ k : Nat, V (double.nearest s mag place) = some (sg s ((k : Rat) * 2 ^ last)) ∧ k ≤ 9007199254740992 ∧
      2 * ((k : Rat) * 2 ^ last) ≤ 2 * ((mag : Rat) * 2 ^ place) + 2 ^ last ∧ 2 * ((mag : Rat) * 2 ^ place) ≤ 2 * ((k : Rat) * 2 ^ last) + 2 ^ last := by
  have kb := kept_bounds s mag place last hm hl
  have c := cut_near s (mag <<< (place - last).toNat) (last - place).toNat
  have hn : double.nearest s mag place = double.word s (min ((last + 1074).toNat * 4503599627370496 + Toward.even.cut s (mag <<< (place - last).toNat) (last - place).toNat) 9218868437227405312) := by
    unfold Format.nearest
    rw [if_neg hm, double_fb, double_lp, double_bn, double_ir]
    have e : max (place + (mag.log2 : Int) - ((52 : Nat) : Int)) (-1074) = last := hl.symm
    rw [e]
    have e2 : last - -1074 = last + 1074 := by omega
    dsimp only
    rw [e2]
  generalize Toward.even.cut s (mag <<< (place - last).toNat) (last - place).toNat = k at *
  have hlast : last ≤ 970 := by omega
  rw [Nat.min_eq_left (by omega)] at hn
  refine ⟨k, ?_, kb.1, ?_⟩
  · rw [hn, val_rung s _ k kb.1 (by omega) (by omega)]
    have e : (((last + 1074).toNat : Nat) : Int) - 1074 = last := by omega
    rw [e]
  · rw [Nat.shiftLeft_eq] at c
    have hp := zpow_pos (min place last)
    obtain ⟨c1, c2⟩ := c
    have d1 : (2 : Rat) * ((k : Rat) * ((2 ^ (last - place).toNat : Nat) : Rat)) ≤ 2 * ((mag : Rat) * ((2 ^ (place - last).toNat : Nat) : Rat)) + ((2 ^ (last - place).toNat : Nat) : Rat) := by exact_mod_cast c1
    have d2 : (2 : Rat) * ((mag : Rat) * ((2 ^ (place - last).toNat : Nat) : Rat)) ≤ 2 * ((k : Rat) * ((2 ^ (last - place).toNat : Nat) : Rat)) + ((2 ^ (last - place).toNat : Nat) : Rat) := by exact_mod_cast c2
    rw [← zpow_nat, ← zpow_nat] at d1 d2
    have e1 : (2 : Rat) ^ (((last - place).toNat : Nat) : Int) * 2 ^ (min place last) = 2 ^ last := by rw [← zpow_add]; congr 1; omega
    have e2 : (2 : Rat) ^ (((place - last).toNat : Nat) : Int) * 2 ^ (min place last) = 2 ^ place := by rw [← zpow_add]; congr 1; omega
    have f1 := rat_scale hp d1
    have f2 := rat_scale hp d2
    generalize (2 : Rat) ^ (((last - place).toNat : Nat) : Int) = x at *
    generalize (2 : Rat) ^ (((place - last).toNat : Nat) : Int) = y at *
    generalize (2 : Rat) ^ (min place last) = z at *
    rw [← e1, ← e2]
    constructor <;> grind

def ab (q : Rat) : Rat := if q < 0 then -q else q
theorem ab_nonneg (q : Rat) : 0 ≤ ab q := by unfold ab; split <;> grind
theorem ab_sg (s : Bool) {m : Rat} (h : 0 ≤ m) : ab (sg s m) = m := by unfold ab sg; cases s <;> simp <;> grind

/-- r is q, rounded. -/
structure Rnd (r q : Rat) : Prop where
  lo : r - q ≤ ab q * 2 ^ (-53 : Int) + 2 ^ (-1075 : Int)
  hi : q - r ≤ ab q * 2 ^ (-53 : Int) + 2 ^ (-1075 : Int)
  exact : ∀ n E : Int, n.natAbs ≤ 9007199254740992 → -1074 ≤ E → q = (n : Rat) * 2 ^ E → r = q

theorem half (a : Int) : (2 : Rat) ^ a = 2 * 2 ^ (a - 1) := by
  have e : a = 1 + (a - 1) := by omega
  have h : (2 : Rat) ^ a = 2 ^ (1 + (a - 1)) := congrArg (fun z : Int => (2 : Rat) ^ z) e
  rw [h, zpow_add, pow_one']

theorem nat_of_int {n : Int} {E : Int} {s : Bool} {m : Rat} (hm : 0 ≤ m) (h : sg s m = (n : Rat) * 2 ^ E) : m = (n.natAbs : Rat) * 2 ^ E := by
  have hp := zpow_pos E
  have hc : ((n.natAbs : Nat) : Rat) = (n : Rat) ∨ ((n.natAbs : Nat) : Rat) = -(n : Rat) := by
    rcases Int.natAbs_eq n with h | h
    · left; rw [← Rat.intCast_natCast, ← h]
    · right
      have : (n : Rat) = ((-(n.natAbs : Int) : Int) : Rat) := congrArg _ h
      rw [this, Rat.intCast_neg, Rat.intCast_natCast]; grind
  have hn : (0 : Rat) ≤ (n.natAbs : Rat) := Rat.natCast_nonneg
  have hq : (0 : Rat) ≤ (n.natAbs : Rat) * 2 ^ E := Rat.mul_nonneg hn (Rat.le_of_lt hp)
  unfold sg at h
  cases s <;> simp at h <;> rcases hc with hc | hc <;> rw [hc] at hq ⊢ <;> grind

theorem nearest_rnd (s : Bool) (mag : Nat) (place : Int) (ho : mag ≠ 0 → place + mag.log2 ≤ 1022) :
    ∃ r, V (double.nearest s mag place) = some r ∧ Rnd r (sg s ((mag : Rat) * 2 ^ place)) := by
  by_cases hm : mag = 0
  · subst hm
    refine ⟨0, ?_, ?_⟩
    · have h : double.nearest s 0 place = double.word s (0 * 4503599627370496 + 0) := by unfold Format.nearest; rw [if_pos rfl]
      rw [h, val_rung s 0 0 (by omega) (.inl rfl) (by omega)]
      have e : ((0 : Nat) : Rat) = 0 := rfl
      rw [e, Rat.zero_mul]; cases s <;> rfl
    · have e : sg s (((0 : Nat) : Rat) * 2 ^ place) = 0 := by
        have e : ((0 : Nat) : Rat) = 0 := rfl
        rw [e, Rat.zero_mul]; cases s <;> rfl
      rw [e]
      have h1 := zpow_pos (-1075)
      have h2 : ab 0 = 0 := by unfold ab; split <;> grind
      exact ⟨by rw [h2]; grind, by rw [h2]; grind, fun _ _ _ _ _ => rfl⟩
  · obtain ⟨k, hV, hk, n1, n2⟩ := nearest_near s mag place _ hm rfl (ho hm)
    generalize hl : max (place + (mag.log2 : Int) - 52) (-1074) = last at *
    refine ⟨_, hV, ?_⟩
    have hmp : (0 : Rat) ≤ (mag : Rat) * 2 ^ place := Rat.mul_nonneg Rat.natCast_nonneg (Rat.le_of_lt (zpow_pos place))
    -- 2^last is at most m 2^-52 + 2^-1074
    have hlo : (2 : Rat) ^ (place + mag.log2) ≤ (mag : Rat) * 2 ^ place := by
      rw [zpow_add, zpow_nat, Rat.mul_comm]
      exact rat_scale (zpow_pos place) (by exact_mod_cast Nat.log2_self_le hm)
    have hu : (2 : Rat) ^ last ≤ ((mag : Rat) * 2 ^ place) * 2 ^ (-52 : Int) + 2 ^ (-1074 : Int) := by
      have p1 := zpow_pos (-1074)
      have p2 := zpow_pos (-52)
      have p3 := Rat.mul_nonneg hmp (Rat.le_of_lt p2)
      rcases Int.le_total (-1074) (place + mag.log2 - 52) with h | h
      · have e : last = (place + mag.log2) + (-52) := by omega
        rw [e, zpow_add]
        have := rat_scale p2 hlo
        grind
      · have e : last = -1074 := by omega
        rw [e]; grind
    have h52 := half (-52)
    have h1074 := half (-1074)
    have e53 : (-52 : Int) - 1 = -53 := by omega
    have e1075 : (-1074 : Int) - 1 = -1075 := by omega
    rw [e53] at h52
    rw [e1075] at h1074
    rw [h52, h1074] at hu
    refine ⟨?_, ?_, ?_⟩
    · rw [ab_sg s hmp]
      generalize (2 : Rat) ^ (-53 : Int) = a at *
      generalize (2 : Rat) ^ (-1075 : Int) = b at *
      generalize (mag : Rat) * 2 ^ place = m at *
      generalize (k : Rat) * 2 ^ last = t at *
      unfold sg; cases s <;> simp <;> grind
    · rw [ab_sg s hmp]
      generalize (2 : Rat) ^ (-53 : Int) = a at *
      generalize (2 : Rat) ^ (-1075 : Int) = b at *
      generalize (mag : Rat) * 2 ^ place = m at *
      generalize (k : Rat) * 2 ^ last = t at *
      unfold sg; cases s <;> simp <;> grind
    · intro n E hn hE hq
      congr 1
      have hmn := nat_of_int hmp hq
      -- m = j * 2^last for a whole j
      have main : ∀ (j : Nat) (F : Int), j < 9007199254740992 → -1074 ≤ F → (mag : Rat) * 2 ^ place = (j : Rat) * 2 ^ F → (k : Rat) * 2 ^ last = (mag : Rat) * 2 ^ place := by
        intro j F hj hF hjF
        have hle : last ≤ F := by
          apply Int.not_lt.1
          intro hlt
          have e : place + (mag.log2 : Int) = last + 52 := by omega
          rw [e, hjF] at hlo
          have e2 : last + 52 = (last - F - 1).toNat + (53 + F) := by omega
          rw [e2, zpow_add, zpow_add, zpow_nat] at hlo
          have h1 : (1 : Rat) ≤ ((2 ^ (last - F - 1).toNat : Nat) : Rat) := by exact_mod_cast Nat.one_le_two_pow
          have h2 := zpow_pos F
          have h3 : (2 : Rat) ^ (53 : Int) = 9007199254740992 := by decide
          rw [h3] at hlo
          have h4 : ((j : Nat) : Rat) + 1 ≤ 9007199254740992 := by exact_mod_cast hj
          have h5 := rat_scale h2 h4
          have h6 : (0 : Rat) < 9007199254740992 * 2 ^ F := Rat.mul_pos (by decide) h2
          have h7 := rat_scale h6 h1
          generalize ((2 ^ (last - F - 1).toNat : Nat) : Rat) = a at *
          generalize (2 : Rat) ^ F = b at *
          grind
        have e2 : F = (F - last).toNat + last := by omega
        rw [e2, zpow_add, zpow_nat] at hjF
        rw [hjF] at n1 n2 ⊢
        have hp := zpow_pos last
        have hz : k = j * 2 ^ (F - last).toNat := by
          have g1 : ((2 : Rat) * k) * 2 ^ last ≤ (2 * ((j * 2 ^ (F - last).toNat : Nat) : Rat) + 1) * 2 ^ last := by
            rw [nat_mul_cast]; grind
          have g2 : (2 * ((j * 2 ^ (F - last).toNat : Nat) : Rat)) * 2 ^ last ≤ ((2 : Rat) * k + 1) * 2 ^ last := by
            rw [nat_mul_cast]; grind
          have g1' := Rat.le_of_mul_le_mul_right g1 hp
          have g2' := Rat.le_of_mul_le_mul_right g2 hp
          have i1 : 2 * k ≤ 2 * (j * 2 ^ (F - last).toNat) + 1 := by exact_mod_cast g1'
          have i2 : 2 * (j * 2 ^ (F - last).toNat) ≤ 2 * k + 1 := by exact_mod_cast g2'
          omega
        rw [hz, nat_mul_cast, Rat.mul_assoc]
      by_cases hc : n.natAbs = 9007199254740992
      · refine main 4503599627370496 (E + 1) (by omega) (by omega) ?_
        rw [hmn, hc, zpow_add, pow_one', two53]
      · exact main _ E (by omega) hE hmn

theorem zpow_le {a b : Int} (h : a ≤ b) : (2 : Rat) ^ a ≤ 2 ^ b := by
  have e : b = (b - a).toNat + a := by omega
  rw [e, zpow_add, zpow_nat]
  have h1 : (1 : Rat) ≤ ((2 ^ (b - a).toNat : Nat) : Rat) := by exact_mod_cast Nat.one_le_two_pow
  have h2 := rat_scale (zpow_pos a) h1
  grind
theorem zpow_lt_iff {a b : Int} (h : (2 : Rat) ^ a < 2 ^ b) : a < b := by
  apply Int.not_le.1
  intro hc
  have := zpow_le hc
  grind

theorem write_rnd (s : Bool) (mag : Nat) (place : Int) (h : (mag : Rat) * 2 ^ place < 2 ^ (1023 : Int)) :
    ∃ r, V (double.write (.number s mag place)) = some r ∧ Rnd r (sg s ((mag : Rat) * 2 ^ place)) := by
  refine nearest_rnd s mag place fun hm => ?_
  have hlo : (2 : Rat) ^ (place + mag.log2) ≤ (mag : Rat) * 2 ^ place := by
    rw [zpow_add, zpow_nat, Rat.mul_comm]
    exact rat_scale (zpow_pos place) (by exact_mod_cast Nat.log2_self_le hm)
  have := zpow_lt_iff (a := place + mag.log2) (b := 1023) (by grind)
  omega

theorem shl_val (m k : Nat) (b : Int) : ((m <<< k : Nat) : Rat) * 2 ^ b = (m : Rat) * 2 ^ (b + k) := by
  rw [Nat.shiftLeft_eq, nat_mul_cast, zpow_add, zpow_nat]; grind

theorem signed_val (s : Bool) (m k : Nat) (b : Int) : ((signed s m k : Int) : Rat) * 2 ^ b = sg s ((m : Rat) * 2 ^ (b + k)) := by
  rw [← shl_val]
  unfold signed sg
  cases s
  · simp only [Bool.false_eq_true, if_false]; rw [Rat.intCast_natCast]
  · simp only [if_true]; rw [Rat.intCast_neg, Rat.intCast_natCast]; grind

theorem natAbs_val (t : Int) : (t.natAbs : Rat) = if t < 0 then -(t : Rat) else (t : Rat) := by
  split
  · have h : (t.natAbs : Int) = -t := by omega
    have := congrArg (fun z : Int => (z : Rat)) h
    rw [Rat.intCast_natCast, Rat.intCast_neg] at this; exact this
  · have h : (t.natAbs : Int) = t := by omega
    have := congrArg (fun z : Int => (z : Rat)) h
    rw [Rat.intCast_natCast] at this; exact this

theorem sum_val {x y : Datum} {p q : Rat} (hx : dval x = some p) (hy : dval y = some q) :
    ∃ s m e, x.sum y = some (.number s m e) ∧ sg s ((m : Rat) * 2 ^ e) = p + q := by
  cases x with
  | number s m i =>
    cases y with
    | number t n j =>
      refine ⟨_, _, _, rfl, ?_⟩
      simp only [dval, Option.some.injEq] at hx hy
      subst hx; subst hy
      have h1 := signed_val s m (i - min i j).toNat (min i j)
      have h2 := signed_val t n (j - min i j).toNat (min i j)
      have e1 : min i j + ((i - min i j).toNat : Int) = i := by omega
      have e2 : min i j + ((j - min i j).toNat : Int) = j := by omega
      rw [e1] at h1
      rw [e2] at h2
      rw [← h1, ← h2]
      generalize signed s m (i - min i j).toNat = a
      generalize signed t n (j - min i j).toNat = b
      have e3 : (a : Rat) * 2 ^ (min i j) + (b : Rat) * 2 ^ (min i j) = ((a + b : Int) : Rat) * 2 ^ (min i j) := by rw [Rat.intCast_add]; grind
      rw [e3]
      generalize a + b = c
      rw [natAbs_val]
      have hz : ((0 : Int) : Rat) = 0 := rfl
      by_cases h0 : c = 0
      · subst h0
        rw [if_pos rfl, if_neg (by omega), hz, Rat.zero_mul]
        cases (s && t) <;> rfl
      · rw [if_neg h0]
        by_cases hn : c < 0
        · simp only [hn, if_true, decide_true, sg]; grind
        · simp only [hn, if_false, decide_false, sg]; grind
    | _ => cases hy
  | _ => cases hx

theorem opp_val {x : Datum} {p : Rat} (hx : dval x = some p) : dval x.opposite = some (-p) := by
  cases x with
  | number s m i =>
    simp only [dval, Option.some.injEq] at hx
    subst hx
    simp only [Datum.opposite, dval]
    cases s <;> simp [sg]
  | _ => cases hx

theorem product_val {x y : Datum} {p q : Rat} (hx : dval x = some p) (hy : dval y = some q) :
    ∃ s m e, x.product y = some (.number s m e) ∧ sg s ((m : Rat) * 2 ^ e) = p * q := by
  cases x with
  | number s m i =>
    cases y with
    | number t n j =>
      refine ⟨_, _, _, rfl, ?_⟩
      simp only [dval, Option.some.injEq] at hx hy
      subst hx; subst hy
      rw [nat_mul_cast, zpow_add]
      cases s <;> cases t <;> simp [sg] <;> grind
    | _ => cases hy
  | _ => cases hx

theorem ab_lt {q c : Rat} (h : ab q < c) : -c < q ∧ q < c := by unfold ab at h; split at h <;> grind
theorem sg_lt {s : Bool} {m c q : Rat} (h : sg s m = q) (hq : ab q < c) : m < c := by
  have := ab_lt hq
  subst h
  unfold sg at this; cases s <;> simp at this <;> grind

/-- x + y, x - y, x * y of finite words: rounded. -/
theorem add_rnd {x y : Nat} {p q : Rat} (hx : V x = some p) (hy : V y = some q) (h : ab (p + q) < 2 ^ (1023 : Int)) :
    ∃ z r, double.add x y = some z ∧ V z = some r ∧ Rnd r (p + q) := by
  obtain ⟨s, m, e, hs, hv⟩ := sum_val hx hy
  obtain ⟨r, hr, hR⟩ := write_rnd s m e (sg_lt hv h)
  rw [hv] at hR
  exact ⟨_, r, by unfold Format.add; rw [hs]; rfl, hr, hR⟩
theorem sub_rnd {x y : Nat} {p q : Rat} (hx : V x = some p) (hy : V y = some q) (h : ab (p - q) < 2 ^ (1023 : Int)) :
    ∃ z r, double.sub x y = some z ∧ V z = some r ∧ Rnd r (p - q) := by
  have e0 : p - q = p + -q := by grind
  rw [e0] at h ⊢
  obtain ⟨s, m, e, hs, hv⟩ := sum_val hx (opp_val hy)
  obtain ⟨r, hr, hR⟩ := write_rnd s m e (sg_lt hv h)
  rw [hv] at hR
  exact ⟨_, r, by unfold Format.sub; rw [hs]; rfl, hr, hR⟩
theorem mul_rnd {x y : Nat} {p q : Rat} (hx : V x = some p) (hy : V y = some q) (h : ab (p * q) < 2 ^ (1023 : Int)) :
    ∃ z r, double.mul x y = some z ∧ V z = some r ∧ Rnd r (p * q) := by
  obtain ⟨s, m, e, hs, hv⟩ := product_val hx hy
  obtain ⟨r, hr, hR⟩ := write_rnd s m e (sg_lt hv h)
  rw [hv] at hR
  exact ⟨_, r, by unfold Format.mul; rw [hs]; rfl, hr, hR⟩

theorem compare_scale (a b : Int) {c : Rat} (hc : 0 < c) : compare a b = if (a : Rat) * c < (b : Rat) * c then .lt else if (a : Rat) * c = (b : Rat) * c then .eq else .gt := by
  rcases Int.lt_trichotomy a b with h | h | h
  · have h1 : (a : Rat) < (b : Rat) := by exact_mod_cast h
    have h2 := Rat.mul_lt_mul_of_pos_right h1 hc
    rw [if_pos h2]; exact Int.compare_eq_lt.2 h
  · subst h
    rw [if_neg (Rat.lt_irrefl), if_pos rfl]; exact Int.compare_eq_eq.2 rfl
  · have h1 : (b : Rat) < (a : Rat) := by exact_mod_cast h
    have h2 := Rat.mul_lt_mul_of_pos_right h1 hc
    rw [if_neg (by grind), if_neg (by grind)]; exact Int.compare_eq_gt.2 h

/-- How two finite words stand to each other. -/
theorem order_val {x y : Nat} {p q : Rat} (hx : V x = some p) (hy : V y = some q) :
    double.order x y = some (if p < q then .lt else if p = q then .eq else .gt) := by
  unfold Format.order
  unfold V at hx hy
  generalize double.read x = a at *
  generalize double.read y = b at *
  cases a with
  | number s m i =>
    cases b with
    | number t n j =>
      simp only [dval, Option.some.injEq] at hx hy
      have h1 := signed_val s m (i - min i j).toNat (min i j)
      have h2 := signed_val t n (j - min i j).toNat (min i j)
      have e1 : min i j + ((i - min i j).toNat : Int) = i := by omega
      have e2 : min i j + ((j - min i j).toNat : Int) = j := by omega
      rw [e1] at h1
      rw [e2] at h2
      simp only [Datum.order]
      rw [compare_scale _ _ (zpow_pos (min i j)), h1, h2, hx, hy]
    | _ => cases hy
  | _ => cases hx

theorem order_eq {x y : Nat} {p q : Rat} (hx : V x = some p) (hy : V y = some q) : (double.order x y == some .eq) = decide (p = q) := by
  rw [order_val hx hy]
  by_cases h : p < q
  · rw [if_pos h, decide_eq_false (by grind)]; rfl
  · rw [if_neg h]
    by_cases h2 : p = q
    · rw [if_pos h2, decide_eq_true h2]; rfl
    · rw [if_neg h2, decide_eq_false h2]; rfl
theorem order_lt {x y : Nat} {p q : Rat} (hx : V x = some p) (hy : V y = some q) : (double.order x y == some .lt) = decide (p < q) := by
  rw [order_val hx hy]
  by_cases h : p < q
  · rw [if_pos h, decide_eq_true h]; rfl
  · rw [if_neg h, decide_eq_false h]
    by_cases h2 : p = q
    · rw [if_pos h2]; rfl
    · rw [if_neg h2]; rfl
theorem order_gt {x y : Nat} {p q : Rat} (hx : V x = some p) (hy : V y = some q) : (double.order x y == some .gt) = decide (q < p) := by
  rw [order_val hx hy]
  by_cases h : p < q
  · rw [if_pos h, decide_eq_false (by grind)]; rfl
  · rw [if_neg h]
    by_cases h2 : p = q
    · rw [if_pos h2, decide_eq_false (by grind)]; rfl
    · rw [if_neg h2, decide_eq_true (by grind)]; rfl

end Flt
