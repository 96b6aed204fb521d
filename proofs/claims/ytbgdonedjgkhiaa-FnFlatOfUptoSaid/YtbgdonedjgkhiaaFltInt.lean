/- Whole numbers among the floating ones: what is whole and in range, conversions both ways. -/
import Derived.Test.YtbgdonedjgkhiaaVmVal
namespace Flt
open Go Ieee Go.Vm

/-- x is the whole number n. -/
def I (x : Nat) (n : Int) : Prop := V x = some (n : Rat)

theorem zpow_zero' : (2 : Rat) ^ (0 : Int) = 1 := by decide
theorem ab_int_lt {n : Int} (h : n.natAbs ≤ 9007199254740992) : ab (n : Rat) < 2 ^ (1023 : Int) := by
  have h1 : ab (n : Rat) ≤ 9007199254740992 := by
    have g1 : n ≤ 9007199254740992 := by omega
    have g2 : -9007199254740992 ≤ n := by omega
    have c1 : ((9007199254740992 : Int) : Rat) = 9007199254740992 := rfl
    have c2 : ((-9007199254740992 : Int) : Rat) = -9007199254740992 := by rw [Rat.intCast_neg, c1]
    have g1' : (n : Rat) ≤ 9007199254740992 := by rw [← c1]; exact Rat.intCast_le_intCast.2 g1
    have g2' : (-9007199254740992 : Rat) ≤ (n : Rat) := by rw [← c2]; exact Rat.intCast_le_intCast.2 g2
    unfold ab; split <;> grind
  have h2 : (2 : Rat) ^ (53 : Int) ≤ 2 ^ (1023 : Int) := zpow_le (by omega)
  have h4 : (2 : Rat) ^ (53 : Int) < 2 ^ (1023 : Int) := by
    have : (2 : Rat) ^ (54 : Int) ≤ 2 ^ (1023 : Int) := zpow_le (by omega)
    have e : (2 : Rat) ^ (54 : Int) = 18014398509481984 := by decide
    have e3 : (2 : Rat) ^ (53 : Int) = 9007199254740992 := by decide
    grind
  have e3 : (2 : Rat) ^ (53 : Int) = 9007199254740992 := by decide
  grind
theorem Rnd.int {r : Rat} {n : Int} (h : Rnd r (n : Rat)) (hn : n.natAbs ≤ 9007199254740992) : r = (n : Rat) :=
  h.exact n 0 hn (by omega) (by rw [zpow_zero']; grind)

theorem add_int {x y : Nat} {m n : Int} (hx : I x m) (hy : I y n) (h : (m + n).natAbs ≤ 9007199254740992) : ∃ z, floatBits .add .f64 x y = some z ∧ I z (m + n) := by
  have e : (m : Rat) + (n : Rat) = ((m + n : Int) : Rat) := (Rat.intCast_add m n).symm
  obtain ⟨z, r, hz, hr, hR⟩ := add_rnd hx hy (by rw [e]; exact ab_int_lt h)
  rw [e] at hR
  exact ⟨z, hz, by rw [I, hr, hR.int h]⟩
theorem sub_int {x y : Nat} {m n : Int} (hx : I x m) (hy : I y n) (h : (m - n).natAbs ≤ 9007199254740992) : ∃ z, floatBits .sub .f64 x y = some z ∧ I z (m - n) := by
  have e : (m : Rat) - (n : Rat) = ((m - n : Int) : Rat) := (Rat.intCast_sub m n).symm
  obtain ⟨z, r, hz, hr, hR⟩ := sub_rnd hx hy (by rw [e]; exact ab_int_lt h)
  rw [e] at hR
  exact ⟨z, hz, by rw [I, hr, hR.int h]⟩
theorem mul_int {x y : Nat} {m n : Int} (hx : I x m) (hy : I y n) (h : (m * n).natAbs ≤ 9007199254740992) : ∃ z, floatBits .mul .f64 x y = some z ∧ I z (m * n) := by
  have e : (m : Rat) * (n : Rat) = ((m * n : Int) : Rat) := (Rat.intCast_mul m n).symm
  obtain ⟨z, r, hz, hr, hR⟩ := mul_rnd hx hy (by rw [e]; exact ab_int_lt h)
  rw [e] at hR
  exact ⟨z, hz, by rw [I, hr, hR.int h]⟩

theorem sg_natAbs (n : Int) : sg (decide (n < 0)) ((n.natAbs : Rat) * 2 ^ (0 : Int)) = (n : Rat) := by
  rw [zpow_zero', natAbs_val]
  by_cases h : n < 0
  · simp only [h, decide_true, sg, if_true]; grind
  · simp only [h, decide_false, sg, if_false]; simp
theorem ofInt_int {n : Int} (h : n.natAbs ≤ 9007199254740992) : I (ofInt n) n := by
  have hm := sg_natAbs n
  have hlt := sg_lt hm (ab_int_lt h)
  obtain ⟨r, hr, hR⟩ := write_rnd (decide (n < 0)) n.natAbs 0 hlt
  rw [hm] at hR
  have e : ofInt n = double.write (.number (decide (n < 0)) n.natAbs 0) := rfl
  rw [I, e, hr, hR.int h]

theorem feq_int {x y : Nat} {m n : Int} (hx : I x m) (hy : I y n) : feq x y = decide (m = n) := by
  unfold feq
  rw [order_eq hx hy]
  congr 1
  exact propext ⟨fun h => by exact_mod_cast h, fun h => by rw [h]⟩
theorem flt_int {x y : Nat} {m n : Int} (hx : I x m) (hy : I y n) : Vm.flt x y = decide (m < n) := by
  unfold Vm.flt
  rw [order_lt hx hy]
  congr 1
  exact propext ⟨fun h => by exact_mod_cast h, fun h => by exact_mod_cast h⟩
theorem fgt_int {x y : Nat} {m n : Int} (hx : I x m) (hy : I y n) : fgt x y = decide (n < m) := by
  unfold fgt
  rw [order_gt hx hy]
  congr 1
  exact propext ⟨fun h => by exact_mod_cast h, fun h => by exact_mod_cast h⟩
theorem fle_int {x y : Nat} {m n : Int} (hx : I x m) (hy : I y n) : fle x y = decide (m ≤ n) := by
  unfold fle
  have h1 := flt_int hx hy
  have h2 := feq_int hx hy
  unfold Vm.flt at h1
  unfold feq at h2
  rw [h1, h2, ← Bool.decide_or]
  congr 1
  exact propext (by omega)
theorem fge_int {x y : Nat} {m n : Int} (hx : I x m) (hy : I y n) : fge x y = decide (n ≤ m) := by
  unfold fge
  have h1 := fgt_int hx hy
  have h2 := feq_int hx hy
  unfold fgt at h1
  unfold feq at h2
  rw [h1, h2, ← Bool.decide_or]
  congr 1
  exact propext (by omega)

/-! ### Cutting towards zero -/
theorem cut_zero (s : Bool) (n d : Nat) : Toward.zero.cut s n d = n / 2 ^ d := by
  unfold Toward.cut
  dsimp only
  rw [Nat.one_shiftLeft]
  by_cases hd : d ≤ n.log2 + 2
  · rw [Nat.min_eq_left hd]; rfl
  · rw [Nat.min_eq_right (by omega)]
    have h1 : n < 2 ^ (n.log2 + 1) := Nat.lt_log2_self
    have h2 : 2 ^ (n.log2 + 1) ≤ 2 ^ (n.log2 + 2) := Nat.pow_le_pow_right (by omega) (by omega)
    have h3 : 2 ^ (n.log2 + 2) ≤ 2 ^ d := Nat.pow_le_pow_right (by omega) (by omega)
    rw [Nat.div_eq_of_lt (by omega), Nat.div_eq_of_lt (by omega)]; rfl

theorem trunc_le (m : Nat) (i : Int) : (((m <<< i.toNat) / 2 ^ (-i).toNat : Nat) : Rat) ≤ (m : Rat) * 2 ^ i := by
  have h := Nat.div_mul_le_self (m <<< i.toNat) (2 ^ (-i).toNat)
  rw [Nat.shiftLeft_eq] at h ⊢
  generalize hq : m * 2 ^ i.toNat / 2 ^ (-i).toNat = q at *
  have h' : (q : Rat) * ((2 ^ (-i).toNat : Nat) : Rat) ≤ (m : Rat) * ((2 ^ i.toNat : Nat) : Rat) := by exact_mod_cast h
  rw [← zpow_nat, ← zpow_nat] at h'
  have e1 : (2 : Rat) ^ (((-i).toNat : Nat) : Int) * 2 ^ (min i 0) = 1 := by
    rw [← zpow_add]; have : (((-i).toNat : Nat) : Int) + min i 0 = 0 := by omega
    rw [this, zpow_zero']
  have e2 : (2 : Rat) ^ ((i.toNat : Nat) : Int) * 2 ^ (min i 0) = 2 ^ i := by rw [← zpow_add]; congr 1; omega
  have f := rat_scale (zpow_pos (min i 0)) h'
  generalize (2 : Rat) ^ (((-i).toNat : Nat) : Int) = a at *
  generalize (2 : Rat) ^ ((i.toNat : Nat) : Int) = b at *
  generalize (2 : Rat) ^ (min i 0) = c at *
  have g : (q : Rat) = (q : Rat) * a * c := by rw [Rat.mul_assoc, e1, Rat.mul_one]
  rw [← e2, g, ← Rat.mul_assoc]
  exact f
theorem trunc_eq (m : Nat) (i : Int) (t : Nat) (h : (m : Rat) * 2 ^ i = (t : Rat)) : (m <<< i.toNat) / 2 ^ (-i).toNat = t := by
  rw [Nat.shiftLeft_eq]
  have e : m * 2 ^ i.toNat = t * 2 ^ (-i).toNat := by
    have e1 : (2 : Rat) ^ i * 2 ^ (((-i).toNat : Nat) : Int) = 2 ^ ((i.toNat : Nat) : Int) := by rw [← zpow_add]; congr 1; omega
    have e2 : (m : Rat) * 2 ^ ((i.toNat : Nat) : Int) = (t : Rat) * 2 ^ (((-i).toNat : Nat) : Int) := by rw [← e1, ← h]; grind
    rw [zpow_nat, zpow_nat] at e2
    exact_mod_cast e2
  rw [e]
  exact Nat.mul_div_cancel _ (Nat.two_pow_pos _)

theorem f2i_int {x : Nat} {n : Int} (hx : I x n) (h1 : lo .i64 ≤ n) (h2 : n ≤ hi .i64) : floatToIntVal .f64 x .i64 = some n := by
  unfold floatToIntVal
  have hd : ∃ s m i, FloatKind.f64.decode x = .number s m i ∧ sg s ((m : Rat) * 2 ^ i) = (n : Rat) := by
    unfold I V at hx
    show ∃ s m i, double.read x = .number s m i ∧ _
    generalize double.read x = d at *
    cases d with
    | number s m i => exact ⟨s, m, i, rfl, by simpa [dval] using hx⟩
    | _ => cases hx
  obtain ⟨s, m, i, hd, hv⟩ := hd
  have hp : (0 : Rat) ≤ (m : Rat) * 2 ^ i := Rat.mul_nonneg Rat.natCast_nonneg (Rat.le_of_lt (zpow_pos i))
  have hna := nat_of_int (n := n) (E := 0) hp (by rw [hv, zpow_zero', Rat.mul_one])
  rw [zpow_zero', Rat.mul_one] at hna
  have ht := trunc_eq m i _ hna
  have hi : (FloatKind.f64.decode x).toInt .zero = some n := by
    rw [hd]
    simp only [Datum.toInt, Datum.integral, cut_zero, ht]
    congr 1
    have hz := signed_val s n.natAbs 0 0
    rw [zpow_zero', Rat.mul_one] at hz
    have : ((signed s n.natAbs 0 : Int) : Rat) = (n : Rat) := by
      rw [hz, ← hv, hna]
      have : (2 : Rat) ^ ((0 : Int) + ((0 : Nat) : Int)) = 1 := by decide
      rw [this, Rat.mul_one]
    exact_mod_cast this
  rw [hi]
  have e1 : IntKind.i64.min = -9223372036854775808 := by decide
  have e2 : IntKind.i64.max = 9223372036854775807 := by decide
  simp only [lo, Vm.hi] at h1 h2
  dsimp only
  rw [if_pos ⟨by omega, by omega⟩]
end Flt
