/- Proved: bits of small numbers, and tables for steps of a Hilbert curve. -/
import Derived.Test.YtkajoiehicpnlaaDoorPHt
import Derived.Test.YtkajoiehicpnlaaDoorPureKit
namespace Go.Proofs.YtkajoiehicpnlaaDoor.Wk
open Go.Vm
theorem bit_nat {op : BinOp} {f : Nat → Nat → Nat} (h : ∀ a b : Nat, a < 2 ^ 63 → b < 2 ^ 63 → bits op .i64 (a : Int) (b : Int) = IntKind.i64.wrap ((f a b : Nat) : Int)) {a b : Int} (ha : 0 ≤ a ∧ a < 2 ^ 63) (hb : 0 ≤ b ∧ b < 2 ^ 63) {c : Nat} (hc : f a.toNat b.toNat = c) (hs : c < 2 ^ 63) : bits op .i64 a b = c := by
  have h1 := h a.toNat b.toNat (by omega) (by omega)
  rw [Int.toNat_of_nonneg ha.1, Int.toNat_of_nonneg hb.1, hc] at h1
  rw [h1]
  exact wrap_in .i64 _ (by simp only [lo]; omega) (by simp only [hi]; omega)
theorem ofInt_small {a : Nat} (h : a < 2 ^ 63) : (BitVec.ofInt 64 (a : Int)).toNat = a := by
  rw [BitVec.toNat_ofInt]
  omega
theorem bits_and (a b : Nat) (ha : a < 2 ^ 63) (hb : b < 2 ^ 63) : bits .and .i64 (a : Int) (b : Int) = IntKind.i64.wrap ((a &&& b : Nat) : Int) := by
  unfold bits
  show IntKind.i64.wrap (((BitVec.ofInt 64 (a : Int) &&& BitVec.ofInt 64 (b : Int)).toNat : Nat) : Int) = _
  rw [BitVec.toNat_and, ofInt_small ha, ofInt_small hb]
theorem bits_xor (a b : Nat) (ha : a < 2 ^ 63) (hb : b < 2 ^ 63) : bits .xor .i64 (a : Int) (b : Int) = IntKind.i64.wrap ((a ^^^ b : Nat) : Int) := by
  unfold bits
  show IntKind.i64.wrap (((BitVec.ofInt 64 (a : Int) ^^^ BitVec.ofInt 64 (b : Int)).toNat : Nat) : Int) = _
  rw [BitVec.toNat_xor, ofInt_small ha, ofInt_small hb]
theorem and_mask {a : Int} (h0 : 0 ≤ a) (h1 : a < 2 ^ 63) (m : Nat) (hm : m ≤ 62) : bits .and .i64 a (((2 ^ m - 1 : Nat) : Nat) : Int) = a % ((2 ^ m : Nat) : Int) := by
  have hp : 2 ^ m ≤ 2 ^ 62 := Nat.pow_le_pow_right (by decide) hm
  have hl := Nat.mod_lt a.toNat (Nat.two_pow_pos m)
  rw [bit_nat (f := (· &&& ·)) bits_and ⟨h0, h1⟩ (by omega) (c := a.toNat % 2 ^ m) (by rw [Int.toNat_natCast]; exact Nat.and_two_pow_sub_one_eq_mod ..) (by omega)]
  obtain ⟨n, rfl⟩ : ∃ n : Nat, a = n := ⟨a.toNat, by omega⟩
  rw [Int.toNat_natCast]
  rfl
theorem nat_xor_mask {x k : Nat} (h : x < 2 ^ k) : x ^^^ (2 ^ k - 1) = 2 ^ k - (x + 1) := by
  apply Nat.eq_of_testBit_eq
  intro i
  rw [Nat.testBit_xor, Nat.testBit_two_pow_sub_one, Nat.testBit_two_pow_sub_succ h]
  by_cases hi : i < k
  · simp [hi]
  · have : x.testBit i = false := Nat.testBit_lt_two_pow (Nat.lt_of_lt_of_le h (Nat.pow_le_pow_right (by decide) (by omega)))
    simp [hi, this]
theorem xor_mask {x : Int} {k : Nat} (hk : k ≤ 62) (h0 : 0 ≤ x) (h1 : x < 2 ^ k) : bits .xor .i64 x (2 ^ k - 1) = 2 ^ k - 1 - x := by
  have hp : 2 ^ k ≤ 2 ^ 62 := Nat.pow_le_pow_right (by decide) hk
  have e : ((2 : Int) ^ k) = ((2 ^ k : Nat) : Int) := by simp
  have hpos : 0 < 2 ^ k := Nat.two_pow_pos k
  rw [e] at h1 ⊢
  generalize hP : (2 : Nat) ^ k = P at *
  rw [bit_nat (f := (· ^^^ ·)) bits_xor (by omega) (by omega) (c := P - (x.toNat + 1)) (by
    rw [show ((P : Int) - 1).toNat = P - 1 by omega, ← hP]; exact nat_xor_mask (by omega)) (by omega)]
  omega
theorem idx0 {α : Type} (a : α) (l : List α) : idx (a :: l) (0 : Int) = some a := rfl
theorem idx1 {α : Type} (a b : α) (l : List α) : idx (a :: b :: l) (1 : Int) = some b := rfl
theorem idx2 {α : Type} (a b c : α) (l : List α) : idx (a :: b :: c :: l) (2 : Int) = some c := rfl
theorem idx3 {α : Type} (a b c d : α) (l : List α) : idx (a :: b :: c :: d :: l) (3 : Int) = some d := rfl
/-- What is told of the power of two. -/
structure Pw (k : Nat) (P : Int) : Prop where
  k62 : k ≤ 31
  eq : (2 : Int) ^ k = P
  pos : 1 ≤ P
  le : P ≤ 2147483648
  xor : ∀ v, 0 ≤ v → v < P → bits .xor .i64 v (P - 1) = P - 1 - v
  w0 : IntKind.i64.wrap (0 * P) = 0
  w1 : IntKind.i64.wrap (1 * P) = P
theorem pw (k : Nat) (h : k ≤ 31) : Pw k (2 ^ k) := by
  have h1 : (1 : Nat) ≤ 2 ^ k := Nat.one_le_two_pow
  have h2 : (2 : Nat) ^ k ≤ 2 ^ 31 := Nat.pow_le_pow_right (by decide) h
  have e : ((2 : Int) ^ k) = ((2 ^ k : Nat) : Int) := by simp
  refine ⟨h, rfl, by rw [e]; omega, by rw [e]; omega, fun v a b => xor_mask (by omega) a b, by rw [Int.zero_mul]; decide, ?_⟩
  rw [Int.one_mul, e]
  exact wrap_in .i64 _ (by simp only [lo]; omega) (by simp only [hi]; omega)
theorem bx0 : bits .xor .i64 (0 : Int) (0 : Int) = 0 := by decide
theorem bx1 : bits .xor .i64 (1 : Int) (0 : Int) = 1 := by decide
theorem bx2 : bits .xor .i64 (2 : Int) (1 : Int) = 3 := by decide
theorem bx3 : bits .xor .i64 (3 : Int) (1 : Int) = 2 := by decide
theorem bx4 : bits .xor .i64 (4 : Int) (2 : Int) = 6 := by decide
theorem bx5 : bits .xor .i64 (5 : Int) (2 : Int) = 7 := by decide
theorem bx6 : bits .xor .i64 (6 : Int) (3 : Int) = 5 := by decide
theorem bx7 : bits .xor .i64 (7 : Int) (3 : Int) = 4 := by decide
theorem bx8 : bits .xor .i64 (8 : Int) (4 : Int) = 12 := by decide
theorem bx9 : bits .xor .i64 (9 : Int) (4 : Int) = 13 := by decide
theorem bx10 : bits .xor .i64 (10 : Int) (5 : Int) = 15 := by decide
theorem bx11 : bits .xor .i64 (11 : Int) (5 : Int) = 14 := by decide
theorem bx12 : bits .xor .i64 (12 : Int) (6 : Int) = 10 := by decide
theorem bx13 : bits .xor .i64 (13 : Int) (6 : Int) = 11 := by decide
theorem bx14 : bits .xor .i64 (14 : Int) (7 : Int) = 9 := by decide
theorem bx15 : bits .xor .i64 (15 : Int) (7 : Int) = 8 := by decide
theorem ba0 : bits .and .i64 (0 : Int) (1 : Int) = 0 := by decide
theorem ba1 : bits .and .i64 (1 : Int) (1 : Int) = 1 := by decide
theorem ba2 : bits .and .i64 (2 : Int) (1 : Int) = 0 := by decide
theorem ba3 : bits .and .i64 (3 : Int) (1 : Int) = 1 := by decide
theorem ba4 : bits .and .i64 (4 : Int) (1 : Int) = 0 := by decide
theorem ba5 : bits .and .i64 (5 : Int) (1 : Int) = 1 := by decide
theorem ba6 : bits .and .i64 (6 : Int) (1 : Int) = 0 := by decide
theorem ba7 : bits .and .i64 (7 : Int) (1 : Int) = 1 := by decide
theorem ba8 : bits .and .i64 (8 : Int) (1 : Int) = 0 := by decide
theorem ba9 : bits .and .i64 (9 : Int) (1 : Int) = 1 := by decide
theorem ba10 : bits .and .i64 (10 : Int) (1 : Int) = 0 := by decide
theorem ba11 : bits .and .i64 (11 : Int) (1 : Int) = 1 := by decide
theorem ba12 : bits .and .i64 (12 : Int) (1 : Int) = 0 := by decide
theorem ba13 : bits .and .i64 (13 : Int) (1 : Int) = 1 := by decide
theorem ba14 : bits .and .i64 (14 : Int) (1 : Int) = 0 := by decide
theorem ba15 : bits .and .i64 (15 : Int) (1 : Int) = 1 := by decide
end Go.Proofs.YtkajoiehicpnlaaDoor.Wk
