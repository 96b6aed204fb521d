/- Proved: the digits of whole numbers, one by one, and the greatest of them. -/
import Derived.Test.YtohpmbodfpjjmaaDyd
import Derived.Test.YtohpmbodfpjjmaaFltSqrt
namespace Go.Proofs.Ytohpmbodfpjjmaa.Wk
open Go.Vm Limb
set_option linter.unusedVariables false
set_option linter.unusedSimpArgs false
theorem limb_get : ∀ (j n : Nat), (limbs n).getD j 0 = n / 4294967296 ^ j % 4294967296
  | 0, n => by
    by_cases h : n = 0
    · subst h; simp [limbs_zero]
    · rw [limbs_pos h]; simp
  | j + 1, n => by
    by_cases h : n = 0
    · subst h; simp [limbs_zero]
    · rw [limbs_pos h, List.getD_cons_succ, limb_get j, Nat.div_div_eq_div_mul, Nat.pow_succ, Nat.mul_comm (4294967296 ^ j)]
theorem bits_and32 {a c : Nat} (ha : a < 4294967296) (hc : c < 4294967296) : bits .and .u32 (a : Int) (c : Int) = ((a &&& c : Nat) : Int) := by
  unfold bits
  have e0 : (BitVec.ofInt 32 (a : Int) &&& BitVec.ofInt 32 (c : Int)).toNat = a &&& c := by
    rw [BitVec.toNat_and, BitVec.toNat_ofInt, BitVec.toNat_ofInt]
    have e : ∀ z : Nat, z < 4294967296 → ((z : Int) % ((2 ^ 32 : Nat) : Int)).toNat = z := fun z hz => by omega
    rw [e a ha, e c hc]
  show IntKind.u32.wrap (((BitVec.ofInt 32 (a : Int) &&& BitVec.ofInt 32 (c : Int)).toNat : Nat) : Int) = _
  rw [e0]
  have hle : a &&& c ≤ a := Nat.and_le_left
  rw [w32, Nat.mod_eq_of_lt (by omega)]
theorem pow32 (q : Nat) : 4294967296 ^ q = 2 ^ (32 * q) := by rw [Nat.pow_mul]
theorem bit_p (n : Int) (k : Nat) (hk : k < 1000000000) (hs : sz n < 1073741824) : p_Whole_bit (W n) (k : Int) = some (n.natAbs.testBit k) := by
  unfold p_Whole_bit
  rw [tdiv32, tmod32, W_len, cond_t (decide_eq_true (by omega)), need_pos ⟨by decide, in64 (by omega) (by omega)⟩]
  have hb : n.natAbs.testBit k = decide (n.natAbs / 4294967296 ^ (k / 32) % 4294967296 / 2 ^ (k % 32) % 2 = 1) := by
    rw [← Nat.testBit_eq_decide_div_mod_eq, show (4294967296 : Nat) = 2 ^ 32 from rfl, Nat.testBit_mod_two_pow, ← Nat.pow_mul, Nat.testBit_div_two_pow]
    have e : k % 32 + 32 * (k / 32) = k := by omega
    have e2 : 32 * (k / 32) + k % 32 = k := by omega
    have : decide (k % 32 < 32) = true := decide_eq_true (by omega)
    simp [this, e, e2]
  by_cases h : k / 32 < sz n
  · rw [cond_t (decide_eq_true (by omega)), need_pos ⟨by decide, in64 (by omega) (by omega)⟩]
    show (idx (nl (limbs n.natAbs)) ((k / 32 : Nat) : Int)).bind _ = _
    rw [idx_nl h, Option.bind_some]
    have hx := limb_get (k / 32) n.natAbs
    have hlt := okget (limbs_ok n.natAbs) (k / 32)
    rw [hx] at hlt ⊢
    rw [need_pos (by decide), need_pos ⟨⟨by omega, by simp only [IntKind.bits]; omega⟩, by omega⟩]
    have e1 : (((k % 32 : Nat) : Int)).toNat = k % 32 := by omega
    rw [e1, hb]
    generalize n.natAbs / 4294967296 ^ (k / 32) % 4294967296 = x at *
    have e2 : (x : Int) / 2 ^ (k % 32) = ((x / 2 ^ (k % 32) : Nat) : Int) := by rw [Int.natCast_ediv]; simp
    have e3 : x / 2 ^ (k % 32) < 4294967296 := Nat.lt_of_le_of_lt (Nat.div_le_self _ _) hlt
    have e4 := bits_and32 e3 (show 1 < 4294967296 by omega)
    rw [e2]
    have e5 : ((1 : Nat) : Int) = (1 : Int) := rfl
    rw [e5] at e4
    rw [e4, Nat.and_one_is_mod]
    congr 1
    generalize x / 2 ^ (k % 32) = y
    by_cases h1 : y % 2 = 1
    · rw [h1]; rfl
    · have : y % 2 = 0 := by omega
      rw [this]; rfl
  · rw [cond_f (decide_eq_false (by omega)), hb]
    have hlt := lt_sz n
    have h2 : n.natAbs < 4294967296 ^ (k / 32) := Nat.lt_of_lt_of_le hlt (Nat.pow_le_pow_right (by omega) (by omega))
    rw [Nat.div_eq_of_lt h2]
    simp
theorem bit_neg (a : TSpec_Whole) {k : Int} (hk : k < 0) : p_Whole_bit a k = some false := by
  unfold p_Whole_bit
  rw [cond_f (decide_eq_false (by omega))]
theorem low_p (n : Int) (hs : sz n < 1073741824) : ∀ (F : Nat) (i k : Nat), k - i < F → k < 1000000000 → ∃ o, iter (p_Whole_low_l2 (W n) (k : Int)) F (i : Int) = some o ∧ (o = .inl () ∨ o = .inr true)
  | 0, i, k, h, _ => by omega
  | F + 1, i, k, h, hk => by
    show ∃ o, p_Whole_low_l2 _ _ (iter (p_Whole_low_l2 _ _) F) _ = some o ∧ _
    unfold p_Whole_low_l2
    by_cases hik : i < k
    · rw [cond_t (decide_eq_true (by omega)), bit_p n i (by omega) hs, Option.bind_some]
      cases n.natAbs.testBit i with
      | true => exact ⟨_, rfl, .inr rfl⟩
      | false =>
        rw [cond_f rfl, need_pos (in64 (by omega) (by omega)), succ_cast]
        exact low_p n hs F (i + 1) k (by omega) hk
    · rw [cond_f (decide_eq_false (by omega))]
      exact ⟨_, rfl, .inl rfl⟩
theorem low_any (n : Int) (hs : sz n < 1073741824) {F k : Nat} (hF : k < F) (hk : k < 1000000000) : ∃ b, p_Whole_low F (W n) (k : Int) = some b := by
  obtain ⟨o, ho, h⟩ := low_p n hs F 0 k (by omega) hk
  unfold p_Whole_low
  have ho' : iter (p_Whole_low_l2 (W n) (k : Int)) F (0 : Int) = some o := ho
  rw [ho', Option.bind_some]
  rcases h with rfl | rfl
  · exact ⟨_, rfl⟩
  · exact ⟨_, rfl⟩
theorem top_loop : ∀ (k F x t : Nat), 2147483648 ≤ x * 2 ^ k → x < 4294967296 → k < F → k ≤ t → t < 1000000000000 →
    ∃ i, i ≤ k ∧ 2147483648 ≤ x * 2 ^ i ∧ x * 2 ^ i < 4294967296 ∧ iter p_Whole_top_l2 F ((t : Int), (x : Int)) = some (.inl ((t - i : Nat) : Int))
  | k, 0, x, t, _, _, h, _, _ => by omega
  | k, F + 1, x, t, h1, h2, hF, ht, ht2 => by
    by_cases hx : 2147483648 ≤ x
    · refine ⟨0, by omega, by omega, by omega, ?_⟩
      show p_Whole_top_l2 (iter p_Whole_top_l2 F) _ = _
      unfold p_Whole_top_l2
      rw [cond_f (decide_eq_false (by simp only; omega))]
      simp
    · have hk : k ≠ 0 := fun e => by subst e; simp at h1; omega
      obtain ⟨j, rfl⟩ : ∃ j, k = j + 1 := ⟨k - 1, by omega⟩
      have e : x * 2 ^ (j + 1) = 2 * x * 2 ^ j := by rw [Nat.pow_succ, Nat.mul_comm 2 x, Nat.mul_assoc, Nat.mul_comm 2]
      obtain ⟨i, i1, i2, i3, i4⟩ := top_loop j F (2 * x) (t - 1) (by rw [← e]; exact h1) (by omega) (by omega) (by omega) (by omega)
      have e2 : x * 2 ^ (i + 1) = 2 * x * 2 ^ i := by rw [Nat.pow_succ, Nat.mul_comm 2 x, Nat.mul_assoc, Nat.mul_comm 2]
      refine ⟨i + 1, by omega, by rw [e2]; exact i2, by rw [e2]; exact i3, ?_⟩
      show p_Whole_top_l2 (iter p_Whole_top_l2 F) _ = _
      generalize hK : iter p_Whole_top_l2 F = K at *
      unfold p_Whole_top_l2
      rw [cond_t (decide_eq_true (by simp only; omega))]
      dsimp only
      rw [need_pos (in64m (by omega) (by omega))]
      have e3 : IntKind.u32.wrap ((x : Int) * 2 ^ 1) = ((2 * x : Nat) : Int) := by
        have : (x : Int) * 2 ^ 1 = ((2 * x : Nat) : Int) := by omega
        rw [this, w32, Nat.mod_eq_of_lt (by omega)]
      have e4 : (t : Int) - 1 = ((t - 1 : Nat) : Int) := by omega
      rw [e3, e4, i4]
      congr 3
      omega
theorem top_p {n : Int} (hn : n ≠ 0) (hs : sz n < 1000000) {F : Nat} (hF : 40 < F) : ∃ T : Nat, p_Whole_top F (W n) = some (T : Int) ∧ 1 ≤ T ∧ 2 ^ (T - 1) ≤ n.natAbs ∧ n.natAbs < 2 ^ T ∧ T ≤ 32 * sz n := by
  have hN : n.natAbs ≠ 0 := by omega
  have hs0 : sz n ≠ 0 := fun e => by
    unfold sz at e
    exact hN (limbs_nil.1 (List.eq_nil_of_length_eq_zero e))
  obtain ⟨s, hsz⟩ : ∃ s, sz n = s + 1 := ⟨sz n - 1, by omega⟩
  have hlt := lt_sz n
  rw [hsz] at hlt
  have hge : 4294967296 ^ s ≤ n.natAbs := by
    apply Classical.byContradiction
    intro h
    have := sz_of (n := n) (m := s) (by omega)
    omega
  have hB : 0 < 4294967296 ^ s := Nat.pow_pos (by omega)
  obtain ⟨x, hx⟩ : ∃ x, x = n.natAbs / 4294967296 ^ s := ⟨_, rfl⟩
  have hx1 : 1 ≤ x := by rw [hx]; exact (Nat.one_le_div_iff hB).2 hge
  have hx2 : x < 4294967296 := by
    rw [hx]
    rw [Nat.pow_succ] at hlt
    exact Nat.div_lt_of_lt_mul hlt
  have hxm : x * 4294967296 ^ s ≤ n.natAbs := by rw [hx]; exact Nat.div_mul_le_self _ _
  have hxM : n.natAbs < (x + 1) * 4294967296 ^ s := by
    rw [hx]
    have := Nat.lt_mul_div_succ n.natAbs hB
    rw [Nat.mul_comm] at this; exact this
  obtain ⟨i, i1, i2, i3, i4⟩ := top_loop 31 F x (32 * (s + 1)) (by have := Nat.mul_le_mul_right (2 ^ 31) hx1; omega) hx2 (by omega) (by omega) (by omega)
  refine ⟨32 * (s + 1) - i, ?_, by omega, ?_, ?_, by rw [hsz]; omega⟩
  · unfold p_Whole_top
    rw [W_len, hsz, cond_f (decide_eq_false (by omega)), need_pos (in64m (by omega) (by omega)), need_pos (in64m (by omega) (by omega))]
    have e1 : ((s + 1 : Nat) : Int) - 1 = (s : Int) := by omega
    rw [e1]
    show (idx (nl (limbs n.natAbs)) (s : Int)).bind _ = _
    have hl : s < (limbs n.natAbs).length := by show s < sz n; omega
    rw [idx_nl hl, Option.bind_some, limb_get, ← hx, Nat.mod_eq_of_lt hx2]
    have e2 : (32 : Int) * ((s + 1 : Nat) : Int) = ((32 * (s + 1) : Nat) : Int) := by omega
    rw [e2, i4, Option.bind_some, aft_inl]
    rfl
  · have e : 2 ^ (32 * (s + 1) - i - 1) * 2 ^ i = 2147483648 * 4294967296 ^ s := by
      rw [pow32, show (2147483648 : Nat) = 2 ^ 31 from rfl, ← Nat.pow_add, ← Nat.pow_add]
      congr 1
      omega
    have h1 : 2147483648 * 4294967296 ^ s ≤ x * 2 ^ i * 4294967296 ^ s := Nat.mul_le_mul_right _ i2
    have h2 : x * 2 ^ i * 4294967296 ^ s = x * 4294967296 ^ s * 2 ^ i := by rw [Nat.mul_assoc, Nat.mul_comm (2 ^ i), ← Nat.mul_assoc]
    have h3 : x * 4294967296 ^ s * 2 ^ i ≤ n.natAbs * 2 ^ i := Nat.mul_le_mul_right _ hxm
    rw [h2, ← e] at h1
    exact Nat.le_of_mul_le_mul_right (Nat.le_trans h1 h3) (Nat.pow_pos (by omega))
  · have e : 2 ^ (32 * (s + 1) - i) * 2 ^ i = 4294967296 * 4294967296 ^ s := by
      rw [pow32, show (4294967296 : Nat) = 2 ^ 32 from rfl, ← Nat.pow_add, ← Nat.pow_add]
      congr 1
      omega
    have hd : x + 1 ≤ 2 ^ (32 - i) := by
      have e5 : 2 ^ (32 - i) * 2 ^ i = 4294967296 := by
        rw [← Nat.pow_add]
        have : 32 - i + i = 32 := by omega
        rw [this]
      have : x * 2 ^ i < 2 ^ (32 - i) * 2 ^ i := by omega
      exact Nat.lt_of_mul_lt_mul_right this
    have h1 : (x + 1) * 4294967296 ^ s * 2 ^ i ≤ 2 ^ (32 - i) * 4294967296 ^ s * 2 ^ i := Nat.mul_le_mul_right _ (Nat.mul_le_mul_right _ hd)
    have h2 : 2 ^ (32 - i) * 4294967296 ^ s * 2 ^ i = 2 ^ (32 * (s + 1) - i) * 2 ^ i := by
      rw [pow32, ← Nat.pow_add, ← Nat.pow_add, ← Nat.pow_add]
      congr 1
      omega
    rw [h2] at h1
    exact Nat.lt_of_lt_of_le hxM (Nat.le_of_mul_le_mul_right h1 (Nat.pow_pos (by omega)))
/-- the first i digits -/
def sh (N T i : Nat) : Nat := if i ≤ T then N / 2 ^ (T - i) else N * 2 ^ (i - T)
theorem div_bit (N k : Nat) : N / 2 ^ k = 2 * (N / 2 ^ (k + 1)) + (N.testBit k).toNat := by
  have e : N / 2 ^ (k + 1) = N / 2 ^ k / 2 := by rw [Nat.pow_succ, Nat.div_div_eq_div_mul]
  have hb : N.testBit k = decide (N / 2 ^ k % 2 = 1) := Nat.testBit_eq_decide_div_mod_eq
  rw [e, hb]
  generalize N / 2 ^ k = y
  by_cases h : y % 2 = 1
  · simp [h]; omega
  · simp [h]; omega
theorem sh_lt {N T i : Nat} (h : N < 2 ^ T) : sh N T i < 2 ^ i := by
  unfold sh
  split
  · rename_i hi
    have e : 2 ^ T = 2 ^ (T - i) * 2 ^ i := by rw [← Nat.pow_add]; congr 1; omega
    rw [e] at h
    exact Nat.div_lt_of_lt_mul h
  · rename_i hi
    have e : 2 ^ i = 2 ^ T * 2 ^ (i - T) := by rw [← Nat.pow_add]; congr 1; omega
    rw [e]
    exact (Nat.mul_lt_mul_right (Nat.pow_pos (by omega))).2 h
theorem mant_loop {n e : Int} {T : Nat} (hn : n ≠ 0) (hs : sz n < 1000000) {G : Nat} (hG : 40 < G) (hT : p_Whole_top G (W n) = some (T : Int)) (hTb : T ≤ 32 * sz n) (hlt : n.natAbs < 2 ^ T) (hnorm : ¬ (((T : Int) + e) + 1074 < 53)) : ∀ (F i : Nat), 53 - i < F → i ≤ 53 →
    iter (p_Dyadic_Float_l3 ⟨W n, e⟩ G (T : Int)) F ((sh n.natAbs T i : Int), (i : Int)) = some (.inl ((sh n.natAbs T 53 : Nat) : Int))
  | 0, i, h, _ => by omega
  | F + 1, i, h, hi => by
    have ih := mant_loop hn hs hG hT hTb hlt hnorm F
    show p_Dyadic_Float_l3 _ _ _ (iter (p_Dyadic_Float_l3 _ _ _) F) _ = _
    generalize hK : iter (p_Dyadic_Float_l3 ⟨W n, e⟩ G (T : Int)) F = K at *
    unfold p_Dyadic_Float_l3
    dsimp only
    rw [if_neg hnorm]
    by_cases hlt2 : i < 53
    · rw [cond_t (decide_eq_true (by omega)), hT, Option.bind_some, need_pos (in64m (by omega) (by omega)), need_pos (in64m (by omega) (by omega))]
      have hm := sh_lt (i := i) hlt
      have hm2 : 2 ^ i ≤ 2 ^ 52 := Nat.pow_le_pow_right (by omega) (by omega)
      have ew : IntKind.u64.wrap ((sh n.natAbs T i : Int) * 2 ^ 1) = ((2 * sh n.natAbs T i : Nat) : Int) := by
        have : (sh n.natAbs T i : Int) * 2 ^ 1 = ((2 * sh n.natAbs T i : Nat) : Int) := by omega
        rw [this, w64 (by omega)]
      rw [ew]
      have key : ∀ b : Bool, 2 * sh n.natAbs T i + b.toNat = sh n.natAbs T (i + 1) →
          ((cond b (need (inI .u64 (((2 * sh n.natAbs T i : Nat) : Int) + (1 : Int))) (need (inI .i64 ((i : Int) + (1 : Int))) (K ((((2 * sh n.natAbs T i : Nat) : Int) + (1 : Int)), ((i : Int) + (1 : Int))))))
            (need (inI .i64 ((i : Int) + (1 : Int))) (K (((2 * sh n.natAbs T i : Nat) : Int), ((i : Int) + (1 : Int))))))) = some (.inl ((sh n.natAbs T 53 : Nat) : Int)) := fun b hb => by
        have ih := ih (i + 1) (by omega) (by omega)
        cases b with
        | true =>
          have e5 : (i : Int) + 1 = ((i + 1 : Nat) : Int) := by omega
          rw [cond_t rfl, need_pos (inu64 (by omega) (by omega)), need_pos (in64m (by omega) (by omega)), e5]
          have : ((2 * sh n.natAbs T i : Nat) : Int) + 1 = (sh n.natAbs T (i + 1) : Int) := by
            simp only [Bool.toNat_true] at hb; omega
          rw [this]; exact ih
        | false =>
          rw [cond_f rfl, need_pos (in64m (by omega) (by omega)), succ_cast]
          have : 2 * sh n.natAbs T i = sh n.natAbs T (i + 1) := by simpa using hb
          rw [this]; exact ih
      by_cases hiT : i < T
      · have e1 : (T : Int) - 1 - (i : Int) = ((T - 1 - i : Nat) : Int) := by omega
        rw [e1, bit_p n _ (by omega) (by omega), Option.bind_some]
        refine key _ ?_
        unfold sh
        rw [if_pos (by omega), if_pos (by omega)]
        have e2 := div_bit n.natAbs (T - 1 - i)
        have e3 : T - (i + 1) = T - 1 - i := by omega
        have e4 : T - 1 - i + 1 = T - i := by omega
        rw [e3]
        rw [e4] at e2
        exact e2.symm
      · rw [bit_neg _ (by omega), Option.bind_some]
        refine key _ ?_
        unfold sh
        by_cases hiT2 : i = T
        · subst hiT2
          rw [if_pos (by omega), if_neg (by omega)]
          have e3 : i + 1 - i = 1 := by omega
          rw [e3]
          simp; omega
        · rw [if_neg (by omega), if_neg (by omega)]
          have e3 : i + 1 - T = i - T + 1 := by omega
          rw [e3, Nat.pow_succ]
          have e6 : n.natAbs * (2 ^ (i - T) * 2) = 2 * (n.natAbs * 2 ^ (i - T)) := by rw [← Nat.mul_assoc, Nat.mul_comm]
          rw [e6]
          simp
    · have : i = 53 := by omega
      subst this
      rw [cond_f (decide_eq_false (by omega))]
end Go.Proofs.Ytohpmbodfpjjmaa.Wk
