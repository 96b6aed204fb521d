/- Proved: shifts of the exact whole numbers of the reference, and floating numbers as exact ones. No conditions but bounds on how long they are. -/
import Derived.Test.YtohpmbodfpjjmaaExact2
namespace Go.Proofs.Ytohpmbodfpjjmaa.Wk
open Go.Vm Limb
set_option linter.unusedVariables false
set_option linter.unusedSimpArgs false

theorem bits_or32 {a c : Nat} (ha : a < 4294967296) (hc : c < 4294967296) : bits .or .u32 (a : Int) (c : Int) = ((a ||| c : Nat) : Int) := by
  unfold bits
  have e0 : (BitVec.ofInt 32 (a : Int) ||| BitVec.ofInt 32 (c : Int)).toNat = a ||| c := by
    rw [BitVec.toNat_or, BitVec.toNat_ofInt, BitVec.toNat_ofInt]
    have e : ∀ z : Nat, z < 4294967296 → ((z : Int) % ((2 ^ 32 : Nat) : Int)).toNat = z := fun z hz => by omega
    rw [e a ha, e c hc]
  show IntKind.u32.wrap (((BitVec.ofInt 32 (a : Int) ||| BitVec.ofInt 32 (c : Int)).toNat : Nat) : Int) = _
  rw [e0]
  have hlt : a ||| c < 2 ^ 32 := Nat.or_lt_two_pow (by omega) (by omega)
  rw [w32, Nat.mod_eq_of_lt (by omega)]
theorem bits_and64 {a c : Nat} (ha : a < 18446744073709551616) (hc : c < 18446744073709551616) : bits .and .u64 (a : Int) (c : Int) = ((a &&& c : Nat) : Int) := by
  unfold bits
  have e0 : (BitVec.ofInt 64 (a : Int) &&& BitVec.ofInt 64 (c : Int)).toNat = a &&& c := by
    rw [BitVec.toNat_and, BitVec.toNat_ofInt, BitVec.toNat_ofInt]
    have e : ∀ z : Nat, z < 18446744073709551616 → ((z : Int) % ((2 ^ 64 : Nat) : Int)).toNat = z := fun z hz => by omega
    rw [e a ha, e c hc]
  show IntKind.u64.wrap (((BitVec.ofInt 64 (a : Int) &&& BitVec.ofInt 64 (c : Int)).toNat : Nat) : Int) = _
  rw [e0]
  have hle : a &&& c ≤ a := Nat.and_le_left
  rw [w64 (by omega)]

theorem tdiv32 (n : Nat) : Int.tdiv (n : Int) (32 : Int) = ((n / 32 : Nat) : Int) := by rw [Int.tdiv_eq_ediv_of_nonneg (by omega)]; omega
theorem tmod32 (n : Nat) : Int.tmod (n : Int) (32 : Int) = ((n % 32 : Nat) : Int) := by rw [Int.tmod_eq_emod_of_nonneg (by omega)]; omega

theorem up_loop {s : Bool} {x : List Nat} (hx : ok x) {n q r : Nat} (hq : n / 32 = q) (hr : n % 32 = r) (hb : q + x.length < 1073741824) : ∀ (m k c : Nat) (out : List Nat), m = x.length - k → k ≤ x.length → out.length = q + k → ok out → c < 2 ^ r →
    val out + 4294967296 ^ (q + k) * c = 4294967296 ^ q * (2 ^ r * val (x.take k)) → ∀ F, m < F →
    ∃ (c' : Nat) (out' : List Nat), iter (p_Whole_Up_l2 ⟨s, nl x⟩ (n : Int)) F ((c : Int), (k : Int), nl out) = some (Sum.inl ((c' : Int), nl out')) ∧ out'.length = q + x.length ∧ ok out' ∧ c' < 2 ^ r ∧ val out' + 4294967296 ^ (q + x.length) * c' = 4294967296 ^ q * (2 ^ r * val x) := by
  have hr32 : r < 32 := by omega
  have hp : 2 ^ r ≤ 2147483648 := Nat.le_trans (Nat.pow_le_pow_right (by omega) (show r ≤ 31 by omega)) (by decide)
  have hp0 : 0 < 2 ^ r := Nat.two_pow_pos r
  have hpp : 2 ^ r * 2 ^ (32 - r) = 4294967296 := by rw [← Nat.pow_add, show r + (32 - r) = 32 by omega]
  intro m
  induction m with
  | zero =>
    intro k c out hm hk ho hok hc hv F hF
    obtain ⟨F, rfl⟩ : ∃ m, F = m + 1 := ⟨F - 1, by omega⟩
    have hkx : k = x.length := by omega
    subst hkx
    refine ⟨c, out, ?_, ho, hok, hc, ?_⟩
    · show p_Whole_Up_l2 _ _ _ _ = _
      unfold p_Whole_Up_l2
      rw [cond_f (by simp [nl_len])]
    · rw [hv, List.take_of_length_le (Nat.le_refl _)]
  | succ m ih =>
    intro k c out hm hk ho hok hc hv F hF
    obtain ⟨F, rfl⟩ : ∃ m, F = m + 1 := ⟨F - 1, by omega⟩
    have hkx : k < x.length := by omega
    have bx := okget hx k
    show ∃ (c' : Nat) (out' : List Nat), p_Whole_Up_l2 _ _ _ _ = _ ∧ _
    generalize hK : iter (p_Whole_Up_l2 ⟨s, nl x⟩ (n : Int)) F = K
    unfold p_Whole_Up_l2
    simp only [nl_len]
    have hS : x.getD k 0 * 2 ^ r ≤ 4294967295 * 2147483648 := Nat.mul_le_mul (by omega) hp
    have eT : (Int.tmod (n : Int) (32 : Int)).toNat = r := by rw [tmod32, hr]; omega
    have hbits : 0 ≤ Int.tmod (n : Int) (32 : Int) ∧ Int.tmod (n : Int) (32 : Int) ≤ (IntKind.u64.bits : Int) := by
      have h64 : ((IntKind.u64.bits : Nat) : Int) = 64 := rfl
      rw [tmod32, h64]; omega
    have e1 : ((x.getD k 0 : Nat) : Int) * 2 ^ r = ((x.getD k 0 * 2 ^ r : Nat) : Int) := by rw [Int.natCast_mul, Int.natCast_pow]; rfl
    rw [cond_t (decide_eq_true (by omega)), idx_nl hkx, Option.bind_some, need_pos (by decide), need_pos hbits, eT, w64 (by omega), e1]
    obtain ⟨S, hSe⟩ : ∃ S, S = x.getD k 0 * 2 ^ r := ⟨_, rfl⟩
    rw [← hSe] at hS
    rw [← hSe, w64 (by omega), w32]
    have hy : S % 4294967296 = x.getD k 0 % 2 ^ (32 - r) * 2 ^ r := by rw [hSe, ← hpp, Nat.mul_comm (2 ^ r) (2 ^ (32 - r)), Nat.mul_mod_mul_right]
    have hor : S % 4294967296 ||| c = S % 4294967296 + c := by
      rw [hy, ← Nat.shiftLeft_eq, Nat.shiftLeft_add_eq_or_of_lt hc]
    have hm1 : S % 4294967296 + c < 4294967296 := by
      have h1 : x.getD k 0 % 2 ^ (32 - r) + 1 ≤ 2 ^ (32 - r) := Nat.mod_lt _ (Nat.two_pow_pos _)
      have h2 := Nat.mul_le_mul_right (2 ^ r) h1
      rw [Nat.add_mul, Nat.mul_comm (2 ^ (32 - r)) (2 ^ r), hpp, ← hy] at h2
      omega
    have e6 : ((S : Nat) : Int) / 2 ^ 32 = ((S / 4294967296 : Nat) : Int) := by
      have : (2 : Int) ^ 32 = 4294967296 := by decide
      rw [this]; omega
    have e7 : ((k : Nat) : Int) + 1 = ((k + 1 : Nat) : Int) := by omega
    have hd : S / 4294967296 < 2 ^ r := by
      rw [hSe]
      apply Nat.div_lt_of_lt_mul
      exact Nat.mul_lt_mul_of_pos_right bx hp0
    have hd2 : S / 4294967296 % 4294967296 = S / 4294967296 := Nat.mod_eq_of_lt (by omega)
    rw [bits_or32 (by omega) (by omega), hor, need_pos (by simp only [List.length_singleton]; omega), need_pos (by omega), e7, need_pos (in64 (by omega) (by omega)), e6, w32, hd2, nl_one, nl_append, ← hK]
    refine ih (k + 1) (S / 4294967296) (out ++ [S % 4294967296 + c]) (by omega) (by omega) (by simp [ho]; omega) (fun z hz => ?_) hd ?_ F (by omega)
    · rcases List.mem_append.1 hz with h | h
      · exact hok z h
      · rw [List.mem_singleton.1 h]; exact hm1
    · rw [val_append, ho, val_take_any]
      have h1 : val [S % 4294967296 + c] = S % 4294967296 + c := by simp [val]
      have h2 : S % 4294967296 + 4294967296 * (S / 4294967296) = S := Nat.mod_add_div _ _
      have h3 : 4294967296 ^ (q + (k + 1)) * (S / 4294967296) = 4294967296 ^ (q + k) * (4294967296 * (S / 4294967296)) := by rw [← Nat.add_assoc, Nat.pow_succ, Nat.mul_assoc]
      have h4 : 4294967296 ^ (q + k) * (S % 4294967296 + c) + 4294967296 ^ (q + k) * (4294967296 * (S / 4294967296)) = 4294967296 ^ (q + k) * S + 4294967296 ^ (q + k) * c := by rw [← Nat.mul_add, ← Nat.mul_add]; congr 1; omega
      have h5 : 4294967296 ^ q * (2 ^ r * (val (x.take k) + 4294967296 ^ k * x.getD k 0)) = 4294967296 ^ q * (2 ^ r * val (x.take k)) + 4294967296 ^ (q + k) * S := by
        rw [Nat.mul_add, Nat.mul_add, Nat.pow_add, hSe]
        congr 1
        rw [Nat.mul_left_comm (2 ^ r), Nat.mul_assoc, Nat.mul_comm (2 ^ r) (x.getD k 0)]
      rw [h1, h3, h5]
      omega
theorem up_p {a : Int} {n : Nat} (h : sz a + n / 32 < 1073741000) {F : Nat} (hF : 1073741826 ≤ F) : p_Whole_Up F (W a) (n : Int) = some (W (a * 2 ^ n)) := by
  unfold p_Whole_Up
  rw [W_len]
  by_cases h0 : sz a = 0
  · have ha : a = 0 := by
      have : limbs a.natAbs = [] := List.eq_nil_of_length_eq_zero h0
      rw [limbs_nil] at this; omega
    subst ha
    rw [cond_t (decide_eq_true (by omega)), Int.zero_mul]
  · have ha : a ≠ 0 := fun e => h0 (by subst e; unfold sz; rw [show (0 : Int).natAbs = 0 from rfl, limbs_zero]; rfl)
    obtain ⟨c, out, h1, h2, h3, h4, h5⟩ := up_loop (s := decide (a < 0)) (limbs_ok a.natAbs) (n := n) rfl rfl (show n / 32 + sz a < 1073741824 by omega) (limbs a.natAbs).length 0 0 (List.replicate (n / 32) 0) rfl (Nat.zero_le _) (by simp) (ok_zeros _) (Nat.two_pow_pos _) (by simp [val, val_zeros]) F (by unfold sz at h; omega)
    rw [cond_f (decide_eq_false (by omega)), tdiv32, need_pos ⟨by decide, in64 (by omega) (by omega)⟩, need_pos ⟨by decide, in64 (by omega) (by omega)⟩, need_pos (in64 (by omega) (by omega)), need_pos (in64 (by omega) (by omega)), need_pos (by omega)]
    have et : (((n / 32 : Nat) : Int)).toNat = n / 32 := by omega
    rw [et, nl_zeros]
    have h1' : iter (p_Whole_Up_l2 (W a) (n : Int)) F ((0 : Int), (0 : Int), nl (List.replicate (n / 32) 0)) = some (Sum.inl ((c : Int), nl out)) := h1
    rw [h1', Option.bind_some]
    show p_Whole_Up_k1 (W a) F ((c : Int), nl out) = _
    unfold p_Whole_Up_k1
    have hc : c < 4294967296 := Nat.lt_of_lt_of_le h4 (Nat.le_trans (Nat.pow_le_pow_right (by omega) (show n % 32 ≤ 31 by omega)) (by decide))
    have hl : (limbs a.natAbs).length = sz a := rfl
    rw [need_pos (by simp only [nl_len, List.length_singleton]; omega), nl_one, nl_append, trim_p (by simp; omega) (by simp; omega), Option.bind_some, trim_limbs _ (fun z hz => by
      rcases List.mem_append.1 hz with h | h
      · exact h3 z h
      · rw [List.mem_singleton.1 h]; exact hc)]
    have ev : val (out ++ [c]) = (a * 2 ^ n).natAbs := by
      have e1 : val [c] = c := by simp [val]
      rw [val_append, h2, e1, h5, val_limbs, Int.natAbs_mul, Int.natAbs_pow]
      have e2 : (2 : Int).natAbs = 2 := rfl
      have e3 : (4294967296 : Nat) = 2 ^ 32 := rfl
      rw [e2, e3, ← Nat.pow_mul, ← Nat.mul_assoc, ← Nat.pow_add, Nat.mul_comm, Nat.div_add_mod]
    rw [ev]
    have hpos : (0 : Int) < 2 ^ n := Int.pow_pos (by decide)
    have en : decide (a * 2 ^ n < 0) = decide (a < 0) := decide_eq_decide.2 ⟨fun h => by
      by_cases h' : a < 0
      · exact h'
      · have := Int.mul_nonneg (show 0 ≤ a by omega) (Int.le_of_lt hpos); omega, fun h => Int.mul_neg_of_neg_of_pos h hpos⟩
    show some (TSpec_Whole.mk (W a).Neg _) = some (W _)
    unfold W
    rw [en]
theorem sz_up (a : Int) (n : Nat) : sz (a * 2 ^ n) ≤ sz a + n / 32 + 1 := by
  refine sz_of ?_
  rw [Int.natAbs_mul, Int.natAbs_pow, show (2 : Int).natAbs = 2 from rfl, Nat.add_assoc, Nat.pow_add]
  have h1 := lt_sz a
  have h2 : 2 ^ n ≤ 4294967296 ^ (n / 32 + 1) := by
    rw [show (4294967296 : Nat) = 2 ^ 32 from rfl, ← Nat.pow_mul]
    exact Nat.pow_le_pow_right (by omega) (by omega)
  exact Nat.lt_of_lt_of_le (Nat.mul_lt_mul_of_pos_right h1 (Nat.two_pow_pos n)) (Nat.mul_le_mul_left _ h2)

/-! ### numbers of the machine -/
theorem two64 (u : Nat) (hu : u < 18446744073709551616) {F : Nat} (hF : 3 < F) : p_trim F [(IntKind.u32.wrap (u : Int)), (IntKind.u32.wrap ((u : Int) / 2 ^ 32))] = some (nl (limbs u)) := by
  have e6 : ((u : Nat) : Int) / 2 ^ 32 = ((u / 4294967296 : Nat) : Int) := by
    have : (2 : Int) ^ 32 = 4294967296 := by decide
    rw [this]; omega
  have e7 : u / 4294967296 % 4294967296 = u / 4294967296 := by omega
  rw [e6, w32, w32, e7]
  show p_trim F (nl [u % 4294967296, u / 4294967296]) = _
  rw [trim_p (by simp; omega) (by simp), trim_limbs _ (fun x hx => by simp at hx; omega)]
  have : val [u % 4294967296, u / 4294967296] = u := by simp [val]; omega
  rw [this]
theorem wholeOf_p {m : Int} (h1 : -9223372036854775808 ≤ m) (h2 : m ≤ 9223372036854775807) {F : Nat} (hF : 3 < F) : p_WholeOf F m = some (W m) := by
  unfold p_WholeOf
  have key : ∀ u : Nat, u = m.natAbs → p_WholeOf_k1 m F (u : Int) = some (W m) := fun u hu => by
    unfold p_WholeOf_k1
    rw [need_pos (by omega), two64 u (by omega) hF, Option.bind_some, hu]; rfl
  by_cases h : m < 0
  · rw [cond_t (decide_eq_true h)]
    have e : IntKind.u64.wrap (-(IntKind.u64.wrap m)) = ((m.natAbs : Nat) : Int) := by
      simp only [IntKind.wrap, IntKind.bits, IntKind.signed, Bool.false_and]
      simp
      omega
    rw [e]; exact key _ rfl
  · rw [cond_f (decide_eq_false h)]
    have e : IntKind.u64.wrap m = ((m.natAbs : Nat) : Int) := by
      rw [show m = ((m.natAbs : Nat) : Int) by omega, w64 (by omega)]; omega
    rw [e]; exact key _ rfl

/-- what a word stands for -/
theorem V_read {x : Nat} {q : Rat} (h : Flt.V x = some q) : x % 9223372036854775808 < 9218868437227405312 ∧
    q = Flt.sg (x / 9223372036854775808 % 2 == 1) (if x % 9223372036854775808 < 4503599627370496 then ((x % 9223372036854775808 : Nat) : Rat) * (2 : Rat) ^ (-1074 : Int)
      else ((4503599627370496 + x % 9223372036854775808 % 4503599627370496 : Nat) : Rat) * (2 : Rat) ^ ((-1074 : Int) + ((x % 9223372036854775808 / 4503599627370496 - 1 : Nat) : Int))) := by
  unfold Flt.V Ieee.Format.read at h
  simp only [Flt.double_sw, Flt.double_bn, Flt.double_ir, Flt.double_lp] at h
  by_cases h1 : x % 9223372036854775808 < 4503599627370496
  · rw [if_pos h1] at h
    refine ⟨by omega, ?_⟩
    rw [if_pos h1]
    exact (Option.some.inj h).symm
  · rw [if_neg h1] at h
    by_cases h2 : x % 9223372036854775808 < 9218868437227405312
    · rw [if_pos h2] at h
      refine ⟨h2, ?_⟩
      rw [if_neg h1]
      exact (Option.some.inj h).symm
    · rw [if_neg h2] at h
      split at h <;> cases h
theorem dyadicOf_p {x : Nat} {q : Rat} (hx : x < 18446744073709551616) (h : Flt.V x = some q) {F : Nat} (hF : 3 < F) :
    ∃ (n e : Int), p_DyadicOf F x = some ⟨W n, e⟩ ∧ q = (n : Rat) * (2 : Rat) ^ e ∧ n.natAbs < 9007199254740992 ∧ -1074 ≤ e ∧ e ≤ 1000 := by
  obtain ⟨hfin, hq⟩ := V_read h
  have eP : ∀ k : Nat, ((x : Nat) : Int) / 2 ^ k = ((x / 2 ^ k : Nat) : Int) := fun k => by rw [Int.natCast_ediv, Int.natCast_pow]; rfl
  have hE : bits .and .u64 (((x : Nat) : Int) / 2 ^ 52) (2047 : Int) = ((x / 4503599627370496 % 2048 : Nat) : Int) := by
    have := bits_and64 (a := x / 4503599627370496) (c := 2047) (by omega) (by omega)
    rw [show (2047 : Nat) = 2 ^ 11 - 1 from rfl, Nat.and_two_pow_sub_one_eq_mod] at this
    rw [eP]; exact this
  have hM : bits .and .u64 ((x : Nat) : Int) (4503599627370495 : Int) = ((x % 4503599627370496 : Nat) : Int) := by
    have := bits_and64 (a := x) (c := 4503599627370495) hx (by omega)
    rw [show (4503599627370495 : Nat) = 2 ^ 52 - 1 from rfl, Nat.and_two_pow_sub_one_eq_mod] at this
    exact this
  have wI : ∀ z : Nat, z < 9223372036854775808 → IntKind.i64.wrap (z : Int) = (z : Int) := fun z hz => wrap_in .i64 _ (by simp only [lo]; omega) (by simp only [hi]; omega)
  have key : ∀ (m : Nat) (e : Int), m < 9007199254740992 → 1 ≤ e → e ≤ 2046 → q = Flt.sg (x / 9223372036854775808 % 2 == 1) ((m : Rat) * (2 : Rat) ^ (e - 1075)) →
      ∃ (n e' : Int), p_DyadicOf_k1 x F ((m : Int), e) = some ⟨W n, e'⟩ ∧ q = (n : Rat) * (2 : Rat) ^ e' ∧ n.natAbs < 9007199254740992 ∧ -1074 ≤ e' ∧ e' ≤ 1000 := by
    intro m e hm he1 he2 hqe
    unfold p_DyadicOf_k1
    rw [need_pos (by omega), eP]
    by_cases hs : x / 9223372036854775808 = 1
    · rw [cond_t (decide_eq_true (by show ((x / 9223372036854775808 : Nat) : Int) = 1; omega)), need_pos (in64m (by simp only; omega) (by simp only; omega)), wholeOf_p (by omega) (by omega) hF, Option.bind_some, need_pos (in64m (by simp only; omega) (by simp only; omega))]
      refine ⟨-(m : Int), e - 1075, rfl, ?_, by omega, by omega, by omega⟩
      rw [hqe, hs]
      simp [Flt.sg, Rat.intCast_neg, Rat.neg_mul, Rat.intCast_natCast]
    · rw [cond_f (decide_eq_false (by show ¬ ((x / 9223372036854775808 : Nat) : Int) = 1; omega)), wholeOf_p (by simp only; omega) (by simp only; omega) hF, Option.bind_some, need_pos (in64m (by simp only; omega) (by simp only; omega))]
      refine ⟨(m : Int), e - 1075, rfl, ?_, by omega, by omega, by omega⟩
      have : x / 9223372036854775808 = 0 := by omega
      rw [hqe, this]
      simp [Flt.sg, Rat.intCast_natCast]
  unfold p_DyadicOf
  rw [need_pos (by omega), hE, wI _ (by omega), hM, wI _ (by omega), cond_f (decide_eq_false (by omega))]
  by_cases h0 : x / 4503599627370496 % 2048 = 0
  · rw [cond_t (decide_eq_true (by omega))]
    refine key _ 1 (by omega) (by omega) (by omega) ?_
    rw [hq, if_pos (by omega)]
    have : x % 9223372036854775808 = x % 4503599627370496 := by omega
    rw [this]; rfl
  · rw [cond_f (decide_eq_false (by omega)), need_pos (in64m (by omega) (by omega))]
    have e1 : ((x % 4503599627370496 : Nat) : Int) + 4503599627370496 = ((x % 4503599627370496 + 4503599627370496 : Nat) : Int) := by omega
    rw [e1]
    refine key _ ((x / 4503599627370496 % 2048 : Nat) : Int) (by omega) (by omega) (by omega) ?_
    rw [hq, if_neg (by omega)]
    have e2 : 4503599627370496 + x % 9223372036854775808 % 4503599627370496 = x % 4503599627370496 + 4503599627370496 := by omega
    have e3 : (-1074 : Int) + ((x % 9223372036854775808 / 4503599627370496 - 1 : Nat) : Int) = ((x / 4503599627370496 % 2048 : Nat) : Int) - 1075 := by omega
    rw [e2, e3]
end Go.Proofs.Ytohpmbodfpjjmaa.Wk
