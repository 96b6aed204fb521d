/- Proved: products and shifts of the exact whole numbers of the reference. No conditions but bounds on how long they are. -/
import Derived.Test.YtohpmbodfpjjmaaExact
namespace Go.Proofs.Ytohpmbodfpjjmaa.Wk
open Go.Vm Limb
set_option linter.unusedVariables false
set_option linter.unusedSimpArgs false

/-! ### products -/
theorem val_set : ∀ (l : List Nat) (j v : Nat), j < l.length → val (l.set j v) + 4294967296 ^ j * l.getD j 0 = val l + 4294967296 ^ j * v
  | [], j, v, h => by simp at h
  | x :: r, 0, v, h => by simp [val]; omega
  | x :: r, j + 1, v, h => by
    have := val_set r j v (by simpa using h)
    simp only [List.set_cons_succ, val, List.getD_cons_succ, Nat.pow_succ]
    have e1 : 4294967296 ^ j * 4294967296 * r.getD j 0 = 4294967296 * (4294967296 ^ j * r.getD j 0) := by rw [Nat.mul_comm (4294967296 ^ j) 4294967296, Nat.mul_assoc]
    have e2 : 4294967296 ^ j * 4294967296 * v = 4294967296 * (4294967296 ^ j * v) := by rw [Nat.mul_comm (4294967296 ^ j) 4294967296, Nat.mul_assoc]
    rw [e1, e2]; omega
theorem nl_set (l : List Nat) (j v : Nat) : (nl l).set j (v : Int) = nl (l.set j v) := by simp [nl, List.map_set]
theorem ok_set {l : List Nat} (h : ok l) (j : Nat) {v : Nat} (hv : v < 4294967296) : ok (l.set j v) := fun x hx => by
  rcases List.mem_or_eq_of_mem_set hx with h1 | h1
  · exact h x h1
  · rw [h1]; exact hv
theorem getD_set (l : List Nat) (i j v : Nat) (h : i ≠ j) : (l.set i v).getD j 0 = l.getD j 0 := by
  rw [List.getD_eq_getElem?_getD, List.getElem?_set_ne h, List.getD_eq_getElem?_getD]
theorem prod_lt {a b : Nat} (ha : a < 4294967296) (hb : b < 4294967296) : a * b ≤ 18446744065119617025 := by
  have : a * b ≤ 4294967295 * 4294967295 := Nat.mul_le_mul (by omega) (by omega)
  omega

theorem mul_in {s t : Bool} {x y : List Nat} {i ai N base : Nat} {o0 : List Int} (hN : N = x.length + y.length) (hi : i < x.length) (hb : N < 1073741824) (hai : ai < 4294967296) (hy : ok y) :
    ∀ (n k c : Nat) (out : List Nat), n = y.length - k → k ≤ y.length → out.length = N → ok out → c < 4294967296 → (∀ j, i + y.length ≤ j → out.getD j 0 = 0) →
    val out + 4294967296 ^ (i + k) * c = base + 4294967296 ^ i * (ai * val (y.take k)) → ∀ F, n < F →
    ∃ (c' : Nat) (out' : List Nat), iter (p_Whole_Mul_l4 ⟨s, nl x⟩ ⟨t, nl y⟩ ((i : Int), o0) (ai : Int)) F ((c : Int), (k : Int), nl out) = some (Sum.inl ((c' : Int), nl out')) ∧ out'.length = N ∧ ok out' ∧ c' < 4294967296 ∧
      (∀ j, i + y.length ≤ j → out'.getD j 0 = 0) ∧ val out' + 4294967296 ^ (i + y.length) * c' = base + 4294967296 ^ i * (ai * val y) := by
  intro n
  induction n with
  | zero =>
    intro k c out hn hk ho hok hc hz hv F hF
    obtain ⟨F, rfl⟩ : ∃ m, F = m + 1 := ⟨F - 1, by omega⟩
    have hky : k = y.length := by omega
    subst hky
    refine ⟨c, out, ?_, ho, hok, hc, hz, ?_⟩
    · show p_Whole_Mul_l4 _ _ _ _ _ _ = _
      unfold p_Whole_Mul_l4
      rw [cond_f (by simp [nl_len])]
    · rw [hv, List.take_of_length_le (Nat.le_refl _)]
  | succ n ih =>
    intro k c out hn hk ho hok hc hz hv F hF
    obtain ⟨F, rfl⟩ : ∃ m, F = m + 1 := ⟨F - 1, by omega⟩
    have hky : k < y.length := by omega
    have bY := okget hy k
    have bo := okget hok (i + k)
    have bp := prod_lt hai bY
    show ∃ (c' : Nat) (out' : List Nat), p_Whole_Mul_l4 _ _ _ _ _ _ = _ ∧ _
    generalize hK : iter (p_Whole_Mul_l4 ⟨s, nl x⟩ ⟨t, nl y⟩ ((i : Int), o0) (ai : Int)) F = K
    unfold p_Whole_Mul_l4
    simp only [nl_len]
    have e1 : ((ai : Nat) : Int) * ((y.getD k 0 : Nat) : Int) = ((ai * y.getD k 0 : Nat) : Int) := by rw [Int.natCast_mul]
    have e2 : ((i : Nat) : Int) + ((k : Nat) : Int) = ((i + k : Nat) : Int) := by omega
    have e3 : (((x.length : Nat) : Int) + ((y.length : Nat) : Int)).toNat = x.length + y.length := by omega
    have e4 : ((ai * y.getD k 0 : Nat) : Int) + ((out.getD (i + k) 0 : Nat) : Int) = ((ai * y.getD k 0 + out.getD (i + k) 0 : Nat) : Int) := by omega
    obtain ⟨S, hS⟩ : ∃ S, S = ai * y.getD k 0 + out.getD (i + k) 0 + c := ⟨_, rfl⟩
    have e5 : ((ai * y.getD k 0 + out.getD (i + k) 0 : Nat) : Int) + (c : Int) = (S : Int) := by omega
    have e6 : ((S : Nat) : Int) / 2 ^ 32 = ((S / 4294967296 : Nat) : Int) := by
      have : (2 : Int) ^ 32 = 4294967296 := by decide
      rw [this]; omega
    have e7 : ((k : Nat) : Int) + 1 = ((k + 1 : Nat) : Int) := by omega
    rw [cond_t (decide_eq_true (by omega)), idx_nl hky, Option.bind_some, w64 (by omega), w64 (by omega), e1, need_pos (inu64 (by omega) (by omega)), e2, need_pos (in64 (by omega) (by omega)), need_pos (by omega), idx_nl (by omega), Option.bind_some]
    rw [w64 (by omega), e4, need_pos (inu64 (by omega) (by omega)), e5, need_pos (inu64 (by omega) (by omega)), need_pos (in64 (by omega) (by omega)), need_pos (by omega), need_pos (by omega), need_pos (by omega), e7, need_pos (in64 (by omega) (by omega)), e6, w32]
    have e8 : (((i + k : Nat) : Int)).toNat = i + k := by omega
    rw [e8, nl_set, ← hK]
    have hlt : i + k < out.length := by omega
    refine ih (k + 1) (S / 4294967296) (out.set (i + k) (S % 4294967296)) (by omega) (by omega) (by simp [ho]) (ok_set hok _ (by omega)) (by omega) (fun j hj => ?_) ?_ F (by omega)
    · rw [getD_set _ _ _ _ (by omega)]; exact hz j hj
    · have h1 := val_set out (i + k) (S % 4294967296) hlt
      have h2 : S % 4294967296 + 4294967296 * (S / 4294967296) = S := Nat.mod_add_div _ _
      have h3 : 4294967296 ^ (i + (k + 1)) * (S / 4294967296) = 4294967296 ^ (i + k) * (4294967296 * (S / 4294967296)) := by rw [← Nat.add_assoc, Nat.pow_succ, Nat.mul_assoc]
      have h4 : 4294967296 ^ (i + k) * (S % 4294967296) + 4294967296 ^ (i + k) * (4294967296 * (S / 4294967296)) = 4294967296 ^ (i + k) * (ai * y.getD k 0) + 4294967296 ^ (i + k) * out.getD (i + k) 0 + 4294967296 ^ (i + k) * c := by rw [← Nat.mul_add, h2, hS, Nat.mul_add, Nat.mul_add]
      have h5 : 4294967296 ^ i * (ai * val (y.take (k + 1))) = 4294967296 ^ i * (ai * val (y.take k)) + 4294967296 ^ (i + k) * (ai * y.getD k 0) := by
        rw [val_take_any, Nat.mul_add, Nat.mul_add, Nat.pow_add]
        congr 1
        rw [Nat.mul_left_comm ai, Nat.mul_assoc]
      rw [h3, h5]
      omega

theorem mul_loop {s t : Bool} {x y : List Nat} {N : Nat} (hN : N = x.length + y.length) (hb : N < 1073741824) (hx : ok x) (hy : ok y) {G : Nat} (hG : 1073741826 ≤ G) :
    ∀ (n i : Nat) (out : List Nat), n = x.length - i → i ≤ x.length → out.length = N → ok out → (∀ j, i + y.length ≤ j → out.getD j 0 = 0) → val out = val (x.take i) * val y → ∀ F, n < F →
    ∃ (out' : List Nat), iter (p_Whole_Mul_l2 ⟨s, nl x⟩ ⟨t, nl y⟩ G) F ((i : Int), nl out) = some (Sum.inl (nl out')) ∧ out'.length = N ∧ ok out' ∧ val out' = val x * val y := by
  intro n
  induction n with
  | zero =>
    intro i out hn hi ho hok hz hv F hF
    obtain ⟨F, rfl⟩ : ∃ m, F = m + 1 := ⟨F - 1, by omega⟩
    have hix : i = x.length := by omega
    subst hix
    refine ⟨out, ?_, ho, hok, ?_⟩
    · show p_Whole_Mul_l2 _ _ _ _ _ = _
      unfold p_Whole_Mul_l2
      rw [cond_f (by simp [nl_len])]
    · rw [hv, List.take_of_length_le (Nat.le_refl _)]
  | succ n ih =>
    intro i out hn hi ho hok hz hv F hF
    obtain ⟨F, rfl⟩ : ∃ m, F = m + 1 := ⟨F - 1, by omega⟩
    have hix : i < x.length := by omega
    have bx := okget hx i
    show ∃ (out' : List Nat), p_Whole_Mul_l2 _ _ _ _ _ = _ ∧ _
    generalize hK : iter (p_Whole_Mul_l2 ⟨s, nl x⟩ ⟨t, nl y⟩ G) F = K
    unfold p_Whole_Mul_l2
    simp only [nl_len]
    rw [cond_t (decide_eq_true (by omega)), idx_nl hix, Option.bind_some]
    obtain ⟨c, o2, h1, h2, h3, h4, h5, h6⟩ := mul_in (s := s) (t := t) (o0 := nl out) (base := val out) hN hix hb bx hy y.length 0 0 out rfl (Nat.zero_le _) ho hok (by omega) hz (by simp [val]) G (by omega)
    have h1' : iter (p_Whole_Mul_l4 ⟨s, nl x⟩ ⟨t, nl y⟩ ((i : Int), nl out) ((x.getD i 0 : Nat) : Int)) G ((0 : Int), (0 : Int), nl out) = some (Sum.inl ((c : Int), nl o2)) := h1
    rw [h1', Option.bind_some]
    show ∃ (out' : List Nat), p_Whole_Mul_k3 _ _ _ _ _ = _ ∧ _
    unfold p_Whole_Mul_k3
    simp only [nl_len]
    have e2 : ((i : Nat) : Int) + ((y.length : Nat) : Int) = ((i + y.length : Nat) : Int) := by omega
    have e3 : (((x.length : Nat) : Int) + ((y.length : Nat) : Int)).toNat = x.length + y.length := by omega
    have e7 : ((i : Nat) : Int) + 1 = ((i + 1 : Nat) : Int) := by omega
    have e8 : (((i + y.length : Nat) : Int)).toNat = i + y.length := by omega
    rw [e2, need_pos (in64 (by omega) (by omega)), need_pos (by omega), need_pos (by omega), e7, need_pos (in64 (by omega) (by omega)), e8, w32, nl_set, ← hK]
    have hlt : i + y.length < o2.length := by omega
    have e9 : c % 4294967296 = c := by omega
    rw [e9]
    refine ih (i + 1) (o2.set (i + y.length) c) (by omega) (by omega) (by simp [h2]) (ok_set h3 _ h4) (fun j hj => ?_) ?_ F (by omega)
    · rw [getD_set _ _ _ _ (by omega)]; exact h5 j (by omega)
    · have g1 := val_set o2 (i + y.length) c hlt
      rw [h5 _ (Nat.le_refl _)] at g1
      have g2 : val (x.take (i + 1)) * val y = val (x.take i) * val y + 4294967296 ^ i * (x.getD i 0 * val y) := by
        rw [val_take_any, Nat.add_mul, Nat.mul_assoc]
      rw [g2]
      omega
theorem val_zeros (n : Nat) : val (List.replicate n 0) = 0 := by
  induction n with
  | zero => rfl
  | succ n ih => simp [List.replicate_succ, val, ih]
theorem ok_zeros (n : Nat) : ok (List.replicate n 0) := fun x hx => by rw [List.eq_of_mem_replicate hx]; omega
theorem nl_zeros (n : Nat) : List.replicate n (0 : Int) = nl (List.replicate n 0) := by simp [nl]

/-! ### numbers -/
/-- the reference's number n -/
def W (n : Int) : TSpec_Whole := ⟨decide (n < 0), nl (limbs n.natAbs)⟩
/-- how many limbs -/
def sz (n : Int) : Nat := (limbs n.natAbs).length
theorem sz_neg (n : Int) : sz (-n) = sz n := by unfold sz; rw [Int.natAbs_neg]
theorem sz_of {n : Int} {m : Nat} (h : n.natAbs < 4294967296 ^ m) : sz n ≤ m := by
  unfold sz
  generalize n.natAbs = a at h
  induction m generalizing a with
  | zero => have : a = 0 := by simpa using h
            subst this; rw [limbs_zero]; simp
  | succ m ih =>
    by_cases ha : a = 0
    · subst ha; rw [limbs_zero]; simp
    · rw [limbs_pos ha]
      have := ih (a / 4294967296) (by rw [Nat.pow_succ] at h; exact Nat.div_lt_of_lt_mul (by rw [Nat.mul_comm]; exact h))
      simp; omega
theorem lt_sz (n : Int) : n.natAbs < 4294967296 ^ sz n := by
  have := val_lt (limbs_ok n.natAbs)
  rwa [val_limbs] at this
theorem sz_add (a b : Int) : sz (a + b) ≤ max (sz a) (sz b) + 1 := by
  refine sz_of ?_
  have h1 := lt_sz a
  have h2 := lt_sz b
  have h3 : 4294967296 ^ sz a ≤ 4294967296 ^ max (sz a) (sz b) := Nat.pow_le_pow_right (by omega) (by omega)
  have h4 : 4294967296 ^ sz b ≤ 4294967296 ^ max (sz a) (sz b) := Nat.pow_le_pow_right (by omega) (by omega)
  rw [Nat.pow_succ]
  have := Int.natAbs_add_le a b
  omega
theorem sz_mul (a b : Int) : sz (a * b) ≤ sz a + sz b := by
  refine sz_of ?_
  rw [Int.natAbs_mul, Nat.pow_add]
  exact Nat.mul_lt_mul'' (lt_sz a) (lt_sz b)
theorem limbs_nil {n : Nat} : limbs n = [] ↔ n = 0 := by
  constructor
  · intro h
    have := val_limbs n
    rw [h] at this; exact this.symm
  · rintro rfl; exact limbs_zero
theorem W_len (n : Int) : (W n).L.length = sz n := by unfold W sz; rw [nl_len]
theorem sign_p (n : Int) : p_Whole_Sign (W n) = some (if n = 0 then 0 else if n < 0 then -1 else 1) := by
  unfold p_Whole_Sign
  rw [W_len]
  by_cases h : n = 0
  · subst h
    rw [if_pos rfl, cond_t (decide_eq_true (by unfold sz; rw [show (0 : Int).natAbs = 0 from rfl, limbs_zero]; rfl))]
  · have : sz n ≠ 0 := fun e => h (by have : limbs n.natAbs = [] := List.eq_nil_of_length_eq_zero e
                                      rw [limbs_nil] at this; omega)
    rw [cond_f (decide_eq_false (by omega)), if_neg h]
    by_cases h0 : n < 0
    · rw [if_pos h0, cond_t (by simp [W, h0])]
    · rw [if_neg h0, cond_f (by simp [W]; omega)]
theorem W_zero : W 0 = ⟨false, []⟩ := by
  unfold W
  rw [show (0 : Int).natAbs = 0 from rfl, limbs_zero]; rfl
theorem add_p {a b : Int} (ha : sz a < 1073741824) (hb : sz b < 1073741824) {F : Nat} (hF : 1073741826 ≤ F) : p_Whole_Add F (W a) (W b) = some (W (a + b)) := by
  unfold p_Whole_Add
  have eL : ∀ n : Int, (W n).L = nl (limbs n.natAbs) := fun _ => rfl
  have eN : ∀ n : Int, (W n).Neg = decide (n < 0) := fun _ => rfl
  simp only [eL, eN]
  by_cases hs : (decide (a < 0)) = (decide (b < 0))
  · rw [cond_t (by simp [hs]), addLimbs_p (limbs_ok _) (limbs_ok _) ha hb hF, Option.bind_some, val_limbs, val_limbs]
    have hs' : a < 0 ↔ b < 0 := decide_eq_decide.1 hs
    have h1 : (a + b).natAbs = a.natAbs + b.natAbs := by omega
    have h2 : decide (a + b < 0) = decide (a < 0) := decide_eq_decide.2 (by omega)
    unfold W
    rw [h1, h2]
  · rw [cond_f (by simpa using hs), cmp_p ha hb hF, Option.bind_some]
    have hs' : ¬ (a < 0 ↔ b < 0) := fun h => hs (decide_eq_decide.2 h)
    by_cases h1 : a.natAbs = b.natAbs
    · rw [if_pos h1, cond_t (by rfl)]
      have : a + b = 0 := by omega
      rw [this, W_zero]
    · rw [if_neg h1]
      by_cases h2 : a.natAbs < b.natAbs
      · rw [if_pos h2, cond_f (by rfl), cond_f (by rfl), subLimbs_p (limbs_ok _) (limbs_ok _) hb (by
          rcases Nat.lt_or_ge (limbs b.natAbs).length (limbs a.natAbs).length with h | h
          · have := limbs_len_lt h; omega
          · exact h) (by rw [val_limbs, val_limbs]; omega) hF, Option.bind_some, val_limbs, val_limbs]
        have h3 : (a + b).natAbs = b.natAbs - a.natAbs := by omega
        have h4 : decide (a + b < 0) = decide (b < 0) := decide_eq_decide.2 (by omega)
        unfold W
        rw [h3, h4]
      · rw [if_neg h2, cond_f (by rfl), cond_t (by rfl), subLimbs_p (limbs_ok _) (limbs_ok _) ha (by
          rcases Nat.lt_or_ge (limbs a.natAbs).length (limbs b.natAbs).length with h | h
          · have := limbs_len_lt h; omega
          · exact h) (by rw [val_limbs, val_limbs]; omega) hF, Option.bind_some, val_limbs, val_limbs]
        have h3 : (a + b).natAbs = a.natAbs - b.natAbs := by omega
        have h4 : decide (a + b < 0) = decide (a < 0) := decide_eq_decide.2 (by omega)
        unfold W
        rw [h3, h4]
theorem mul_p {a b : Int} (h : sz a + sz b < 1073741824) {F : Nat} (hF : 1073741826 ≤ F) : p_Whole_Mul F (W a) (W b) = some (W (a * b)) := by
  obtain ⟨out, h1, h2, h3, h4⟩ := mul_loop (s := decide (a < 0)) (t := decide (b < 0)) (x := limbs a.natAbs) (y := limbs b.natAbs) (N := sz a + sz b) rfl h (limbs_ok _) (limbs_ok _) hF (limbs a.natAbs).length 0 (List.replicate (sz a + sz b) 0) rfl (Nat.zero_le _) (by simp) (ok_zeros _) (fun j hj => by
    rw [List.getD_eq_getElem?_getD, List.getElem?_replicate]; split <;> rfl) (by simp [val, val_zeros]) F (by unfold sz at h; omega)
  unfold p_Whole_Mul
  rw [W_len, W_len]
  have e3 : (((sz a : Nat) : Int) + ((sz b : Nat) : Int)).toNat = sz a + sz b := by omega
  rw [need_pos (in64 (by omega) (by omega)), need_pos (by omega), e3, nl_zeros]
  have h1' : iter (p_Whole_Mul_l2 (W a) (W b) F) F ((0 : Int), nl (List.replicate (sz a + sz b) 0)) = some (Sum.inl (nl out)) := h1
  rw [h1', Option.bind_some]
  show p_Whole_Mul_k1 (W a) (W b) F (nl out) = _
  unfold p_Whole_Mul_k1
  rw [W_len, W_len, e3, nl_len, need_pos h2.symm, trim_p (by omega) (by omega), Option.bind_some, trim_limbs _ h3, h4, val_limbs, val_limbs, nl_len]
  have ev : a.natAbs * b.natAbs = (a * b).natAbs := (Int.natAbs_mul a b).symm
  rw [ev]
  by_cases h0 : a * b = 0
  · rw [h0]
    rw [cond_f (decide_eq_false (by rw [show (0 : Int).natAbs = 0 from rfl, limbs_zero]; simp)), W_zero, show (0 : Int).natAbs = 0 from rfl, limbs_zero]; rfl
  · have hne : limbs (a * b).natAbs ≠ [] := fun e => h0 (by rw [limbs_nil] at e; omega)
    have hlen : 0 < (limbs (a * b).natAbs).length := List.length_pos_iff.2 hne
    rw [cond_t (decide_eq_true (by omega))]
    unfold W
    congr 2
    have ha : a ≠ 0 := fun e => h0 (by rw [e, Int.zero_mul])
    have hb : b ≠ 0 := fun e => h0 (by rw [e, Int.mul_zero])
    by_cases h5 : a < 0 <;> by_cases h6 : b < 0
    · have := Int.mul_pos_of_neg_of_neg h5 h6
      simp [h5, h6]; omega
    · have := Int.mul_neg_of_neg_of_pos h5 (show 0 < b by omega)
      simp [h5, h6, this]
    · have := Int.mul_neg_of_pos_of_neg (show 0 < a by omega) h6
      simp [h5, h6, this]
    · have := Int.mul_pos (show 0 < a by omega) (show 0 < b by omega)
      simp [h5, h6]; omega
end Go.Proofs.Ytohpmbodfpjjmaa.Wk
