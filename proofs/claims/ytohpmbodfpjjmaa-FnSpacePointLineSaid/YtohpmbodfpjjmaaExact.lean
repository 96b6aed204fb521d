/- Proved: the exact numbers of the reference, as the printed functions reckon them: whole numbers by limbs. No conditions but bounds on how long they are. -/
import Derived.Test.YtohpmbodfpjjmaaPSp
import Derived.Test.YtohpmbodfpjjmaaLimbs
import Derived.Test.YtohpmbodfpjjmaaPureKit
import Derived.Test.YtohpmbodfpjjmaaFltDy
namespace Go.Proofs.Ytohpmbodfpjjmaa.Wk
open Go.Vm Limb
set_option linter.unusedVariables false
set_option linter.unusedSimpArgs false

def nl (l : List Nat) : List Int := l.map fun x : Nat => (x : Int)
theorem nl_len (l : List Nat) : (nl l).length = l.length := by simp [nl]
theorem nl_append (l m : List Nat) : nl l ++ nl m = nl (l ++ m) := by simp [nl]
theorem nl_one (x : Nat) : [((x : Nat) : Int)] = nl [x] := rfl
theorem idx_nl {l : List Nat} {k : Nat} (h : k < l.length) : idx (nl l) (k : Int) = some ((l.getD k 0 : Nat) : Int) := by
  unfold idx; rw [if_pos (by omega)]; simp [nl, h]
theorem w32 (s : Nat) : IntKind.u32.wrap (s : Int) = ((s % 4294967296 : Nat) : Int) := by simp [IntKind.wrap, IntKind.signed, IntKind.bits]
theorem w64 {s : Nat} (h : s < 18446744073709551616) : IntKind.u64.wrap (s : Int) = (s : Int) := wrap_in .u64 _ (by simp only [lo]; omega) (by simp only [hi]; omega)
theorem okget {l : List Nat} (h : ok l) (k : Nat) : l.getD k 0 < 4294967296 := by
  rw [List.getD_eq_getElem?_getD]
  cases hq : l[k]? with
  | none => decide
  | some x => exact h x (List.mem_of_getElem? hq)


/-! ### trim -/
theorem trim_loop : ∀ (n : Nat) (l : List Nat), l.length = n → l.length < 9223372036854775807 → ∀ F, n < F → iter p_trim_l2 F (nl l) = some (Sum.inl (nl (trim l))) := by
  intro n
  induction n with
  | zero =>
    intro l hl _ F hF
    obtain ⟨F, rfl⟩ : ∃ m, F = m + 1 := ⟨F - 1, by omega⟩
    have : l = [] := List.eq_nil_of_length_eq_zero hl
    subst this
    rfl
  | succ n ih =>
    intro l hl hb F hF
    obtain ⟨F, rfl⟩ : ∃ m, F = m + 1 := ⟨F - 1, by omega⟩
    rcases List.eq_nil_or_concat l with rfl | ⟨i, x, rfl⟩
    · simp at hl
    · simp only [List.concat_eq_append] at *
      have hi : i.length = n := by simpa using hl
      have hc : (((nl (i ++ [x])).length : Nat) : Int) - 1 = ((n : Nat) : Int) := by rw [nl_len]; simp [hi]
      show p_trim_l2 (iter p_trim_l2 F) (nl (i ++ [x])) = _
      unfold p_trim_l2
      rw [cond_t (by rw [nl_len]; simp), hc, need_pos (in64 (by omega) (by simp at hb; omega)), idx_nl (by simp; omega)]
      have hg : (i ++ [x]).getD n 0 = x := by rw [List.getD_eq_getElem?_getD, ← hi]; simp
      rw [hg, Option.bind_some, trim_snoc]
      by_cases hx : x = 0
      · subst hx
        rw [cond_t (by simp), if_pos rfl, need_pos (in64 (by omega) (by simp at hb; omega)), need_pos (by rw [nl_len]; simp; omega)]
        have : ((nl (i ++ [0])).drop 0).take ((n : Int).toNat - 0) = nl i := by simp [nl, ← hi]
        rw [this]
        exact ih i hi (by simp at hb; omega) F (by omega)
      · rw [cond_f (by simp; omega), if_neg hx]
theorem trim_p {F : Nat} {l : List Nat} (hl : l.length < F) (hb : l.length < 9223372036854775807) : p_trim F (nl l) = some (nl (trim l)) := by
  unfold p_trim
  rw [trim_loop _ l rfl hb F hl]; rfl

/-! ### sums -/
theorem add_loop {x y : List Nat} (hx : ok x) (hy : ok y) (hyx : y.length ≤ x.length) (hb : x.length < 1073741824) : ∀ (n k c : Nat) (out : List Nat), n = x.length - k → k ≤ x.length → out.length = k → ok out → c ≤ 1 →
    val out + 4294967296 ^ k * c = val (x.take k) + val (y.take k) → ∀ F, n < F →
    ∃ (c' : Nat) (out' : List Nat), iter (p_addLimbs_l3 (nl x, nl y)) F ((c : Int), (k : Int), nl out) = some (Sum.inl ((c' : Int), nl out')) ∧ out'.length = x.length ∧ ok out' ∧ c' ≤ 1 ∧ val out' + 4294967296 ^ x.length * c' = val x + val y := by
  intro n
  induction n with
  | zero =>
    intro k c out hn hk ho hok hc hv F hF
    obtain ⟨F, rfl⟩ : ∃ m, F = m + 1 := ⟨F - 1, by omega⟩
    have hkx : k = x.length := by omega
    subst hkx
    refine ⟨c, out, ?_, ho, hok, hc, ?_⟩
    · show p_addLimbs_l3 _ _ _ = _
      unfold p_addLimbs_l3
      rw [cond_f (by simp [nl_len])]
    · rw [hv, List.take_of_length_le (Nat.le_refl _), List.take_of_length_le hyx]
  | succ n ih =>
    intro k c out hn hk ho hok hc hv F hF
    obtain ⟨F, rfl⟩ : ∃ m, F = m + 1 := ⟨F - 1, by omega⟩
    have hkx : k < x.length := by omega
    have bx := okget hx k
    have bY := okget hy k
    have fin : ∀ s : Nat, s = x.getD k 0 + c + y.getD k 0 →
        ∃ (c' : Nat) (out' : List Nat), p_addLimbs_k4 ((c : Int), (k : Int), nl out) (iter (p_addLimbs_l3 (nl x, nl y)) F) (s : Int) = some (Sum.inl ((c' : Int), nl out')) ∧ out'.length = x.length ∧ ok out' ∧ c' ≤ 1 ∧ val out' + 4294967296 ^ x.length * c' = val x + val y := by
      intro s hs
      unfold p_addLimbs_k4
      rw [need_pos (by simp only [nl_len, List.length_singleton]; omega), need_pos (by omega), need_pos (in64 (by simp only; omega) (by simp only; omega)), w32]
      have e1 : (s : Int) / 2 ^ 32 = ((s / 4294967296 : Nat) : Int) := by
        have : (2 : Int) ^ 32 = 4294967296 := by decide
        rw [this]; omega
      have e2 : ((k : Int) + 1) = ((k + 1 : Nat) : Int) := by omega
      simp only [e1, e2, nl_one, nl_append]
      exact ih (k + 1) (s / 4294967296) (out ++ [s % 4294967296]) (by omega) (by omega) (by simp [ho]) (ok_snoc hok) (by omega) (add_step ho hv hs) F (by omega)
    show ∃ (c' : Nat) (out' : List Nat), p_addLimbs_l3 _ _ _ = _ ∧ _
    unfold p_addLimbs_l3
    simp only
    rw [cond_t (by simp [nl_len]; omega), idx_nl hkx, Option.bind_some, w64 (by omega), need_pos (inu64 (by omega) (by omega))]
    by_cases hky : k < y.length
    · rw [cond_t (by simp [nl_len]; omega), idx_nl hky, Option.bind_some, w64 (by omega), need_pos (inu64 (by omega) (by omega))]
      have := fin (x.getD k 0 + c + y.getD k 0) rfl
      have e : ((x.getD k 0 : Nat) : Int) + (c : Int) + ((y.getD k 0 : Nat) : Int) = ((x.getD k 0 + c + y.getD k 0 : Nat) : Int) := by omega
      rw [e]; exact this
    · have hz : y.getD k 0 = 0 := by rw [List.getD_eq_getElem?_getD, List.getElem?_eq_none (by omega)]; rfl
      rw [cond_f (by simp [nl_len]; omega)]
      have := fin (x.getD k 0 + c) (by omega)
      have e : ((x.getD k 0 : Nat) : Int) + (c : Int) = ((x.getD k 0 + c : Nat) : Int) := by omega
      rw [e]; exact this
theorem add_k {x y : List Nat} (hx : ok x) (hy : ok y) (hyx : y.length ≤ x.length) (hb : x.length < 1073741824) {F : Nat} (hF : 1073741826 ≤ F) : p_addLimbs_k1 F (nl x, nl y) = some (nl (limbs (val x + val y))) := by
  obtain ⟨c, out, h1, h2, h3, h4, h5⟩ := add_loop hx hy hyx hb x.length 0 0 [] rfl (Nat.zero_le _) rfl (fun z hz => by simp at hz) (by omega) (by simp [val]) F (by omega)
  unfold p_addLimbs_k1
  simp only [nl_len]
  rw [need_pos (in64 (by omega) (by omega)), need_pos (by omega)]
  have h1' : iter (p_addLimbs_l3 (nl x, nl y)) F ((0 : Int), (0 : Int), []) = some (Sum.inl ((c : Int), nl out)) := h1
  rw [h1', Option.bind_some]
  show p_addLimbs_k2 F ((c : Int), nl out) = _
  unfold p_addLimbs_k2
  have e : ((c : Nat) % 4294967296) = c := by omega
  rw [need_pos (by simp only [nl_len, List.length_singleton]; omega), w32, e, nl_one, nl_append, trim_p (by simp; omega) (by simp; omega), Option.bind_some, trim_limbs _ (fun z hz => by
    rcases List.mem_append.1 hz with h | h
    · exact h3 z h
    · rw [List.mem_singleton.1 h]; omega)]
  have ev : val (out ++ [c]) = val x + val y := by rw [val_append, h2, ← h5]; simp [val]
  rw [ev]
theorem addLimbs_p {a b : List Nat} (ha : ok a) (hb : ok b) (la : a.length < 1073741824) (lb : b.length < 1073741824) {F : Nat} (hF : 1073741826 ≤ F) : p_addLimbs F (nl a) (nl b) = some (nl (limbs (val a + val b))) := by
  unfold p_addLimbs
  simp only [nl_len]
  by_cases h : a.length < b.length
  · rw [cond_t (by simp; omega), add_k hb ha (by omega) lb hF, Nat.add_comm]
  · rw [cond_f (by simp; omega), add_k ha hb (by omega) la hF]

/-! ### comparing -/
theorem cmp_loop {x y : List Nat} (hx : ok x) (hy : ok y) (hl : x.length = y.length) (hb : x.length < 1073741824) : ∀ (j : Nat), j ≤ x.length → x.drop j = y.drop j → ∀ F, j < F →
    iter (p_cmpLimbs_l2 (nl x) (nl y)) F ((j : Int) - 1) = some (if val x = val y then Sum.inl () else Sum.inr (if val x < val y then -1 else 1)) := by
  intro j
  induction j with
  | zero =>
    intro hj hd F hF
    obtain ⟨F, rfl⟩ : ∃ m, F = m + 1 := ⟨F - 1, by omega⟩
    have : x = y := by simpa using hd
    subst this
    rw [if_pos rfl]
    show p_cmpLimbs_l2 _ _ _ _ = _
    unfold p_cmpLimbs_l2
    rw [cond_f (by decide)]
  | succ j ih =>
    intro hj hd F hF
    obtain ⟨F, rfl⟩ : ∃ m, F = m + 1 := ⟨F - 1, by omega⟩
    show p_cmpLimbs_l2 _ _ _ _ = _
    have e : (((j + 1 : Nat) : Int) - 1) = (j : Int) := by omega
    rw [e]
    unfold p_cmpLimbs_l2
    rw [cond_t (by simp), idx_nl (by omega), Option.bind_some, idx_nl (by omega), Option.bind_some]
    by_cases hxy : x.getD j 0 = y.getD j 0
    · rw [cond_f (nF (by omega)), need_pos (in64m (by omega) (by omega))]
      have hd' : x.drop j = y.drop j := by
        have h1 : x[j]'(by omega) = y[j]'(by omega) := by
          have h2 := hxy
          rw [List.getD_eq_getElem?_getD, List.getD_eq_getElem?_getD, List.getElem?_eq_getElem (l := x) (i := j) (by omega), List.getElem?_eq_getElem (l := y) (i := j) (by omega)] at h2
          exact h2
        rw [List.drop_eq_getElem_cons (l := x) (i := j) (by omega), List.drop_eq_getElem_cons (l := y) (i := j) (by omega), h1, hd]
      exact ih (by omega) hd' F (by omega)
    · rw [cond_t (nT (by omega))]
      simp only [Option.bind_some]
      by_cases hlt : x.getD j 0 < y.getD j 0
      · have hv := cmp_at hx hy (by omega) (by omega) hd hlt
        rw [cond_t (decide_eq_true (by omega)), if_neg (by omega), if_pos hv]
      · have hv := cmp_at hy hx (j := j) (by omega) (by omega) hd.symm (by omega)
        rw [cond_f (decide_eq_false (by omega)), if_neg (by omega), if_neg (by omega)]
theorem cmp_p {a b : Nat} (la : (limbs a).length < 1073741824) (lb : (limbs b).length < 1073741824) {F : Nat} (hF : 1073741826 ≤ F) :
    p_cmpLimbs F (nl (limbs a)) (nl (limbs b)) = some (if a = b then 0 else if a < b then -1 else 1) := by
  unfold p_cmpLimbs
  simp only [nl_len]
  by_cases hl : (limbs a).length = (limbs b).length
  · rw [cond_f (by simp [hl]), need_pos (in64m (by omega) (by omega)), cmp_loop (limbs_ok a) (limbs_ok b) hl la (limbs a).length (Nat.le_refl _) (by rw [List.drop_length, hl, List.drop_length]) F (by omega), val_limbs, val_limbs]
    by_cases h : a = b
    · rw [if_pos h, if_pos h]; rfl
    · rw [if_neg h, if_neg h]; rfl
  · rw [cond_t (by simp; omega)]
    by_cases h : (limbs a).length < (limbs b).length
    · have := limbs_len_lt h
      rw [cond_t (by simp; omega), if_neg (by omega), if_pos this]
    · have := limbs_len_lt (a := b) (b := a) (by omega)
      rw [cond_f (by simp; omega), if_neg (by omega), if_neg (by omega)]

/-! ### differences -/
theorem sub_loop {x y : List Nat} (hx : ok x) (hy : ok y) (hyx : y.length ≤ x.length) (hb : x.length < 1073741824) : ∀ (n k c : Nat) (out : List Nat), n = x.length - k → k ≤ x.length → out.length = k → ok out → c ≤ 1 →
    val out + val (y.take k) = val (x.take k) + 4294967296 ^ k * c → ∀ F, n < F →
    ∃ (c' : Nat) (out' : List Nat), iter (p_subLimbs_l2 (nl x) (nl y)) F ((c : Int), (k : Int), nl out) = some (Sum.inl (nl out')) ∧ ok out' ∧ out'.length = x.length ∧ val out' + val y = val x + 4294967296 ^ x.length * c' := by
  intro n
  induction n with
  | zero =>
    intro k c out hn hk ho hok hc hv F hF
    obtain ⟨F, rfl⟩ : ∃ m, F = m + 1 := ⟨F - 1, by omega⟩
    have hkx : k = x.length := by omega
    subst hkx
    refine ⟨c, out, ?_, hok, ho, ?_⟩
    · show p_subLimbs_l2 _ _ _ _ = _
      unfold p_subLimbs_l2
      rw [cond_f (by simp [nl_len])]
    · rw [List.take_of_length_le (Nat.le_refl _), List.take_of_length_le hyx] at hv
      exact hv
  | succ n ih =>
    intro k c out hn hk ho hok hc hv F hF
    obtain ⟨F, rfl⟩ : ∃ m, F = m + 1 := ⟨F - 1, by omega⟩
    have hkx : k < x.length := by omega
    have bx := okget hx k
    have bY := okget hy k
    have fin : ∀ s b : Nat, s = c + y.getD k 0 → b = (if x.getD k 0 < s then 1 else 0) →
        ∃ (c' : Nat) (out' : List Nat), p_subLimbs_k4 ((c : Int), (k : Int), nl out) (iter (p_subLimbs_l2 (nl x) (nl y)) F) ((x.getD k 0 : Nat) : Int) (s : Int) (b : Int) = some (Sum.inl (nl out')) ∧ ok out' ∧ out'.length = x.length ∧ val out' + val y = val x + 4294967296 ^ x.length * c' := by
      intro s b hs hb2
      have hb1 : b ≤ 1 := by rw [hb2]; split <;> omega
      have hge : s ≤ x.getD k 0 + b * 4294967296 := by rw [hb2]; split <;> omega
      have hlt : x.getD k 0 + b * 4294967296 - s < 4294967296 := by rw [hb2]; split <;> omega
      obtain ⟨t, ht⟩ : ∃ t, t = x.getD k 0 + b * 4294967296 - s := ⟨_, rfl⟩
      unfold p_subLimbs_k4
      have e1 : (b : Int) * 2 ^ 32 = ((b * 4294967296 : Nat) : Int) := by
        have : (2 : Int) ^ 32 = 4294967296 := by decide
        rw [this]; omega
      have e2 : ((k : Int) + 1) = ((k + 1 : Nat) : Int) := by omega
      have e3 : ((x.getD k 0 : Nat) : Int) + ((b * 4294967296 : Nat) : Int) - (s : Int) = (t : Int) := by omega
      rw [w64 (by omega), e1, w64 (by omega), need_pos (inu64 (by omega) (by omega)), e3, need_pos (inu64 (by omega) (by omega)), w32, need_pos (by simp only [nl_len, List.length_singleton]; omega), need_pos (in64 (by simp only; omega) (by simp only; omega))]
      have e4 : t % 4294967296 = t := by omega
      simp only [e2, e4, nl_one, nl_append]
      refine ih (k + 1) b (out ++ [t]) (by omega) (by omega) (by simp [ho]) (fun z hz => ?_) hb1 ?_ F (by omega)
      · rcases List.mem_append.1 hz with h | h
        · exact hok z h
        · rw [List.mem_singleton.1 h]; omega
      · rw [val_append, ho, val_take_any, val_take_any]
        have h1 : val [t] = t := by simp [val]
        rw [h1, Nat.pow_succ]
        have h2 : 4294967296 ^ k * t + 4294967296 ^ k * s = 4294967296 ^ k * x.getD k 0 + 4294967296 ^ k * 4294967296 * b := by
          rw [Nat.mul_assoc, ← Nat.mul_add, ← Nat.mul_add]; congr 1; omega
        have h3 : 4294967296 ^ k * s = 4294967296 ^ k * c + 4294967296 ^ k * y.getD k 0 := by rw [hs, Nat.mul_add]
        omega
    have fin2 : ∀ s : Nat, s = c + y.getD k 0 →
        ∃ (c' : Nat) (out' : List Nat), p_subLimbs_k3 ((c : Int), (k : Int), nl out) (iter (p_subLimbs_l2 (nl x) (nl y)) F) ((x.getD k 0 : Nat) : Int) (s : Int) = some (Sum.inl (nl out')) ∧ ok out' ∧ out'.length = x.length ∧ val out' + val y = val x + 4294967296 ^ x.length * c' := by
      intro s hs
      unfold p_subLimbs_k3
      rw [w64 (by omega)]
      by_cases h : x.getD k 0 < s
      · rw [cond_t (decide_eq_true (by omega))]; exact fin s 1 hs (by rw [if_pos h])
      · rw [cond_f (decide_eq_false (by omega))]; exact fin s 0 hs (by rw [if_neg h])
    show ∃ (c' : Nat) (out' : List Nat), p_subLimbs_l2 _ _ _ _ = _ ∧ _
    unfold p_subLimbs_l2
    simp only
    rw [cond_t (by simp [nl_len]; omega), idx_nl hkx, Option.bind_some]
    by_cases hky : k < y.length
    · rw [cond_t (by simp [nl_len]; omega), idx_nl hky, Option.bind_some, w64 (by omega), need_pos (inu64 (by omega) (by omega))]
      have := fin2 (c + y.getD k 0) rfl
      have e : (c : Int) + ((y.getD k 0 : Nat) : Int) = ((c + y.getD k 0 : Nat) : Int) := by omega
      rw [e]; exact this
    · have hz : y.getD k 0 = 0 := by rw [List.getD_eq_getElem?_getD, List.getElem?_eq_none (by omega)]; rfl
      rw [cond_f (by simp [nl_len]; omega)]
      exact fin2 c (by omega)
theorem subLimbs_p {a b : List Nat} (ha : ok a) (hb : ok b) (la : a.length < 1073741824) (lb : b.length ≤ a.length) (hv : val b ≤ val a) {F : Nat} (hF : 1073741826 ≤ F) : p_subLimbs F (nl a) (nl b) = some (nl (limbs (val a - val b))) := by
  obtain ⟨c, out, h1, h2, h3, h4⟩ := sub_loop ha hb lb la a.length 0 0 [] rfl (Nat.zero_le _) rfl (fun z hz => by simp at hz) (by omega) (by simp [val]) F (by omega)
  have hc : c = 0 := by
    have := val_lt h2
    rw [h3] at this
    rcases Nat.eq_zero_or_pos c with h | h
    · exact h
    · have h5 : 4294967296 ^ a.length * 1 ≤ 4294967296 ^ a.length * c := Nat.mul_le_mul_left _ h
      omega
  subst hc
  unfold p_subLimbs
  simp only [nl_len]
  have h1' : iter (p_subLimbs_l2 (nl a) (nl b)) F ((0 : Int), (0 : Int), []) = some (Sum.inl (nl out)) := h1
  rw [need_pos (by omega), h1', Option.bind_some]
  show p_subLimbs_k1 F (nl out) = _
  unfold p_subLimbs_k1
  rw [trim_p (by omega) (by omega), Option.bind_some, trim_limbs _ h2]
  have ev : val out = val a - val b := by omega
  rw [ev]
end Go.Proofs.Ytohpmbodfpjjmaa.Wk
