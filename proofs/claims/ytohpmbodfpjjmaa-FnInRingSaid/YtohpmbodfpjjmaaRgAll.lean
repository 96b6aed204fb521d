/- Proved: plain texts of a law, joined. -/
import Derived.Test.YtohpmbodfpjjmaaPRi
import Derived.Test.YtohpmbodfpjjmaaLimbs
import Derived.Test.YtohpmbodfpjjmaaPureKit
import Derived.Test.YtohpmbodfpjjmaaFltDy
import Derived.Test.YtohpmbodfpjjmaaFltTo
import Derived.Test.YtohpmbodfpjjmaaFltFloor
namespace Go.Proofs.Ytohpmbodfpjjmaa.Wk
open Go.Vm Limb
set_option linter.unusedVariables false
set_option linter.unusedSimpArgs false

def nl (l : List Nat) : List Int := l.map fun x : Nat => (x : Int)
theorem nl_len (l : List Nat) : (nl l).length = l.length := by simp [nl]
theorem nl_append (l m : List Nat) : nl l ++ nl m = nl (l ++ m) := by simp [nl]
theorem nl_one (x : Nat) : [((x : Nat) : Int)] = nl [x] := rfl
theorem idx_nl {l : List Nat} {k : Nat} (h : k < l.length) : idx (nl l) (k : Int) = some ((l.getD k 0 : Nat) : Int) := by
  unfold idx; rw [if_pos (by omega)]; simp [nl, h]
theorem w32 (s : Nat) : IntKind.u32.wrap (s : Int) = ((s % 4294967296 : Nat) : Int) := by simp [IntKind.wrap, IntKind.signed, IntKind.bits]
theorem w64 {s : Nat} (h : s < 18446744073709551616) : IntKind.u64.wrap (s : Int) = (s : Int) := wrap_in .u64 _ (by simp only [lo]; omega) (by simp only [hi]; omega)
theorem okget {l : List Nat} (h : ok l) (k : Nat) : l.getD k 0 < 4294967296 := by
  rw [List.getD_eq_getElem?_getD]
  cases hq : l[k]? with
  | none => decide
  | some x => exact h x (List.mem_of_getElem? hq)


/-! ### trim -/
theorem trim_loop : ∀ (n : Nat) (l : List Nat), l.length = n → l.length < 9223372036854775807 → ∀ F, n < F → iter p_trim_l2 F (nl l) = some (Sum.inl (nl (trim l))) := by
  intro n
  induction n with
  | zero =>
    intro l hl _ F hF
    obtain ⟨F, rfl⟩ : ∃ m, F = m + 1 := ⟨F - 1, by omega⟩
    have : l = [] := List.eq_nil_of_length_eq_zero hl
    subst this
    rfl
  | succ n ih =>
    intro l hl hb F hF
    obtain ⟨F, rfl⟩ : ∃ m, F = m + 1 := ⟨F - 1, by omega⟩
    rcases List.eq_nil_or_concat l with rfl | ⟨i, x, rfl⟩
    · simp at hl
    · simp only [List.concat_eq_append] at *
      have hi : i.length = n := by simpa using hl
      have hc : (((nl (i ++ [x])).length : Nat) : Int) - 1 = ((n : Nat) : Int) := by rw [nl_len]; simp [hi]
      show p_trim_l2 (iter p_trim_l2 F) (nl (i ++ [x])) = _
      unfold p_trim_l2
      rw [cond_t (by rw [nl_len]; simp), hc, need_pos (in64 (by omega) (by simp at hb; omega)), idx_nl (by simp; omega)]
      have hg : (i ++ [x]).getD n 0 = x := by rw [List.getD_eq_getElem?_getD, ← hi]; simp
      rw [hg, Option.bind_some, trim_snoc]
      by_cases hx : x = 0
      · subst hx
        rw [cond_t (by simp), if_pos rfl, need_pos (in64 (by omega) (by simp at hb; omega)), need_pos (by rw [nl_len]; simp; omega)]
        have : ((nl (i ++ [0])).drop 0).take ((n : Int).toNat - 0) = nl i := by simp [nl, ← hi]
        rw [this]
        exact ih i hi (by simp at hb; omega) F (by omega)
      · rw [cond_f (by simp; omega), if_neg hx]
theorem trim_p {F : Nat} {l : List Nat} (hl : l.length < F) (hb : l.length < 9223372036854775807) : p_trim F (nl l) = some (nl (trim l)) := by
  unfold p_trim
  rw [trim_loop _ l rfl hb F hl]; rfl

/-! ### sums -/
theorem add_loop {x y : List Nat} (hx : ok x) (hy : ok y) (hyx : y.length ≤ x.length) (hb : x.length < 1073741824) : ∀ (n k c : Nat) (out : List Nat), n = x.length - k → k ≤ x.length → out.length = k → ok out → c ≤ 1 →
    val out + 4294967296 ^ k * c = val (x.take k) + val (y.take k) → ∀ F, n < F →
    ∃ (c' : Nat) (out' : List Nat), iter (p_addLimbs_l3 (nl x, nl y)) F ((c : Int), (k : Int), nl out) = some (Sum.inl ((c' : Int), nl out')) ∧ out'.length = x.length ∧ ok out' ∧ c' ≤ 1 ∧ val out' + 4294967296 ^ x.length * c' = val x + val y := by
  intro n
  induction n with
  | zero =>
    intro k c out hn hk ho hok hc hv F hF
    obtain ⟨F, rfl⟩ : ∃ m, F = m + 1 := ⟨F - 1, by omega⟩
    have hkx : k = x.length := by omega
    subst hkx
    refine ⟨c, out, ?_, ho, hok, hc, ?_⟩
    · show p_addLimbs_l3 _ _ _ = _
      unfold p_addLimbs_l3
      rw [cond_f (by simp [nl_len])]
    · rw [hv, List.take_of_length_le (Nat.le_refl _), List.take_of_length_le hyx]
  | succ n ih =>
    intro k c out hn hk ho hok hc hv F hF
    obtain ⟨F, rfl⟩ : ∃ m, F = m + 1 := ⟨F - 1, by omega⟩
    have hkx : k < x.length := by omega
    have bx := okget hx k
    have bY := okget hy k
    have fin : ∀ s : Nat, s = x.getD k 0 + c + y.getD k 0 →
        ∃ (c' : Nat) (out' : List Nat), p_addLimbs_k4 ((c : Int), (k : Int), nl out) (iter (p_addLimbs_l3 (nl x, nl y)) F) (s : Int) = some (Sum.inl ((c' : Int), nl out')) ∧ out'.length = x.length ∧ ok out' ∧ c' ≤ 1 ∧ val out' + 4294967296 ^ x.length * c' = val x + val y := by
      intro s hs
      unfold p_addLimbs_k4
      rw [need_pos (by simp only [nl_len, List.length_singleton]; omega), need_pos (by omega), need_pos (in64 (by simp only; omega) (by simp only; omega)), w32]
      have e1 : (s : Int) / 2 ^ 32 = ((s / 4294967296 : Nat) : Int) := by
        have : (2 : Int) ^ 32 = 4294967296 := by decide
        rw [this]; omega
      have e2 : ((k : Int) + 1) = ((k + 1 : Nat) : Int) := by omega
      simp only [e1, e2, nl_one, nl_append]
      exact ih (k + 1) (s / 4294967296) (out ++ [s % 4294967296]) (by omega) (by omega) (by simp [ho]) (ok_snoc hok) (by omega) (add_step ho hv hs) F (by omega)
    show ∃ (c' : Nat) (out' : List Nat), p_addLimbs_l3 _ _ _ = _ ∧ _
    unfold p_addLimbs_l3
    simp only
    rw [cond_t (by simp [nl_len]; omega), idx_nl hkx, Option.bind_some, w64 (by omega), need_pos (inu64 (by omega) (by omega))]
    by_cases hky : k < y.length
    · rw [cond_t (by simp [nl_len]; omega), idx_nl hky, Option.bind_some, w64 (by omega), need_pos (inu64 (by omega) (by omega))]
      have := fin (x.getD k 0 + c + y.getD k 0) rfl
      have e : ((x.getD k 0 : Nat) : Int) + (c : Int) + ((y.getD k 0 : Nat) : Int) = ((x.getD k 0 + c + y.getD k 0 : Nat) : Int) := by omega
      rw [e]; exact this
    · have hz : y.getD k 0 = 0 := by rw [List.getD_eq_getElem?_getD, List.getElem?_eq_none (by omega)]; rfl
      rw [cond_f (by simp [nl_len]; omega)]
      have := fin (x.getD k 0 + c) (by omega)
      have e : ((x.getD k 0 : Nat) : Int) + (c : Int) = ((x.getD k 0 + c : Nat) : Int) := by omega
      rw [e]; exact this
theorem add_k {x y : List Nat} (hx : ok x) (hy : ok y) (hyx : y.length ≤ x.length) (hb : x.length < 1073741824) {F : Nat} (hF : 1073741826 ≤ F) : p_addLimbs_k1 F (nl x, nl y) = some (nl (limbs (val x + val y))) := by
  obtain ⟨c, out, h1, h2, h3, h4, h5⟩ := add_loop hx hy hyx hb x.length 0 0 [] rfl (Nat.zero_le _) rfl (fun z hz => by simp at hz) (by omega) (by simp [val]) F (by omega)
  unfold p_addLimbs_k1
  simp only [nl_len]
  rw [need_pos (in64 (by omega) (by omega)), need_pos (by omega)]
  have h1' : iter (p_addLimbs_l3 (nl x, nl y)) F ((0 : Int), (0 : Int), []) = some (Sum.inl ((c : Int), nl out)) := h1
  rw [h1', Option.bind_some]
  show p_addLimbs_k2 F ((c : Int), nl out) = _
  unfold p_addLimbs_k2
  have e : ((c : Nat) % 4294967296) = c := by omega
  rw [need_pos (by simp only [nl_len, List.length_singleton]; omega), w32, e, nl_one, nl_append, trim_p (by simp; omega) (by simp; omega), Option.bind_some, trim_limbs _ (fun z hz => by
    rcases List.mem_append.1 hz with h | h
    · exact h3 z h
    · rw [List.mem_singleton.1 h]; omega)]
  have ev : val (out ++ [c]) = val x + val y := by rw [val_append, h2, ← h5]; simp [val]
  rw [ev]
theorem addLimbs_p {a b : List Nat} (ha : ok a) (hb : ok b) (la : a.length < 1073741824) (lb : b.length < 1073741824) {F : Nat} (hF : 1073741826 ≤ F) : p_addLimbs F (nl a) (nl b) = some (nl (limbs (val a + val b))) := by
  unfold p_addLimbs
  simp only [nl_len]
  by_cases h : a.length < b.length
  · rw [cond_t (by simp; omega), add_k hb ha (by omega) lb hF, Nat.add_comm]
  · rw [cond_f (by simp; omega), add_k ha hb (by omega) la hF]

/-! ### comparing -/
theorem cmp_loop {x y : List Nat} (hx : ok x) (hy : ok y) (hl : x.length = y.length) (hb : x.length < 1073741824) : ∀ (j : Nat), j ≤ x.length → x.drop j = y.drop j → ∀ F, j < F →
    iter (p_cmpLimbs_l2 (nl x) (nl y)) F ((j : Int) - 1) = some (if val x = val y then Sum.inl () else Sum.inr (if val x < val y then -1 else 1)) := by
  intro j
  induction j with
  | zero =>
    intro hj hd F hF
    obtain ⟨F, rfl⟩ : ∃ m, F = m + 1 := ⟨F - 1, by omega⟩
    have : x = y := by simpa using hd
    subst this
    rw [if_pos rfl]
    show p_cmpLimbs_l2 _ _ _ _ = _
    unfold p_cmpLimbs_l2
    rw [cond_f (by decide)]
  | succ j ih =>
    intro hj hd F hF
    obtain ⟨F, rfl⟩ : ∃ m, F = m + 1 := ⟨F - 1, by omega⟩
    show p_cmpLimbs_l2 _ _ _ _ = _
    have e : (((j + 1 : Nat) : Int) - 1) = (j : Int) := by omega
    rw [e]
    unfold p_cmpLimbs_l2
    rw [cond_t (by simp), idx_nl (by omega), Option.bind_some, idx_nl (by omega), Option.bind_some]
    by_cases hxy : x.getD j 0 = y.getD j 0
    · rw [cond_f (nF (by omega)), need_pos (in64m (by omega) (by omega))]
      have hd' : x.drop j = y.drop j := by
        have h1 : x[j]'(by omega) = y[j]'(by omega) := by
          have h2 := hxy
          rw [List.getD_eq_getElem?_getD, List.getD_eq_getElem?_getD, List.getElem?_eq_getElem (l := x) (i := j) (by omega), List.getElem?_eq_getElem (l := y) (i := j) (by omega)] at h2
          exact h2
        rw [List.drop_eq_getElem_cons (l := x) (i := j) (by omega), List.drop_eq_getElem_cons (l := y) (i := j) (by omega), h1, hd]
      exact ih (by omega) hd' F (by omega)
    · rw [cond_t (nT (by omega))]
      simp only [Option.bind_some]
      by_cases hlt : x.getD j 0 < y.getD j 0
      · have hv := cmp_at hx hy (by omega) (by omega) hd hlt
        rw [cond_t (decide_eq_true (by omega)), if_neg (by omega), if_pos hv]
      · have hv := cmp_at hy hx (j := j) (by omega) (by omega) hd.symm (by omega)
        rw [cond_f (decide_eq_false (by omega)), if_neg (by omega), if_neg (by omega)]
theorem cmp_p {a b : Nat} (la : (limbs a).length < 1073741824) (lb : (limbs b).length < 1073741824) {F : Nat} (hF : 1073741826 ≤ F) :
    p_cmpLimbs F (nl (limbs a)) (nl (limbs b)) = some (if a = b then 0 else if a < b then -1 else 1) := by
  unfold p_cmpLimbs
  simp only [nl_len]
  by_cases hl : (limbs a).length = (limbs b).length
  · rw [cond_f (by simp [hl]), need_pos (in64m (by omega) (by omega)), cmp_loop (limbs_ok a) (limbs_ok b) hl la (limbs a).length (Nat.le_refl _) (by rw [List.drop_length, hl, List.drop_length]) F (by omega), val_limbs, val_limbs]
    by_cases h : a = b
    · rw [if_pos h, if_pos h]; rfl
    · rw [if_neg h, if_neg h]; rfl
  · rw [cond_t (by simp; omega)]
    by_cases h : (limbs a).length < (limbs b).length
    · have := limbs_len_lt h
      rw [cond_t (by simp; omega), if_neg (by omega), if_pos this]
    · have := limbs_len_lt (a := b) (b := a) (by omega)
      rw [cond_f (by simp; omega), if_neg (by omega), if_neg (by omega)]

/-! ### differences -/
theorem sub_loop {x y : List Nat} (hx : ok x) (hy : ok y) (hyx : y.length ≤ x.length) (hb : x.length < 1073741824) : ∀ (n k c : Nat) (out : List Nat), n = x.length - k → k ≤ x.length → out.length = k → ok out → c ≤ 1 →
    val out + val (y.take k) = val (x.take k) + 4294967296 ^ k * c → ∀ F, n < F →
    ∃ (c' : Nat) (out' : List Nat), iter (p_subLimbs_l2 (nl x) (nl y)) F ((c : Int), (k : Int), nl out) = some (Sum.inl (nl out')) ∧ ok out' ∧ out'.length = x.length ∧ val out' + val y = val x + 4294967296 ^ x.length * c' := by
  intro n
  induction n with
  | zero =>
    intro k c out hn hk ho hok hc hv F hF
    obtain ⟨F, rfl⟩ : ∃ m, F = m + 1 := ⟨F - 1, by omega⟩
    have hkx : k = x.length := by omega
    subst hkx
    refine ⟨c, out, ?_, hok, ho, ?_⟩
    · show p_subLimbs_l2 _ _ _ _ = _
      unfold p_subLimbs_l2
      rw [cond_f (by simp [nl_len])]
    · rw [List.take_of_length_le (Nat.le_refl _), List.take_of_length_le hyx] at hv
      exact hv
  | succ n ih =>
    intro k c out hn hk ho hok hc hv F hF
    obtain ⟨F, rfl⟩ : ∃ m, F = m + 1 := ⟨F - 1, by omega⟩
    have hkx : k < x.length := by omega
    have bx := okget hx k
    have bY := okget hy k
    have fin : ∀ s b : Nat, s = c + y.getD k 0 → b = (if x.getD k 0 < s then 1 else 0) →
        ∃ (c' : Nat) (out' : List Nat), p_subLimbs_k4 ((c : Int), (k : Int), nl out) (iter (p_subLimbs_l2 (nl x) (nl y)) F) ((x.getD k 0 : Nat) : Int) (s : Int) (b : Int) = some (Sum.inl (nl out')) ∧ ok out' ∧ out'.length = x.length ∧ val out' + val y = val x + 4294967296 ^ x.length * c' := by
      intro s b hs hb2
      have hb1 : b ≤ 1 := by rw [hb2]; split <;> omega
      have hge : s ≤ x.getD k 0 + b * 4294967296 := by rw [hb2]; split <;> omega
      have hlt : x.getD k 0 + b * 4294967296 - s < 4294967296 := by rw [hb2]; split <;> omega
      obtain ⟨t, ht⟩ : ∃ t, t = x.getD k 0 + b * 4294967296 - s := ⟨_, rfl⟩
      unfold p_subLimbs_k4
      have e1 : (b : Int) * 2 ^ 32 = ((b * 4294967296 : Nat) : Int) := by
        have : (2 : Int) ^ 32 = 4294967296 := by decide
        rw [this]; omega
      have e2 : ((k : Int) + 1) = ((k + 1 : Nat) : Int) := by omega
      have e3 : ((x.getD k 0 : Nat) : Int) + ((b * 4294967296 : Nat) : Int) - (s : Int) = (t : Int) := by omega
      rw [w64 (by omega), e1, w64 (by omega), need_pos (inu64 (by omega) (by omega)), e3, need_pos (inu64 (by omega) (by omega)), w32, need_pos (by simp only [nl_len, List.length_singleton]; omega), need_pos (in64 (by simp only; omega) (by simp only; omega))]
      have e4 : t % 4294967296 = t := by omega
      simp only [e2, e4, nl_one, nl_append]
      refine ih (k + 1) b (out ++ [t]) (by omega) (by omega) (by simp [ho]) (fun z hz => ?_) hb1 ?_ F (by omega)
      · rcases List.mem_append.1 hz with h | h
        · exact hok z h
        · rw [List.mem_singleton.1 h]; omega
      · rw [val_append, ho, val_take_any, val_take_any]
        have h1 : val [t] = t := by simp [val]
        rw [h1, Nat.pow_succ]
        have h2 : 4294967296 ^ k * t + 4294967296 ^ k * s = 4294967296 ^ k * x.getD k 0 + 4294967296 ^ k * 4294967296 * b := by
          rw [Nat.mul_assoc, ← Nat.mul_add, ← Nat.mul_add]; congr 1; omega
        have h3 : 4294967296 ^ k * s = 4294967296 ^ k * c + 4294967296 ^ k * y.getD k 0 := by rw [hs, Nat.mul_add]
        omega
    have fin2 : ∀ s : Nat, s = c + y.getD k 0 →
        ∃ (c' : Nat) (out' : List Nat), p_subLimbs_k3 ((c : Int), (k : Int), nl out) (iter (p_subLimbs_l2 (nl x) (nl y)) F) ((x.getD k 0 : Nat) : Int) (s : Int) = some (Sum.inl (nl out')) ∧ ok out' ∧ out'.length = x.length ∧ val out' + val y = val x + 4294967296 ^ x.length * c' := by
      intro s hs
      unfold p_subLimbs_k3
      rw [w64 (by omega)]
      by_cases h : x.getD k 0 < s
      · rw [cond_t (decide_eq_true (by omega))]; exact fin s 1 hs (by rw [if_pos h])
      · rw [cond_f (decide_eq_false (by omega))]; exact fin s 0 hs (by rw [if_neg h])
    show ∃ (c' : Nat) (out' : List Nat), p_subLimbs_l2 _ _ _ _ = _ ∧ _
    unfold p_subLimbs_l2
    simp only
    rw [cond_t (by simp [nl_len]; omega), idx_nl hkx, Option.bind_some]
    by_cases hky : k < y.length
    · rw [cond_t (by simp [nl_len]; omega), idx_nl hky, Option.bind_some, w64 (by omega), need_pos (inu64 (by omega) (by omega))]
      have := fin2 (c + y.getD k 0) rfl
      have e : (c : Int) + ((y.getD k 0 : Nat) : Int) = ((c + y.getD k 0 : Nat) : Int) := by omega
      rw [e]; exact this
    · have hz : y.getD k 0 = 0 := by rw [List.getD_eq_getElem?_getD, List.getElem?_eq_none (by omega)]; rfl
      rw [cond_f (by simp [nl_len]; omega)]
      exact fin2 c (by omega)
theorem subLimbs_p {a b : List Nat} (ha : ok a) (hb : ok b) (la : a.length < 1073741824) (lb : b.length ≤ a.length) (hv : val b ≤ val a) {F : Nat} (hF : 1073741826 ≤ F) : p_subLimbs F (nl a) (nl b) = some (nl (limbs (val a - val b))) := by
  obtain ⟨c, out, h1, h2, h3, h4⟩ := sub_loop ha hb lb la a.length 0 0 [] rfl (Nat.zero_le _) rfl (fun z hz => by simp at hz) (by omega) (by simp [val]) F (by omega)
  have hc : c = 0 := by
    have := val_lt h2
    rw [h3] at this
    rcases Nat.eq_zero_or_pos c with h | h
    · exact h
    · have h5 : 4294967296 ^ a.length * 1 ≤ 4294967296 ^ a.length * c := Nat.mul_le_mul_left _ h
      omega
  subst hc
  unfold p_subLimbs
  simp only [nl_len]
  have h1' : iter (p_subLimbs_l2 (nl a) (nl b)) F ((0 : Int), (0 : Int), []) = some (Sum.inl (nl out)) := h1
  rw [need_pos (by omega), h1', Option.bind_some]
  show p_subLimbs_k1 F (nl out) = _
  unfold p_subLimbs_k1
  rw [trim_p (by omega) (by omega), Option.bind_some, trim_limbs _ h2]
  have ev : val out = val a - val b := by omega
  rw [ev]
end Go.Proofs.Ytohpmbodfpjjmaa.Wk

namespace Go.Proofs.Ytohpmbodfpjjmaa.Wk
open Go.Vm Limb
set_option linter.unusedVariables false
set_option linter.unusedSimpArgs false

/-! ### products -/
theorem val_set : ∀ (l : List Nat) (j v : Nat), j < l.length → val (l.set j v) + 4294967296 ^ j * l.getD j 0 = val l + 4294967296 ^ j * v
  | [], j, v, h => by simp at h
  | x :: r, 0, v, h => by simp [val]; omega
  | x :: r, j + 1, v, h => by
    have := val_set r j v (by simpa using h)
    simp only [List.set_cons_succ, val, List.getD_cons_succ, Nat.pow_succ]
    have e1 : 4294967296 ^ j * 4294967296 * r.getD j 0 = 4294967296 * (4294967296 ^ j * r.getD j 0) := by rw [Nat.mul_comm (4294967296 ^ j) 4294967296, Nat.mul_assoc]
    have e2 : 4294967296 ^ j * 4294967296 * v = 4294967296 * (4294967296 ^ j * v) := by rw [Nat.mul_comm (4294967296 ^ j) 4294967296, Nat.mul_assoc]
    rw [e1, e2]; omega
theorem nl_set (l : List Nat) (j v : Nat) : (nl l).set j (v : Int) = nl (l.set j v) := by simp [nl, List.map_set]
theorem ok_set {l : List Nat} (h : ok l) (j : Nat) {v : Nat} (hv : v < 4294967296) : ok (l.set j v) := fun x hx => by
  rcases List.mem_or_eq_of_mem_set hx with h1 | h1
  · exact h x h1
  · rw [h1]; exact hv
theorem getD_set (l : List Nat) (i j v : Nat) (h : i ≠ j) : (l.set i v).getD j 0 = l.getD j 0 := by
  rw [List.getD_eq_getElem?_getD, List.getElem?_set_ne h, List.getD_eq_getElem?_getD]
theorem prod_lt {a b : Nat} (ha : a < 4294967296) (hb : b < 4294967296) : a * b ≤ 18446744065119617025 := by
  have : a * b ≤ 4294967295 * 4294967295 := Nat.mul_le_mul (by omega) (by omega)
  omega

theorem mul_in {s t : Bool} {x y : List Nat} {i ai N base : Nat} {o0 : List Int} (hN : N = x.length + y.length) (hi : i < x.length) (hb : N < 1073741824) (hai : ai < 4294967296) (hy : ok y) :
    ∀ (n k c : Nat) (out : List Nat), n = y.length - k → k ≤ y.length → out.length = N → ok out → c < 4294967296 → (∀ j, i + y.length ≤ j → out.getD j 0 = 0) →
    val out + 4294967296 ^ (i + k) * c = base + 4294967296 ^ i * (ai * val (y.take k)) → ∀ F, n < F →
    ∃ (c' : Nat) (out' : List Nat), iter (p_Whole_Mul_l4 ⟨s, nl x⟩ ⟨t, nl y⟩ ((i : Int), o0) (ai : Int)) F ((c : Int), (k : Int), nl out) = some (Sum.inl ((c' : Int), nl out')) ∧ out'.length = N ∧ ok out' ∧ c' < 4294967296 ∧
      (∀ j, i + y.length ≤ j → out'.getD j 0 = 0) ∧ val out' + 4294967296 ^ (i + y.length) * c' = base + 4294967296 ^ i * (ai * val y) := by
  intro n
  induction n with
  | zero =>
    intro k c out hn hk ho hok hc hz hv F hF
    obtain ⟨F, rfl⟩ : ∃ m, F = m + 1 := ⟨F - 1, by omega⟩
    have hky : k = y.length := by omega
    subst hky
    refine ⟨c, out, ?_, ho, hok, hc, hz, ?_⟩
    · show p_Whole_Mul_l4 _ _ _ _ _ _ = _
      unfold p_Whole_Mul_l4
      rw [cond_f (by simp [nl_len])]
    · rw [hv, List.take_of_length_le (Nat.le_refl _)]
  | succ n ih =>
    intro k c out hn hk ho hok hc hz hv F hF
    obtain ⟨F, rfl⟩ : ∃ m, F = m + 1 := ⟨F - 1, by omega⟩
    have hky : k < y.length := by omega
    have bY := okget hy k
    have bo := okget hok (i + k)
    have bp := prod_lt hai bY
    show ∃ (c' : Nat) (out' : List Nat), p_Whole_Mul_l4 _ _ _ _ _ _ = _ ∧ _
    generalize hK : iter (p_Whole_Mul_l4 ⟨s, nl x⟩ ⟨t, nl y⟩ ((i : Int), o0) (ai : Int)) F = K
    unfold p_Whole_Mul_l4
    simp only [nl_len]
    have e1 : ((ai : Nat) : Int) * ((y.getD k 0 : Nat) : Int) = ((ai * y.getD k 0 : Nat) : Int) := by rw [Int.natCast_mul]
    have e2 : ((i : Nat) : Int) + ((k : Nat) : Int) = ((i + k : Nat) : Int) := by omega
    have e3 : (((x.length : Nat) : Int) + ((y.length : Nat) : Int)).toNat = x.length + y.length := by omega
    have e4 : ((ai * y.getD k 0 : Nat) : Int) + ((out.getD (i + k) 0 : Nat) : Int) = ((ai * y.getD k 0 + out.getD (i + k) 0 : Nat) : Int) := by omega
    obtain ⟨S, hS⟩ : ∃ S, S = ai * y.getD k 0 + out.getD (i + k) 0 + c := ⟨_, rfl⟩
    have e5 : ((ai * y.getD k 0 + out.getD (i + k) 0 : Nat) : Int) + (c : Int) = (S : Int) := by omega
    have e6 : ((S : Nat) : Int) / 2 ^ 32 = ((S / 4294967296 : Nat) : Int) := by
      have : (2 : Int) ^ 32 = 4294967296 := by decide
      rw [this]; omega
    have e7 : ((k : Nat) : Int) + 1 = ((k + 1 : Nat) : Int) := by omega
    rw [cond_t (decide_eq_true (by omega)), idx_nl hky, Option.bind_some, w64 (by omega), w64 (by omega), e1, need_pos (inu64 (by omega) (by omega)), e2, need_pos (in64 (by omega) (by omega)), need_pos (by omega), idx_nl (by omega), Option.bind_some]
    rw [w64 (by omega), e4, need_pos (inu64 (by omega) (by omega)), e5, need_pos (inu64 (by omega) (by omega)), need_pos (in64 (by omega) (by omega)), need_pos (by omega), need_pos (by omega), need_pos (by omega), e7, need_pos (in64 (by omega) (by omega)), e6, w32]
    have e8 : (((i + k : Nat) : Int)).toNat = i + k := by omega
    rw [e8, nl_set, ← hK]
    have hlt : i + k < out.length := by omega
    refine ih (k + 1) (S / 4294967296) (out.set (i + k) (S % 4294967296)) (by omega) (by omega) (by simp [ho]) (ok_set hok _ (by omega)) (by omega) (fun j hj => ?_) ?_ F (by omega)
    · rw [getD_set _ _ _ _ (by omega)]; exact hz j hj
    · have h1 := val_set out (i + k) (S % 4294967296) hlt
      have h2 : S % 4294967296 + 4294967296 * (S / 4294967296) = S := Nat.mod_add_div _ _
      have h3 : 4294967296 ^ (i + (k + 1)) * (S / 4294967296) = 4294967296 ^ (i + k) * (4294967296 * (S / 4294967296)) := by rw [← Nat.add_assoc, Nat.pow_succ, Nat.mul_assoc]
      have h4 : 4294967296 ^ (i + k) * (S % 4294967296) + 4294967296 ^ (i + k) * (4294967296 * (S / 4294967296)) = 4294967296 ^ (i + k) * (ai * y.getD k 0) + 4294967296 ^ (i + k) * out.getD (i + k) 0 + 4294967296 ^ (i + k) * c := by rw [← Nat.mul_add, h2, hS, Nat.mul_add, Nat.mul_add]
      have h5 : 4294967296 ^ i * (ai * val (y.take (k + 1))) = 4294967296 ^ i * (ai * val (y.take k)) + 4294967296 ^ (i + k) * (ai * y.getD k 0) := by
        rw [val_take_any, Nat.mul_add, Nat.mul_add, Nat.pow_add]
        congr 1
        rw [Nat.mul_left_comm ai, Nat.mul_assoc]
      rw [h3, h5]
      omega

theorem mul_loop {s t : Bool} {x y : List Nat} {N : Nat} (hN : N = x.length + y.length) (hb : N < 1073741824) (hx : ok x) (hy : ok y) {G : Nat} (hG : 1073741826 ≤ G) :
    ∀ (n i : Nat) (out : List Nat), n = x.length - i → i ≤ x.length → out.length = N → ok out → (∀ j, i + y.length ≤ j → out.getD j 0 = 0) → val out = val (x.take i) * val y → ∀ F, n < F →
    ∃ (out' : List Nat), iter (p_Whole_Mul_l2 ⟨s, nl x⟩ ⟨t, nl y⟩ G) F ((i : Int), nl out) = some (Sum.inl (nl out')) ∧ out'.length = N ∧ ok out' ∧ val out' = val x * val y := by
  intro n
  induction n with
  | zero =>
    intro i out hn hi ho hok hz hv F hF
    obtain ⟨F, rfl⟩ : ∃ m, F = m + 1 := ⟨F - 1, by omega⟩
    have hix : i = x.length := by omega
    subst hix
    refine ⟨out, ?_, ho, hok, ?_⟩
    · show p_Whole_Mul_l2 _ _ _ _ _ = _
      unfold p_Whole_Mul_l2
      rw [cond_f (by simp [nl_len])]
    · rw [hv, List.take_of_length_le (Nat.le_refl _)]
  | succ n ih =>
    intro i out hn hi ho hok hz hv F hF
    obtain ⟨F, rfl⟩ : ∃ m, F = m + 1 := ⟨F - 1, by omega⟩
    have hix : i < x.length := by omega
    have bx := okget hx i
    show ∃ (out' : List Nat), p_Whole_Mul_l2 _ _ _ _ _ = _ ∧ _
    generalize hK : iter (p_Whole_Mul_l2 ⟨s, nl x⟩ ⟨t, nl y⟩ G) F = K
    unfold p_Whole_Mul_l2
    simp only [nl_len]
    rw [cond_t (decide_eq_true (by omega)), idx_nl hix, Option.bind_some]
    obtain ⟨c, o2, h1, h2, h3, h4, h5, h6⟩ := mul_in (s := s) (t := t) (o0 := nl out) (base := val out) hN hix hb bx hy y.length 0 0 out rfl (Nat.zero_le _) ho hok (by omega) hz (by simp [val]) G (by omega)
    have h1' : iter (p_Whole_Mul_l4 ⟨s, nl x⟩ ⟨t, nl y⟩ ((i : Int), nl out) ((x.getD i 0 : Nat) : Int)) G ((0 : Int), (0 : Int), nl out) = some (Sum.inl ((c : Int), nl o2)) := h1
    rw [h1', Option.bind_some]
    show ∃ (out' : List Nat), p_Whole_Mul_k3 _ _ _ _ _ = _ ∧ _
    unfold p_Whole_Mul_k3
    simp only [nl_len]
    have e2 : ((i : Nat) : Int) + ((y.length : Nat) : Int) = ((i + y.length : Nat) : Int) := by omega
    have e3 : (((x.length : Nat) : Int) + ((y.length : Nat) : Int)).toNat = x.length + y.length := by omega
    have e7 : ((i : Nat) : Int) + 1 = ((i + 1 : Nat) : Int) := by omega
    have e8 : (((i + y.length : Nat) : Int)).toNat = i + y.length := by omega
    rw [e2, need_pos (in64 (by omega) (by omega)), need_pos (by omega), need_pos (by omega), e7, need_pos (in64 (by omega) (by omega)), e8, w32, nl_set, ← hK]
    have hlt : i + y.length < o2.length := by omega
    have e9 : c % 4294967296 = c := by omega
    rw [e9]
    refine ih (i + 1) (o2.set (i + y.length) c) (by omega) (by omega) (by simp [h2]) (ok_set h3 _ h4) (fun j hj => ?_) ?_ F (by omega)
    · rw [getD_set _ _ _ _ (by omega)]; exact h5 j (by omega)
    · have g1 := val_set o2 (i + y.length) c hlt
      rw [h5 _ (Nat.le_refl _)] at g1
      have g2 : val (x.take (i + 1)) * val y = val (x.take i) * val y + 4294967296 ^ i * (x.getD i 0 * val y) := by
        rw [val_take_any, Nat.add_mul, Nat.mul_assoc]
      rw [g2]
      omega
theorem val_zeros (n : Nat) : val (List.replicate n 0) = 0 := by
  induction n with
  | zero => rfl
  | succ n ih => simp [List.replicate_succ, val, ih]
theorem ok_zeros (n : Nat) : ok (List.replicate n 0) := fun x hx => by rw [List.eq_of_mem_replicate hx]; omega
theorem nl_zeros (n : Nat) : List.replicate n (0 : Int) = nl (List.replicate n 0) := by simp [nl]

/-! ### numbers -/
/-- the reference's number n -/
def W (n : Int) : TSpec_Whole := ⟨decide (n < 0), nl (limbs n.natAbs)⟩
/-- how many limbs -/
def sz (n : Int) : Nat := (limbs n.natAbs).length
theorem sz_neg (n : Int) : sz (-n) = sz n := by unfold sz; rw [Int.natAbs_neg]
theorem sz_of {n : Int} {m : Nat} (h : n.natAbs < 4294967296 ^ m) : sz n ≤ m := by
  unfold sz
  generalize n.natAbs = a at h
  induction m generalizing a with
  | zero => have : a = 0 := by simpa using h
            subst this; rw [limbs_zero]; simp
  | succ m ih =>
    by_cases ha : a = 0
    · subst ha; rw [limbs_zero]; simp
    · rw [limbs_pos ha]
      have := ih (a / 4294967296) (by rw [Nat.pow_succ] at h; exact Nat.div_lt_of_lt_mul (by rw [Nat.mul_comm]; exact h))
      simp; omega
theorem lt_sz (n : Int) : n.natAbs < 4294967296 ^ sz n := by
  have := val_lt (limbs_ok n.natAbs)
  rwa [val_limbs] at this
theorem sz_add (a b : Int) : sz (a + b) ≤ max (sz a) (sz b) + 1 := by
  refine sz_of ?_
  have h1 := lt_sz a
  have h2 := lt_sz b
  have h3 : 4294967296 ^ sz a ≤ 4294967296 ^ max (sz a) (sz b) := Nat.pow_le_pow_right (by omega) (by omega)
  have h4 : 4294967296 ^ sz b ≤ 4294967296 ^ max (sz a) (sz b) := Nat.pow_le_pow_right (by omega) (by omega)
  rw [Nat.pow_succ]
  have := Int.natAbs_add_le a b
  omega
theorem sz_mul (a b : Int) : sz (a * b) ≤ sz a + sz b := by
  refine sz_of ?_
  rw [Int.natAbs_mul, Nat.pow_add]
  exact Nat.mul_lt_mul'' (lt_sz a) (lt_sz b)
theorem limbs_nil {n : Nat} : limbs n = [] ↔ n = 0 := by
  constructor
  · intro h
    have := val_limbs n
    rw [h] at this; exact this.symm
  · rintro rfl; exact limbs_zero
theorem W_len (n : Int) : (W n).L.length = sz n := by unfold W sz; rw [nl_len]
theorem sign_p (n : Int) : p_Whole_Sign (W n) = some (if n = 0 then 0 else if n < 0 then -1 else 1) := by
  unfold p_Whole_Sign
  rw [W_len]
  by_cases h : n = 0
  · subst h
    rw [if_pos rfl, cond_t (decide_eq_true (by unfold sz; rw [show (0 : Int).natAbs = 0 from rfl, limbs_zero]; rfl))]
  · have : sz n ≠ 0 := fun e => h (by have : limbs n.natAbs = [] := List.eq_nil_of_length_eq_zero e
                                      rw [limbs_nil] at this; omega)
    rw [cond_f (decide_eq_false (by omega)), if_neg h]
    by_cases h0 : n < 0
    · rw [if_pos h0, cond_t (by simp [W, h0])]
    · rw [if_neg h0, cond_f (by simp [W]; omega)]
theorem W_zero : W 0 = ⟨false, []⟩ := by
  unfold W
  rw [show (0 : Int).natAbs = 0 from rfl, limbs_zero]; rfl
theorem add_p {a b : Int} (ha : sz a < 1073741824) (hb : sz b < 1073741824) {F : Nat} (hF : 1073741826 ≤ F) : p_Whole_Add F (W a) (W b) = some (W (a + b)) := by
  unfold p_Whole_Add
  have eL : ∀ n : Int, (W n).L = nl (limbs n.natAbs) := fun _ => rfl
  have eN : ∀ n : Int, (W n).Neg = decide (n < 0) := fun _ => rfl
  simp only [eL, eN]
  by_cases hs : (decide (a < 0)) = (decide (b < 0))
  · rw [cond_t (by simp [hs]), addLimbs_p (limbs_ok _) (limbs_ok _) ha hb hF, Option.bind_some, val_limbs, val_limbs]
    have hs' : a < 0 ↔ b < 0 := decide_eq_decide.1 hs
    have h1 : (a + b).natAbs = a.natAbs + b.natAbs := by omega
    have h2 : decide (a + b < 0) = decide (a < 0) := decide_eq_decide.2 (by omega)
    unfold W
    rw [h1, h2]
  · rw [cond_f (by simpa using hs), cmp_p ha hb hF, Option.bind_some]
    have hs' : ¬ (a < 0 ↔ b < 0) := fun h => hs (decide_eq_decide.2 h)
    by_cases h1 : a.natAbs = b.natAbs
    · rw [if_pos h1, cond_t (by rfl)]
      have : a + b = 0 := by omega
      rw [this, W_zero]
    · rw [if_neg h1]
      by_cases h2 : a.natAbs < b.natAbs
      · rw [if_pos h2, cond_f (by rfl), cond_f (by rfl), subLimbs_p (limbs_ok _) (limbs_ok _) hb (by
          rcases Nat.lt_or_ge (limbs b.natAbs).length (limbs a.natAbs).length with h | h
          · have := limbs_len_lt h; omega
          · exact h) (by rw [val_limbs, val_limbs]; omega) hF, Option.bind_some, val_limbs, val_limbs]
        have h3 : (a + b).natAbs = b.natAbs - a.natAbs := by omega
        have h4 : decide (a + b < 0) = decide (b < 0) := decide_eq_decide.2 (by omega)
        unfold W
        rw [h3, h4]
      · rw [if_neg h2, cond_f (by rfl), cond_t (by rfl), subLimbs_p (limbs_ok _) (limbs_ok _) ha (by
          rcases Nat.lt_or_ge (limbs a.natAbs).length (limbs b.natAbs).length with h | h
          · have := limbs_len_lt h; omega
          · exact h) (by rw [val_limbs, val_limbs]; omega) hF, Option.bind_some, val_limbs, val_limbs]
        have h3 : (a + b).natAbs = a.natAbs - b.natAbs := by omega
        have h4 : decide (a + b < 0) = decide (a < 0) := decide_eq_decide.2 (by omega)
        unfold W
        rw [h3, h4]
theorem mul_p {a b : Int} (h : sz a + sz b < 1073741824) {F : Nat} (hF : 1073741826 ≤ F) : p_Whole_Mul F (W a) (W b) = some (W (a * b)) := by
  obtain ⟨out, h1, h2, h3, h4⟩ := mul_loop (s := decide (a < 0)) (t := decide (b < 0)) (x := limbs a.natAbs) (y := limbs b.natAbs) (N := sz a + sz b) rfl h (limbs_ok _) (limbs_ok _) hF (limbs a.natAbs).length 0 (List.replicate (sz a + sz b) 0) rfl (Nat.zero_le _) (by simp) (ok_zeros _) (fun j hj => by
    rw [List.getD_eq_getElem?_getD, List.getElem?_replicate]; split <;> rfl) (by simp [val, val_zeros]) F (by unfold sz at h; omega)
  unfold p_Whole_Mul
  rw [W_len, W_len]
  have e3 : (((sz a : Nat) : Int) + ((sz b : Nat) : Int)).toNat = sz a + sz b := by omega
  rw [need_pos (in64 (by omega) (by omega)), need_pos (by omega), e3, nl_zeros]
  have h1' : iter (p_Whole_Mul_l2 (W a) (W b) F) F ((0 : Int), nl (List.replicate (sz a + sz b) 0)) = some (Sum.inl (nl out)) := h1
  rw [h1', Option.bind_some]
  show p_Whole_Mul_k1 (W a) (W b) F (nl out) = _
  unfold p_Whole_Mul_k1
  rw [W_len, W_len, e3, nl_len, need_pos h2.symm, trim_p (by omega) (by omega), Option.bind_some, trim_limbs _ h3, h4, val_limbs, val_limbs, nl_len]
  have ev : a.natAbs * b.natAbs = (a * b).natAbs := (Int.natAbs_mul a b).symm
  rw [ev]
  by_cases h0 : a * b = 0
  · rw [h0]
    rw [cond_f (decide_eq_false (by rw [show (0 : Int).natAbs = 0 from rfl, limbs_zero]; simp)), W_zero, show (0 : Int).natAbs = 0 from rfl, limbs_zero]; rfl
  · have hne : limbs (a * b).natAbs ≠ [] := fun e => h0 (by rw [limbs_nil] at e; omega)
    have hlen : 0 < (limbs (a * b).natAbs).length := List.length_pos_iff.2 hne
    rw [cond_t (decide_eq_true (by omega))]
    unfold W
    congr 2
    have ha : a ≠ 0 := fun e => h0 (by rw [e, Int.zero_mul])
    have hb : b ≠ 0 := fun e => h0 (by rw [e, Int.mul_zero])
    by_cases h5 : a < 0 <;> by_cases h6 : b < 0
    · have := Int.mul_pos_of_neg_of_neg h5 h6
      simp [h5, h6]; omega
    · have := Int.mul_neg_of_neg_of_pos h5 (show 0 < b by omega)
      simp [h5, h6, this]
    · have := Int.mul_neg_of_pos_of_neg (show 0 < a by omega) h6
      simp [h5, h6, this]
    · have := Int.mul_pos (show 0 < a by omega) (show 0 < b by omega)
      simp [h5, h6]; omega
end Go.Proofs.Ytohpmbodfpjjmaa.Wk

namespace Go.Proofs.Ytohpmbodfpjjmaa.Wk
open Go.Vm Limb
set_option linter.unusedVariables false
set_option linter.unusedSimpArgs false

theorem bits_or32 {a c : Nat} (ha : a < 4294967296) (hc : c < 4294967296) : bits .or .u32 (a : Int) (c : Int) = ((a ||| c : Nat) : Int) := by
  unfold bits
  have e0 : (BitVec.ofInt 32 (a : Int) ||| BitVec.ofInt 32 (c : Int)).toNat = a ||| c := by
    rw [BitVec.toNat_or, BitVec.toNat_ofInt, BitVec.toNat_ofInt]
    have e : ∀ z : Nat, z < 4294967296 → ((z : Int) % ((2 ^ 32 : Nat) : Int)).toNat = z := fun z hz => by omega
    rw [e a ha, e c hc]
  show IntKind.u32.wrap (((BitVec.ofInt 32 (a : Int) ||| BitVec.ofInt 32 (c : Int)).toNat : Nat) : Int) = _
  rw [e0]
  have hlt : a ||| c < 2 ^ 32 := Nat.or_lt_two_pow (by omega) (by omega)
  rw [w32, Nat.mod_eq_of_lt (by omega)]
theorem bits_and64 {a c : Nat} (ha : a < 18446744073709551616) (hc : c < 18446744073709551616) : bits .and .u64 (a : Int) (c : Int) = ((a &&& c : Nat) : Int) := by
  unfold bits
  have e0 : (BitVec.ofInt 64 (a : Int) &&& BitVec.ofInt 64 (c : Int)).toNat = a &&& c := by
    rw [BitVec.toNat_and, BitVec.toNat_ofInt, BitVec.toNat_ofInt]
    have e : ∀ z : Nat, z < 18446744073709551616 → ((z : Int) % ((2 ^ 64 : Nat) : Int)).toNat = z := fun z hz => by omega
    rw [e a ha, e c hc]
  show IntKind.u64.wrap (((BitVec.ofInt 64 (a : Int) &&& BitVec.ofInt 64 (c : Int)).toNat : Nat) : Int) = _
  rw [e0]
  have hle : a &&& c ≤ a := Nat.and_le_left
  rw [w64 (by omega)]

theorem tdiv32 (n : Nat) : Int.tdiv (n : Int) (32 : Int) = ((n / 32 : Nat) : Int) := by rw [Int.tdiv_eq_ediv_of_nonneg (by omega)]; omega
theorem tmod32 (n : Nat) : Int.tmod (n : Int) (32 : Int) = ((n % 32 : Nat) : Int) := by rw [Int.tmod_eq_emod_of_nonneg (by omega)]; omega

theorem up_loop {s : Bool} {x : List Nat} (hx : ok x) {n q r : Nat} (hq : n / 32 = q) (hr : n % 32 = r) (hb : q + x.length < 1073741824) : ∀ (m k c : Nat) (out : List Nat), m = x.length - k → k ≤ x.length → out.length = q + k → ok out → c < 2 ^ r →
    val out + 4294967296 ^ (q + k) * c = 4294967296 ^ q * (2 ^ r * val (x.take k)) → ∀ F, m < F →
    ∃ (c' : Nat) (out' : List Nat), iter (p_Whole_Up_l2 ⟨s, nl x⟩ (n : Int)) F ((c : Int), (k : Int), nl out) = some (Sum.inl ((c' : Int), nl out')) ∧ out'.length = q + x.length ∧ ok out' ∧ c' < 2 ^ r ∧ val out' + 4294967296 ^ (q + x.length) * c' = 4294967296 ^ q * (2 ^ r * val x) := by
  have hr32 : r < 32 := by omega
  have hp : 2 ^ r ≤ 2147483648 := Nat.le_trans (Nat.pow_le_pow_right (by omega) (show r ≤ 31 by omega)) (by decide)
  have hp0 : 0 < 2 ^ r := Nat.two_pow_pos r
  have hpp : 2 ^ r * 2 ^ (32 - r) = 4294967296 := by rw [← Nat.pow_add, show r + (32 - r) = 32 by omega]
  intro m
  induction m with
  | zero =>
    intro k c out hm hk ho hok hc hv F hF
    obtain ⟨F, rfl⟩ : ∃ m, F = m + 1 := ⟨F - 1, by omega⟩
    have hkx : k = x.length := by omega
    subst hkx
    refine ⟨c, out, ?_, ho, hok, hc, ?_⟩
    · show p_Whole_Up_l2 _ _ _ _ = _
      unfold p_Whole_Up_l2
      rw [cond_f (by simp [nl_len])]
    · rw [hv, List.take_of_length_le (Nat.le_refl _)]
  | succ m ih =>
    intro k c out hm hk ho hok hc hv F hF
    obtain ⟨F, rfl⟩ : ∃ m, F = m + 1 := ⟨F - 1, by omega⟩
    have hkx : k < x.length := by omega
    have bx := okget hx k
    show ∃ (c' : Nat) (out' : List Nat), p_Whole_Up_l2 _ _ _ _ = _ ∧ _
    generalize hK : iter (p_Whole_Up_l2 ⟨s, nl x⟩ (n : Int)) F = K
    unfold p_Whole_Up_l2
    simp only [nl_len]
    have hS : x.getD k 0 * 2 ^ r ≤ 4294967295 * 2147483648 := Nat.mul_le_mul (by omega) hp
    have eT : (Int.tmod (n : Int) (32 : Int)).toNat = r := by rw [tmod32, hr]; omega
    have hbits : 0 ≤ Int.tmod (n : Int) (32 : Int) ∧ Int.tmod (n : Int) (32 : Int) ≤ (IntKind.u64.bits : Int) := by
      have h64 : ((IntKind.u64.bits : Nat) : Int) = 64 := rfl
      rw [tmod32, h64]; omega
    have e1 : ((x.getD k 0 : Nat) : Int) * 2 ^ r = ((x.getD k 0 * 2 ^ r : Nat) : Int) := by rw [Int.natCast_mul, Int.natCast_pow]; rfl
    rw [cond_t (decide_eq_true (by omega)), idx_nl hkx, Option.bind_some, need_pos (by decide), need_pos hbits, eT, w64 (by omega), e1]
    obtain ⟨S, hSe⟩ : ∃ S, S = x.getD k 0 * 2 ^ r := ⟨_, rfl⟩
    rw [← hSe] at hS
    rw [← hSe, w64 (by omega), w32]
    have hy : S % 4294967296 = x.getD k 0 % 2 ^ (32 - r) * 2 ^ r := by rw [hSe, ← hpp, Nat.mul_comm (2 ^ r) (2 ^ (32 - r)), Nat.mul_mod_mul_right]
    have hor : S % 4294967296 ||| c = S % 4294967296 + c := by
      rw [hy, ← Nat.shiftLeft_eq, Nat.shiftLeft_add_eq_or_of_lt hc]
    have hm1 : S % 4294967296 + c < 4294967296 := by
      have h1 : x.getD k 0 % 2 ^ (32 - r) + 1 ≤ 2 ^ (32 - r) := Nat.mod_lt _ (Nat.two_pow_pos _)
      have h2 := Nat.mul_le_mul_right (2 ^ r) h1
      rw [Nat.add_mul, Nat.mul_comm (2 ^ (32 - r)) (2 ^ r), hpp, ← hy] at h2
      omega
    have e6 : ((S : Nat) : Int) / 2 ^ 32 = ((S / 4294967296 : Nat) : Int) := by
      have : (2 : Int) ^ 32 = 4294967296 := by decide
      rw [this]; omega
    have e7 : ((k : Nat) : Int) + 1 = ((k + 1 : Nat) : Int) := by omega
    have hd : S / 4294967296 < 2 ^ r := by
      rw [hSe]
      apply Nat.div_lt_of_lt_mul
      exact Nat.mul_lt_mul_of_pos_right bx hp0
    have hd2 : S / 4294967296 % 4294967296 = S / 4294967296 := Nat.mod_eq_of_lt (by omega)
    rw [bits_or32 (by omega) (by omega), hor, need_pos (by simp only [List.length_singleton]; omega), need_pos (by omega), e7, need_pos (in64 (by omega) (by omega)), e6, w32, hd2, nl_one, nl_append, ← hK]
    refine ih (k + 1) (S / 4294967296) (out ++ [S % 4294967296 + c]) (by omega) (by omega) (by simp [ho]; omega) (fun z hz => ?_) hd ?_ F (by omega)
    · rcases List.mem_append.1 hz with h | h
      · exact hok z h
      · rw [List.mem_singleton.1 h]; exact hm1
    · rw [val_append, ho, val_take_any]
      have h1 : val [S % 4294967296 + c] = S % 4294967296 + c := by simp [val]
      have h2 : S % 4294967296 + 4294967296 * (S / 4294967296) = S := Nat.mod_add_div _ _
      have h3 : 4294967296 ^ (q + (k + 1)) * (S / 4294967296) = 4294967296 ^ (q + k) * (4294967296 * (S / 4294967296)) := by rw [← Nat.add_assoc, Nat.pow_succ, Nat.mul_assoc]
      have h4 : 4294967296 ^ (q + k) * (S % 4294967296 + c) + 4294967296 ^ (q + k) * (4294967296 * (S / 4294967296)) = 4294967296 ^ (q + k) * S + 4294967296 ^ (q + k) * c := by rw [← Nat.mul_add, ← Nat.mul_add]; congr 1; omega
      have h5 : 4294967296 ^ q * (2 ^ r * (val (x.take k) + 4294967296 ^ k * x.getD k 0)) = 4294967296 ^ q * (2 ^ r * val (x.take k)) + 4294967296 ^ (q + k) * S := by
        rw [Nat.mul_add, Nat.mul_add, Nat.pow_add, hSe]
        congr 1
        rw [Nat.mul_left_comm (2 ^ r), Nat.mul_assoc, Nat.mul_comm (2 ^ r) (x.getD k 0)]
      rw [h1, h3, h5]
      omega
theorem up_p {a : Int} {n : Nat} (h : sz a + n / 32 < 1073741000) {F : Nat} (hF : 1073741826 ≤ F) : p_Whole_Up F (W a) (n : Int) = some (W (a * 2 ^ n)) := by
  unfold p_Whole_Up
  rw [W_len]
  by_cases h0 : sz a = 0
  · have ha : a = 0 := by
      have : limbs a.natAbs = [] := List.eq_nil_of_length_eq_zero h0
      rw [limbs_nil] at this; omega
    subst ha
    rw [cond_t (decide_eq_true (by omega)), Int.zero_mul]
  · have ha : a ≠ 0 := fun e => h0 (by subst e; unfold sz; rw [show (0 : Int).natAbs = 0 from rfl, limbs_zero]; rfl)
    obtain ⟨c, out, h1, h2, h3, h4, h5⟩ := up_loop (s := decide (a < 0)) (limbs_ok a.natAbs) (n := n) rfl rfl (show n / 32 + sz a < 1073741824 by omega) (limbs a.natAbs).length 0 0 (List.replicate (n / 32) 0) rfl (Nat.zero_le _) (by simp) (ok_zeros _) (Nat.two_pow_pos _) (by simp [val, val_zeros]) F (by unfold sz at h; omega)
    rw [cond_f (decide_eq_false (by omega)), tdiv32, need_pos ⟨by decide, in64 (by omega) (by omega)⟩, need_pos ⟨by decide, in64 (by omega) (by omega)⟩, need_pos (in64 (by omega) (by omega)), need_pos (in64 (by omega) (by omega)), need_pos (by omega)]
    have et : (((n / 32 : Nat) : Int)).toNat = n / 32 := by omega
    rw [et, nl_zeros]
    have h1' : iter (p_Whole_Up_l2 (W a) (n : Int)) F ((0 : Int), (0 : Int), nl (List.replicate (n / 32) 0)) = some (Sum.inl ((c : Int), nl out)) := h1
    rw [h1', Option.bind_some]
    show p_Whole_Up_k1 (W a) F ((c : Int), nl out) = _
    unfold p_Whole_Up_k1
    have hc : c < 4294967296 := Nat.lt_of_lt_of_le h4 (Nat.le_trans (Nat.pow_le_pow_right (by omega) (show n % 32 ≤ 31 by omega)) (by decide))
    have hl : (limbs a.natAbs).length = sz a := rfl
    rw [need_pos (by simp only [nl_len, List.length_singleton]; omega), nl_one, nl_append, trim_p (by simp; omega) (by simp; omega), Option.bind_some, trim_limbs _ (fun z hz => by
      rcases List.mem_append.1 hz with h | h
      · exact h3 z h
      · rw [List.mem_singleton.1 h]; exact hc)]
    have ev : val (out ++ [c]) = (a * 2 ^ n).natAbs := by
      have e1 : val [c] = c := by simp [val]
      rw [val_append, h2, e1, h5, val_limbs, Int.natAbs_mul, Int.natAbs_pow]
      have e2 : (2 : Int).natAbs = 2 := rfl
      have e3 : (4294967296 : Nat) = 2 ^ 32 := rfl
      rw [e2, e3, ← Nat.pow_mul, ← Nat.mul_assoc, ← Nat.pow_add, Nat.mul_comm, Nat.div_add_mod]
    rw [ev]
    have hpos : (0 : Int) < 2 ^ n := Int.pow_pos (by decide)
    have en : decide (a * 2 ^ n < 0) = decide (a < 0) := decide_eq_decide.2 ⟨fun h => by
      by_cases h' : a < 0
      · exact h'
      · have := Int.mul_nonneg (show 0 ≤ a by omega) (Int.le_of_lt hpos); omega, fun h => Int.mul_neg_of_neg_of_pos h hpos⟩
    show some (TSpec_Whole.mk (W a).Neg _) = some (W _)
    unfold W
    rw [en]
theorem sz_up (a : Int) (n : Nat) : sz (a * 2 ^ n) ≤ sz a + n / 32 + 1 := by
  refine sz_of ?_
  rw [Int.natAbs_mul, Int.natAbs_pow, show (2 : Int).natAbs = 2 from rfl, Nat.add_assoc, Nat.pow_add]
  have h1 := lt_sz a
  have h2 : 2 ^ n ≤ 4294967296 ^ (n / 32 + 1) := by
    rw [show (4294967296 : Nat) = 2 ^ 32 from rfl, ← Nat.pow_mul]
    exact Nat.pow_le_pow_right (by omega) (by omega)
  exact Nat.lt_of_lt_of_le (Nat.mul_lt_mul_of_pos_right h1 (Nat.two_pow_pos n)) (Nat.mul_le_mul_left _ h2)

/-! ### numbers of the machine -/
theorem two64 (u : Nat) (hu : u < 18446744073709551616) {F : Nat} (hF : 3 < F) : p_trim F [(IntKind.u32.wrap (u : Int)), (IntKind.u32.wrap ((u : Int) / 2 ^ 32))] = some (nl (limbs u)) := by
  have e6 : ((u : Nat) : Int) / 2 ^ 32 = ((u / 4294967296 : Nat) : Int) := by
    have : (2 : Int) ^ 32 = 4294967296 := by decide
    rw [this]; omega
  have e7 : u / 4294967296 % 4294967296 = u / 4294967296 := by omega
  rw [e6, w32, w32, e7]
  show p_trim F (nl [u % 4294967296, u / 4294967296]) = _
  rw [trim_p (by simp; omega) (by simp), trim_limbs _ (fun x hx => by simp at hx; omega)]
  have : val [u % 4294967296, u / 4294967296] = u := by simp [val]; omega
  rw [this]
theorem wholeOf_p {m : Int} (h1 : -9223372036854775808 ≤ m) (h2 : m ≤ 9223372036854775807) {F : Nat} (hF : 3 < F) : p_WholeOf F m = some (W m) := by
  unfold p_WholeOf
  have key : ∀ u : Nat, u = m.natAbs → p_WholeOf_k1 m F (u : Int) = some (W m) := fun u hu => by
    unfold p_WholeOf_k1
    rw [need_pos (by omega), two64 u (by omega) hF, Option.bind_some, hu]; rfl
  by_cases h : m < 0
  · rw [cond_t (decide_eq_true h)]
    have e : IntKind.u64.wrap (-(IntKind.u64.wrap m)) = ((m.natAbs : Nat) : Int) := by
      simp only [IntKind.wrap, IntKind.bits, IntKind.signed, Bool.false_and]
      simp
      omega
    rw [e]; exact key _ rfl
  · rw [cond_f (decide_eq_false h)]
    have e : IntKind.u64.wrap m = ((m.natAbs : Nat) : Int) := by
      rw [show m = ((m.natAbs : Nat) : Int) by omega, w64 (by omega)]; omega
    rw [e]; exact key _ rfl

/-- what a word stands for -/
theorem V_read {x : Nat} {q : Rat} (h : Flt.V x = some q) : x % 9223372036854775808 < 9218868437227405312 ∧
    q = Flt.sg (x / 9223372036854775808 % 2 == 1) (if x % 9223372036854775808 < 4503599627370496 then ((x % 9223372036854775808 : Nat) : Rat) * (2 : Rat) ^ (-1074 : Int)
      else ((4503599627370496 + x % 9223372036854775808 % 4503599627370496 : Nat) : Rat) * (2 : Rat) ^ ((-1074 : Int) + ((x % 9223372036854775808 / 4503599627370496 - 1 : Nat) : Int))) := by
  unfold Flt.V Ieee.Format.read at h
  simp only [Flt.double_sw, Flt.double_bn, Flt.double_ir, Flt.double_lp] at h
  by_cases h1 : x % 9223372036854775808 < 4503599627370496
  · rw [if_pos h1] at h
    refine ⟨by omega, ?_⟩
    rw [if_pos h1]
    exact (Option.some.inj h).symm
  · rw [if_neg h1] at h
    by_cases h2 : x % 9223372036854775808 < 9218868437227405312
    · rw [if_pos h2] at h
      refine ⟨h2, ?_⟩
      rw [if_neg h1]
      exact (Option.some.inj h).symm
    · rw [if_neg h2] at h
      split at h <;> cases h
theorem dyadicOf_p {x : Nat} {q : Rat} (hx : x < 18446744073709551616) (h : Flt.V x = some q) {F : Nat} (hF : 3 < F) :
    ∃ (n e : Int), p_DyadicOf F x = some ⟨W n, e⟩ ∧ q = (n : Rat) * (2 : Rat) ^ e ∧ n.natAbs < 9007199254740992 ∧ -1074 ≤ e ∧ e ≤ 1000 := by
  obtain ⟨hfin, hq⟩ := V_read h
  have eP : ∀ k : Nat, ((x : Nat) : Int) / 2 ^ k = ((x / 2 ^ k : Nat) : Int) := fun k => by rw [Int.natCast_ediv, Int.natCast_pow]; rfl
  have hE : bits .and .u64 (((x : Nat) : Int) / 2 ^ 52) (2047 : Int) = ((x / 4503599627370496 % 2048 : Nat) : Int) := by
    have := bits_and64 (a := x / 4503599627370496) (c := 2047) (by omega) (by omega)
    rw [show (2047 : Nat) = 2 ^ 11 - 1 from rfl, Nat.and_two_pow_sub_one_eq_mod] at this
    rw [eP]; exact this
  have hM : bits .and .u64 ((x : Nat) : Int) (4503599627370495 : Int) = ((x % 4503599627370496 : Nat) : Int) := by
    have := bits_and64 (a := x) (c := 4503599627370495) hx (by omega)
    rw [show (4503599627370495 : Nat) = 2 ^ 52 - 1 from rfl, Nat.and_two_pow_sub_one_eq_mod] at this
    exact this
  have wI : ∀ z : Nat, z < 9223372036854775808 → IntKind.i64.wrap (z : Int) = (z : Int) := fun z hz => wrap_in .i64 _ (by simp only [lo]; omega) (by simp only [hi]; omega)
  have key : ∀ (m : Nat) (e : Int), m < 9007199254740992 → 1 ≤ e → e ≤ 2046 → q = Flt.sg (x / 9223372036854775808 % 2 == 1) ((m : Rat) * (2 : Rat) ^ (e - 1075)) →
      ∃ (n e' : Int), p_DyadicOf_k1 x F ((m : Int), e) = some ⟨W n, e'⟩ ∧ q = (n : Rat) * (2 : Rat) ^ e' ∧ n.natAbs < 9007199254740992 ∧ -1074 ≤ e' ∧ e' ≤ 1000 := by
    intro m e hm he1 he2 hqe
    unfold p_DyadicOf_k1
    rw [need_pos (by omega), eP]
    by_cases hs : x / 9223372036854775808 = 1
    · rw [cond_t (decide_eq_true (by show ((x / 9223372036854775808 : Nat) : Int) = 1; omega)), need_pos (in64m (by simp only; omega) (by simp only; omega)), wholeOf_p (by omega) (by omega) hF, Option.bind_some, need_pos (in64m (by simp only; omega) (by simp only; omega))]
      refine ⟨-(m : Int), e - 1075, rfl, ?_, by omega, by omega, by omega⟩
      rw [hqe, hs]
      simp [Flt.sg, Rat.intCast_neg, Rat.neg_mul, Rat.intCast_natCast]
    · rw [cond_f (decide_eq_false (by show ¬ ((x / 9223372036854775808 : Nat) : Int) = 1; omega)), wholeOf_p (by simp only; omega) (by simp only; omega) hF, Option.bind_some, need_pos (in64m (by simp only; omega) (by simp only; omega))]
      refine ⟨(m : Int), e - 1075, rfl, ?_, by omega, by omega, by omega⟩
      have : x / 9223372036854775808 = 0 := by omega
      rw [hqe, this]
      simp [Flt.sg, Rat.intCast_natCast]
  unfold p_DyadicOf
  rw [need_pos (by omega), hE, wI _ (by omega), hM, wI _ (by omega), cond_f (decide_eq_false (by omega))]
  by_cases h0 : x / 4503599627370496 % 2048 = 0
  · rw [cond_t (decide_eq_true (by omega))]
    refine key _ 1 (by omega) (by omega) (by omega) ?_
    rw [hq, if_pos (by omega)]
    have : x % 9223372036854775808 = x % 4503599627370496 := by omega
    rw [this]; rfl
  · rw [cond_f (decide_eq_false (by omega)), need_pos (in64m (by omega) (by omega))]
    have e1 : ((x % 4503599627370496 : Nat) : Int) + 4503599627370496 = ((x % 4503599627370496 + 4503599627370496 : Nat) : Int) := by omega
    rw [e1]
    refine key _ ((x / 4503599627370496 % 2048 : Nat) : Int) (by omega) (by omega) (by omega) ?_
    rw [hq, if_neg (by omega)]
    have e2 : 4503599627370496 + x % 9223372036854775808 % 4503599627370496 = x % 4503599627370496 + 4503599627370496 := by omega
    have e3 : (-1074 : Int) + ((x % 9223372036854775808 / 4503599627370496 - 1 : Nat) : Int) = ((x / 4503599627370496 % 2048 : Nat) : Int) - 1075 := by omega
    rw [e2, e3]
end Go.Proofs.Ytohpmbodfpjjmaa.Wk

namespace Go.Proofs.Ytohpmbodfpjjmaa.Wk
open Go.Vm Limb
set_option linter.unusedVariables false
set_option linter.unusedSimpArgs false
/-- d is the number q, of m limbs at most, its exponent at most k -/
def Dyd (d : TSpec_Dyadic) (q : Rat) (m k : Nat) : Prop := ∃ (n e : Int), d = ⟨W n, e⟩ ∧ q = (n : Rat) * (2 : Rat) ^ e ∧ sz n ≤ m ∧ -(k : Int) ≤ e ∧ e ≤ k
def BigF (F : Nat) : Prop := 1073741826 ≤ F
def sgR (q : Rat) : Int := if q = 0 then 0 else if q < 0 then -1 else 1
theorem sg_dy {n e : Int} : sgR ((n : Rat) * (2 : Rat) ^ e) = if n = 0 then 0 else if n < 0 then -1 else 1 := by
  have hp : (0 : Rat) < (2 : Rat) ^ e := Flt.zpow_pos e
  have h0 : ((n : Rat) * (2 : Rat) ^ e = 0) ↔ n = 0 := by
    constructor
    · intro h
      rcases Rat.mul_eq_zero.1 h with h | h
      · exact Rat.intCast_inj.1 h
      · grind
    · rintro rfl; simp
  have h1 : ((n : Rat) * (2 : Rat) ^ e < 0) ↔ n < 0 := by
    constructor
    · intro h
      by_cases hn : n < 0
      · exact hn
      · have : (0 : Rat) ≤ (n : Rat) := by
          have := Rat.intCast_le_intCast.2 (show 0 ≤ n by omega); simpa using this
        have := Rat.mul_nonneg this (Rat.le_of_lt hp); grind
    · intro h
      have h2 : (n : Rat) < 0 := by have := Rat.intCast_lt_intCast.2 h; simpa using this
      have := Rat.mul_lt_mul_of_pos_right h2 hp
      simpa using this
  unfold sgR
  simp only [h0, h1]
theorem Dyd.mono {d : TSpec_Dyadic} {q : Rat} {m k m' k' : Nat} (h : Dyd d q m k) (hm : m ≤ m') (hk : k ≤ k') : Dyd d q m' k' := by
  obtain ⟨n, e, h1, h2, h3, h4, h5⟩ := h
  exact ⟨n, e, h1, h2, by omega, by omega, by omega⟩
theorem dyd_of {x : Nat} {q : Rat} (hx : x < 18446744073709551616) (h : Flt.V x = some q) {F : Nat} (hF : BigF F) : ∃ d, p_DyadicOf F x = some d ∧ Dyd d q 2 1074 := by
  obtain ⟨n, e, h1, h2, h3, h4, h5⟩ := dyadicOf_p hx h (F := F) (by unfold BigF at hF; omega)
  exact ⟨_, h1, n, e, rfl, h2, sz_of (by have : (4294967296 : Nat) ^ 2 = 18446744073709551616 := by decide
                                         omega), by omega, by omega⟩
theorem dyd_sign {d : TSpec_Dyadic} {q : Rat} {m k : Nat} (h : Dyd d q m k) : p_Dyadic_Sign d = some (sgR q) := by
  obtain ⟨n, e, rfl, rfl, _⟩ := h
  unfold p_Dyadic_Sign
  rw [sign_p, Option.bind_some, sg_dy]
theorem dyd_mul {a b : TSpec_Dyadic} {p q : Rat} {m k m' k' : Nat} (ha : Dyd a p m k) (hb : Dyd b q m' k') (hm : m + m' < 1000000) (hk : k + k' < 1000000) {F : Nat} (hF : BigF F) : ∃ d, p_Dyadic_Mul F a b = some d ∧ Dyd d (p * q) (m + m') (k + k') := by
  obtain ⟨n, e, rfl, rfl, h1, h2, h3⟩ := ha
  obtain ⟨n', e', rfl, rfl, h1', h2', h3'⟩ := hb
  unfold p_Dyadic_Mul
  rw [mul_p (by omega) hF, Option.bind_some, need_pos (in64m (by simp only; omega) (by simp only; omega))]
  refine ⟨_, rfl, n * n', e + e', rfl, ?_, ?_, by omega, by omega⟩
  · rw [Rat.intCast_mul, Flt.zpow_add]; grind
  · have := sz_mul n n'; omega
theorem dyd_add {a b : TSpec_Dyadic} {p q : Rat} {m k m' k' : Nat} (ha : Dyd a p m k) (hb : Dyd b q m' k') (hm : m + m' < 1000000) (hk : k + k' < 1000000) {F : Nat} (hF : BigF F) : ∃ d, p_Dyadic_Add F a b = some d ∧ Dyd d (p + q) (m + m' + (k + k') / 32 + 3) (k + k') := by
  have sa := dyd_sign ha
  have sb := dyd_sign hb
  unfold p_Dyadic_Add
  rw [sa, Option.bind_some]
  by_cases hp : p = 0
  · rw [cond_t (decide_eq_true (by unfold sgR; rw [if_pos hp]))]
    refine ⟨b, rfl, ?_⟩
    rw [hp, Rat.zero_add]; exact hb.mono (by omega) (by omega)
  · have hsp : ¬ sgR p = 0 := by unfold sgR; rw [if_neg hp]; split <;> decide
    rw [cond_f (decide_eq_false hsp), sb, Option.bind_some]
    by_cases hq : q = 0
    · rw [cond_t (decide_eq_true (by unfold sgR; rw [if_pos hq]))]
      refine ⟨a, rfl, ?_⟩
      rw [hq, Rat.add_zero]; exact ha.mono (by omega) (by omega)
    · have hsq : ¬ sgR q = 0 := by unfold sgR; rw [if_neg hq]; split <;> decide
      rw [cond_f (decide_eq_false hsq)]
      obtain ⟨n, e, rfl, rfl, h1, h2, h3⟩ := ha
      obtain ⟨n', e', rfl, rfl, h1', h2', h3'⟩ := hb
      have key : ∀ (x y : Int) (u v : Int), v ≤ u → u - v ≤ (k + k' : Nat) → sz x + sz y ≤ m + m' → ∃ N : Nat, u - v = (N : Int) ∧ p_Whole_Up F (W x) (u - v) = some (W (x * 2 ^ N)) ∧ p_Whole_Add F (W (x * 2 ^ N)) (W y) = some (W (x * 2 ^ N + y)) ∧
          ((x * 2 ^ N + y : Int) : Rat) * (2 : Rat) ^ v = (x : Rat) * (2 : Rat) ^ u + (y : Rat) * (2 : Rat) ^ v ∧ sz (x * 2 ^ N + y) ≤ m + m' + (k + k') / 32 + 3 := by
        intro x y u v huv hk2 hs
        obtain ⟨N, hN⟩ : ∃ N : Nat, u - v = (N : Int) := ⟨(u - v).toNat, by omega⟩
        have hsz := sz_up x N
        have hNk : N / 32 ≤ (k + k') / 32 := Nat.div_le_div_right (by omega)
        have hF' : 1073741826 ≤ F := hF
        refine ⟨N, hN, by rw [hN]; exact up_p (by omega) hF, add_p (by omega) (by omega) hF, ?_, ?_⟩
        · have e1 : u = v + (N : Int) := by omega
          rw [e1, Flt.zpow_add, Flt.zpow_nat, Rat.intCast_add, Rat.intCast_mul, Rat.intCast_pow]
          have e2 : ((2 ^ N : Nat) : Rat) = (2 : Rat) ^ N := Rat.natCast_pow 2 N
          have e3 : ((2 : Int) : Rat) = 2 := rfl
          rw [e2, e3]; grind
        · have := sz_add (x * 2 ^ N) y
          omega
      by_cases he : e' < e
      · obtain ⟨N, k0, k1, k2, k3, k4⟩ := key n n' e e' (by omega) (by omega) (by omega)
        rw [cond_t (decide_eq_true he), need_pos (in64m (by simp only; omega) (by simp only; omega))]
        simp only
        rw [k1, Option.bind_some, k2, Option.bind_some]
        exact ⟨_, rfl, _, e', rfl, k3.symm, k4, by omega, by omega⟩
      · obtain ⟨N, k0, k1, k2, k3, k4⟩ := key n' n e' e (by omega) (by omega) (by omega)
        rw [cond_f (decide_eq_false he), need_pos (in64m (by simp only; omega) (by simp only; omega))]
        simp only
        rw [k1, Option.bind_some, k2, Option.bind_some]
        refine ⟨_, rfl, _, e, rfl, ?_, k4, by omega, by omega⟩
        rw [k3, Rat.add_comm]
end Go.Proofs.Ytohpmbodfpjjmaa.Wk

namespace Go.Proofs.Ytohpmbodfpjjmaa.Wk
open Go.Vm Limb
set_option linter.unusedVariables false
set_option linter.unusedSimpArgs false
theorem minus_p (n : Int) : p_Whole_Minus (W n) = some (W (-n)) := by
  unfold p_Whole_Minus W
  simp only
  have hz : (nl (limbs n.natAbs)).length = 0 ↔ n = 0 := by
    rw [nl_len, List.length_eq_zero_iff, limbs_nil, Int.natAbs_eq_zero]
  by_cases h : n < 0
  · rw [show (!decide (n < 0)) = false by simp [h], Int.natAbs_neg, show decide (-n < 0) = false by simp; omega]; rfl
  · rw [show (!decide (n < 0)) = true by simp [h], Int.natAbs_neg]
    simp only [cond_true]
    congr 2
    apply decide_eq_decide.2
    constructor
    · intro h1
      have : ¬ n = 0 := fun e => by have := hz.2 e; omega
      omega
    · intro h1
      have : ¬ (nl (limbs n.natAbs)).length = 0 := fun e => by have := hz.1 e; omega
      omega
theorem dyd_minus {d : TSpec_Dyadic} {q : Rat} {m k : Nat} (h : Dyd d q m k) : ∃ d', p_Dyadic_Minus d = some d' ∧ Dyd d' (-q) m k := by
  obtain ⟨n, e, rfl, rfl, h1, h2, h3⟩ := h
  unfold p_Dyadic_Minus
  rw [minus_p, Option.bind_some]
  refine ⟨_, rfl, -n, e, rfl, ?_, by rw [sz_neg]; exact h1, h2, h3⟩
  rw [Rat.intCast_neg]; grind
theorem dyd_sub {a b : TSpec_Dyadic} {p q : Rat} {m k m' k' : Nat} (ha : Dyd a p m k) (hb : Dyd b q m' k') (hm : m + m' < 1000000) (hk : k + k' < 1000000) {F : Nat} (hF : BigF F) : ∃ d, p_Dyadic_Sub F a b = some d ∧ Dyd d (p - q) (m + m' + (k + k') / 32 + 3) (k + k') := by
  obtain ⟨b', h1, hb'⟩ := dyd_minus hb
  obtain ⟨d, h2, hd⟩ := dyd_add ha hb' hm hk hF
  refine ⟨d, ?_, ?_⟩
  · unfold p_Dyadic_Sub; rw [h1, Option.bind_some, h2, Option.bind_some]
  · rw [Rat.sub_eq_add_neg]; exact hd
theorem dyd_cmp {a b : TSpec_Dyadic} {p q : Rat} {m k m' k' : Nat} (ha : Dyd a p m k) (hb : Dyd b q m' k') (hm : m + m' < 1000000) (hk : k + k' < 1000000) {F : Nat} (hF : BigF F) : p_Dyadic_Cmp F a b = some (sgR (p - q)) := by
  obtain ⟨d, h1, hd⟩ := dyd_sub ha hb hm hk hF
  unfold p_Dyadic_Cmp
  rw [h1, Option.bind_some, dyd_sign hd, Option.bind_some]
theorem sgR_neg {q : Rat} : sgR q < 0 ↔ q < 0 := by
  unfold sgR
  split
  · rename_i h; subst h; simp
  · split
    · rename_i h; simp [h]
    · rename_i h; simp [h]
theorem sgR_le {q : Rat} : sgR q ≤ 0 ↔ q ≤ 0 := by
  unfold sgR
  split
  · rename_i h; subst h; simp
  · split
    · rename_i h; simp; grind
    · rename_i h; simp; grind
theorem sgR_zero {q : Rat} : sgR q = 0 ↔ q = 0 := by
  unfold sgR
  split
  · rename_i h; simp [h]
  · split
    · rename_i h1 h; simp [h1]
    · rename_i h1 h; simp [h1]
theorem sgR_int (n : Int) : sgR (n : Rat) = if n = 0 then 0 else if n < 0 then -1 else 1 := by
  have := @sg_dy n 0
  rw [Flt.zpow_zero', Rat.mul_one] at this
  exact this
end Go.Proofs.Ytohpmbodfpjjmaa.Wk

namespace Go.Proofs.Ytohpmbodfpjjmaa.Wk
open Go.Vm
set_option linter.unusedVariables false
set_option linter.unusedSimpArgs false
theorem wholeTo_p {F : Nat} (hF : BigF F) (m : Nat) (l : List Nat) (hl : l.length < 1000) : p_wholeTo F m l = some (l.all (Flt.wT m)) := by
  have hF' : 1073741826 ≤ F := hF
  unfold p_wholeTo
  have outer : iter (p_wholeTo_l2 m l) F (0 : Int) = some (if l.all (Flt.wT m) = true then Sum.inl () else Sum.inr false) := by
    refine scan_loop0 l _ _ _ (fun K k hk => ?_) (fun K k x hx => ?_) (by omega)
    · unfold p_wholeTo_l2; rw [cond_f (decide_eq_false (by omega))]
    · have hk := (List.getElem?_eq_some_iff.1 hx).1
      unfold p_wholeTo_l2
      rw [cond_t (decide_eq_true (by omega)), idx_get hx, Option.bind_some, succ_cast]
      cases g1 : feq x (Flt.truncN x) with
      | false => rw [cond_t (show (!false) = true from rfl), if_neg (by simp [Flt.wT, g1])]
      | true =>
        rw [cond_f (show (!true) = false from rfl)]
        cases g2 : fgt (Flt.fabs x) m with
        | true => rw [cond_t rfl, if_neg (by simp [Flt.wT, g2])]
        | false => rw [cond_f rfl, need_pos (in64 (by omega) (by omega)), if_pos (by simp [Flt.wT, g1, g2])]
  rw [outer, Option.bind_some]
  split
  · rename_i h; rw [h, aft_inl]; rfl
  · rename_i h; rw [aft_inr, show l.all (Flt.wT m) = false by simpa using h]
def planeOk (m : Nat) (p : TImpl_P2) : Bool := Flt.wT m p.X && Flt.wT m p.Y
theorem planeTo_p {F : Nat} (hF : BigF F) (m : Nat) (l : List TImpl_P2) (hl : l.length < 1000) : p_planeTo F m l = some (l.all (planeOk m)) := by
  have hF' : 1073741826 ≤ F := hF
  unfold p_planeTo
  have outer : iter (p_planeTo_l2 m l F) F (0 : Int) = some (if l.all (planeOk m) = true then Sum.inl () else Sum.inr false) := by
    refine scan_loop0 l _ _ _ (fun K k hk => ?_) (fun K k x hx => ?_) (by omega)
    · unfold p_planeTo_l2; rw [cond_f (decide_eq_false (by omega))]
    · have hk := (List.getElem?_eq_some_iff.1 hx).1
      unfold p_planeTo_l2
      rw [cond_t (decide_eq_true (by omega)), idx_get hx, Option.bind_some, succ_cast, wholeTo_p hF m _ (by simp), Option.bind_some]
      have e : [x.X, x.Y].all (Flt.wT m) = planeOk m x := by simp [planeOk]
      rw [e]
      cases planeOk m x with
      | false => rw [cond_t (show (!false) = true from rfl), if_neg (by simp)]
      | true => rw [cond_f (show (!true) = false from rfl), need_pos (in64 (by omega) (by omega)), if_pos rfl]
  rw [outer, Option.bind_some]
  split
  · rename_i h; rw [h, aft_inl]; rfl
  · rename_i h; rw [aft_inr, show l.all (planeOk m) = false by simpa using h]
/-- p is the place (x, y), whole -/
def At (p : TImpl_P2) (x y : Int) : Prop := Flt.I p.X x ∧ Flt.I p.Y y
theorem at_of {m : Nat} {k : Int} (hk : Flt.I m k) (hk0 : 0 ≤ k) (hk1 : k ≤ 4503599627370496) {p : TImpl_P2} (h : planeOk m p = true) : ∃ x y, At p x y ∧ (-k ≤ x ∧ x ≤ k) ∧ (-k ≤ y ∧ y ≤ k) := by
  simp only [planeOk, Bool.and_eq_true] at h
  obtain ⟨x, h1, h2⟩ := Flt.wT_int hk hk0 hk1 (Flt.fneg_int hk) h.1
  obtain ⟨y, h3, h4⟩ := Flt.wT_int hk hk0 hk1 (Flt.fneg_int hk) h.2
  exact ⟨x, y, ⟨h1, h3⟩, h2, h4⟩
/-- d is the exact point (x, y) -/
def DydAt (d : TSpec_Point) (x y : Rat) : Prop := Dyd d.X x 2 1074 ∧ Dyd d.Y y 2 1074
theorem exactly_p {F : Nat} (hF : BigF F) {p : TImpl_P2} {x y : Int} (h : At p x y) (wx : p.X < 18446744073709551616) (wy : p.Y < 18446744073709551616) : ∃ d, p_exactly F p = some d ∧ DydAt d x y := by
  obtain ⟨d1, e1, k1⟩ := dyd_of wx h.1 hF
  obtain ⟨d2, e2, k2⟩ := dyd_of wy h.2 hF
  exact ⟨⟨d1, d2⟩, by simp only [p_exactly, p_PointOf, e1, e2, Option.bind_some], k1, k2⟩
def crossR (ax ay bx b_y cx cy : Rat) : Rat := (bx - ax) * (cy - ay) - (b_y - ay) * (cx - ax)
theorem cross_p {F : Nat} (hF : BigF F) {a b c : TSpec_Point} {ax ay bx b_y cx cy : Rat} (ha : DydAt a ax ay) (hb : DydAt b bx b_y) (hc : DydAt c cx cy) : ∃ d, p_Cross F a b c = some d ∧ Dyd d (crossR ax ay bx b_y cx cy) 567 8592 := by
  obtain ⟨d1, e1, k1⟩ := dyd_sub hb.1 ha.1 (by omega) (by omega) hF
  obtain ⟨d2, e2, k2⟩ := dyd_sub hc.2 ha.2 (by omega) (by omega) hF
  obtain ⟨d3, e3, k3⟩ := dyd_mul k1 k2 (by omega) (by omega) hF
  obtain ⟨d4, e4, k4⟩ := dyd_sub hb.2 ha.2 (by omega) (by omega) hF
  obtain ⟨d5, e5, k5⟩ := dyd_sub hc.1 ha.1 (by omega) (by omega) hF
  obtain ⟨d6, e6, k6⟩ := dyd_mul k4 k5 (by omega) (by omega) hF
  obtain ⟨d7, e7, k7⟩ := dyd_sub k3 k6 (by omega) (by omega) hF
  exact ⟨d7, by simp only [p_Cross, e1, e2, e3, e4, e5, e6, e7, Option.bind_some], k7⟩
end Go.Proofs.Ytohpmbodfpjjmaa.Wk

namespace Go.Proofs.Ytohpmbodfpjjmaa.Wk
open Go.Vm
set_option linter.unusedVariables false
set_option linter.unusedSimpArgs false
theorem orient_p {F : Nat} (hF : BigF F) {a b c : TSpec_Point} {ax ay bx b_y cx cy : Rat} (ha : DydAt a ax ay) (hb : DydAt b bx b_y) (hc : DydAt c cx cy) : p_Orient F a b c = some (sgR (crossR ax ay bx b_y cx cy)) := by
  obtain ⟨d, e, k⟩ := cross_p hF ha hb hc
  unfold p_Orient
  rw [e, Option.bind_some, dyd_sign k, Option.bind_some]
end Go.Proofs.Ytohpmbodfpjjmaa.Wk

namespace Go.Proofs.Ytohpmbodfpjjmaa.Wk
open Go.Vm
set_option linter.unusedVariables false
set_option linter.unusedSimpArgs false
def turn (ax ay bx b_y cx cy : Int) : Int := (ax - cx) * (b_y - cy) - (ay - cy) * (bx - cx)
theorem cross_int (ax ay bx b_y cx cy : Int) : crossR ax ay bx b_y cx cy = ((turn ax ay bx b_y cx cy : Int) : Rat) := by
  unfold crossR turn
  simp only [Rat.intCast_sub, Rat.intCast_mul]
  grind
def btwR (p q r : Rat) : Prop := (p ≤ r ∧ r ≤ q) ∨ (q ≤ r ∧ r ≤ p)
def btwI (p q r : Int) : Prop := (p ≤ r ∧ r ≤ q) ∨ (q ≤ r ∧ r ≤ p)
instance (p q r : Rat) : Decidable (btwR p q r) := by unfold btwR; infer_instance
instance (p q r : Int) : Decidable (btwI p q r) := by unfold btwI; infer_instance
theorem btw_int (p q r : Int) : btwR p q r ↔ btwI p q r := by
  unfold btwR btwI
  simp only [Rat.intCast_le_intCast]
theorem le_sub (p q : Rat) : p - q ≤ 0 ↔ p ≤ q := by constructor <;> intro h <;> grind
theorem between_p {F : Nat} (hF : BigF F) {a b c : TSpec_Dyadic} {p q r : Rat} (ha : Dyd a p 2 1074) (hb : Dyd b q 2 1074) (hc : Dyd c r 2 1074) : p_Between F a b c = some (decide (btwR p q r)) := by
  unfold p_Between btwR
  rw [dyd_cmp ha hc (by omega) (by omega) hF, dyd_cmp hc hb (by omega) (by omega) hF, dyd_cmp hb hc (by omega) (by omega) hF, dyd_cmp hc ha (by omega) (by omega) hF]
  simp only [Option.bind_some, sgR_le, le_sub]
  by_cases h1 : p ≤ r <;> by_cases h2 : r ≤ q <;> by_cases h3 : q ≤ r <;> by_cases h4 : r ≤ p <;> simp [h1, h2, h3, h4]
abbrev K24 : Nat := 4715268809856909312
theorem K24_int : Flt.I K24 16777216 := by
  have e : K24 = ofInt 16777216 := by decide +kernel
  rw [e]; exact Flt.ofInt_int (by decide)
theorem turn_swap (ax ay bx b_y cx cy : Int) : turn ax ay cx cy bx b_y = -turn ax ay bx b_y cx cy := by
  unfold turn
  simp only [Int.sub_mul, Int.mul_sub]
  have c1 := Int.mul_comm ax cy
  have c2 := Int.mul_comm bx ay
  have c3 := Int.mul_comm bx b_y
  have c4 := Int.mul_comm ax b_y
  have c5 := Int.mul_comm cx cy
  have c6 := Int.mul_comm cx b_y
  have c7 := Int.mul_comm cx ay
  have c8 := Int.mul_comm bx cy
  omega
theorem on_p {F : Nat} (hF : BigF F) {a b c : TSpec_Point} {ax ay bx b_y cx cy : Int} (ha : DydAt a ax ay) (hb : DydAt b bx b_y) (hc : DydAt c cx cy) :
    p_OnSegment F b a c = some (decide (turn ax ay bx b_y cx cy = 0 ∧ btwI ax cx bx ∧ btwI ay cy b_y)) := by
  unfold p_OnSegment
  rw [orient_p hF ha hc hb, Option.bind_some, cross_int, turn_swap, sgR_int, between_p hF ha.1 hc.1 hb.1, between_p hF ha.2 hc.2 hb.2]
  simp only [Option.bind_some, btw_int]
  generalize turn ax ay bx b_y cx cy = n
  by_cases h : n = 0
  · rw [if_pos (by omega), cond_t (decide_eq_true rfl)]
    by_cases h1 : btwI ax cx bx <;> by_cases h2 : btwI ay cy b_y <;> simp [h, h1, h2]
  · rw [if_neg (show ¬ -n = 0 by omega), cond_f (decide_eq_false (by split <;> omega))]
    simp [h]
end Go.Proofs.Ytohpmbodfpjjmaa.Wk

namespace Go.Proofs.Ytohpmbodfpjjmaa.Wk
open Go.Vm
set_option linter.unusedVariables false
set_option linter.unusedSimpArgs false
/-- the stride of a layout from 1 to 8 -/
def strideN (k : Int) : Nat := if k = 1 then 2 else if k = 2 then 3 else if k = 3 then 3 else k.toNat
theorem stride_p {k : Int} (h1 : 1 ≤ k) (h2 : k ≤ 8) : p_Stride k = some (strideN k : Int) ∧ p_Layout_Stride k = some (strideN k : Int) ∧ 2 ≤ strideN k ∧ strideN k ≤ 8 := by
  unfold p_Stride p_Layout_Stride strideN
  have : k = 1 ∨ k = 2 ∨ k = 3 ∨ k = 4 ∨ k = 5 ∨ k = 6 ∨ k = 7 ∨ k = 8 := by omega
  rcases this with rfl | rfl | rfl | rfl | rfl | rfl | rfl | rfl <;> exact ⟨rfl, rfl, by decide, by decide⟩
/-- place number i of a row -/
def plc (s : Nat) (l : List Nat) (i : Nat) : TImpl_P2 := ⟨l.getD (i * s) 0, l.getD (i * s + 1) 0⟩
def row (s : Nat) (l : List Nat) (i : Nat) : List Nat := (l.drop (i * s)).take s
theorem row_len {s m i : Nat} {l : List Nat} (hl : l.length = m * s) (hi : i < m) : (row s l i).length = s := by
  unfold row
  rw [List.length_take, List.length_drop, hl]
  have : (i + 1) * s ≤ m * s := Nat.mul_le_mul_right s hi
  rw [Nat.add_mul] at this
  omega
theorem mul_lt' {s m i : Nat} (hi : i < m) (hs : 2 ≤ s) : i * s + s ≤ m * s := by
  have : (i + 1) * s ≤ m * s := Nat.mul_le_mul_right s hi
  rw [Nat.add_mul] at this
  omega
theorem flat_loop {l : List Nat} {s m : Nat} (hs : 2 ≤ s) (hl : l.length = m * s) (hb : l.length < 2147483648) : ∀ (F i : Nat), m - i < F → i ≤ m →
    iter (p_flatTo_l4 l (s : Int)) F ((((i * s : Nat) : Int), (List.range i).map (plc s l)) : Int × List TImpl_P2) = some (Sum.inl ((List.range m).map (plc s l))) := by
  intro F
  induction F with
  | zero => intro i h; omega
  | succ F ih =>
    intro i h him
    have hms : i * s ≤ m * s := Nat.mul_le_mul_right s him
    show p_flatTo_l4 l (s : Int) (iter (p_flatTo_l4 l (s : Int)) F) _ = _
    generalize hK : iter (p_flatTo_l4 l (s : Int)) F = K at *
    unfold p_flatTo_l4
    simp only
    by_cases hi : i < m
    · have hle := mul_lt' hi hs
      have him2 : i ≤ i * s := Nat.le_mul_of_pos_right i (by omega)
      rw [cond_t (decide_eq_true (by omega)), idx_lt l (i * s) 0 (by omega), Option.bind_some, need_pos (in64 (by omega) (by omega)), succ_cast, idx_lt l (i * s + 1) 0 (by omega), Option.bind_some,
        need_pos (by simp; omega), need_pos (in64 (by omega) (by omega))]
      have e1 : (((i * s : Nat) : Int) + (s : Int)) = (((i + 1) * s : Nat) : Int) := by rw [Nat.add_mul]; omega
      have e2 : (List.range i).map (plc s l) ++ [(TImpl_P2.mk (l.getD (i * s) 0) (l.getD (i * s + 1) 0))] = (List.range (i + 1)).map (plc s l) := by
        rw [List.range_succ, List.map_append]; rfl
      rw [e1, e2]
      exact ih (i + 1) (by omega) hi
    · have : i = m := by omega
      subst this
      rw [cond_f (decide_eq_false (by omega))]
/-- the first two numbers of a list -/
def Two (l : List Nat) (x y : Nat) : Prop := idx l (0 : Int) = some x ∧ idx l (1 : Int) = some y
/-- the places, as whole numbers -/
def Whole2 (s m : Nat) (l : List Nat) (X : Nat → Int × Int) : Prop := ∀ i, i < m → At (plc s l i) (X i).1 (X i).2 ∧ (-16777216 ≤ (X i).1 ∧ (X i).1 ≤ 16777216) ∧ (-16777216 ≤ (X i).2 ∧ (X i).2 ≤ 16777216)
theorem flat_p {F : Nat} (hF : BigF F) {l : List Nat} {k : Int} (h1 : 1 ≤ k) (h2 : k ≤ 8) (hb : l.length < 2147483648) :
    (p_flatTo F k l 4715268809856909312 200 = some ([], false)) ∨ ∃ m, l.length = m * strideN k ∧ m ≤ 200 ∧ p_flatTo F k l 4715268809856909312 200 = some ((List.range m).map (plc (strideN k) l), ((List.range m).map (plc (strideN k) l)).all (planeOk 4715268809856909312)) := by
  have hF' : 1073741826 ≤ F := hF
  obtain ⟨e1, _, hs, hs8⟩ := stride_p h1 h2
  generalize strideN k = s at *
  unfold p_flatTo
  rw [cond_f (decide_eq_false (by omega))]
  unfold p_flatTo_k1
  rw [cond_f (decide_eq_false (by omega)), e1, Option.bind_some, need_pos (by omega)]
  have et : Int.tmod ((l.length : Nat) : Int) (s : Int) = ((l.length % s : Nat) : Int) := by rw [Int.tmod_eq_emod_of_nonneg (by omega)]; rfl
  rw [et]
  by_cases hd : l.length % s = 0
  · rw [cond_f (show (!decide (((l.length % s : Nat) : Int) = 0)) = false by simp [hd]), need_pos (in64 (by omega) (by omega))]
    unfold p_flatTo_k2
    by_cases h60 : ((s : Int) * 200) < ((l.length : Nat) : Int)
    · rw [cond_t (decide_eq_true h60)]; exact .inl rfl
    · rw [cond_f (decide_eq_false h60)]
      right
      have hl : l.length = l.length / s * s := by
        have := Nat.div_add_mod l.length s
        rw [hd, Nat.mul_comm] at this; omega
      generalize hm : l.length / s = m at *
      have hm200 : m ≤ 200 := by
        rcases Nat.lt_or_ge 200 m with h | h
        · exfalso
          have := Nat.mul_le_mul_right s h
          have e : (Nat.succ 200) * s = 201 * s := rfl
          omega
        · exact h
      refine ⟨m, hl, hm200, ?_⟩
      have hlp := flat_loop hs hl hb F 0 (by omega) (by omega)
      simp only [Nat.zero_mul, List.range_zero, List.map_nil] at hlp
      rw [show ((0 : Int), ([] : List TImpl_P2)) = (((0 : Nat) : Int), []) from rfl, hlp, Option.bind_some, aft_inl]
      unfold p_flatTo_k3
      rw [planeTo_p hF _ _ (by simp; omega), Option.bind_some]
  · rw [cond_t (show (!decide (((l.length % s : Nat) : Int) = 0)) = true by simp; omega)]
    unfold p_flatTo_k2
    exact .inl rfl
end Go.Proofs.Ytohpmbodfpjjmaa.Wk

namespace Go.Proofs.Ytohpmbodfpjjmaa.Wk
open Go.Vm
set_option linter.unusedVariables false
set_option linter.unusedSimpArgs false
def det (a b c d : Int) : Int := a * d - b * c
theorem mul_lt_l {a b c : Int} (h : a < b) (hc : 0 < c) : c * a < c * b := Int.mul_lt_mul_of_pos_left h hc
theorem mul_le_l {a b c : Int} (h : a ≤ b) (hc : 0 ≤ c) : c * a ≤ c * b := Int.mul_le_mul_of_nonneg_left h hc
/-- the second row less k times the first -/
theorem det_sub (a b c d k : Int) : det a b (c - k * a) (d - k * b) = det a b c d := by
  unfold det
  rw [Int.mul_sub, Int.mul_sub]
  have : a * (k * b) = b * (k * a) := by grind
  omega
theorem det_sub1 (a b c d k : Int) : det (a - k * c) (b - k * d) c d = det a b c d := by
  unfold det
  rw [Int.sub_mul, Int.sub_mul]
  have : k * c * d = k * d * c := by grind
  omega
theorem det_flip (a b c d : Int) : det a b (a - c) (b - d) = -det a b c d := by
  unfold det
  rw [Int.mul_sub, Int.mul_sub]
  have : a * b = b * a := Int.mul_comm a b
  omega
theorem det_flip1 (a b c d : Int) : det (c - a) (d - b) c d = -det a b c d := by
  unfold det
  rw [Int.sub_mul, Int.sub_mul]
  have : c * d = d * c := Int.mul_comm c d
  omega
/-- what the first half tells at once -/
theorem half_neg {a b c d : Int} (ha : 0 < a) (hb : 0 < b) (hc : 0 ≤ c) (h : d < 0) : det a b c d < 0 := by
  have h1 := mul_lt_l h ha
  have h2 := mul_le_l hc (Int.le_of_lt hb)
  unfold det; omega
theorem half_gt {a b c d : Int} (ha : 0 < a) (hb : 0 < b) (hc : c < a) (h : b < d) : 0 < det a b c d := by
  have h1 := mul_lt_l h ha
  have h2 := mul_lt_l hc hb
  have : a * b = b * a := Int.mul_comm a b
  unfold det; omega
theorem half_up {a b c d : Int} (ha : 0 < a) (hb : 0 < b) (hc : c + c < a) (h : b < d + d) : 0 < det a b c d := by
  have h1 := mul_lt_l h ha
  have h2 := mul_lt_l hc hb
  rw [Int.mul_add] at h1 h2
  have : a * b = b * a := Int.mul_comm a b
  unfold det; omega
theorem half_down {a b c d : Int} (ha : 0 < a) (hb : 0 < b) (hc : a ≤ c + c) (h : d + d < b) : det a b c d < 0 := by
  have h1 := mul_lt_l h ha
  have h2 := mul_le_l hc (Int.le_of_lt hb)
  rw [Int.mul_add] at h1 h2
  have : a * b = b * a := Int.mul_comm a b
  unfold det; omega
/-- the rows exchanged -/
theorem det_swap (a b c d : Int) : det c d a b = -det a b c d := by
  unfold det
  rw [Int.mul_comm c b, Int.mul_comm d a]; omega
def sg1 (n : Int) : Int := if n = 0 then 0 else if n < 0 then -1 else 1
theorem sg1_pos {n : Int} (h : 0 < n) : sg1 n = 1 := by unfold sg1; rw [if_neg (by omega), if_neg (by omega)]
theorem sg1_neg {n : Int} (h : n < 0) : sg1 n = -1 := by unfold sg1; rw [if_neg (by omega), if_pos h]
theorem sg1_zero : sg1 0 = 0 := rfl
theorem sg1_min (n : Int) : sg1 (-n) = -sg1 n := by
  rcases Int.lt_trichotomy n 0 with h | h | h
  · rw [sg1_neg h, sg1_pos (by omega)]; rfl
  · rw [h]; rfl
  · rw [sg1_pos h, sg1_neg (by omega)]
/-- signs of products -/
theorem sg1_mul (a b : Int) : sg1 (a * b) = sg1 a * sg1 b := by
  rcases Int.lt_trichotomy a 0 with h | h | h <;> rcases Int.lt_trichotomy b 0 with h' | h' | h'
  · rw [sg1_pos (Int.mul_pos_of_neg_of_neg h h'), sg1_neg h, sg1_neg h']; rfl
  · rw [h', Int.mul_zero]; rw [sg1_zero, Int.mul_zero]
  · rw [sg1_neg (Int.mul_neg_of_neg_of_pos h h'), sg1_neg h, sg1_pos h']; rfl
  · rw [h, Int.zero_mul, sg1_zero, Int.zero_mul]
  · rw [h, Int.zero_mul, sg1_zero, Int.zero_mul]
  · rw [h, Int.zero_mul, sg1_zero, Int.zero_mul]
  · rw [sg1_neg (Int.mul_neg_of_pos_of_neg h h'), sg1_pos h, sg1_neg h']; rfl
  · rw [h', Int.mul_zero, sg1_zero, Int.mul_zero]
  · rw [sg1_pos (Int.mul_pos h h'), sg1_pos h, sg1_pos h']; rfl
end Go.Proofs.Ytohpmbodfpjjmaa.Wk

namespace Go.Proofs.Ytohpmbodfpjjmaa.Wk
open Go.Vm
set_option linter.unusedVariables false
set_option linter.unusedSimpArgs false
def rT (X1 Y1 X2 Y2 : Int) : Int := X2 * Y1 - Y2 * X1
/-- the counter: 0: nothing, 1: on the segment, 2: one more crossing -/
def segC (X1 Y1 X2 Y2 : Int) : Nat :=
  if X1 < 0 ∧ X2 < 0 then 0 else if X2 = 0 ∧ Y2 = 0 then 1 else if Y1 = 0 ∧ Y2 = 0 then (if (X1 ≤ 0 ∧ 0 ≤ X2) ∨ (X2 ≤ 0 ∧ 0 ≤ X1) then 1 else 0)
  else if (0 < Y1 ∧ Y2 ≤ 0) ∨ (0 < Y2 ∧ Y1 ≤ 0) then (if rT X1 Y1 X2 Y2 = 0 then 1 else if 0 < (if Y2 < Y1 then rT X1 Y1 X2 Y2 else -rT X1 Y1 X2 Y2) then 2 else 0) else 0
/-- the reference -/
def segOn (X1 Y1 X2 Y2 : Int) : Prop := rT X1 Y1 X2 Y2 = 0 ∧ ((X2 ≤ 0 ∧ 0 ≤ X1) ∨ (X1 ≤ 0 ∧ 0 ≤ X2)) ∧ ((Y2 ≤ 0 ∧ 0 ≤ Y1) ∨ (Y1 ≤ 0 ∧ 0 ≤ Y2))
instance (X1 Y1 X2 Y2 : Int) : Decidable (segOn X1 Y1 X2 Y2) := by unfold segOn; infer_instance
def segT (X1 Y1 X2 Y2 : Int) : Bool := (decide (0 < Y2) != decide (0 < Y1)) && (decide (0 < rT X1 Y1 X2 Y2) == decide (0 < Y1))
theorem mpos {a b : Int} (h : 0 < a) (k : 0 < b) : 0 < a * b := Int.mul_pos h k
theorem mneg {a b : Int} (h : a < 0) (k : 0 < b) : a * b < 0 := Int.mul_neg_of_neg_of_pos h k
theorem mnn {a b : Int} (h : 0 ≤ a) (k : 0 ≤ b) : 0 ≤ a * b := Int.mul_nonneg h k
theorem mnp {a b : Int} (h : a ≤ 0) (k : 0 ≤ b) : a * b ≤ 0 := Int.mul_nonpos_of_nonpos_of_nonneg h k
theorem mpp {a b : Int} (h : a ≤ 0) (k : b ≤ 0) : 0 ≤ a * b := Int.mul_nonneg_of_nonpos_of_nonpos h k
/-- where the ends lie on different sides and the row's determinant is 0 -/
theorem cross0 {X1 Y1 X2 Y2 : Int} (h1 : 0 < Y1) (h2 : Y2 ≤ 0) (h : rT X1 Y1 X2 Y2 = 0) : (X2 ≤ 0 ∧ 0 ≤ X1) ∨ (X1 ≤ 0 ∧ 0 ≤ X2) := by
  unfold rT at h
  rcases Int.lt_trichotomy X1 0 with hx | hx | hx
  · right
    have a := mpp h2 (Int.le_of_lt hx)
    refine ⟨by omega, ?_⟩
    apply Classical.byContradiction
    intro hn
    have := mneg (show X2 < 0 by omega) h1
    omega
  · subst hx
    rcases Int.lt_trichotomy X2 0 with hy | hy | hy
    · left; omega
    · left; omega
    · right; omega
  · left
    have a := mnp h2 (Int.le_of_lt hx)
    refine ⟨?_, by omega⟩
    apply Classical.byContradiction
    intro hn
    have := mpos (show 0 < X2 by omega) h1
    omega
theorem rT_neg (X1 Y1 X2 Y2 : Int) : rT X2 Y2 X1 Y1 = -rT X1 Y1 X2 Y2 := by
  unfold rT
  rw [Int.mul_comm X1 Y2, Int.mul_comm Y1 X2]; omega
theorem on_of {X1 Y1 X2 Y2 : Int} (h : segC X1 Y1 X2 Y2 = 1) : segOn X1 Y1 X2 Y2 := by
  unfold segC at h
  split at h
  · cases h
  split at h
  · rename_i h1
    obtain ⟨rfl, rfl⟩ := h1
    refine ⟨by unfold rT; simp, by omega, by omega⟩
  split at h
  · rename_i h1
    obtain ⟨rfl, rfl⟩ := h1
    split at h
    · exact ⟨by unfold rT; simp, by omega, by omega⟩
    · cases h
  split at h
  · rename_i h1
    split at h
    · rename_i h2
      rcases h1 with h1 | h1
      · exact ⟨h2, cross0 h1.1 h1.2 h2, by omega⟩
      · have := cross0 (X1 := X2) (Y1 := Y2) (X2 := X1) (Y2 := Y1) h1.1 h1.2 (by rw [rT_neg, h2]; rfl)
        exact ⟨h2, by omega, by omega⟩
    · exfalso
      revert h
      generalize (if Y2 < Y1 then rT X1 Y1 X2 Y2 else -rT X1 Y1 X2 Y2) = w
      intro h
      by_cases hw : 0 < w
      · rw [if_pos hw] at h; cases h
      · rw [if_neg hw] at h; cases h
  · cases h
theorem of_on {X1 Y1 X2 Y2 : Int} (h : segOn X1 Y1 X2 Y2) : segC X1 Y1 X2 Y2 = 1 ∨ (X1 = 0 ∧ Y1 = 0) := by
  obtain ⟨h1, h2, h3⟩ := h
  unfold segC
  rw [if_neg (by omega)]
  by_cases c1 : X2 = 0 ∧ Y2 = 0
  · rw [if_pos c1]; exact .inl rfl
  rw [if_neg c1]
  by_cases c2 : Y1 = 0 ∧ Y2 = 0
  · rw [if_pos c2, if_pos (by omega)]; exact .inl rfl
  rw [if_neg c2]
  by_cases c3 : (0 < Y1 ∧ Y2 ≤ 0) ∨ (0 < Y2 ∧ Y1 ≤ 0)
  · rw [if_pos c3, if_pos h1]; exact .inl rfl
  · -- one end at the ray's height, the other below
    by_cases c4 : Y1 = 0
    · right
      refine ⟨?_, c4⟩
      have hy : Y2 < 0 := by omega
      unfold rT at h1
      rw [c4, Int.mul_zero] at h1
      have : Y2 * X1 = 0 := by omega
      rcases Int.mul_eq_zero.1 this with h | h
      · omega
      · exact h
    · exfalso
      have hy : Y2 = 0 := by omega
      unfold rT at h1
      rw [hy, Int.zero_mul] at h1
      have : X2 * Y1 = 0 := by omega
      rcases Int.mul_eq_zero.1 this with h | h
      · exact c1 ⟨h, hy⟩
      · exact c4 h
theorem tog {X1 Y1 X2 Y2 : Int} (h : ¬ segOn X1 Y1 X2 Y2) : segC X1 Y1 X2 Y2 = if segT X1 Y1 X2 Y2 = true then 2 else 0 := by
  have hne : segC X1 Y1 X2 Y2 ≠ 1 := fun e => h (on_of e)
  have hT : (0 < Y1 ∧ Y2 ≤ 0) ∨ (0 < Y2 ∧ Y1 ≤ 0) → ¬ rT X1 Y1 X2 Y2 = 0 := fun c e => by
    rcases c with c | c
    · exact h ⟨e, cross0 c.1 c.2 e, by omega⟩
    · have := cross0 (X1 := X2) (Y1 := Y2) (X2 := X1) (Y2 := Y1) c.1 c.2 (by rw [rT_neg, e]; rfl)
      exact h ⟨e, by omega, by omega⟩
  have no : ¬ ((0 < Y1 ∧ Y2 ≤ 0) ∨ (0 < Y2 ∧ Y1 ≤ 0)) → segT X1 Y1 X2 Y2 = false := fun c => by
    unfold segT
    by_cases a : 0 < Y1 <;> by_cases b : 0 < Y2 <;> simp [a, b] <;> omega
  unfold segC at hne ⊢
  by_cases c0 : X1 < 0 ∧ X2 < 0
  · rw [if_pos c0]
    have : segT X1 Y1 X2 Y2 = false := by
      by_cases c3 : (0 < Y1 ∧ Y2 ≤ 0) ∨ (0 < Y2 ∧ Y1 ≤ 0)
      · rcases c3 with c3 | c3
        · have a := mneg c0.2 c3.1
          have b := mpp c3.2 (Int.le_of_lt c0.1)
          have ht : ¬ 0 < rT X1 Y1 X2 Y2 := by unfold rT; omega
          unfold segT
          simp [ht, c3.1]
        · have a := mpp (Int.le_of_lt c0.2) c3.2
          have b : Y2 * X1 < 0 := by rw [Int.mul_comm]; exact mneg c0.1 c3.1
          have ht : 0 < rT X1 Y1 X2 Y2 := by unfold rT; omega
          have hy : ¬ 0 < Y1 := by omega
          unfold segT
          simp [ht, hy]
      · exact no c3
    rw [this]; rfl
  rw [if_neg c0] at hne ⊢
  by_cases c1 : X2 = 0 ∧ Y2 = 0
  · rw [if_pos c1] at hne; exact absurd rfl hne
  rw [if_neg c1] at hne ⊢
  by_cases c2 : Y1 = 0 ∧ Y2 = 0
  · rw [if_pos c2] at hne ⊢
    rw [no (by omega)]
    split at hne
    · exact absurd rfl hne
    · rename_i h4; rw [if_neg h4]; rfl
  rw [if_neg c2] at hne ⊢
  by_cases c3 : (0 < Y1 ∧ Y2 ≤ 0) ∨ (0 < Y2 ∧ Y1 ≤ 0)
  · rw [if_pos c3, if_neg (hT c3)]
    have hz := hT c3
    have key : (0 < (if Y2 < Y1 then rT X1 Y1 X2 Y2 else -rT X1 Y1 X2 Y2)) ↔ segT X1 Y1 X2 Y2 = true := by
      rcases c3 with c3 | c3
      · have hy : ¬ 0 < Y2 := by omega
        rw [if_pos (by omega)]
        unfold segT
        simp [c3.1, hy]
      · have hy : ¬ 0 < Y1 := by omega
        rw [if_neg (by omega)]
        unfold segT
        simp [c3.1, hy]
        omega
    by_cases c5 : segT X1 Y1 X2 Y2 = true
    · rw [if_pos c5, if_pos (key.2 c5)]
    · rw [if_neg c5, if_neg (fun e => c5 (key.1 e))]
  · rw [if_neg c3, no c3]; rfl
end Go.Proofs.Ytohpmbodfpjjmaa.Wk

namespace Go.Proofs.Ytohpmbodfpjjmaa.Wk
open Go.Vm
set_option linter.unusedVariables false
set_option linter.unusedSimpArgs false
theorem z0 : Flt.I 0 0 := Flt.zero_int
abbrev St6 := Nat × Nat × Nat × Nat × Int × Int
theorem neg_ok {s : Int} (hs : s = 1 ∨ s = -1) : inI .i64 (-s) := in64m (by omega) (by omega)
theorem s_pos {s n : Int} (h : 0 < n) : s = s * sg1 n := by rw [sg1_pos h, Int.mul_one]
theorem s_neg {s n : Int} (h : n < 0) : -s = s * sg1 n := by rw [sg1_neg h]; omega
theorem mulB {x y : Int} {A B : Nat} (ha : x.natAbs ≤ A) (hb : y.natAbs ≤ B) : (x * y).natAbs ≤ A * B := by
  rw [Int.natAbs_mul]; exact Nat.mul_le_mul ha hb
/-- what is left of a division -/
theorem rest_of (n m : Nat) (h : 1 ≤ n) : ((m : Int) - ((m / n : Nat) : Int) * (n : Int)) = ((m % n : Nat) : Int) ∧ m % n < n ∧ (m / n) * n ≤ m ∧ m / n ≤ m := by
  have h1 := Nat.div_add_mod m n
  have h2 := Nat.mod_lt m (show 0 < n by omega)
  have h3 := Nat.div_mul_le_self m n
  have h4 := Nat.div_le_self m n
  refine ⟨?_, h2, h3, h4⟩
  have e : ((m / n : Nat) : Int) * (n : Int) = (((m / n) * n : Nat) : Int) := by simp
  rw [e]
  rw [Nat.mul_comm] at h1
  omega
theorem k9_p {x1 y1 x2 y2 : Nat} {a c : Nat} {b d : Int} {s cnt : Int} {K : St6 → Option (Sum Unit Int)} (g19 : St6) (g38 : Nat × Nat × Int) (h5 : g19.2.2.2.2.1 = cnt) (h6 : g38.1 = x2) (h7 : g38.2.1 = y2)
    (i1 : Flt.I x1 (a : Int)) (i2 : Flt.I y1 b) (i3 : Flt.I x2 (c : Int)) (i4 : Flt.I y2 d) (hc : 0 < c) (hd : 0 < d) (hb : 0 ≤ b) (hs : s = 1 ∨ s = -1)
    (hK : 0 < a → 0 < b → K (x1, y1, x2, y2, cnt + 1, s) = some (.inr (s * sg1 (det (a : Int) b (c : Int) d)))) :
    p_SignOfDet2x2_k9 g19 K g38 (x1, y1, s) = some (.inr (s * sg1 (det (a : Int) b (c : Int) d))) := by
  unfold p_SignOfDet2x2_k9
  dsimp only
  rw [h5, h6, h7, Flt.feq_int i2 z0, Flt.feq_int i1 z0]
  by_cases c1 : b = 0
  · rw [cond_t (decide_eq_true c1)]
    subst c1
    by_cases c2 : (a : Int) = 0
    · rw [cond_t (decide_eq_true c2), c2]
      unfold det
      simp [sg1]
    · rw [cond_f (decide_eq_false c2)]
      have : 0 < det (a : Int) 0 (c : Int) d := by
        unfold det; rw [Int.zero_mul, Int.sub_zero]; exact Int.mul_pos (by omega) hd
      rw [← s_pos this]
  · rw [cond_f (decide_eq_false c1)]
    by_cases c2 : (a : Int) = 0
    · rw [cond_t (decide_eq_true c2), need_pos (neg_ok hs), c2]
      have : det 0 b (c : Int) d < 0 := by
        unfold det; rw [Int.zero_mul]
        have := Int.mul_pos (show 0 < b by omega) (show 0 < (c : Int) by omega)
        omega
      rw [← s_neg this]
    · rw [cond_f (decide_eq_false c2)]
      exact hK (by omega) (by omega)
theorem k8_p {x1 y1 x2 y2 : Nat} {a c : Nat} {b d : Int} {s cnt : Int} {K : St6 → Option (Sum Unit Int)} (g19 : St6) (h1 : g19.1 = x1) (h2 : g19.2.1 = y1) (h5 : g19.2.2.2.2.1 = cnt)
    (i1 : Flt.I x1 (a : Int)) (i2 : Flt.I y1 b) (i3 : Flt.I x2 (c : Int)) (i4 : Flt.I y2 d) (ha : 0 < a) (hb : 0 < b) (hc : c < a) (hd : 0 ≤ d) (hdb : d ≤ b) (hM : a ≤ 33554432) (hMb : b ≤ 33554432) (hs : s = 1 ∨ s = -1)
    (hK : ∀ (x' y' a' : Nat) (b' s' : Int), Flt.I x' (a' : Int) → Flt.I y' b' → 0 < a' → a' ≤ c → 0 < b' → b' ≤ d → 0 < d → (s' = 1 ∨ s' = -1) → K (x', y', x2, y2, cnt + 1, s') = some (.inr (s' * sg1 (det (a' : Int) b' (c : Int) d)))) :
    p_SignOfDet2x2_k8 g19 K (x2, y2, s) = some (.inr (s * sg1 (det (a : Int) b (c : Int) d))) := by
  unfold p_SignOfDet2x2_k8
  dsimp only
  rw [h1, h2, Flt.feq_int i4 z0, Flt.feq_int i3 z0]
  by_cases c1 : d = 0
  · rw [cond_t (decide_eq_true c1)]
    subst c1
    by_cases c2 : (c : Int) = 0
    · rw [cond_t (decide_eq_true c2), c2]
      unfold det
      simp [sg1]
    · rw [cond_f (decide_eq_false c2), need_pos (neg_ok hs)]
      have : det (a : Int) b (c : Int) 0 < 0 := by
        unfold det; rw [Int.mul_zero]
        have := Int.mul_pos hb (show 0 < (c : Int) by omega)
        omega
      rw [← s_neg this]
  rw [cond_f (decide_eq_false c1)]
  by_cases c2 : (c : Int) = 0
  · rw [cond_t (decide_eq_true c2), c2]
    have : 0 < det (a : Int) b 0 d := by
      unfold det; rw [Int.mul_zero, Int.sub_zero]; exact Int.mul_pos (by omega) (by omega)
    rw [← s_pos this]
  rw [cond_f (decide_eq_false c2)]
  have hc0 : 1 ≤ c := by omega
  have hd0 : 0 < d := by omega
  obtain ⟨z, e1, n1, v1⟩ := Flt.quo_floor i1 i3 hc0 (by omega) (by omega)
  obtain ⟨r1, r2, r3, r4⟩ := rest_of c a hc0
  obtain ⟨t, ht⟩ : ∃ t, t = a / c := ⟨_, rfl⟩
  obtain ⟨r, hr⟩ : ∃ r, r = a % c := ⟨_, rfl⟩
  rw [← ht] at v1 r1 r3 r4
  rw [← hr] at r1 r2
  have fl : p_Floor z = some (Flt.floorD z) := by unfold p_Floor; rw [need_pos n1]
  have tc : (((t : Nat) : Int) * (c : Int)) = ((t * c : Nat) : Int) := by simp
  obtain ⟨z2, e2, v2⟩ := Flt.mul_int v1 i3 (by rw [tc]; omega)
  obtain ⟨z3, e3, v3⟩ := Flt.sub_int i1 v2 (by rw [r1]; omega)
  rw [r1] at v3
  have hb4 := mulB (x := (t : Int)) (y := d) (A := 33554432) (B := 33554432) (by omega) (by omega)
  obtain ⟨z4, e4, v4⟩ := Flt.mul_int v1 i4 (by omega)
  obtain ⟨z5, e5, v5⟩ := Flt.sub_int i2 v4 (by omega)
  obtain ⟨e, he⟩ : ∃ e, e = b - (t : Int) * d := ⟨_, rfl⟩
  rw [← he] at v5
  have hdet : det (r : Int) e (c : Int) d = det (a : Int) b (c : Int) d := by
    rw [← det_sub1 (a : Int) b (c : Int) d (t : Int), he]
    congr 1
    exact r1.symm
  have hsw := det_swap (r : Int) e (c : Int) d
  rw [← hdet]
  rw [e1, Option.bind_some, fl, Option.bind_some, e2, Option.bind_some, e3, Option.bind_some, e4, Option.bind_some, e5, Option.bind_some, Flt.flt_int v5 z0, Flt.fgt_int v5 i4]
  by_cases c3 : e < 0
  · rw [cond_t (decide_eq_true c3)]
    have := half_neg (a := (c : Int)) (b := d) (c := (r : Int)) (d := e) (by omega) hd0 (by omega) c3
    rw [← s_pos (show 0 < det (r : Int) e (c : Int) d by omega)]
  rw [cond_f (decide_eq_false c3)]
  by_cases c4 : d < e
  · rw [cond_t (decide_eq_true c4), need_pos (neg_ok hs)]
    have := half_gt (a := (c : Int)) (b := d) (c := (r : Int)) (d := e) (by omega) hd0 (by omega) c4
    rw [← s_neg (show det (r : Int) e (c : Int) d < 0 by omega)]
  rw [cond_f (decide_eq_false c4)]
  obtain ⟨z6, e6, v6⟩ := Flt.add_int v3 v3 (by omega)
  obtain ⟨z7, e7, v7⟩ := Flt.add_int v5 v5 (by omega)
  rw [e6, Option.bind_some, e7, Option.bind_some, Option.bind_some, Flt.fgt_int i3 v6, Flt.flt_int i4 v7, Flt.fgt_int i4 v7]
  by_cases c5 : (r : Int) + (r : Int) < (c : Int)
  · rw [cond_t (decide_eq_true c5)]
    by_cases c6 : d < e + e
    · rw [cond_t (decide_eq_true c6), need_pos (neg_ok hs)]
      have := half_up (a := (c : Int)) (b := d) (c := (r : Int)) (d := e) (by omega) hd0 c5 c6
      rw [← s_neg (show det (r : Int) e (c : Int) d < 0 by omega)]
    · rw [cond_f (decide_eq_false c6)]
      exact k9_p g19 (x2, y2, s) h5 rfl rfl v3 v5 i3 i4 (by omega) hd0 (by omega) hs (fun q1 q2 => hK _ _ _ _ _ v3 v5 q1 (by omega) q2 (by omega) hd0 hs)
  · rw [cond_f (decide_eq_false c5)]
    by_cases c6 : e + e < d
    · rw [cond_t (decide_eq_true c6)]
      have := half_down (a := (c : Int)) (b := d) (c := (r : Int)) (d := e) (by omega) hd0 (by omega) c6
      rw [← s_pos (show 0 < det (r : Int) e (c : Int) d by omega)]
    · rw [cond_f (decide_eq_false c6)]
      obtain ⟨z8, e8, v8⟩ := Flt.sub_int i3 v3 (by omega)
      obtain ⟨z9, e9, v9⟩ := Flt.sub_int i4 v5 (by omega)
      rw [e8, Option.bind_some, e9, Option.bind_some, need_pos (neg_ok hs)]
      have cr : (c : Int) - (r : Int) = ((c - r : Nat) : Int) := by omega
      rw [cr] at v8
      have hf := det_flip1 (r : Int) e (c : Int) d
      rw [cr] at hf
      have hs' : (-s = 1 ∨ -s = -1) := by omega
      have hgoal : s * sg1 (det (r : Int) e (c : Int) d) = (-s) * sg1 (det ((c - r : Nat) : Int) (d - e) (c : Int) d) := by
        rw [hf, sg1_min, Int.neg_mul_neg]
      rw [hgoal]
      exact k9_p g19 (x2, y2, s) h5 rfl rfl v8 v9 i3 i4 (by omega) hd0 (by omega) hs' (fun q1 q2 => hK _ _ _ _ _ v8 v9 q1 (by omega) q2 (by omega) hd0 hs')
theorem loop_p : ∀ (F : Nat) (x1 y1 x2 y2 a c : Nat) (b d s cnt : Int), a < F → Flt.I x1 (a : Int) → Flt.I y1 b → Flt.I x2 (c : Int) → Flt.I y2 d → 0 < a → a ≤ c → c ≤ 33554432 → 0 < b → b ≤ 33554432 → 0 < d → d ≤ 33554432 → (s = 1 ∨ s = -1) → 0 ≤ cnt → cnt + a ≤ 33554432 →
    iter p_SignOfDet2x2_l7 F (x1, y1, x2, y2, cnt, s) = some (.inr (s * sg1 (det (a : Int) b (c : Int) d))) := by
  intro F
  induction F with
  | zero => intro x1 y1 x2 y2 a c b d s cnt h; omega
  | succ F ih =>
    intro x1 y1 x2 y2 a c b d s cnt hF i1 i2 i3 i4 ha hac hcM hb hbM hd hdM hs hcnt hcM2
    show p_SignOfDet2x2_l7 (iter p_SignOfDet2x2_l7 F) _ = _
    obtain ⟨K, hK⟩ : ∃ K, K = iter p_SignOfDet2x2_l7 F := ⟨_, rfl⟩
    rw [← hK] at ih ⊢
    have k8 : ∀ (x' y' c' : Nat) (d' s' : Int), Flt.I x' (c' : Int) → Flt.I y' d' → c' < a → 0 ≤ d' → d' ≤ b → (s' = 1 ∨ s' = -1) → p_SignOfDet2x2_k8 (x1, y1, x2, y2, cnt, s) K (x', y', s') = some (.inr (s' * sg1 (det (a : Int) b (c' : Int) d'))) := fun x' y' c' d' s' j1 j2 j3 j4 j5 j6 =>
      k8_p (x1, y1, x2, y2, cnt, s) rfl rfl rfl i1 i2 j1 j2 ha hb j3 j4 j5 (by omega) hbM j6 (fun x'' y'' a'' b'' s'' m1 m2 m3 m4 m5 m6 m7 m8 =>
        ih x'' y'' x' y' a'' c' b'' d' s'' (cnt + 1) (by omega) m1 m2 j1 j2 m3 m4 (by omega) m5 (by omega) m7 (by omega) m8 (by omega) (by omega))
    unfold p_SignOfDet2x2_l7
    dsimp only
    obtain ⟨z, e1, n1, v1⟩ := Flt.quo_floor i3 i1 ha hac (by omega)
    obtain ⟨r1, r2, r3, r4⟩ := rest_of a c ha
    obtain ⟨t, ht⟩ : ∃ t, t = c / a := ⟨_, rfl⟩
    obtain ⟨r, hr⟩ : ∃ r, r = c % a := ⟨_, rfl⟩
    rw [← ht] at v1 r1 r3 r4
    rw [← hr] at r1 r2
    have fl : p_Floor z = some (Flt.floorD z) := by unfold p_Floor; rw [need_pos n1]
    have tc : (((t : Nat) : Int) * (a : Int)) = ((t * a : Nat) : Int) := by simp
    obtain ⟨z2, e2, v2⟩ := Flt.mul_int v1 i1 (by rw [tc]; omega)
    obtain ⟨z3, e3, v3⟩ := Flt.sub_int i3 v2 (by rw [r1]; omega)
    rw [r1] at v3
    have hb4 := mulB (x := (t : Int)) (y := b) (A := 33554432) (B := 33554432) (by omega) (by omega)
    obtain ⟨z4, e4, v4⟩ := Flt.mul_int v1 i2 (by omega)
    obtain ⟨z5, e5, v5⟩ := Flt.sub_int i4 v4 (by omega)
    obtain ⟨e, he⟩ : ∃ e, e = d - (t : Int) * b := ⟨_, rfl⟩
    rw [← he] at v5
    have hdet : det (a : Int) b (r : Int) e = det (a : Int) b (c : Int) d := by
      rw [← det_sub (a : Int) b (c : Int) d (t : Int), he]
      congr 1
      exact r1.symm
    rw [← hdet]
    rw [need_pos (in64 (by omega) (by omega)), e1, Option.bind_some, fl, Option.bind_some, e2, Option.bind_some, e3, Option.bind_some, e4, Option.bind_some, e5, Option.bind_some, Flt.flt_int v5 z0, Flt.fgt_int v5 i2]
    by_cases c3 : e < 0
    · rw [cond_t (decide_eq_true c3), need_pos (neg_ok hs)]
      have := half_neg (a := (a : Int)) (b := b) (c := (r : Int)) (d := e) (by omega) hb (by omega) c3
      rw [← s_neg this]
    rw [cond_f (decide_eq_false c3)]
    by_cases c4 : b < e
    · rw [cond_t (decide_eq_true c4)]
      have := half_gt (a := (a : Int)) (b := b) (c := (r : Int)) (d := e) (by omega) hb (by omega) c4
      rw [← s_pos this]
    rw [cond_f (decide_eq_false c4)]
    obtain ⟨z6, e6, v6⟩ := Flt.add_int v3 v3 (by omega)
    obtain ⟨z7, e7, v7⟩ := Flt.add_int v5 v5 (by omega)
    rw [e6, Option.bind_some, e7, Option.bind_some, Option.bind_some, Flt.fgt_int i1 v6, Flt.flt_int i2 v7, Flt.fgt_int i2 v7]
    by_cases c5 : (r : Int) + (r : Int) < (a : Int)
    · rw [cond_t (decide_eq_true c5)]
      by_cases c6 : b < e + e
      · rw [cond_t (decide_eq_true c6)]
        have := half_up (a := (a : Int)) (b := b) (c := (r : Int)) (d := e) (by omega) hb c5 c6
        rw [← s_pos this]
      · rw [cond_f (decide_eq_false c6)]
        exact k8 _ _ _ _ _ v3 v5 r2 (by omega) (by omega) hs
    · rw [cond_f (decide_eq_false c5)]
      by_cases c6 : e + e < b
      · rw [cond_t (decide_eq_true c6), need_pos (neg_ok hs)]
        have := half_down (a := (a : Int)) (b := b) (c := (r : Int)) (d := e) (by omega) hb (by omega) c6
        rw [← s_neg this]
      · rw [cond_f (decide_eq_false c6)]
        obtain ⟨z8, e8, v8⟩ := Flt.sub_int i1 v3 (by omega)
        obtain ⟨z9, e9, v9⟩ := Flt.sub_int i2 v5 (by omega)
        rw [e8, Option.bind_some, e9, Option.bind_some, need_pos (neg_ok hs)]
        have cr : (a : Int) - (r : Int) = ((a - r : Nat) : Int) := by omega
        rw [cr] at v8
        have hf := det_flip (a : Int) b (r : Int) e
        rw [cr] at hf
        have hs' : (-s = 1 ∨ -s = -1) := by omega
        have hgoal : s * sg1 (det (a : Int) b (r : Int) e) = (-s) * sg1 (det (a : Int) b ((a - r : Nat) : Int) (b - e)) := by
          rw [hf, sg1_min, Int.neg_mul_neg]
        rw [hgoal]
        exact k8 _ _ _ _ _ v8 v9 (by omega) (by omega) (by omega) hs'
end Go.Proofs.Ytohpmbodfpjjmaa.Wk

namespace Go.Proofs.Ytohpmbodfpjjmaa.Wk
open Go.Vm
set_option linter.unusedVariables false
set_option linter.unusedSimpArgs false
theorem det_neg1 (a b c d : Int) : det (-a) (-b) c d = -det a b c d := by unfold det; rw [Int.neg_mul, Int.neg_mul]; omega
theorem det_neg2 (a b c d : Int) : det a b (-c) (-d) = -det a b c d := by unfold det; rw [Int.mul_neg, Int.mul_neg]; omega
theorem det_negx (a b c d : Int) : det (-a) b (-c) d = -det a b c d := by unfold det; rw [Int.neg_mul, Int.mul_neg]; omega
theorem k5_p {F : Nat} (hF : 33554432 < F) {x1 y1 x2 y2 : Nat} {a b c d s s0 : Int} {q1 q2 : Nat} (i1 : Flt.I x1 a) (i2 : Flt.I y1 b) (i3 : Flt.I x2 c) (i4 : Flt.I y2 d) (ha : 0 < a) (hac : a ≤ c) (hc : c ≤ 33554432) (hb : 0 < b) (hbd : b ≤ d) (hd : d ≤ 33554432) (hs : s = 1 ∨ s = -1) :
    p_SignOfDet2x2_k5 F (q1, y1, q2, y2, s0) (x1, x2, s) = some (s * sg1 (det a b c d)) := by
  obtain ⟨a', rfl⟩ : ∃ n : Nat, a = (n : Int) := ⟨a.toNat, by omega⟩
  obtain ⟨c', rfl⟩ : ∃ n : Nat, c = (n : Int) := ⟨c.toNat, by omega⟩
  have h := loop_p F x1 y1 x2 y2 a' c' b d s 0 (by omega) i1 i2 i3 i4 (by omega) (by omega) (by omega) hb (by omega) (by omega) hd hs (by omega) (by omega)
  unfold p_SignOfDet2x2_k5
  dsimp only
  rw [h, Option.bind_some, aft_inr]
theorem k4_p {F : Nat} (hF : 33554432 < F) {x1 y1 x2 y2 : Nat} {a b c d s : Int} (i1 : Flt.I x1 a) (i2 : Flt.I y1 b) (i3 : Flt.I x2 c) (i4 : Flt.I y2 d) (ha : a ≠ 0) (hc : c ≠ 0) (hb : 0 < b) (hbd : b ≤ d) (hd : d ≤ 33554432) (ha2 : a.natAbs ≤ 33554432) (hc2 : c.natAbs ≤ 33554432) (hs : s = 1 ∨ s = -1) :
    p_SignOfDet2x2_k4 F (x1, y1, x2, y2, s) = some (s * sg1 (det a b c d)) := by
  unfold p_SignOfDet2x2_k4
  dsimp only
  rw [Flt.flt_int z0 i1, Flt.flt_int z0 i3, Flt.fgt_int i1 i3, Flt.fge_int i1 i3]
  by_cases c1 : 0 < a
  · rw [cond_t (decide_eq_true c1)]
    by_cases c2 : 0 < c
    · rw [cond_t (decide_eq_true c2)]
      by_cases c3 : c < a
      · rw [cond_t (decide_eq_true c3)]
        have h1 := mul_lt_l c3 (show 0 < d by omega)
        have h2 := mul_le_l hbd (show 0 ≤ c by omega)
        have : 0 < det a b c d := by
          unfold det
          rw [Int.mul_comm d c, Int.mul_comm d a] at h1
          rw [Int.mul_comm b c]; omega
        rw [← s_pos this]
      · rw [cond_f (decide_eq_false c3)]
        exact k5_p hF i1 i2 i3 i4 c1 (by omega) (by omega) hb hbd hd hs
    · rw [cond_f (decide_eq_false c2)]
      have h1 := Int.mul_pos c1 (show 0 < d by omega)
      have h2 := Int.mul_neg_of_pos_of_neg hb (show c < 0 by omega)
      have : 0 < det a b c d := by unfold det; omega
      rw [← s_pos this]
  · rw [cond_f (decide_eq_false c1)]
    by_cases c2 : 0 < c
    · rw [cond_t (decide_eq_true c2), need_pos (neg_ok hs)]
      have h1 := Int.mul_neg_of_neg_of_pos (show a < 0 by omega) (show 0 < d by omega)
      have h2 := Int.mul_pos hb c2
      have : det a b c d < 0 := by unfold det; omega
      rw [← s_neg this]
    · rw [cond_f (decide_eq_false c2)]
      by_cases c3 : c ≤ a
      · rw [cond_t (decide_eq_true c3), need_pos (neg_ok hs)]
        have h := k5_p (q1 := x1) (q2 := x2) (s0 := s) hF (Flt.fneg_int i1) i2 (Flt.fneg_int i3) i4 (show 0 < -a by omega) (by omega) (by omega) hb hbd hd (show -s = 1 ∨ -s = -1 by omega)
        rw [h, det_negx, sg1_min, Int.neg_mul_neg]
      · rw [cond_f (decide_eq_false c3), need_pos (neg_ok hs)]
        have h1 := mul_lt_l (show -c < -a by omega) (show 0 < d by omega)
        have h2 := mul_le_l hbd (show 0 ≤ -c by omega)
        have : det a b c d < 0 := by
          unfold det
          rw [Int.mul_neg, Int.mul_neg, Int.mul_comm d c, Int.mul_comm d a] at h1
          rw [Int.neg_mul, Int.neg_mul] at h2
          rw [Int.mul_comm b c]; omega
        rw [← s_neg this]
theorem one_of (n : Int) : (1 : Int) * n = n := Int.one_mul n
theorem sgdet_p {F : Nat} (hF : 33554432 < F) {x1 y1 x2 y2 : Nat} {a b c d : Int} (i1 : Flt.I x1 a) (i2 : Flt.I y1 b) (i3 : Flt.I x2 c) (i4 : Flt.I y2 d) (ha : a.natAbs ≤ 33554432) (hb : b.natAbs ≤ 33554432) (hc : c.natAbs ≤ 33554432) (hd : d.natAbs ≤ 33554432) :
    p_SignOfDet2x2 F x1 y1 x2 y2 = some (sg1 (det a b c d)) := by
  have k2 : (a = 0 ∨ d = 0) → ∀ g, (g = true ↔ (b = 0 ∨ c = 0)) → p_SignOfDet2x2_k2 y1 x2 g = some (sg1 (det a b c d)) := fun h0 g hg => by
    have hz : det a b c d = -(b * c) := by
      unfold det
      rcases h0 with h | h
      · rw [h, Int.zero_mul]; omega
      · rw [h, Int.mul_zero]; omega
    unfold p_SignOfDet2x2_k2
    rw [hz, sg1_min, sg1_mul]
    cases g with
    | true =>
      rw [cond_t rfl]
      rcases hg.1 rfl with h | h
      · rw [h]; simp [sg1]
      · rw [h]; simp [sg1]
    | false =>
      have hn : ¬ (b = 0 ∨ c = 0) := fun h => by have := hg.2 h; cases this
      rw [cond_f rfl, Flt.fgt_int i2 z0, Flt.fgt_int i3 z0]
      by_cases c1 : 0 < b
      · rw [cond_t (decide_eq_true c1), sg1_pos c1]
        by_cases c2 : 0 < c
        · rw [cond_t (decide_eq_true c2), sg1_pos c2]; rfl
        · rw [cond_f (decide_eq_false c2), sg1_neg (show c < 0 by omega)]; rfl
      · rw [cond_f (decide_eq_false c1), sg1_neg (show b < 0 by omega)]
        by_cases c2 : 0 < c
        · rw [cond_t (decide_eq_true c2), sg1_pos c2]; rfl
        · rw [cond_f (decide_eq_false c2), sg1_neg (show c < 0 by omega)]; rfl
  have k3 : ¬ (a = 0 ∨ d = 0) → ∀ g, (g = true ↔ (b = 0 ∨ c = 0)) → p_SignOfDet2x2_k3 x1 y1 x2 y2 F g = some (sg1 (det a b c d)) := fun h0 g hg => by
    unfold p_SignOfDet2x2_k3
    cases g with
    | true =>
      have hz : det a b c d = a * d := by
        unfold det
        rcases hg.1 rfl with h | h
        · rw [h, Int.zero_mul]; omega
        · rw [h, Int.mul_zero]; omega
      rw [hz, sg1_mul, cond_t rfl, Flt.fgt_int i4 z0, Flt.fgt_int i1 z0]
      by_cases c1 : 0 < d
      · rw [cond_t (decide_eq_true c1), sg1_pos c1]
        by_cases c2 : 0 < a
        · rw [cond_t (decide_eq_true c2), sg1_pos c2]; rfl
        · rw [cond_f (decide_eq_false c2), sg1_neg (show a < 0 by omega)]; rfl
      · rw [cond_f (decide_eq_false c1), sg1_neg (show d < 0 by omega)]
        by_cases c2 : 0 < a
        · rw [cond_t (decide_eq_true c2), sg1_pos c2]; rfl
        · rw [cond_f (decide_eq_false c2), sg1_neg (show a < 0 by omega)]; rfl
    | false =>
      have hn : ¬ (b = 0 ∨ c = 0) := fun h => by have := hg.2 h; cases this
      have n1 := Flt.fneg_int i1
      have n2 := Flt.fneg_int i2
      have n3 := Flt.fneg_int i3
      have n4 := Flt.fneg_int i4
      rw [cond_f rfl, Flt.flt_int z0 i2, Flt.flt_int z0 i4, Flt.fgt_int i2 i4, Flt.fle_int i2 n4, Flt.fle_int n2 i4, Flt.fge_int i2 i4]
      by_cases c1 : 0 < b
      · rw [cond_t (decide_eq_true c1)]
        by_cases c2 : 0 < d
        · rw [cond_t (decide_eq_true c2)]
          by_cases c3 : d < b
          · rw [cond_t (decide_eq_true c3), k4_p hF i3 i4 i1 i2 (by omega) (by omega) c2 (by omega) (by omega) hc ha (.inr rfl), det_swap, sg1_min]; simp
          · rw [cond_f (decide_eq_false c3), k4_p hF i1 i2 i3 i4 (by omega) (by omega) c1 (by omega) (by omega) ha hc (.inl rfl), one_of]
        · rw [cond_f (decide_eq_false c2)]
          by_cases c3 : b ≤ -d
          · rw [cond_t (decide_eq_true c3), k4_p hF i1 i2 n3 n4 (by omega) (by omega) c1 (by omega) (by omega) ha (by omega) (.inr rfl), det_neg2, sg1_min]; simp
          · rw [cond_f (decide_eq_false c3), k4_p hF n3 n4 i1 i2 (by omega) (by omega) (by omega) (by omega) (by omega) (by omega) ha (.inl rfl), one_of, det_neg1, det_swap]; simp
      · rw [cond_f (decide_eq_false c1)]
        by_cases c2 : 0 < d
        · rw [cond_t (decide_eq_true c2)]
          by_cases c3 : -b ≤ d
          · rw [cond_t (decide_eq_true c3), k4_p hF n1 n2 i3 i4 (by omega) (by omega) (by omega) (by omega) (by omega) (by omega) hc (.inr rfl), det_neg1, sg1_min]; simp
          · rw [cond_f (decide_eq_false c3), k4_p hF i3 i4 n1 n2 (by omega) (by omega) c2 (by omega) (by omega) hc (by omega) (.inl rfl), one_of, det_neg2, det_swap]; simp
        · rw [cond_f (decide_eq_false c2)]
          by_cases c3 : d ≤ b
          · rw [cond_t (decide_eq_true c3), k4_p hF n1 n2 n3 n4 (by omega) (by omega) (by omega) (by omega) (by omega) (by omega) (by omega) (.inl rfl), one_of, det_neg1, det_neg2]; simp
          · rw [cond_f (decide_eq_false c3), k4_p hF n3 n4 n1 n2 (by omega) (by omega) (by omega) (by omega) (by omega) (by omega) (by omega) (.inr rfl), det_neg1, det_neg2, det_swap, Int.neg_neg, sg1_min]; simp
  have hor : ∀ {P Q : Prop} [Decidable P] [Decidable Q], (decide Q = true ↔ (P ∨ Q)) ∨ P := fun {P Q} _ _ => by
    by_cases h : P
    · exact .inr h
    · exact .inl ⟨fun h2 => .inr (of_decide_eq_true h2), fun h2 => decide_eq_true (h2.resolve_left h)⟩
  have k1 : ∀ g, (g = true ↔ (a = 0 ∨ d = 0)) → p_SignOfDet2x2_k1 x1 y1 x2 y2 F g = some (sg1 (det a b c d)) := fun g hg => by
    unfold p_SignOfDet2x2_k1
    cases g with
    | true =>
      rw [cond_t rfl, Flt.feq_int i2 z0, Flt.feq_int i3 z0]
      by_cases c1 : b = 0
      · rw [cond_t (decide_eq_true c1)]; exact k2 (hg.1 rfl) true ⟨fun _ => .inl c1, fun _ => rfl⟩
      · rw [cond_f (decide_eq_false c1)]; exact k2 (hg.1 rfl) _ ⟨fun h => .inr (of_decide_eq_true h), fun h => decide_eq_true (h.resolve_left c1)⟩
    | false =>
      have hn : ¬ (a = 0 ∨ d = 0) := fun h => by have := hg.2 h; cases this
      rw [cond_f rfl, Flt.feq_int i2 z0, Flt.feq_int i3 z0]
      by_cases c1 : b = 0
      · rw [cond_t (decide_eq_true c1)]; exact k3 hn true ⟨fun _ => .inl c1, fun _ => rfl⟩
      · rw [cond_f (decide_eq_false c1)]; exact k3 hn _ ⟨fun h => .inr (of_decide_eq_true h), fun h => decide_eq_true (h.resolve_left c1)⟩
  unfold p_SignOfDet2x2
  rw [Flt.feq_int i1 z0, Flt.feq_int i4 z0]
  by_cases c1 : a = 0
  · rw [cond_t (decide_eq_true c1)]; exact k1 true ⟨fun _ => .inl c1, fun _ => rfl⟩
  · rw [cond_f (decide_eq_false c1)]; exact k1 _ ⟨fun h => .inr (of_decide_eq_true h), fun h => decide_eq_true (h.resolve_left c1)⟩
end Go.Proofs.Ytohpmbodfpjjmaa.Wk

namespace Go.Proofs.Ytohpmbodfpjjmaa.Wk
open Go.Vm
set_option linter.unusedVariables false
set_option linter.unusedSimpArgs false
theorem two_p {l : List Nat} {p : Nat} (h : p + 1 < l.length) : (l.drop ((p : Nat) : Int).toNat).take ((((p : Nat) : Int) + 2).toNat - ((p : Nat) : Int).toNat) = [l.getD p 0, l.getD (p + 1) 0] := by
  have e : (((p : Nat) : Int) + 2).toNat - ((p : Nat) : Int).toNat = 2 := by omega
  rw [e, Int.toNat_natCast]
  apply List.ext_getElem?
  intro j
  rw [List.getElem?_take, List.getElem?_drop]
  match j with
  | 0 => rw [if_pos (by omega), List.getElem?_eq_getElem (by omega)]; simp [List.getD_eq_getElem?_getD, List.getElem?_eq_getElem (show p < l.length by omega)]
  | 1 => rw [if_pos (by omega), List.getElem?_eq_getElem (by omega)]; simp [List.getD_eq_getElem?_getD, List.getElem?_eq_getElem h]
  | j + 2 => rw [if_neg (by omega)]; rfl
abbrev Kt := (Int × Bool × Int) → Option (Sum (Int × Bool) Int)
def outR (K : Kt) (pos cnt : Int) : Nat → Option (Sum (Int × Bool) Int)
  | 1 => some (.inr 1)
  | 2 => K (pos, false, cnt + 1)
  | _ => K (pos, false, cnt)
theorem seg_p {F : Nat} (hF : 33554432 < F) {l : List Nat} {s i : Nat} (hs : 2 ≤ s) (hs9 : s ≤ 9) (hi : 1 ≤ i) (hl : i * s + s ≤ l.length) (hlb : l.length ≤ 2147483647) {cnt : Nat} (hcnt : cnt ≤ 2147483647) (K : Kt)
    {xp yp : Nat} {px py bx b_y ax ay : Int} (ip : Flt.I xp px) (ip' : Flt.I yp py) (ib : Flt.I (l.getD (i * s) 0) bx) (ib' : Flt.I (l.getD (i * s + 1) 0) b_y) (ia : Flt.I (l.getD ((i - 1) * s) 0) ax) (ia' : Flt.I (l.getD ((i - 1) * s + 1) 0) ay)
    (bp : px.natAbs ≤ 16777216) (bp' : py.natAbs ≤ 16777216) (bb : bx.natAbs ≤ 16777216) (bb' : b_y.natAbs ≤ 16777216) (ba : ax.natAbs ≤ 16777216) (ba' : ay.natAbs ≤ 16777216) :
    p_LocatePointInRing_96_l2 [xp, yp] l F (s : Int) K (((i * s : Nat) : Int), false, (cnt : Int)) = outR K ((i * s + s : Nat) : Int) (cnt : Int) (segC (bx - px) (b_y - py) (ax - px) (ay - py)) := by
  obtain ⟨j, rfl⟩ : ∃ j, i = j + 1 := ⟨i - 1, by omega⟩
  rw [show j + 1 - 1 = j from rfl] at ia ia'
  have hjs : (j + 1) * s = j * s + s := Nat.succ_mul j s
  obtain ⟨p, hp⟩ : ∃ p, p = j * s := ⟨_, rfl⟩
  rw [← hp] at hjs ia ia'
  rw [hjs] at hl ib ib' ⊢
  have t1 := two_p (l := l) (p := p + s) (by omega)
  have t2 := two_p (l := l) (p := p) (by omega)
  have ps : (((p + s : Nat) : Int) - (s : Int)) = ((p : Nat) : Int) := by omega
  have pn : (((p + s : Nat) : Int) + (s : Int)) = ((p + s + s : Nat) : Int) := by omega
  obtain ⟨xb, hxb⟩ : ∃ x, x = l.getD (p + s) 0 := ⟨_, rfl⟩
  obtain ⟨yb, hyb⟩ : ∃ x, x = l.getD (p + s + 1) 0 := ⟨_, rfl⟩
  obtain ⟨xa, hxa⟩ : ∃ x, x = l.getD p 0 := ⟨_, rfl⟩
  obtain ⟨ya, hya⟩ : ∃ x, x = l.getD (p + 1) 0 := ⟨_, rfl⟩
  rw [← hxb] at t1 ib
  rw [← hyb] at t1 ib'
  rw [← hxa] at t2 ia
  rw [← hya] at t2 ia'
  have q : ∀ (x y : Nat), idx [x, y] (0 : Int) = some x ∧ idx [x, y] (1 : Int) = some y := fun x y => ⟨rfl, rfl⟩
  obtain ⟨g, hg⟩ : ∃ g : Int × Bool × Int, g = (((p + s : Nat) : Int), false, (cnt : Int)) := ⟨_, rfl⟩
  have g1 : g.1 = ((p + s : Nat) : Int) := by rw [hg]
  have g2 : g.2.1 = false := by rw [hg]
  have g3 : g.2.2 = (cnt : Int) := by rw [hg]
  have inp : inI .i64 ((p + s + s : Nat) : Int) := in64 (by omega) (by omega)
  have inc : inI .i64 ((cnt : Int) + 1) := in64 (by omega) (by omega)
  have k7t : p_LocatePointInRing_96_k7 (s : Int) g K true = some (.inr 1) := by unfold p_LocatePointInRing_96_k7; rw [cond_t rfl, cond_t rfl]
  have k7f : p_LocatePointInRing_96_k7 (s : Int) g K false = K (((p + s + s : Nat) : Int), false, (cnt : Int)) := by
    unfold p_LocatePointInRing_96_k7
    rw [cond_f rfl, g1, g3, pn, need_pos inp]
  have k9 : ∀ n : Int, p_LocatePointInRing_96_k9 (s : Int) g K n = if 0 < n then K (((p + s + s : Nat) : Int), false, (cnt : Int) + 1) else K (((p + s + s : Nat) : Int), false, (cnt : Int)) := fun n => by
    unfold p_LocatePointInRing_96_k9
    rw [g1, g2, g3, pn]
    by_cases h : 0 < n
    · rw [cond_t (decide_eq_true h), if_pos h, need_pos inc, cond_f rfl, need_pos inp]
    · rw [cond_f (decide_eq_false h), if_neg h, cond_f rfl, need_pos inp]
  obtain ⟨X1, hX1⟩ : ∃ n, n = bx - px := ⟨_, rfl⟩
  obtain ⟨Y1, hY1⟩ : ∃ n, n = b_y - py := ⟨_, rfl⟩
  obtain ⟨X2, hX2⟩ : ∃ n, n = ax - px := ⟨_, rfl⟩
  obtain ⟨Y2, hY2⟩ : ∃ n, n = ay - py := ⟨_, rfl⟩
  rw [← hX1, ← hY1, ← hX2, ← hY2]
  have k8t : p_LocatePointInRing_96_k8 [xp, yp] l F (s : Int) g K true = (if rT X1 Y1 X2 Y2 = 0 then some (.inr 1) else if 0 < (if Y2 < Y1 then rT X1 Y1 X2 Y2 else -rT X1 Y1 X2 Y2) then K (((p + s + s : Nat) : Int), false, (cnt : Int) + 1) else K (((p + s + s : Nat) : Int), false, (cnt : Int))) := by
    obtain ⟨z1, e1, v1⟩ := Flt.sub_int ib ip (by omega)
    obtain ⟨z2, e2, v2⟩ := Flt.sub_int ib' ip' (by omega)
    obtain ⟨z3, e3, v3⟩ := Flt.sub_int ia ip (by omega)
    obtain ⟨z4, e4, v4⟩ := Flt.sub_int ia' ip' (by omega)
    rw [← hX1] at v1
    rw [← hY1] at v2
    rw [← hX2] at v3
    rw [← hY2] at v4
    have hsg := sgdet_p hF v1 v2 v3 v4 (by omega) (by omega) (by omega) (by omega)
    have hd : det X1 Y1 X2 Y2 = -rT X1 Y1 X2 Y2 := by
      unfold det rT
      rw [Int.mul_comm X1 Y2, Int.mul_comm Y1 X2]; omega
    rw [hd, sg1_min] at hsg
    unfold p_LocatePointInRing_96_k8
    rw [cond_t rfl, g1, ps, t1, t2]
    simp only [(q _ _).1, (q _ _).2, Option.bind_some]
    rw [e1, Option.bind_some, e2, Option.bind_some, e3, Option.bind_some, e4, Option.bind_some, hsg, Option.bind_some, Flt.flt_int v4 v2]
    rcases Int.lt_trichotomy (rT X1 Y1 X2 Y2) 0 with h | h | h
    · rw [sg1_neg h, if_neg (by omega), cond_f (decide_eq_false (by omega))]
      by_cases hy : Y2 < Y1
      · rw [if_pos hy, cond_t (decide_eq_true hy), need_pos (in64m (by omega) (by omega)), k9, if_neg (by omega), if_neg (by omega)]
      · rw [if_neg hy, cond_f (decide_eq_false hy), k9, if_pos (by omega), if_pos (by omega)]
    · rw [h, if_pos rfl, sg1_zero, cond_t (by rfl)]
    · rw [sg1_pos h, if_neg (by omega), cond_f (decide_eq_false (by omega))]
      by_cases hy : Y2 < Y1
      · rw [if_pos hy, cond_t (decide_eq_true hy), need_pos (in64m (by omega) (by omega)), k9, if_pos (by omega), if_pos (by omega)]
      · rw [if_neg hy, cond_f (decide_eq_false hy), k9, if_neg (by omega), if_neg (by omega)]
  have k8f : p_LocatePointInRing_96_k8 [xp, yp] l F (s : Int) g K false = K (((p + s + s : Nat) : Int), false, (cnt : Int)) := by
    unfold p_LocatePointInRing_96_k8
    rw [cond_f rfl, g1, g2, g3, cond_f rfl, pn, need_pos inp]
  have k6 : ∀ (u v : Nat) (m n : Int), Flt.I u m → Flt.I v n → p_LocatePointInRing_96_k6 [xp, yp] (s : Int) g K (u, v) = if m ≤ px ∧ px ≤ n then some (.inr 1) else K (((p + s + s : Nat) : Int), false, (cnt : Int)) := fun u v m n hu hv => by
    unfold p_LocatePointInRing_96_k6
    simp only [(q _ _).1, (q _ _).2, Option.bind_some]
    rw [g2, Flt.fge_int ip hu, Flt.fle_int ip hv, k7t, k7f]
    by_cases h1 : m ≤ px
    · rw [cond_t (decide_eq_true h1)]
      by_cases h2 : px ≤ n
      · rw [cond_t (decide_eq_true h2), if_pos ⟨h1, h2⟩]
      · rw [cond_f (decide_eq_false h2), if_neg (fun h => h2 h.2)]
    · rw [cond_f (decide_eq_false h1), if_neg (fun h => h1 h.1)]
  have k5t : p_LocatePointInRing_96_k5 [xp, yp] l F (s : Int) g K true = (if (X1 ≤ 0 ∧ 0 ≤ X2) ∨ (X2 ≤ 0 ∧ 0 ≤ X1) then some (.inr 1) else K (((p + s + s : Nat) : Int), false, (cnt : Int))) := by
    unfold p_LocatePointInRing_96_k5
    rw [cond_t rfl, g1, ps, t1, t2]
    simp only [(q _ _).1, (q _ _).2, Option.bind_some]
    rw [Flt.fgt_int ib ia]
    by_cases h : ax < bx
    · rw [cond_t (decide_eq_true h), k6 _ _ _ _ ia ib]
      by_cases h2 : ax ≤ px ∧ px ≤ bx
      · rw [if_pos h2, if_pos (by omega)]
      · rw [if_neg h2, if_neg (by omega)]
    · rw [cond_f (decide_eq_false h), k6 _ _ _ _ ib ia]
      by_cases h2 : bx ≤ px ∧ px ≤ ax
      · rw [if_pos h2, if_pos (by omega)]
      · rw [if_neg h2, if_neg (by omega)]
  have k5f : p_LocatePointInRing_96_k5 [xp, yp] l F (s : Int) g K false = if (0 < Y1 ∧ Y2 ≤ 0) ∨ (0 < Y2 ∧ Y1 ≤ 0) then p_LocatePointInRing_96_k8 [xp, yp] l F (s : Int) g K true else K (((p + s + s : Nat) : Int), false, (cnt : Int)) := by
    unfold p_LocatePointInRing_96_k5
    rw [cond_f rfl, g1, ps, t1, t2]
    simp only [(q _ _).1, (q _ _).2, Option.bind_some]
    rw [Flt.fgt_int ib' ip', Flt.fle_int ia' ip', Flt.fgt_int ia' ip', Flt.fle_int ib' ip']
    by_cases h1 : py < b_y
    · rw [cond_t (decide_eq_true h1)]
      by_cases h2 : ay ≤ py
      · rw [cond_t (decide_eq_true h2), if_pos (by omega)]
      · rw [cond_f (decide_eq_false h2), cond_t (decide_eq_true (show py < ay by omega)), decide_eq_false (show ¬ b_y ≤ py by omega), k8f, if_neg (by omega)]
    · rw [cond_f (decide_eq_false h1)]
      by_cases h2 : py < ay
      · rw [cond_t (decide_eq_true h2), decide_eq_true (show b_y ≤ py by omega), if_pos (by omega)]
      · rw [cond_f (decide_eq_false h2), k8f, if_neg (by omega)]
  have k4t : p_LocatePointInRing_96_k4 [xp, yp] l F (s : Int) g K true = some (.inr 1) := by unfold p_LocatePointInRing_96_k4; rw [cond_t rfl]
  have k4f : p_LocatePointInRing_96_k4 [xp, yp] l F (s : Int) g K false = p_LocatePointInRing_96_k5 [xp, yp] l F (s : Int) g K (decide (Y1 = 0 ∧ Y2 = 0)) := by
    unfold p_LocatePointInRing_96_k4
    rw [cond_f rfl, g1, ps, t1, t2]
    simp only [(q _ _).1, (q _ _).2, Option.bind_some]
    rw [Flt.feq_int ib' ip', Flt.feq_int ia' ip']
    by_cases h1 : b_y = py
    · rw [cond_t (decide_eq_true h1)]
      by_cases h2 : ay = py
      · rw [decide_eq_true h2, decide_eq_true (show Y1 = 0 ∧ Y2 = 0 by omega)]
      · rw [decide_eq_false h2, decide_eq_false (show ¬ (Y1 = 0 ∧ Y2 = 0) by omega)]
    · rw [cond_f (decide_eq_false h1), decide_eq_false (show ¬ (Y1 = 0 ∧ Y2 = 0) by omega)]
  have k3t : p_LocatePointInRing_96_k3 [xp, yp] l F (s : Int) g K true = K (((p + s + s : Nat) : Int), false, (cnt : Int)) := by
    unfold p_LocatePointInRing_96_k3
    rw [cond_t rfl, g1, g2, g3, cond_f rfl, pn, need_pos inp]
  have k3f : p_LocatePointInRing_96_k3 [xp, yp] l F (s : Int) g K false = p_LocatePointInRing_96_k4 [xp, yp] l F (s : Int) g K (decide (X2 = 0 ∧ Y2 = 0)) := by
    unfold p_LocatePointInRing_96_k3
    rw [cond_f rfl, g1, ps, t2]
    simp only [(q _ _).1, (q _ _).2, Option.bind_some]
    rw [Flt.feq_int ip ia, Flt.feq_int ip' ia']
    by_cases h1 : px = ax
    · rw [cond_t (decide_eq_true h1)]
      by_cases h2 : py = ay
      · rw [decide_eq_true h2, decide_eq_true (show X2 = 0 ∧ Y2 = 0 by omega)]
      · rw [decide_eq_false h2, decide_eq_false (show ¬ (X2 = 0 ∧ Y2 = 0) by omega)]
    · rw [cond_f (decide_eq_false h1), decide_eq_false (show ¬ (X2 = 0 ∧ Y2 = 0) by omega)]
  unfold p_LocatePointInRing_96_l2
  rw [← hg, g1, ps, cond_t (decide_eq_true (by omega)), need_pos (in64 (by omega) (by omega)), need_pos ⟨⟨by omega, by omega⟩, by omega, by omega⟩, need_pos (in64 (by omega) (by omega)), need_pos (in64 (by omega) (by omega)), need_pos (in64 (by omega) (by omega)), need_pos ⟨⟨by omega, by omega⟩, by omega, by omega⟩, t1, t2]
  simp only [(q _ _).1, (q _ _).2, Option.bind_some]
  rw [Flt.flt_int ib ip, Flt.flt_int ia ip]
  have k3 : ∀ b : Bool, b = decide (X1 < 0 ∧ X2 < 0) → p_LocatePointInRing_96_k3 [xp, yp] l F (s : Int) g K b = outR K ((p + s + s : Nat) : Int) (cnt : Int) (segC X1 Y1 X2 Y2) := fun b hb => by
    rw [hb]
    unfold segC
    by_cases c0 : X1 < 0 ∧ X2 < 0
    · rw [decide_eq_true c0, if_pos c0, k3t]; rfl
    rw [decide_eq_false c0, if_neg c0, k3f]
    by_cases c1 : X2 = 0 ∧ Y2 = 0
    · rw [decide_eq_true c1, if_pos c1, k4t]; rfl
    rw [decide_eq_false c1, if_neg c1, k4f]
    by_cases c2 : Y1 = 0 ∧ Y2 = 0
    · rw [decide_eq_true c2, if_pos c2, k5t]
      by_cases c3 : (X1 ≤ 0 ∧ 0 ≤ X2) ∨ (X2 ≤ 0 ∧ 0 ≤ X1)
      · rw [if_pos c3, if_pos c3]; rfl
      · rw [if_neg c3, if_neg c3]; rfl
    rw [decide_eq_false c2, if_neg c2, k5f]
    by_cases c3 : (0 < Y1 ∧ Y2 ≤ 0) ∨ (0 < Y2 ∧ Y1 ≤ 0)
    · rw [if_pos c3, if_pos c3, k8t]
      by_cases c4 : rT X1 Y1 X2 Y2 = 0
      · rw [if_pos c4, if_pos c4]; rfl
      · rw [if_neg c4, if_neg c4]
        generalize (if Y2 < Y1 then rT X1 Y1 X2 Y2 else -rT X1 Y1 X2 Y2) = w
        by_cases c5 : 0 < w
        · rw [if_pos c5, if_pos c5]; rfl
        · rw [if_neg c5, if_neg c5]; rfl
    · rw [if_neg c3, if_neg c3]; rfl
  by_cases h1 : bx < px
  · rw [cond_t (decide_eq_true h1)]
    refine k3 _ ?_
    by_cases h2 : ax < px
    · rw [decide_eq_true h2, decide_eq_true (show X1 < 0 ∧ X2 < 0 by omega)]
    · rw [decide_eq_false h2, decide_eq_false (show ¬ (X1 < 0 ∧ X2 < 0) by omega)]
  · rw [cond_f (decide_eq_false h1)]
    exact k3 _ (by rw [decide_eq_false (show ¬ (X1 < 0 ∧ X2 < 0) by omega)])
end Go.Proofs.Ytohpmbodfpjjmaa.Wk

namespace Go.Proofs.Ytohpmbodfpjjmaa.Wk
open Go.Vm
set_option linter.unusedVariables false
set_option linter.unusedSimpArgs false
def codeRun (seg : Nat → Nat) : Nat → Nat → Nat → Option Nat
  | 0, _, c => some c
  | n + 1, i, c => if seg i = 1 then none else codeRun seg n (i + 1) (if seg i = 2 then c + 1 else c)
def specRun (on : Nat → Bool) (tg : Nat → Bool) : Nat → Nat → Bool → Option Bool
  | 0, _, o => some o
  | n + 1, i, o => if on i = true then none else specRun on tg n (i + 1) (o ^^ tg i)
theorem code_none {seg : Nat → Nat} : ∀ n i c j, i ≤ j → j < i + n → seg j = 1 → codeRun seg n i c = none
  | 0, i, c, j, h1, h2, _ => by omega
  | n + 1, i, c, j, h1, h2, h => by
    unfold codeRun
    by_cases hi : seg i = 1
    · rw [if_pos hi]
    · rw [if_neg hi]
      have : j ≠ i := fun e => hi (e ▸ h)
      exact code_none n (i + 1) _ j (by omega) (by omega) h
theorem spec_none {on : Nat → Bool} {tg : Nat → Bool} : ∀ n i o j, i ≤ j → j < i + n → on j = true → specRun on tg n i o = none
  | 0, i, c, j, h1, h2, _ => by omega
  | n + 1, i, c, j, h1, h2, h => by
    unfold specRun
    by_cases hi : on i = true
    · rw [if_pos hi]
    · rw [if_neg hi]
      have : j ≠ i := fun e => hi (e ▸ h)
      exact spec_none n (i + 1) _ j (by omega) (by omega) h
theorem both_some {seg : Nat → Nat} {on : Nat → Bool} {tg : Nat → Bool} (ht : ∀ j, on j = false → seg j = if tg j = true then 2 else 0) : ∀ n i c (o : Bool), (∀ j, i ≤ j → j < i + n → on j = false) → (c % 2 = 1 ↔ o = true) →
    ∃ c' o', codeRun seg n i c = some c' ∧ specRun on tg n i o = some o' ∧ (c' % 2 = 1 ↔ o' = true)
  | 0, i, c, o, _, h => ⟨c, o, rfl, rfl, h⟩
  | n + 1, i, c, o, hn, h => by
    have h0 := hn i (by omega) (by omega)
    have hs := ht i h0
    unfold codeRun specRun
    rw [if_neg (show ¬ on i = true by rw [h0]; simp)]
    cases hg : tg i with
    | true =>
      rw [hg, if_pos rfl] at hs
      rw [hs, if_neg (by omega), if_pos rfl]
      refine both_some ht n (i + 1) (c + 1) (o ^^ true) (fun j h1 h2 => hn j (by omega) (by omega)) ?_
      cases o <;> simp at h ⊢ <;> omega
    | false =>
      rw [hg, if_neg (by simp)] at hs
      rw [hs, if_neg (by omega), if_neg (by omega)]
      refine both_some ht n (i + 1) c (o ^^ false) (fun j h1 h2 => hn j (by omega) (by omega)) ?_
      rw [Bool.xor_false]; exact h
def dX (X : Nat → Int × Int) (px : Int) (i : Nat) : Int := (X i).1 - px
def dY (X : Nat → Int × Int) (py : Int) (i : Nat) : Int := (X i).2 - py
def sgC (X : Nat → Int × Int) (px py : Int) (i : Nat) : Nat := segC (dX X px i) (dY X py i) (dX X px (i - 1)) (dY X py (i - 1))
def onC (X : Nat → Int × Int) (px py : Int) (i : Nat) : Bool := decide (segOn (dX X px i) (dY X py i) (dX X px (i - 1)) (dY X py (i - 1)))
def tgC (X : Nat → Int × Int) (px py : Int) (i : Nat) : Bool := segT (dX X px i) (dY X py i) (dX X px (i - 1)) (dY X py (i - 1))
theorem ring_loop {F : Nat} (hF : 33554432 < F) {l : List Nat} {s m : Nat} {X : Nat → Int × Int} (hs : 2 ≤ s) (hs9 : s ≤ 9) (hl : l.length = m * s) (hlb : l.length ≤ 2147483647) (hX : Whole2 s m l X) {xp yp : Nat} {px py : Int} (ip : Flt.I xp px) (ip' : Flt.I yp py)
    (bp : px.natAbs ≤ 16777216) (bp' : py.natAbs ≤ 16777216) : ∀ G i c, m - i < G → 1 ≤ i → i ≤ m → c ≤ i →
    iter (p_LocatePointInRing_96_l2 [xp, yp] l F (s : Int)) G (((i * s : Nat) : Int), false, (c : Int)) = some (match codeRun (sgC X px py) (m - i) i c with | none => .inr 1 | some c' => .inl ((c' : Int), false)) := by
  intro G
  induction G with
  | zero => intro i c h; omega
  | succ G ih =>
    intro i c h h1 him hc
    show p_LocatePointInRing_96_l2 [xp, yp] l F (s : Int) (iter (p_LocatePointInRing_96_l2 [xp, yp] l F (s : Int)) G) _ = _
    obtain ⟨K, hK⟩ : ∃ K, K = iter (p_LocatePointInRing_96_l2 [xp, yp] l F (s : Int)) G := ⟨_, rfl⟩
    rw [← hK] at ih ⊢
    have him2 : m ≤ m * s := Nat.le_mul_of_pos_right m (by omega)
    by_cases hi : i < m
    · have hle := mul_lt' hi hs
      obtain ⟨⟨ib, ib'⟩, bb, bb'⟩ := hX i hi
      obtain ⟨⟨ia, ia'⟩, ba, ba'⟩ := hX (i - 1) (by omega)
      have hst := seg_p hF hs hs9 h1 (by omega) hlb (cnt := c) (by omega) K ip ip' ib ib' ia ia' bp bp' (by omega) (by omega) (by omega) (by omega)
      rw [hst]
      have hn : (i * s + s : Nat) = (i + 1) * s := (Nat.succ_mul i s).symm
      rw [hn]
      have hseg : segC ((X i).1 - px) ((X i).2 - py) ((X (i - 1)).1 - px) ((X (i - 1)).2 - py) = sgC X px py i := rfl
      rw [hseg]
      have em : m - i = (m - (i + 1)) + 1 := by omega
      rw [em]
      unfold codeRun
      by_cases c1 : sgC X px py i = 1
      · rw [if_pos c1, c1]; rfl
      · rw [if_neg c1]
        by_cases c2 : sgC X px py i = 2
        · rw [if_pos c2, c2]
          show K (_, false, (c : Int) + 1) = _
          rw [succ_cast]
          exact ih (i + 1) (c + 1) (by omega) (by omega) (by omega) (by omega)
        · rw [if_neg c2]
          have : outR K ((((i + 1) * s : Nat) : Int)) (c : Int) (sgC X px py i) = K ((((i + 1) * s : Nat) : Int), false, (c : Int)) := by
            unfold outR
            split
            · rename_i h; exact absurd h c1
            · rename_i h; exact absurd h c2
            · rfl
          rw [this]
          exact ih (i + 1) c (by omega) (by omega) (by omega) (by omega)
    · obtain rfl : i = m := by omega
      unfold p_LocatePointInRing_96_l2
      dsimp only
      rw [cond_f (decide_eq_false (by omega)), Nat.sub_self]
      rfl
theorem sgR_pos (n : Int) : decide ((0 : Int) < sgR (n : Rat)) = decide (0 < n) := by
  rw [sgR_int]
  by_cases h : n = 0
  · rw [if_pos h, h]
  · rw [if_neg h]
    by_cases h2 : n < 0
    · rw [if_pos h2, decide_eq_false (by omega), decide_eq_false (by omega)]
    · rw [if_neg h2, decide_eq_true (by omega), decide_eq_true (by omega)]
theorem loc_loop {F : Nat} (hF : BigF F) {pts : List TSpec_Point} {P : TSpec_Point} {m : Nat} {X : Nat → Int × Int} {px py : Int} (hm : pts.length = m) (hm2 : m ≤ 1000) (hp : ∀ i, i < m → ∃ d, pts[i]? = some d ∧ DydAt d (X i).1 (X i).2) (hP : DydAt P px py) :
    ∀ G i (o : Bool), m - i < G → 1 ≤ i → i ≤ m → iter (p_Locate_l2 pts P F) G (o, (i : Int)) = some (match specRun (onC X px py) (tgC X px py) (m - i) i o with | none => .inr 1 | some o' => .inl o') := by
  intro G
  induction G with
  | zero => intro i o h; omega
  | succ G ih =>
    intro i o h h1 him
    show p_Locate_l2 pts P F (iter (p_Locate_l2 pts P F) G) _ = _
    obtain ⟨K, hK⟩ : ∃ K, K = iter (p_Locate_l2 pts P F) G := ⟨_, rfl⟩
    rw [← hK] at ih ⊢
    unfold p_Locate_l2
    dsimp only
    rw [hm]
    by_cases hi : i < m
    · obtain ⟨b, hb, db⟩ := hp i hi
      obtain ⟨a, ha, da⟩ := hp (i - 1) (by omega)
      have ei : (i : Int) - 1 = ((i - 1 : Nat) : Int) := by omega
      have hon := on_p hF da hP db
      have e1 : decide (turn (X (i - 1)).1 (X (i - 1)).2 px py (X i).1 (X i).2 = 0 ∧ btwI (X (i - 1)).1 (X i).1 px ∧ btwI (X (i - 1)).2 (X i).2 py) = onC X px py i := by
        unfold onC
        have ht : turn (X (i - 1)).1 (X (i - 1)).2 px py (X i).1 (X i).2 = -rT (dX X px i) (dY X py i) (dX X px (i - 1)) (dY X py (i - 1)) := by
          rw [turn_swap]; rfl
        rw [ht]
        congr 1
        apply propext
        unfold segOn btwI dX dY
        omega
      rw [e1] at hon
      have hT : turn (X (i - 1)).1 (X (i - 1)).2 (X i).1 (X i).2 px py = rT (dX X px i) (dY X py i) (dX X px (i - 1)) (dY X py (i - 1)) := rfl
      have c1 := dyd_cmp da.2 hP.2 (by omega) (by omega) hF
      have c2 := dyd_cmp db.2 hP.2 (by omega) (by omega) hF
      have c3 := orient_p hF da db hP
      rw [cross_int, hT] at c3
      rw [← Rat.intCast_sub] at c1 c2
      have em : m - i = (m - (i + 1)) + 1 := by omega
      rw [cond_t (decide_eq_true (by omega)), ei, need_pos (in64 (by omega) (by omega)), idx_get ha, Option.bind_some, idx_get hb, Option.bind_some, hon, Option.bind_some, em]
      unfold specRun
      cases hoc : onC X px py i with
      | true => rw [cond_t rfl, if_pos rfl]
      | false =>
        rw [cond_f rfl, if_neg (by simp), c1, Option.bind_some, c2, Option.bind_some, sgR_pos, sgR_pos, succ_cast]
        have hin : inI .i64 ((i + 1 : Nat) : Int) := in64 (by omega) (by omega)
        have htg : tgC X px py i = ((decide (0 < dY X py (i - 1)) != decide (0 < dY X py i)) && (decide (0 < rT (dX X px i) (dY X py i) (dX X px (i - 1)) (dY X py (i - 1))) == decide (0 < dY X py i))) := rfl
        have d1 : decide (0 < (X (i - 1)).2 - py) = decide (0 < dY X py (i - 1)) := rfl
        have d2 : decide (0 < (X i).2 - py) = decide (0 < dY X py i) := rfl
        rw [d1, d2, need_pos hin]
        by_cases q1 : (decide (0 < dY X py (i - 1)) == decide (0 < dY X py i)) = true
        · rw [cond_t q1]
          have : tgC X px py i = false := by
            rw [htg, bne, q1]; rfl
          rw [this, Bool.xor_false]
          exact ih (i + 1) o (by omega) (by omega) (by omega)
        · have q1' : (decide (0 < dY X py (i - 1)) == decide (0 < dY X py i)) = false := by simpa using q1
          rw [cond_f q1', c3, Option.bind_some, sgR_pos, need_pos hin]
          by_cases q2 : (decide (0 < rT (dX X px i) (dY X py i) (dX X px (i - 1)) (dY X py (i - 1))) == decide (0 < dY X py i)) = true
          · rw [cond_t q2]
            have : tgC X px py i = true := by rw [htg, bne, q1', q2]; rfl
            rw [this, Bool.xor_true]
            exact ih (i + 1) (!o) (by omega) (by omega) (by omega)
          · have q2' : (decide (0 < rT (dX X px i) (dY X py i) (dX X px (i - 1)) (dY X py (i - 1))) == decide (0 < dY X py i)) = false := by simpa using q2
            rw [cond_f q2']
            have : tgC X px py i = false := by rw [htg, q2', Bool.and_false]
            rw [this, Bool.xor_false]
            exact ih (i + 1) o (by omega) (by omega) (by omega)
    · obtain rfl : i = m := by omega
      rw [cond_f (decide_eq_false (by omega)), Nat.sub_self]
      rfl
theorem exacts_p {F : Nat} (hF : BigF F) {L : List TImpl_P2} {X : Nat → Int × Int} (hL : L.length ≤ 1000) (h : ∀ i x, L[i]? = some x → At x (X i).1 (X i).2 ∧ x.X < 18446744073709551616 ∧ x.Y < 18446744073709551616) :
    ∃ pts, p_exacts F L = some pts ∧ pts.length = L.length ∧ ∀ i, i < L.length → ∃ d, pts[i]? = some d ∧ DydAt d (X i).1 (X i).2 := by
  have hF' : 1073741826 ≤ F := hF
  have key : ∀ G i (acc : List TSpec_Point), L.length - i < G → i ≤ L.length → acc.length = i → (∀ j, j < i → ∃ d, acc[j]? = some d ∧ DydAt d (X j).1 (X j).2) →
      ∃ pts, iter (p_exacts_l2 L F) G ((i : Int), acc) = some (.inl pts) ∧ pts.length = L.length ∧ ∀ j, j < L.length → ∃ d, pts[j]? = some d ∧ DydAt d (X j).1 (X j).2 := by
    intro G
    induction G with
    | zero => intro i acc h; omega
    | succ G ih =>
      intro i acc hG hi ha hacc
      show ∃ pts, p_exacts_l2 L F (iter (p_exacts_l2 L F) G) _ = _ ∧ _
      obtain ⟨K, hK⟩ : ∃ K, K = iter (p_exacts_l2 L F) G := ⟨_, rfl⟩
      rw [← hK] at ih ⊢
      unfold p_exacts_l2
      dsimp only
      by_cases hil : i < L.length
      · obtain ⟨hat, w1, w2⟩ := h i _ (List.getElem?_eq_getElem hil)
        obtain ⟨d, hd, hd2⟩ := exactly_p hF hat w1 w2
        rw [cond_t (decide_eq_true (by omega)), idx_get (List.getElem?_eq_getElem hil), Option.bind_some, hd, Option.bind_some, need_pos (by rw [ha]; simp; omega), succ_cast, need_pos (in64 (by omega) (by omega))]
        refine ih (i + 1) (acc ++ [d]) (by omega) (by omega) (by simp [ha]) (fun j hj => ?_)
        by_cases hji : j < i
        · obtain ⟨d', h1, h2⟩ := hacc j hji
          exact ⟨d', by rw [List.getElem?_append_left (by omega)]; exact h1, h2⟩
        · obtain rfl : j = i := by omega
          exact ⟨d, by rw [List.getElem?_append_right (by omega), ha]; simp, hd2⟩
      · obtain rfl : i = L.length := by omega
        rw [cond_f (decide_eq_false (by omega))]
        exact ⟨acc, rfl, ha, hacc⟩
  obtain ⟨pts, h1, h2, h3⟩ := key F 0 [] (by omega) (by omega) rfl (fun j hj => by omega)
  refine ⟨pts, ?_, h2, h3⟩
  unfold p_exacts
  rw [show ((0 : Nat) : Int) = 0 from rfl] at h1
  rw [h1, Option.bind_some, aft_inl]
  rfl
end Go.Proofs.Ytohpmbodfpjjmaa.Wk

namespace Go.Proofs.Ytohpmbodfpjjmaa.Wk
open Go.Vm
set_option linter.unusedVariables false
set_option linter.unusedSimpArgs false
theorem law_ring {F : Nat} (hF : BigF F) (k : Int) (p : TImpl_P2) (l : List Nat) (hw : ∀ x, x ∈ l → x < 18446744073709551616) (w1 : p.X < 18446744073709551616) (w2 : p.Y < 18446744073709551616) : p_FnInRing F k p l = some true := by
  have hF' : 1073741826 ≤ F := hF
  unfold p_FnInRing
  have kt : ∀ y, p_FnInRing_k1 k p l F y true = some true := fun y => by unfold p_FnInRing_k1; rw [cond_t rfl]
  by_cases hb : (2147483647 : Int) < ((l.length : Nat) : Int)
  · rw [cond_t (decide_eq_true hb)]
  rw [cond_f (decide_eq_false hb)]
  have bad : ∀ G : (List TImpl_P2 × Bool) → Option Bool, (∀ y, y.2 = false → G y = some true) → p_flatTo F k l 4715268809856909312 200 = some ([], false) → (p_flatTo F k l 4715268809856909312 200).bind G = some true := fun G hG h => by
    rw [h, Option.bind_some]; exact hG _ rfl
  by_cases h1 : k < 1
  · refine bad _ (fun y hy => by rw [hy, cond_t (rfl : (!false) = true), kt]) ?_
    unfold p_flatTo
    rw [cond_t (decide_eq_true h1)]; rfl
  by_cases h2 : 8 < k
  · refine bad _ (fun y hy => by rw [hy, cond_t (rfl : (!false) = true), kt]) ?_
    unfold p_flatTo
    rw [cond_f (decide_eq_false h1), decide_eq_true h2]; rfl
  rcases flat_p hF (l := l) (k := k) (by omega) (by omega) (by omega) with h | ⟨m, hl, hm200, hfl⟩
  · exact bad _ (fun y hy => by rw [hy, cond_t (rfl : (!false) = true), kt]) h
  rw [hfl, Option.bind_some]
  dsimp only
  cases hall : ((List.range m).map (plc (strideN k) l)).all (planeOk 4715268809856909312) with
  | false => rw [cond_t (rfl : (!false) = true), kt]
  | true =>
    rw [cond_f (rfl : (!true) = false)]
    obtain ⟨s1, s2, hs, hs8⟩ := stride_p (k := k) (by omega) (by omega)
    generalize strideN k = s at *
    obtain ⟨L, hL⟩ : ∃ L, L = (List.range m).map (plc s l) := ⟨_, rfl⟩
    rw [← hL] at hall hfl ⊢
    have hLl : L.length = m := by rw [hL]; simp
    have hLi : ∀ i, i < m → L[i]? = some (plc s l i) := fun i hi => by rw [hL]; simp [hi]
    have hX : ∃ X : Nat → Int × Int, Whole2 s m l X := by
      have : ∀ i, ∃ p : Int × Int, i < m → At (plc s l i) p.1 p.2 ∧ (-16777216 ≤ p.1 ∧ p.1 ≤ 16777216) ∧ (-16777216 ≤ p.2 ∧ p.2 ≤ 16777216) := fun i => by
        by_cases hi : i < m
        · have := List.all_eq_true.1 hall (plc s l i) (List.mem_of_getElem? (hLi i hi))
          obtain ⟨x, y, ha, hx, hy⟩ := at_of K24_int (by omega) (by omega) this
          exact ⟨(x, y), fun _ => ⟨ha, hx, hy⟩⟩
        · exact ⟨(0, 0), fun h => absurd h hi⟩
      exact ⟨fun i => Classical.choose (this i), fun i hi => Classical.choose_spec (this i) hi⟩
    obtain ⟨X, hX⟩ := hX
    by_cases hm2 : m < 2
    · have : p_shut L = some false := by unfold p_shut; rw [hLl, cond_f (decide_eq_false (by omega))]
      rw [this, Option.bind_some, cond_t (rfl : (!false) = true), kt]
    obtain ⟨⟨x0, y0⟩, -, -⟩ := hX 0 (by omega)
    obtain ⟨⟨xm, ym⟩, -, -⟩ := hX (m - 1) (by omega)
    have hshut : p_shut L = some (decide ((X 0).1 = (X (m - 1)).1) && (decide ((X 0).2 = (X (m - 1)).2) && true)) := by
      unfold p_shut
      rw [hLl, cond_t (decide_eq_true (by omega)), show (0 : Int) = ((0 : Nat) : Int) from rfl, idx_get (hLi 0 (by omega)), Option.bind_some, show ((m : Int) - 1) = ((m - 1 : Nat) : Int) by omega, need_pos (in64 (by omega) (by omega)), idx_get (hLi (m - 1) (by omega)), Option.bind_some, Flt.feq_int x0 xm, Flt.feq_int y0 ym]
    rw [hshut, Option.bind_some]
    by_cases hcl : (X 0).1 = (X (m - 1)).1 ∧ (X 0).2 = (X (m - 1)).2
    · rw [decide_eq_true hcl.1, decide_eq_true hcl.2, cond_f (rfl : (!(true && (true && true))) = false), planeTo_p hF _ _ (by simp), Option.bind_some]
      cases hpo : ([p] : List TImpl_P2).all (planeOk 4715268809856909312) with
      | false => exact kt _
      | true =>
        obtain ⟨px, py, hat, bpx, bpy⟩ := at_of K24_int (by omega) (by omega) (p := p) (by simpa using hpo)
        unfold p_FnInRing_k1
        rw [cond_f (rfl : (!true) = false)]
        dsimp only
        have hmem : ∀ j, l.getD j 0 < 18446744073709551616 := fun j => by
          by_cases hj : j < l.length
          · rw [List.getD_eq_getElem?_getD, List.getElem?_eq_getElem hj]; exact hw _ (List.getElem_mem _)
          · rw [List.getD_eq_getElem?_getD, List.getElem?_eq_none (by omega)]; decide
        obtain ⟨pts, hpts, hpl, hpd⟩ := exacts_p hF (L := L) (X := X) (by omega) (fun i x hx => by
          have hi := (List.getElem?_eq_some_iff.1 hx).1
          rw [hLi i (by omega)] at hx
          obtain rfl := Option.some.inj hx
          exact ⟨(hX i (by omega)).1, hmem _, hmem _⟩)
        obtain ⟨P, hP, hPd⟩ := exactly_p hF hat w1 w2
        have hrun := ring_loop (F := F) (by omega) hs (by omega) hl (by omega) hX hat.1 hat.2 (show px.natAbs ≤ 16777216 by omega) (show py.natAbs ≤ 16777216 by omega) F 1 0 (by omega) (by omega) (by omega) (by omega)
        rw [Nat.one_mul] at hrun
        have hlr := loc_loop hF (pts := pts) (P := P) (m := m) (X := X) (px := px) (py := py) (by omega) (by omega) (fun i hi => hpd i (by omega)) hPd F 1 false (by omega) (by omega) (by omega)
        have hin : p_InRing F k p l = some (match codeRun (sgC X px py) (m - 1) 1 0 with | none => true | some c => decide (c % 2 = 1), true) := by
          unfold p_InRing p_coord p_IsPointInRing p_LocatePointInRing p_LocatePointInRing_96
          rw [Option.bind_some, s2, Option.bind_some]
          have hrun' : iter (p_LocatePointInRing_96_l2 [p.X, p.Y] l F (s : Int)) F ((s : Int), false, (0 : Int)) = _ := hrun
          rw [hrun', Option.bind_some]
          cases codeRun (sgC X px py) (m - 1) 1 0 with
          | none => rfl
          | some c =>
            rw [aft_inl]
            unfold p_LocatePointInRing_96_k1
            dsimp only
            have ht : Int.tmod (c : Int) 2 = ((c % 2 : Nat) : Int) := rfl
            rw [cond_f rfl, need_pos (by omega), ht]
            by_cases hc : c % 2 = 1
            · rw [cond_t (decide_eq_true (by omega)), decide_eq_true hc]; rfl
            · rw [cond_f (decide_eq_false (by omega)), decide_eq_false hc]; rfl
        have hloc : p_Locate F pts P = some (match specRun (onC X px py) (tgC X px py) (m - 1) 1 false with | none => 1 | some o => if o = true then 0 else 2) := by
          unfold p_Locate
          have hlr' : iter (p_Locate_l2 pts P F) F (false, (1 : Int)) = _ := hlr
          rw [hlr', Option.bind_some]
          cases specRun (onC X px py) (tgC X px py) (m - 1) 1 false with
          | none => rfl
          | some o =>
            rw [aft_inl]
            unfold p_Locate_k1
            cases o <;> rfl
        rw [hin, Option.bind_some]
        dsimp only
        rw [cond_t rfl, hpts, Option.bind_some, hP, Option.bind_some, hloc, Option.bind_some]
        by_cases hex : ∃ j, 1 ≤ j ∧ j < 1 + (m - 1) ∧ onC X px py j = true
        · obtain ⟨j, j1, j2, j3⟩ := hex
          rw [spec_none _ _ _ j j1 j2 j3]
          have hc : ∃ i, 1 ≤ i ∧ i < 1 + (m - 1) ∧ sgC X px py i = 1 := by
            rcases of_on (of_decide_eq_true j3) with h | ⟨e1, e2⟩
            · exact ⟨j, j1, j2, h⟩
            · have nxt : ∀ i, dX X px (i - 1) = 0 → dY X py (i - 1) = 0 → sgC X px py i = 1 := fun i a b => by
                unfold sgC segC
                rw [a, b, if_neg (by omega), if_pos ⟨rfl, rfl⟩]
              by_cases hj : j + 1 < m
              · exact ⟨j + 1, by omega, by omega, nxt (j + 1) e1 e2⟩
              · obtain rfl : j = m - 1 := by omega
                refine ⟨1, by omega, by omega, nxt 1 ?_ ?_⟩
                · show (X 0).1 - px = 0
                  have : (X (m - 1)).1 - px = 0 := e1
                  omega
                · show (X 0).2 - py = 0
                  have : (X (m - 1)).2 - py = 0 := e2
                  omega
          obtain ⟨i, i1, i2, i3⟩ := hc
          rw [code_none _ _ _ i i1 i2 i3]
          rfl
        · have hno : ∀ j, 1 ≤ j → j < 1 + (m - 1) → onC X px py j = false := fun j a b => by
            cases h : onC X px py j with
            | false => rfl
            | true => exact absurd ⟨j, a, b, h⟩ hex
          obtain ⟨c, o, q1, q2, q3⟩ := both_some (seg := sgC X px py) (on := onC X px py) (tg := tgC X px py) (fun j hj => tog (of_decide_eq_false hj)) (m - 1) 1 0 false hno (by simp)
          rw [q1, q2]
          dsimp only
          cases o with
          | true => rw [decide_eq_true (q3.2 rfl)]; rfl
          | false => rw [decide_eq_false (fun h => by have := q3.1 h; cases this)]; rfl
    · have : (decide ((X 0).1 = (X (m - 1)).1) && (decide ((X 0).2 = (X (m - 1)).2) && true)) = false := by
        by_cases a : (X 0).1 = (X (m - 1)).1 <;> by_cases b : (X 0).2 = (X (m - 1)).2 <;> simp [a, b]
        exact hcl ⟨a, b⟩
      rw [this, cond_t (rfl : (!false) = true), kt]
end Go.Proofs.Ytohpmbodfpjjmaa.Wk
