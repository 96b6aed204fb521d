/- Proved: plain texts of a law, joined. -/
import Derived.Test.YtdchenbdnalbcaaGreatPRc
import Derived.Test.YtdchenbdnalbcaaGreatLimbs
import Derived.Test.YtdchenbdnalbcaaGreatPureKit
import Derived.Test.YtdchenbdnalbcaaGreatFltDy
import Derived.Test.YtdchenbdnalbcaaGreatFltTo
import Derived.Test.YtdchenbdnalbcaaGreatFltFloor
import Derived.Test.YtdchenbdnalbcaaGreatFltApp
import Derived.Test.YtdchenbdnalbcaaGreatFltSqrt
namespace Go.Proofs.YtdchenbdnalbcaaGreat.Wk
open Go.Vm Limb
set_option linter.unusedVariables false
set_option linter.unusedSimpArgs false

def nl (l : List Nat) : List Int := l.map fun x : Nat => (x : Int)
theorem nl_len (l : List Nat) : (nl l).length = l.length := by simp [nl]
theorem nl_append (l m : List Nat) : nl l ++ nl m = nl (l ++ m) := by simp [nl]
theorem nl_one (x : Nat) : [((x : Nat) : Int)] = nl [x] := rfl
theorem idx_nl {l : List Nat} {k : Nat} (h : k < l.length) : idx (nl l) (k : Int) = some ((l.getD k 0 : Nat) : Int) := by
  unfold idx; rw [if_pos (by omega)]; simp [nl, h]
theorem w32 (s : Nat) : IntKind.u32.wrap (s : Int) = ((s % 4294967296 : Nat) : Int) := by simp [IntKind.wrap, IntKind.signed, IntKind.bits]
theorem w64 {s : Nat} (h : s < 18446744073709551616) : IntKind.u64.wrap (s : Int) = (s : Int) := wrap_in .u64 _ (by simp only [lo]; omega) (by simp only [hi]; omega)
theorem okget {l : List Nat} (h : ok l) (k : Nat) : l.getD k 0 < 4294967296 := by
  rw [List.getD_eq_getElem?_getD]
  cases hq : l[k]? with
  | none => decide
  | some x => exact h x (List.mem_of_getElem? hq)


/-! ### trim -/
theorem trim_loop : ∀ (n : Nat) (l : List Nat), l.length = n → l.length < 9223372036854775807 → ∀ F, n < F → iter p_trim_l2 F (nl l) = some (Sum.inl (nl (trim l))) := by
  intro n
  induction n with
  | zero =>
    intro l hl _ F hF
    obtain ⟨F, rfl⟩ : ∃ m, F = m + 1 := ⟨F - 1, by omega⟩
    have : l = [] := List.eq_nil_of_length_eq_zero hl
    subst this
    rfl
  | succ n ih =>
    intro l hl hb F hF
    obtain ⟨F, rfl⟩ : ∃ m, F = m + 1 := ⟨F - 1, by omega⟩
    rcases List.eq_nil_or_concat l with rfl | ⟨i, x, rfl⟩
    · simp at hl
    · simp only [List.concat_eq_append] at *
      have hi : i.length = n := by simpa using hl
      have hc : (((nl (i ++ [x])).length : Nat) : Int) - 1 = ((n : Nat) : Int) := by rw [nl_len]; simp [hi]
      show p_trim_l2 (iter p_trim_l2 F) (nl (i ++ [x])) = _
      unfold p_trim_l2
      rw [cond_t (by rw [nl_len]; simp), hc, need_pos (in64 (by omega) (by simp at hb; omega)), idx_nl (by simp; omega)]
      have hg : (i ++ [x]).getD n 0 = x := by rw [List.getD_eq_getElem?_getD, ← hi]; simp
      rw [hg, Option.bind_some, trim_snoc]
      by_cases hx : x = 0
      · subst hx
        rw [cond_t (by simp), if_pos rfl, need_pos (in64 (by omega) (by simp at hb; omega)), need_pos (by rw [nl_len]; simp; omega)]
        have : ((nl (i ++ [0])).drop 0).take ((n : Int).toNat - 0) = nl i := by simp [nl, ← hi]
        rw [this]
        exact ih i hi (by simp at hb; omega) F (by omega)
      · rw [cond_f (by simp; omega), if_neg hx]
theorem trim_p {F : Nat} {l : List Nat} (hl : l.length < F) (hb : l.length < 9223372036854775807) : p_trim F (nl l) = some (nl (trim l)) := by
  unfold p_trim
  rw [trim_loop _ l rfl hb F hl]; rfl

/-! ### sums -/
theorem add_loop {x y : List Nat} (hx : ok x) (hy : ok y) (hyx : y.length ≤ x.length) (hb : x.length < 1073741824) : ∀ (n k c : Nat) (out : List Nat), n = x.length - k → k ≤ x.length → out.length = k → ok out → c ≤ 1 →
    val out + 4294967296 ^ k * c = val (x.take k) + val (y.take k) → ∀ F, n < F →
    ∃ (c' : Nat) (out' : List Nat), iter (p_addLimbs_l3 (nl x, nl y)) F ((c : Int), (k : Int), nl out) = some (Sum.inl ((c' : Int), nl out')) ∧ out'.length = x.length ∧ ok out' ∧ c' ≤ 1 ∧ val out' + 4294967296 ^ x.length * c' = val x + val y := by
  intro n
  induction n with
  | zero =>
    intro k c out hn hk ho hok hc hv F hF
    obtain ⟨F, rfl⟩ : ∃ m, F = m + 1 := ⟨F - 1, by omega⟩
    have hkx : k = x.length := by omega
    subst hkx
    refine ⟨c, out, ?_, ho, hok, hc, ?_⟩
    · show p_addLimbs_l3 _ _ _ = _
      unfold p_addLimbs_l3
      rw [cond_f (by simp [nl_len])]
    · rw [hv, List.take_of_length_le (Nat.le_refl _), List.take_of_length_le hyx]
  | succ n ih =>
    intro k c out hn hk ho hok hc hv F hF
    obtain ⟨F, rfl⟩ : ∃ m, F = m + 1 := ⟨F - 1, by omega⟩
    have hkx : k < x.length := by omega
    have bx := okget hx k
    have bY := okget hy k
    have fin : ∀ s : Nat, s = x.getD k 0 + c + y.getD k 0 →
        ∃ (c' : Nat) (out' : List Nat), p_addLimbs_k4 ((c : Int), (k : Int), nl out) (iter (p_addLimbs_l3 (nl x, nl y)) F) (s : Int) = some (Sum.inl ((c' : Int), nl out')) ∧ out'.length = x.length ∧ ok out' ∧ c' ≤ 1 ∧ val out' + 4294967296 ^ x.length * c' = val x + val y := by
      intro s hs
      unfold p_addLimbs_k4
      rw [need_pos (by simp only [nl_len, List.length_singleton]; omega), need_pos (by omega), need_pos (in64 (by simp only; omega) (by simp only; omega)), w32]
      have e1 : (s : Int) / 2 ^ 32 = ((s / 4294967296 : Nat) : Int) := by
        have : (2 : Int) ^ 32 = 4294967296 := by decide
        rw [this]; omega
      have e2 : ((k : Int) + 1) = ((k + 1 : Nat) : Int) := by omega
      simp only [e1, e2, nl_one, nl_append]
      exact ih (k + 1) (s / 4294967296) (out ++ [s % 4294967296]) (by omega) (by omega) (by simp [ho]) (ok_snoc hok) (by omega) (add_step ho hv hs) F (by omega)
    show ∃ (c' : Nat) (out' : List Nat), p_addLimbs_l3 _ _ _ = _ ∧ _
    unfold p_addLimbs_l3
    simp only
    rw [cond_t (by simp [nl_len]; omega), idx_nl hkx, Option.bind_some, w64 (by omega), need_pos (inu64 (by omega) (by omega))]
    by_cases hky : k < y.length
    · rw [cond_t (by simp [nl_len]; omega), idx_nl hky, Option.bind_some, w64 (by omega), need_pos (inu64 (by omega) (by omega))]
      have := fin (x.getD k 0 + c + y.getD k 0) rfl
      have e : ((x.getD k 0 : Nat) : Int) + (c : Int) + ((y.getD k 0 : Nat) : Int) = ((x.getD k 0 + c + y.getD k 0 : Nat) : Int) := by omega
      rw [e]; exact this
    · have hz : y.getD k 0 = 0 := by rw [List.getD_eq_getElem?_getD, List.getElem?_eq_none (by omega)]; rfl
      rw [cond_f (by simp [nl_len]; omega)]
      have := fin (x.getD k 0 + c) (by omega)
      have e : ((x.getD k 0 : Nat) : Int) + (c : Int) = ((x.getD k 0 + c : Nat) : Int) := by omega
      rw [e]; exact this
theorem add_k {x y : List Nat} (hx : ok x) (hy : ok y) (hyx : y.length ≤ x.length) (hb : x.length < 1073741824) {F : Nat} (hF : 1073741826 ≤ F) : p_addLimbs_k1 F (nl x, nl y) = some (nl (limbs (val x + val y))) := by
  obtain ⟨c, out, h1, h2, h3, h4, h5⟩ := add_loop hx hy hyx hb x.length 0 0 [] rfl (Nat.zero_le _) rfl (fun z hz => by simp at hz) (by omega) (by simp [val]) F (by omega)
  unfold p_addLimbs_k1
  simp only [nl_len]
  rw [need_pos (in64 (by omega) (by omega)), need_pos (by omega)]
  have h1' : iter (p_addLimbs_l3 (nl x, nl y)) F ((0 : Int), (0 : Int), []) = some (Sum.inl ((c : Int), nl out)) := h1
  rw [h1', Option.bind_some]
  show p_addLimbs_k2 F ((c : Int), nl out) = _
  unfold p_addLimbs_k2
  have e : ((c : Nat) % 4294967296) = c := by omega
  rw [need_pos (by simp only [nl_len, List.length_singleton]; omega), w32, e, nl_one, nl_append, trim_p (by simp; omega) (by simp; omega), Option.bind_some, trim_limbs _ (fun z hz => by
    rcases List.mem_append.1 hz with h | h
    · exact h3 z h
    · rw [List.mem_singleton.1 h]; omega)]
  have ev : val (out ++ [c]) = val x + val y := by rw [val_append, h2, ← h5]; simp [val]
  rw [ev]
theorem addLimbs_p {a b : List Nat} (ha : ok a) (hb : ok b) (la : a.length < 1073741824) (lb : b.length < 1073741824) {F : Nat} (hF : 1073741826 ≤ F) : p_addLimbs F (nl a) (nl b) = some (nl (limbs (val a + val b))) := by
  unfold p_addLimbs
  simp only [nl_len]
  by_cases h : a.length < b.length
  · rw [cond_t (by simp; omega), add_k hb ha (by omega) lb hF, Nat.add_comm]
  · rw [cond_f (by simp; omega), add_k ha hb (by omega) la hF]

/-! ### comparing -/
theorem cmp_loop {x y : List Nat} (hx : ok x) (hy : ok y) (hl : x.length = y.length) (hb : x.length < 1073741824) : ∀ (j : Nat), j ≤ x.length → x.drop j = y.drop j → ∀ F, j < F →
    iter (p_cmpLimbs_l2 (nl x) (nl y)) F ((j : Int) - 1) = some (if val x = val y then Sum.inl () else Sum.inr (if val x < val y then -1 else 1)) := by
  intro j
  induction j with
  | zero =>
    intro hj hd F hF
    obtain ⟨F, rfl⟩ : ∃ m, F = m + 1 := ⟨F - 1, by omega⟩
    have : x = y := by simpa using hd
    subst this
    rw [if_pos rfl]
    show p_cmpLimbs_l2 _ _ _ _ = _
    unfold p_cmpLimbs_l2
    rw [cond_f (by decide)]
  | succ j ih =>
    intro hj hd F hF
    obtain ⟨F, rfl⟩ : ∃ m, F = m + 1 := ⟨F - 1, by omega⟩
    show p_cmpLimbs_l2 _ _ _ _ = _
    have e : (((j + 1 : Nat) : Int) - 1) = (j : Int) := by omega
    rw [e]
    unfold p_cmpLimbs_l2
    rw [cond_t (by simp), idx_nl (by omega), Option.bind_some, idx_nl (by omega), Option.bind_some]
    by_cases hxy : x.getD j 0 = y.getD j 0
    · rw [cond_f (nF (by omega)), need_pos (in64m (by omega) (by omega))]
      have hd' : x.drop j = y.drop j := by
        have h1 : x[j]'(by omega) = y[j]'(by omega) := by
          have h2 := hxy
          rw [List.getD_eq_getElem?_getD, List.getD_eq_getElem?_getD, List.getElem?_eq_getElem (l := x) (i := j) (by omega), List.getElem?_eq_getElem (l := y) (i := j) (by omega)] at h2
          exact h2
        rw [List.drop_eq_getElem_cons (l := x) (i := j) (by omega), List.drop_eq_getElem_cons (l := y) (i := j) (by omega), h1, hd]
      exact ih (by omega) hd' F (by omega)
    · rw [cond_t (nT (by omega))]
      simp only [Option.bind_some]
      by_cases hlt : x.getD j 0 < y.getD j 0
      · have hv := cmp_at hx hy (by omega) (by omega) hd hlt
        rw [cond_t (decide_eq_true (by omega)), if_neg (by omega), if_pos hv]
      · have hv := cmp_at hy hx (j := j) (by omega) (by omega) hd.symm (by omega)
        rw [cond_f (decide_eq_false (by omega)), if_neg (by omega), if_neg (by omega)]
theorem cmp_p {a b : Nat} (la : (limbs a).length < 1073741824) (lb : (limbs b).length < 1073741824) {F : Nat} (hF : 1073741826 ≤ F) :
    p_cmpLimbs F (nl (limbs a)) (nl (limbs b)) = some (if a = b then 0 else if a < b then -1 else 1) := by
  unfold p_cmpLimbs
  simp only [nl_len]
  by_cases hl : (limbs a).length = (limbs b).length
  · rw [cond_f (by simp [hl]), need_pos (in64m (by omega) (by omega)), cmp_loop (limbs_ok a) (limbs_ok b) hl la (limbs a).length (Nat.le_refl _) (by rw [List.drop_length, hl, List.drop_length]) F (by omega), val_limbs, val_limbs]
    by_cases h : a = b
    · rw [if_pos h, if_pos h]; rfl
    · rw [if_neg h, if_neg h]; rfl
  · rw [cond_t (by simp; omega)]
    by_cases h : (limbs a).length < (limbs b).length
    · have := limbs_len_lt h
      rw [cond_t (by simp; omega), if_neg (by omega), if_pos this]
    · have := limbs_len_lt (a := b) (b := a) (by omega)
      rw [cond_f (by simp; omega), if_neg (by omega), if_neg (by omega)]

/-! ### differences -/
theorem sub_loop {x y : List Nat} (hx : ok x) (hy : ok y) (hyx : y.length ≤ x.length) (hb : x.length < 1073741824) : ∀ (n k c : Nat) (out : List Nat), n = x.length - k → k ≤ x.length → out.length = k → ok out → c ≤ 1 →
    val out + val (y.take k) = val (x.take k) + 4294967296 ^ k * c → ∀ F, n < F →
    ∃ (c' : Nat) (out' : List Nat), iter (p_subLimbs_l2 (nl x) (nl y)) F ((c : Int), (k : Int), nl out) = some (Sum.inl (nl out')) ∧ ok out' ∧ out'.length = x.length ∧ val out' + val y = val x + 4294967296 ^ x.length * c' := by
  intro n
  induction n with
  | zero =>
    intro k c out hn hk ho hok hc hv F hF
    obtain ⟨F, rfl⟩ : ∃ m, F = m + 1 := ⟨F - 1, by omega⟩
    have hkx : k = x.length := by omega
    subst hkx
    refine ⟨c, out, ?_, hok, ho, ?_⟩
    · show p_subLimbs_l2 _ _ _ _ = _
      unfold p_subLimbs_l2
      rw [cond_f (by simp [nl_len])]
    · rw [List.take_of_length_le (Nat.le_refl _), List.take_of_length_le hyx] at hv
      exact hv
  | succ n ih =>
    intro k c out hn hk ho hok hc hv F hF
    obtain ⟨F, rfl⟩ : ∃ m, F = m + 1 := ⟨F - 1, by omega⟩
    have hkx : k < x.length := by omega
    have bx := okget hx k
    have bY := okget hy k
    have fin : ∀ s b : Nat, s = c + y.getD k 0 → b = (if x.getD k 0 < s then 1 else 0) →
        ∃ (c' : Nat) (out' : List Nat), p_subLimbs_k4 ((c : Int), (k : Int), nl out) (iter (p_subLimbs_l2 (nl x) (nl y)) F) ((x.getD k 0 : Nat) : Int) (s : Int) (b : Int) = some (Sum.inl (nl out')) ∧ ok out' ∧ out'.length = x.length ∧ val out' + val y = val x + 4294967296 ^ x.length * c' := by
      intro s b hs hb2
      have hb1 : b ≤ 1 := by rw [hb2]; split <;> omega
      have hge : s ≤ x.getD k 0 + b * 4294967296 := by rw [hb2]; split <;> omega
      have hlt : x.getD k 0 + b * 4294967296 - s < 4294967296 := by rw [hb2]; split <;> omega
      obtain ⟨t, ht⟩ : ∃ t, t = x.getD k 0 + b * 4294967296 - s := ⟨_, rfl⟩
      unfold p_subLimbs_k4
      have e1 : (b : Int) * 2 ^ 32 = ((b * 4294967296 : Nat) : Int) := by
        have : (2 : Int) ^ 32 = 4294967296 := by decide
        rw [this]; omega
      have e2 : ((k : Int) + 1) = ((k + 1 : Nat) : Int) := by omega
      have e3 : ((x.getD k 0 : Nat) : Int) + ((b * 4294967296 : Nat) : Int) - (s : Int) = (t : Int) := by omega
      rw [w64 (by omega), e1, w64 (by omega), need_pos (inu64 (by omega) (by omega)), e3, need_pos (inu64 (by omega) (by omega)), w32, need_pos (by simp only [nl_len, List.length_singleton]; omega), need_pos (in64 (by simp only; omega) (by simp only; omega))]
      have e4 : t % 4294967296 = t := by omega
      simp only [e2, e4, nl_one, nl_append]
      refine ih (k + 1) b (out ++ [t]) (by omega) (by omega) (by simp [ho]) (fun z hz => ?_) hb1 ?_ F (by omega)
      · rcases List.mem_append.1 hz with h | h
        · exact hok z h
        · rw [List.mem_singleton.1 h]; omega
      · rw [val_append, ho, val_take_any, val_take_any]
        have h1 : val [t] = t := by simp [val]
        rw [h1, Nat.pow_succ]
        have h2 : 4294967296 ^ k * t + 4294967296 ^ k * s = 4294967296 ^ k * x.getD k 0 + 4294967296 ^ k * 4294967296 * b := by
          rw [Nat.mul_assoc, ← Nat.mul_add, ← Nat.mul_add]; congr 1; omega
        have h3 : 4294967296 ^ k * s = 4294967296 ^ k * c + 4294967296 ^ k * y.getD k 0 := by rw [hs, Nat.mul_add]
        omega
    have fin2 : ∀ s : Nat, s = c + y.getD k 0 →
        ∃ (c' : Nat) (out' : List Nat), p_subLimbs_k3 ((c : Int), (k : Int), nl out) (iter (p_subLimbs_l2 (nl x) (nl y)) F) ((x.getD k 0 : Nat) : Int) (s : Int) = some (Sum.inl (nl out')) ∧ ok out' ∧ out'.length = x.length ∧ val out' + val y = val x + 4294967296 ^ x.length * c' := by
      intro s hs
      unfold p_subLimbs_k3
      rw [w64 (by omega)]
      by_cases h : x.getD k 0 < s
      · rw [cond_t (decide_eq_true (by omega))]; exact fin s 1 hs (by rw [if_pos h])
      · rw [cond_f (decide_eq_false (by omega))]; exact fin s 0 hs (by rw [if_neg h])
    show ∃ (c' : Nat) (out' : List Nat), p_subLimbs_l2 _ _ _ _ = _ ∧ _
    unfold p_subLimbs_l2
    simp only
    rw [cond_t (by simp [nl_len]; omega), idx_nl hkx, Option.bind_some]
    by_cases hky : k < y.length
    · rw [cond_t (by simp [nl_len]; omega), idx_nl hky, Option.bind_some, w64 (by omega), need_pos (inu64 (by omega) (by omega))]
      have := fin2 (c + y.getD k 0) rfl
      have e : (c : Int) + ((y.getD k 0 : Nat) : Int) = ((c + y.getD k 0 : Nat) : Int) := by omega
      rw [e]; exact this
    · have hz : y.getD k 0 = 0 := by rw [List.getD_eq_getElem?_getD, List.getElem?_eq_none (by omega)]; rfl
      rw [cond_f (by simp [nl_len]; omega)]
      exact fin2 c (by omega)
theorem subLimbs_p {a b : List Nat} (ha : ok a) (hb : ok b) (la : a.length < 1073741824) (lb : b.length ≤ a.length) (hv : val b ≤ val a) {F : Nat} (hF : 1073741826 ≤ F) : p_subLimbs F (nl a) (nl b) = some (nl (limbs (val a - val b))) := by
  obtain ⟨c, out, h1, h2, h3, h4⟩ := sub_loop ha hb lb la a.length 0 0 [] rfl (Nat.zero_le _) rfl (fun z hz => by simp at hz) (by omega) (by simp [val]) F (by omega)
  have hc : c = 0 := by
    have := val_lt h2
    rw [h3] at this
    rcases Nat.eq_zero_or_pos c with h | h
    · exact h
    · have h5 : 4294967296 ^ a.length * 1 ≤ 4294967296 ^ a.length * c := Nat.mul_le_mul_left _ h
      omega
  subst hc
  unfold p_subLimbs
  simp only [nl_len]
  have h1' : iter (p_subLimbs_l2 (nl a) (nl b)) F ((0 : Int), (0 : Int), []) = some (Sum.inl (nl out)) := h1
  rw [need_pos (by omega), h1', Option.bind_some]
  show p_subLimbs_k1 F (nl out) = _
  unfold p_subLimbs_k1
  rw [trim_p (by omega) (by omega), Option.bind_some, trim_limbs _ h2]
  have ev : val out = val a - val b := by omega
  rw [ev]
end Go.Proofs.YtdchenbdnalbcaaGreat.Wk

namespace Go.Proofs.YtdchenbdnalbcaaGreat.Wk
open Go.Vm Limb
set_option linter.unusedVariables false
set_option linter.unusedSimpArgs false

/-! ### products -/
theorem val_set : ∀ (l : List Nat) (j v : Nat), j < l.length → val (l.set j v) + 4294967296 ^ j * l.getD j 0 = val l + 4294967296 ^ j * v
  | [], j, v, h => by simp at h
  | x :: r, 0, v, h => by simp [val]; omega
  | x :: r, j + 1, v, h => by
    have := val_set r j v (by simpa using h)
    simp only [List.set_cons_succ, val, List.getD_cons_succ, Nat.pow_succ]
    have e1 : 4294967296 ^ j * 4294967296 * r.getD j 0 = 4294967296 * (4294967296 ^ j * r.getD j 0) := by rw [Nat.mul_comm (4294967296 ^ j) 4294967296, Nat.mul_assoc]
    have e2 : 4294967296 ^ j * 4294967296 * v = 4294967296 * (4294967296 ^ j * v) := by rw [Nat.mul_comm (4294967296 ^ j) 4294967296, Nat.mul_assoc]
    rw [e1, e2]; omega
theorem nl_set (l : List Nat) (j v : Nat) : (nl l).set j (v : Int) = nl (l.set j v) := by simp [nl, List.map_set]
theorem ok_set {l : List Nat} (h : ok l) (j : Nat) {v : Nat} (hv : v < 4294967296) : ok (l.set j v) := fun x hx => by
  rcases List.mem_or_eq_of_mem_set hx with h1 | h1
  · exact h x h1
  · rw [h1]; exact hv
theorem getD_set (l : List Nat) (i j v : Nat) (h : i ≠ j) : (l.set i v).getD j 0 = l.getD j 0 := by
  rw [List.getD_eq_getElem?_getD, List.getElem?_set_ne h, List.getD_eq_getElem?_getD]
theorem prod_lt {a b : Nat} (ha : a < 4294967296) (hb : b < 4294967296) : a * b ≤ 18446744065119617025 := by
  have : a * b ≤ 4294967295 * 4294967295 := Nat.mul_le_mul (by omega) (by omega)
  omega

theorem mul_in {s t : Bool} {x y : List Nat} {i ai N base : Nat} {o0 : List Int} (hN : N = x.length + y.length) (hi : i < x.length) (hb : N < 1073741824) (hai : ai < 4294967296) (hy : ok y) :
    ∀ (n k c : Nat) (out : List Nat), n = y.length - k → k ≤ y.length → out.length = N → ok out → c < 4294967296 → (∀ j, i + y.length ≤ j → out.getD j 0 = 0) →
    val out + 4294967296 ^ (i + k) * c = base + 4294967296 ^ i * (ai * val (y.take k)) → ∀ F, n < F →
    ∃ (c' : Nat) (out' : List Nat), iter (p_Whole_Mul_l4 ⟨s, nl x⟩ ⟨t, nl y⟩ ((i : Int), o0) (ai : Int)) F ((c : Int), (k : Int), nl out) = some (Sum.inl ((c' : Int), nl out')) ∧ out'.length = N ∧ ok out' ∧ c' < 4294967296 ∧
      (∀ j, i + y.length ≤ j → out'.getD j 0 = 0) ∧ val out' + 4294967296 ^ (i + y.length) * c' = base + 4294967296 ^ i * (ai * val y) := by
  intro n
  induction n with
  | zero =>
    intro k c out hn hk ho hok hc hz hv F hF
    obtain ⟨F, rfl⟩ : ∃ m, F = m + 1 := ⟨F - 1, by omega⟩
    have hky : k = y.length := by omega
    subst hky
    refine ⟨c, out, ?_, ho, hok, hc, hz, ?_⟩
    · show p_Whole_Mul_l4 _ _ _ _ _ _ = _
      unfold p_Whole_Mul_l4
      rw [cond_f (by simp [nl_len])]
    · rw [hv, List.take_of_length_le (Nat.le_refl _)]
  | succ n ih =>
    intro k c out hn hk ho hok hc hz hv F hF
    obtain ⟨F, rfl⟩ : ∃ m, F = m + 1 := ⟨F - 1, by omega⟩
    have hky : k < y.length := by omega
    have bY := okget hy k
    have bo := okget hok (i + k)
    have bp := prod_lt hai bY
    show ∃ (c' : Nat) (out' : List Nat), p_Whole_Mul_l4 _ _ _ _ _ _ = _ ∧ _
    generalize hK : iter (p_Whole_Mul_l4 ⟨s, nl x⟩ ⟨t, nl y⟩ ((i : Int), o0) (ai : Int)) F = K
    unfold p_Whole_Mul_l4
    simp only [nl_len]
    have e1 : ((ai : Nat) : Int) * ((y.getD k 0 : Nat) : Int) = ((ai * y.getD k 0 : Nat) : Int) := by rw [Int.natCast_mul]
    have e2 : ((i : Nat) : Int) + ((k : Nat) : Int) = ((i + k : Nat) : Int) := by omega
    have e3 : (((x.length : Nat) : Int) + ((y.length : Nat) : Int)).toNat = x.length + y.length := by omega
    have e4 : ((ai * y.getD k 0 : Nat) : Int) + ((out.getD (i + k) 0 : Nat) : Int) = ((ai * y.getD k 0 + out.getD (i + k) 0 : Nat) : Int) := by omega
    obtain ⟨S, hS⟩ : ∃ S, S = ai * y.getD k 0 + out.getD (i + k) 0 + c := ⟨_, rfl⟩
    have e5 : ((ai * y.getD k 0 + out.getD (i + k) 0 : Nat) : Int) + (c : Int) = (S : Int) := by omega
    have e6 : ((S : Nat) : Int) / 2 ^ 32 = ((S / 4294967296 : Nat) : Int) := by
      have : (2 : Int) ^ 32 = 4294967296 := by decide
      rw [this]; omega
    have e7 : ((k : Nat) : Int) + 1 = ((k + 1 : Nat) : Int) := by omega
    rw [cond_t (decide_eq_true (by omega)), idx_nl hky, Option.bind_some, w64 (by omega), w64 (by omega), e1, need_pos (inu64 (by omega) (by omega)), e2, need_pos (in64 (by omega) (by omega)), need_pos (by omega), idx_nl (by omega), Option.bind_some]
    rw [w64 (by omega), e4, need_pos (inu64 (by omega) (by omega)), e5, need_pos (inu64 (by omega) (by omega)), need_pos (in64 (by omega) (by omega)), need_pos (by omega), need_pos (by omega), need_pos (by omega), e7, need_pos (in64 (by omega) (by omega)), e6, w32]
    have e8 : (((i + k : Nat) : Int)).toNat = i + k := by omega
    rw [e8, nl_set, ← hK]
    have hlt : i + k < out.length := by omega
    refine ih (k + 1) (S / 4294967296) (out.set (i + k) (S % 4294967296)) (by omega) (by omega) (by simp [ho]) (ok_set hok _ (by omega)) (by omega) (fun j hj => ?_) ?_ F (by omega)
    · rw [getD_set _ _ _ _ (by omega)]; exact hz j hj
    · have h1 := val_set out (i + k) (S % 4294967296) hlt
      have h2 : S % 4294967296 + 4294967296 * (S / 4294967296) = S := Nat.mod_add_div _ _
      have h3 : 4294967296 ^ (i + (k + 1)) * (S / 4294967296) = 4294967296 ^ (i + k) * (4294967296 * (S / 4294967296)) := by rw [← Nat.add_assoc, Nat.pow_succ, Nat.mul_assoc]
      have h4 : 4294967296 ^ (i + k) * (S % 4294967296) + 4294967296 ^ (i + k) * (4294967296 * (S / 4294967296)) = 4294967296 ^ (i + k) * (ai * y.getD k 0) + 4294967296 ^ (i + k) * out.getD (i + k) 0 + 4294967296 ^ (i + k) * c := by rw [← Nat.mul_add, h2, hS, Nat.mul_add, Nat.mul_add]
      have h5 : 4294967296 ^ i * (ai * val (y.take (k + 1))) = 4294967296 ^ i * (ai * val (y.take k)) + 4294967296 ^ (i + k) * (ai * y.getD k 0) := by
        rw [val_take_any, Nat.mul_add, Nat.mul_add, Nat.pow_add]
        congr 1
        rw [Nat.mul_left_comm ai, Nat.mul_assoc]
      rw [h3, h5]
      omega

theorem mul_loop {s t : Bool} {x y : List Nat} {N : Nat} (hN : N = x.length + y.length) (hb : N < 1073741824) (hx : ok x) (hy : ok y) {G : Nat} (hG : 1073741826 ≤ G) :
    ∀ (n i : Nat) (out : List Nat), n = x.length - i → i ≤ x.length → out.length = N → ok out → (∀ j, i + y.length ≤ j → out.getD j 0 = 0) → val out = val (x.take i) * val y → ∀ F, n < F →
    ∃ (out' : List Nat), iter (p_Whole_Mul_l2 ⟨s, nl x⟩ ⟨t, nl y⟩ G) F ((i : Int), nl out) = some (Sum.inl (nl out')) ∧ out'.length = N ∧ ok out' ∧ val out' = val x * val y := by
  intro n
  induction n with
  | zero =>
    intro i out hn hi ho hok hz hv F hF
    obtain ⟨F, rfl⟩ : ∃ m, F = m + 1 := ⟨F - 1, by omega⟩
    have hix : i = x.length := by omega
    subst hix
    refine ⟨out, ?_, ho, hok, ?_⟩
    · show p_Whole_Mul_l2 _ _ _ _ _ = _
      unfold p_Whole_Mul_l2
      rw [cond_f (by simp [nl_len])]
    · rw [hv, List.take_of_length_le (Nat.le_refl _)]
  | succ n ih =>
    intro i out hn hi ho hok hz hv F hF
    obtain ⟨F, rfl⟩ : ∃ m, F = m + 1 := ⟨F - 1, by omega⟩
    have hix : i < x.length := by omega
    have bx := okget hx i
    show ∃ (out' : List Nat), p_Whole_Mul_l2 _ _ _ _ _ = _ ∧ _
    generalize hK : iter (p_Whole_Mul_l2 ⟨s, nl x⟩ ⟨t, nl y⟩ G) F = K
    unfold p_Whole_Mul_l2
    simp only [nl_len]
    rw [cond_t (decide_eq_true (by omega)), idx_nl hix, Option.bind_some]
    obtain ⟨c, o2, h1, h2, h3, h4, h5, h6⟩ := mul_in (s := s) (t := t) (o0 := nl out) (base := val out) hN hix hb bx hy y.length 0 0 out rfl (Nat.zero_le _) ho hok (by omega) hz (by simp [val]) G (by omega)
    have h1' : iter (p_Whole_Mul_l4 ⟨s, nl x⟩ ⟨t, nl y⟩ ((i : Int), nl out) ((x.getD i 0 : Nat) : Int)) G ((0 : Int), (0 : Int), nl out) = some (Sum.inl ((c : Int), nl o2)) := h1
    rw [h1', Option.bind_some]
    show ∃ (out' : List Nat), p_Whole_Mul_k3 _ _ _ _ _ = _ ∧ _
    unfold p_Whole_Mul_k3
    simp only [nl_len]
    have e2 : ((i : Nat) : Int) + ((y.length : Nat) : Int) = ((i + y.length : Nat) : Int) := by omega
    have e3 : (((x.length : Nat) : Int) + ((y.length : Nat) : Int)).toNat = x.length + y.length := by omega
    have e7 : ((i : Nat) : Int) + 1 = ((i + 1 : Nat) : Int) := by omega
    have e8 : (((i + y.length : Nat) : Int)).toNat = i + y.length := by omega
    rw [e2, need_pos (in64 (by omega) (by omega)), need_pos (by omega), need_pos (by omega), e7, need_pos (in64 (by omega) (by omega)), e8, w32, nl_set, ← hK]
    have hlt : i + y.length < o2.length := by omega
    have e9 : c % 4294967296 = c := by omega
    rw [e9]
    refine ih (i + 1) (o2.set (i + y.length) c) (by omega) (by omega) (by simp [h2]) (ok_set h3 _ h4) (fun j hj => ?_) ?_ F (by omega)
    · rw [getD_set _ _ _ _ (by omega)]; exact h5 j (by omega)
    · have g1 := val_set o2 (i + y.length) c hlt
      rw [h5 _ (Nat.le_refl _)] at g1
      have g2 : val (x.take (i + 1)) * val y = val (x.take i) * val y + 4294967296 ^ i * (x.getD i 0 * val y) := by
        rw [val_take_any, Nat.add_mul, Nat.mul_assoc]
      rw [g2]
      omega
theorem val_zeros (n : Nat) : val (List.replicate n 0) = 0 := by
  induction n with
  | zero => rfl
  | succ n ih => simp [List.replicate_succ, val, ih]
theorem ok_zeros (n : Nat) : ok (List.replicate n 0) := fun x hx => by rw [List.eq_of_mem_replicate hx]; omega
theorem nl_zeros (n : Nat) : List.replicate n (0 : Int) = nl (List.replicate n 0) := by simp [nl]

/-! ### numbers -/
/-- the reference's number n -/
def W (n : Int) : TSpec_Whole := ⟨decide (n < 0), nl (limbs n.natAbs)⟩
/-- how many limbs -/
def sz (n : Int) : Nat := (limbs n.natAbs).length
theorem sz_neg (n : Int) : sz (-n) = sz n := by unfold sz; rw [Int.natAbs_neg]
theorem sz_of {n : Int} {m : Nat} (h : n.natAbs < 4294967296 ^ m) : sz n ≤ m := by
  unfold sz
  generalize n.natAbs = a at h
  induction m generalizing a with
  | zero => have : a = 0 := by simpa using h
            subst this; rw [limbs_zero]; simp
  | succ m ih =>
    by_cases ha : a = 0
    · subst ha; rw [limbs_zero]; simp
    · rw [limbs_pos ha]
      have := ih (a / 4294967296) (by rw [Nat.pow_succ] at h; exact Nat.div_lt_of_lt_mul (by rw [Nat.mul_comm]; exact h))
      simp; omega
theorem lt_sz (n : Int) : n.natAbs < 4294967296 ^ sz n := by
  have := val_lt (limbs_ok n.natAbs)
  rwa [val_limbs] at this
theorem sz_add (a b : Int) : sz (a + b) ≤ max (sz a) (sz b) + 1 := by
  refine sz_of ?_
  have h1 := lt_sz a
  have h2 := lt_sz b
  have h3 : 4294967296 ^ sz a ≤ 4294967296 ^ max (sz a) (sz b) := Nat.pow_le_pow_right (by omega) (by omega)
  have h4 : 4294967296 ^ sz b ≤ 4294967296 ^ max (sz a) (sz b) := Nat.pow_le_pow_right (by omega) (by omega)
  rw [Nat.pow_succ]
  have := Int.natAbs_add_le a b
  omega
theorem sz_mul (a b : Int) : sz (a * b) ≤ sz a + sz b := by
  refine sz_of ?_
  rw [Int.natAbs_mul, Nat.pow_add]
  exact Nat.mul_lt_mul'' (lt_sz a) (lt_sz b)
theorem limbs_nil {n : Nat} : limbs n = [] ↔ n = 0 := by
  constructor
  · intro h
    have := val_limbs n
    rw [h] at this; exact this.symm
  · rintro rfl; exact limbs_zero
theorem W_len (n : Int) : (W n).L.length = sz n := by unfold W sz; rw [nl_len]
theorem sign_p (n : Int) : p_Whole_Sign (W n) = some (if n = 0 then 0 else if n < 0 then -1 else 1) := by
  unfold p_Whole_Sign
  rw [W_len]
  by_cases h : n = 0
  · subst h
    rw [if_pos rfl, cond_t (decide_eq_true (by unfold sz; rw [show (0 : Int).natAbs = 0 from rfl, limbs_zero]; rfl))]
  · have : sz n ≠ 0 := fun e => h (by have : limbs n.natAbs = [] := List.eq_nil_of_length_eq_zero e
                                      rw [limbs_nil] at this; omega)
    rw [cond_f (decide_eq_false (by omega)), if_neg h]
    by_cases h0 : n < 0
    · rw [if_pos h0, cond_t (by simp [W, h0])]
    · rw [if_neg h0, cond_f (by simp [W]; omega)]
theorem W_zero : W 0 = ⟨false, []⟩ := by
  unfold W
  rw [show (0 : Int).natAbs = 0 from rfl, limbs_zero]; rfl
theorem add_p {a b : Int} (ha : sz a < 1073741824) (hb : sz b < 1073741824) {F : Nat} (hF : 1073741826 ≤ F) : p_Whole_Add F (W a) (W b) = some (W (a + b)) := by
  unfold p_Whole_Add
  have eL : ∀ n : Int, (W n).L = nl (limbs n.natAbs) := fun _ => rfl
  have eN : ∀ n : Int, (W n).Neg = decide (n < 0) := fun _ => rfl
  simp only [eL, eN]
  by_cases hs : (decide (a < 0)) = (decide (b < 0))
  · rw [cond_t (by simp [hs]), addLimbs_p (limbs_ok _) (limbs_ok _) ha hb hF, Option.bind_some, val_limbs, val_limbs]
    have hs' : a < 0 ↔ b < 0 := decide_eq_decide.1 hs
    have h1 : (a + b).natAbs = a.natAbs + b.natAbs := by omega
    have h2 : decide (a + b < 0) = decide (a < 0) := decide_eq_decide.2 (by omega)
    unfold W
    rw [h1, h2]
  · rw [cond_f (by simpa using hs), cmp_p ha hb hF, Option.bind_some]
    have hs' : ¬ (a < 0 ↔ b < 0) := fun h => hs (decide_eq_decide.2 h)
    by_cases h1 : a.natAbs = b.natAbs
    · rw [if_pos h1, cond_t (by rfl)]
      have : a + b = 0 := by omega
      rw [this, W_zero]
    · rw [if_neg h1]
      by_cases h2 : a.natAbs < b.natAbs
      · rw [if_pos h2, cond_f (by rfl), cond_f (by rfl), subLimbs_p (limbs_ok _) (limbs_ok _) hb (by
          rcases Nat.lt_or_ge (limbs b.natAbs).length (limbs a.natAbs).length with h | h
          · have := limbs_len_lt h; omega
          · exact h) (by rw [val_limbs, val_limbs]; omega) hF, Option.bind_some, val_limbs, val_limbs]
        have h3 : (a + b).natAbs = b.natAbs - a.natAbs := by omega
        have h4 : decide (a + b < 0) = decide (b < 0) := decide_eq_decide.2 (by omega)
        unfold W
        rw [h3, h4]
      · rw [if_neg h2, cond_f (by rfl), cond_t (by rfl), subLimbs_p (limbs_ok _) (limbs_ok _) ha (by
          rcases Nat.lt_or_ge (limbs a.natAbs).length (limbs b.natAbs).length with h | h
          · have := limbs_len_lt h; omega
          · exact h) (by rw [val_limbs, val_limbs]; omega) hF, Option.bind_some, val_limbs, val_limbs]
        have h3 : (a + b).natAbs = a.natAbs - b.natAbs := by omega
        have h4 : decide (a + b < 0) = decide (a < 0) := decide_eq_decide.2 (by omega)
        unfold W
        rw [h3, h4]
theorem mul_p {a b : Int} (h : sz a + sz b < 1073741824) {F : Nat} (hF : 1073741826 ≤ F) : p_Whole_Mul F (W a) (W b) = some (W (a * b)) := by
  obtain ⟨out, h1, h2, h3, h4⟩ := mul_loop (s := decide (a < 0)) (t := decide (b < 0)) (x := limbs a.natAbs) (y := limbs b.natAbs) (N := sz a + sz b) rfl h (limbs_ok _) (limbs_ok _) hF (limbs a.natAbs).length 0 (List.replicate (sz a + sz b) 0) rfl (Nat.zero_le _) (by simp) (ok_zeros _) (fun j hj => by
    rw [List.getD_eq_getElem?_getD, List.getElem?_replicate]; split <;> rfl) (by simp [val, val_zeros]) F (by unfold sz at h; omega)
  unfold p_Whole_Mul
  rw [W_len, W_len]
  have e3 : (((sz a : Nat) : Int) + ((sz b : Nat) : Int)).toNat = sz a + sz b := by omega
  rw [need_pos (in64 (by omega) (by omega)), need_pos (by omega), e3, nl_zeros]
  have h1' : iter (p_Whole_Mul_l2 (W a) (W b) F) F ((0 : Int), nl (List.replicate (sz a + sz b) 0)) = some (Sum.inl (nl out)) := h1
  rw [h1', Option.bind_some]
  show p_Whole_Mul_k1 (W a) (W b) F (nl out) = _
  unfold p_Whole_Mul_k1
  rw [W_len, W_len, e3, nl_len, need_pos h2.symm, trim_p (by omega) (by omega), Option.bind_some, trim_limbs _ h3, h4, val_limbs, val_limbs, nl_len]
  have ev : a.natAbs * b.natAbs = (a * b).natAbs := (Int.natAbs_mul a b).symm
  rw [ev]
  by_cases h0 : a * b = 0
  · rw [h0]
    rw [cond_f (decide_eq_false (by rw [show (0 : Int).natAbs = 0 from rfl, limbs_zero]; simp)), W_zero, show (0 : Int).natAbs = 0 from rfl, limbs_zero]; rfl
  · have hne : limbs (a * b).natAbs ≠ [] := fun e => h0 (by rw [limbs_nil] at e; omega)
    have hlen : 0 < (limbs (a * b).natAbs).length := List.length_pos_iff.2 hne
    rw [cond_t (decide_eq_true (by omega))]
    unfold W
    congr 2
    have ha : a ≠ 0 := fun e => h0 (by rw [e, Int.zero_mul])
    have hb : b ≠ 0 := fun e => h0 (by rw [e, Int.mul_zero])
    by_cases h5 : a < 0 <;> by_cases h6 : b < 0
    · have := Int.mul_pos_of_neg_of_neg h5 h6
      simp [h5, h6]; omega
    · have := Int.mul_neg_of_neg_of_pos h5 (show 0 < b by omega)
      simp [h5, h6, this]
    · have := Int.mul_neg_of_pos_of_neg (show 0 < a by omega) h6
      simp [h5, h6, this]
    · have := Int.mul_pos (show 0 < a by omega) (show 0 < b by omega)
      simp [h5, h6]; omega
end Go.Proofs.YtdchenbdnalbcaaGreat.Wk

namespace Go.Proofs.YtdchenbdnalbcaaGreat.Wk
open Go.Vm Limb
set_option linter.unusedVariables false
set_option linter.unusedSimpArgs false

theorem bits_or32 {a c : Nat} (ha : a < 4294967296) (hc : c < 4294967296) : bits .or .u32 (a : Int) (c : Int) = ((a ||| c : Nat) : Int) := by
  unfold bits
  have e0 : (BitVec.ofInt 32 (a : Int) ||| BitVec.ofInt 32 (c : Int)).toNat = a ||| c := by
    rw [BitVec.toNat_or, BitVec.toNat_ofInt, BitVec.toNat_ofInt]
    have e : ∀ z : Nat, z < 4294967296 → ((z : Int) % ((2 ^ 32 : Nat) : Int)).toNat = z := fun z hz => by omega
    rw [e a ha, e c hc]
  show IntKind.u32.wrap (((BitVec.ofInt 32 (a : Int) ||| BitVec.ofInt 32 (c : Int)).toNat : Nat) : Int) = _
  rw [e0]
  have hlt : a ||| c < 2 ^ 32 := Nat.or_lt_two_pow (by omega) (by omega)
  rw [w32, Nat.mod_eq_of_lt (by omega)]
theorem bits_and64 {a c : Nat} (ha : a < 18446744073709551616) (hc : c < 18446744073709551616) : bits .and .u64 (a : Int) (c : Int) = ((a &&& c : Nat) : Int) := by
  unfold bits
  have e0 : (BitVec.ofInt 64 (a : Int) &&& BitVec.ofInt 64 (c : Int)).toNat = a &&& c := by
    rw [BitVec.toNat_and, BitVec.toNat_ofInt, BitVec.toNat_ofInt]
    have e : ∀ z : Nat, z < 18446744073709551616 → ((z : Int) % ((2 ^ 64 : Nat) : Int)).toNat = z := fun z hz => by omega
    rw [e a ha, e c hc]
  show IntKind.u64.wrap (((BitVec.ofInt 64 (a : Int) &&& BitVec.ofInt 64 (c : Int)).toNat : Nat) : Int) = _
  rw [e0]
  have hle : a &&& c ≤ a := Nat.and_le_left
  rw [w64 (by omega)]

theorem tdiv32 (n : Nat) : Int.tdiv (n : Int) (32 : Int) = ((n / 32 : Nat) : Int) := by rw [Int.tdiv_eq_ediv_of_nonneg (by omega)]; omega
theorem tmod32 (n : Nat) : Int.tmod (n : Int) (32 : Int) = ((n % 32 : Nat) : Int) := by rw [Int.tmod_eq_emod_of_nonneg (by omega)]; omega

theorem up_loop {s : Bool} {x : List Nat} (hx : ok x) {n q r : Nat} (hq : n / 32 = q) (hr : n % 32 = r) (hb : q + x.length < 1073741824) : ∀ (m k c : Nat) (out : List Nat), m = x.length - k → k ≤ x.length → out.length = q + k → ok out → c < 2 ^ r →
    val out + 4294967296 ^ (q + k) * c = 4294967296 ^ q * (2 ^ r * val (x.take k)) → ∀ F, m < F →
    ∃ (c' : Nat) (out' : List Nat), iter (p_Whole_Up_l2 ⟨s, nl x⟩ (n : Int)) F ((c : Int), (k : Int), nl out) = some (Sum.inl ((c' : Int), nl out')) ∧ out'.length = q + x.length ∧ ok out' ∧ c' < 2 ^ r ∧ val out' + 4294967296 ^ (q + x.length) * c' = 4294967296 ^ q * (2 ^ r * val x) := by
  have hr32 : r < 32 := by omega
  have hp : 2 ^ r ≤ 2147483648 := Nat.le_trans (Nat.pow_le_pow_right (by omega) (show r ≤ 31 by omega)) (by decide)
  have hp0 : 0 < 2 ^ r := Nat.two_pow_pos r
  have hpp : 2 ^ r * 2 ^ (32 - r) = 4294967296 := by rw [← Nat.pow_add, show r + (32 - r) = 32 by omega]
  intro m
  induction m with
  | zero =>
    intro k c out hm hk ho hok hc hv F hF
    obtain ⟨F, rfl⟩ : ∃ m, F = m + 1 := ⟨F - 1, by omega⟩
    have hkx : k = x.length := by omega
    subst hkx
    refine ⟨c, out, ?_, ho, hok, hc, ?_⟩
    · show p_Whole_Up_l2 _ _ _ _ = _
      unfold p_Whole_Up_l2
      rw [cond_f (by simp [nl_len])]
    · rw [hv, List.take_of_length_le (Nat.le_refl _)]
  | succ m ih =>
    intro k c out hm hk ho hok hc hv F hF
    obtain ⟨F, rfl⟩ : ∃ m, F = m + 1 := ⟨F - 1, by omega⟩
    have hkx : k < x.length := by omega
    have bx := okget hx k
    show ∃ (c' : Nat) (out' : List Nat), p_Whole_Up_l2 _ _ _ _ = _ ∧ _
    generalize hK : iter (p_Whole_Up_l2 ⟨s, nl x⟩ (n : Int)) F = K
    unfold p_Whole_Up_l2
    simp only [nl_len]
    have hS : x.getD k 0 * 2 ^ r ≤ 4294967295 * 2147483648 := Nat.mul_le_mul (by omega) hp
    have eT : (Int.tmod (n : Int) (32 : Int)).toNat = r := by rw [tmod32, hr]; omega
    have hbits : 0 ≤ Int.tmod (n : Int) (32 : Int) ∧ Int.tmod (n : Int) (32 : Int) ≤ (IntKind.u64.bits : Int) := by
      have h64 : ((IntKind.u64.bits : Nat) : Int) = 64 := rfl
      rw [tmod32, h64]; omega
    have e1 : ((x.getD k 0 : Nat) : Int) * 2 ^ r = ((x.getD k 0 * 2 ^ r : Nat) : Int) := by rw [Int.natCast_mul, Int.natCast_pow]; rfl
    rw [cond_t (decide_eq_true (by omega)), idx_nl hkx, Option.bind_some, need_pos (by decide), need_pos hbits, eT, w64 (by omega), e1]
    obtain ⟨S, hSe⟩ : ∃ S, S = x.getD k 0 * 2 ^ r := ⟨_, rfl⟩
    rw [← hSe] at hS
    rw [← hSe, w64 (by omega), w32]
    have hy : S % 4294967296 = x.getD k 0 % 2 ^ (32 - r) * 2 ^ r := by rw [hSe, ← hpp, Nat.mul_comm (2 ^ r) (2 ^ (32 - r)), Nat.mul_mod_mul_right]
    have hor : S % 4294967296 ||| c = S % 4294967296 + c := by
      rw [hy, ← Nat.shiftLeft_eq, Nat.shiftLeft_add_eq_or_of_lt hc]
    have hm1 : S % 4294967296 + c < 4294967296 := by
      have h1 : x.getD k 0 % 2 ^ (32 - r) + 1 ≤ 2 ^ (32 - r) := Nat.mod_lt _ (Nat.two_pow_pos _)
      have h2 := Nat.mul_le_mul_right (2 ^ r) h1
      rw [Nat.add_mul, Nat.mul_comm (2 ^ (32 - r)) (2 ^ r), hpp, ← hy] at h2
      omega
    have e6 : ((S : Nat) : Int) / 2 ^ 32 = ((S / 4294967296 : Nat) : Int) := by
      have : (2 : Int) ^ 32 = 4294967296 := by decide
      rw [this]; omega
    have e7 : ((k : Nat) : Int) + 1 = ((k + 1 : Nat) : Int) := by omega
    have hd : S / 4294967296 < 2 ^ r := by
      rw [hSe]
      apply Nat.div_lt_of_lt_mul
      exact Nat.mul_lt_mul_of_pos_right bx hp0
    have hd2 : S / 4294967296 % 4294967296 = S / 4294967296 := Nat.mod_eq_of_lt (by omega)
    rw [bits_or32 (by omega) (by omega), hor, need_pos (by simp only [List.length_singleton]; omega), need_pos (by omega), e7, need_pos (in64 (by omega) (by omega)), e6, w32, hd2, nl_one, nl_append, ← hK]
    refine ih (k + 1) (S / 4294967296) (out ++ [S % 4294967296 + c]) (by omega) (by omega) (by simp [ho]; omega) (fun z hz => ?_) hd ?_ F (by omega)
    · rcases List.mem_append.1 hz with h | h
      · exact hok z h
      · rw [List.mem_singleton.1 h]; exact hm1
    · rw [val_append, ho, val_take_any]
      have h1 : val [S % 4294967296 + c] = S % 4294967296 + c := by simp [val]
      have h2 : S % 4294967296 + 4294967296 * (S / 4294967296) = S := Nat.mod_add_div _ _
      have h3 : 4294967296 ^ (q + (k + 1)) * (S / 4294967296) = 4294967296 ^ (q + k) * (4294967296 * (S / 4294967296)) := by rw [← Nat.add_assoc, Nat.pow_succ, Nat.mul_assoc]
      have h4 : 4294967296 ^ (q + k) * (S % 4294967296 + c) + 4294967296 ^ (q + k) * (4294967296 * (S / 4294967296)) = 4294967296 ^ (q + k) * S + 4294967296 ^ (q + k) * c := by rw [← Nat.mul_add, ← Nat.mul_add]; congr 1; omega
      have h5 : 4294967296 ^ q * (2 ^ r * (val (x.take k) + 4294967296 ^ k * x.getD k 0)) = 4294967296 ^ q * (2 ^ r * val (x.take k)) + 4294967296 ^ (q + k) * S := by
        rw [Nat.mul_add, Nat.mul_add, Nat.pow_add, hSe]
        congr 1
        rw [Nat.mul_left_comm (2 ^ r), Nat.mul_assoc, Nat.mul_comm (2 ^ r) (x.getD k 0)]
      rw [h1, h3, h5]
      omega
theorem up_p {a : Int} {n : Nat} (h : sz a + n / 32 < 1073741000) {F : Nat} (hF : 1073741826 ≤ F) : p_Whole_Up F (W a) (n : Int) = some (W (a * 2 ^ n)) := by
  unfold p_Whole_Up
  rw [W_len]
  by_cases h0 : sz a = 0
  · have ha : a = 0 := by
      have : limbs a.natAbs = [] := List.eq_nil_of_length_eq_zero h0
      rw [limbs_nil] at this; omega
    subst ha
    rw [cond_t (decide_eq_true (by omega)), Int.zero_mul]
  · have ha : a ≠ 0 := fun e => h0 (by subst e; unfold sz; rw [show (0 : Int).natAbs = 0 from rfl, limbs_zero]; rfl)
    obtain ⟨c, out, h1, h2, h3, h4, h5⟩ := up_loop (s := decide (a < 0)) (limbs_ok a.natAbs) (n := n) rfl rfl (show n / 32 + sz a < 1073741824 by omega) (limbs a.natAbs).length 0 0 (List.replicate (n / 32) 0) rfl (Nat.zero_le _) (by simp) (ok_zeros _) (Nat.two_pow_pos _) (by simp [val, val_zeros]) F (by unfold sz at h; omega)
    rw [cond_f (decide_eq_false (by omega)), tdiv32, need_pos ⟨by decide, in64 (by omega) (by omega)⟩, need_pos ⟨by decide, in64 (by omega) (by omega)⟩, need_pos (in64 (by omega) (by omega)), need_pos (in64 (by omega) (by omega)), need_pos (by omega)]
    have et : (((n / 32 : Nat) : Int)).toNat = n / 32 := by omega
    rw [et, nl_zeros]
    have h1' : iter (p_Whole_Up_l2 (W a) (n : Int)) F ((0 : Int), (0 : Int), nl (List.replicate (n / 32) 0)) = some (Sum.inl ((c : Int), nl out)) := h1
    rw [h1', Option.bind_some]
    show p_Whole_Up_k1 (W a) F ((c : Int), nl out) = _
    unfold p_Whole_Up_k1
    have hc : c < 4294967296 := Nat.lt_of_lt_of_le h4 (Nat.le_trans (Nat.pow_le_pow_right (by omega) (show n % 32 ≤ 31 by omega)) (by decide))
    have hl : (limbs a.natAbs).length = sz a := rfl
    rw [need_pos (by simp only [nl_len, List.length_singleton]; omega), nl_one, nl_append, trim_p (by simp; omega) (by simp; omega), Option.bind_some, trim_limbs _ (fun z hz => by
      rcases List.mem_append.1 hz with h | h
      · exact h3 z h
      · rw [List.mem_singleton.1 h]; exact hc)]
    have ev : val (out ++ [c]) = (a * 2 ^ n).natAbs := by
      have e1 : val [c] = c := by simp [val]
      rw [val_append, h2, e1, h5, val_limbs, Int.natAbs_mul, Int.natAbs_pow]
      have e2 : (2 : Int).natAbs = 2 := rfl
      have e3 : (4294967296 : Nat) = 2 ^ 32 := rfl
      rw [e2, e3, ← Nat.pow_mul, ← Nat.mul_assoc, ← Nat.pow_add, Nat.mul_comm, Nat.div_add_mod]
    rw [ev]
    have hpos : (0 : Int) < 2 ^ n := Int.pow_pos (by decide)
    have en : decide (a * 2 ^ n < 0) = decide (a < 0) := decide_eq_decide.2 ⟨fun h => by
      by_cases h' : a < 0
      · exact h'
      · have := Int.mul_nonneg (show 0 ≤ a by omega) (Int.le_of_lt hpos); omega, fun h => Int.mul_neg_of_neg_of_pos h hpos⟩
    show some (TSpec_Whole.mk (W a).Neg _) = some (W _)
    unfold W
    rw [en]
theorem sz_up (a : Int) (n : Nat) : sz (a * 2 ^ n) ≤ sz a + n / 32 + 1 := by
  refine sz_of ?_
  rw [Int.natAbs_mul, Int.natAbs_pow, show (2 : Int).natAbs = 2 from rfl, Nat.add_assoc, Nat.pow_add]
  have h1 := lt_sz a
  have h2 : 2 ^ n ≤ 4294967296 ^ (n / 32 + 1) := by
    rw [show (4294967296 : Nat) = 2 ^ 32 from rfl, ← Nat.pow_mul]
    exact Nat.pow_le_pow_right (by omega) (by omega)
  exact Nat.lt_of_lt_of_le (Nat.mul_lt_mul_of_pos_right h1 (Nat.two_pow_pos n)) (Nat.mul_le_mul_left _ h2)

/-! ### numbers of the machine -/
theorem two64 (u : Nat) (hu : u < 18446744073709551616) {F : Nat} (hF : 3 < F) : p_trim F [(IntKind.u32.wrap (u : Int)), (IntKind.u32.wrap ((u : Int) / 2 ^ 32))] = some (nl (limbs u)) := by
  have e6 : ((u : Nat) : Int) / 2 ^ 32 = ((u / 4294967296 : Nat) : Int) := by
    have : (2 : Int) ^ 32 = 4294967296 := by decide
    rw [this]; omega
  have e7 : u / 4294967296 % 4294967296 = u / 4294967296 := by omega
  rw [e6, w32, w32, e7]
  show p_trim F (nl [u % 4294967296, u / 4294967296]) = _
  rw [trim_p (by simp; omega) (by simp), trim_limbs _ (fun x hx => by simp at hx; omega)]
  have : val [u % 4294967296, u / 4294967296] = u := by simp [val]; omega
  rw [this]
theorem wholeOf_p {m : Int} (h1 : -9223372036854775808 ≤ m) (h2 : m ≤ 9223372036854775807) {F : Nat} (hF : 3 < F) : p_WholeOf F m = some (W m) := by
  unfold p_WholeOf
  have key : ∀ u : Nat, u = m.natAbs → p_WholeOf_k1 m F (u : Int) = some (W m) := fun u hu => by
    unfold p_WholeOf_k1
    rw [need_pos (by omega), two64 u (by omega) hF, Option.bind_some, hu]; rfl
  by_cases h : m < 0
  · rw [cond_t (decide_eq_true h)]
    have e : IntKind.u64.wrap (-(IntKind.u64.wrap m)) = ((m.natAbs : Nat) : Int) := by
      simp only [IntKind.wrap, IntKind.bits, IntKind.signed, Bool.false_and]
      simp
      omega
    rw [e]; exact key _ rfl
  · rw [cond_f (decide_eq_false h)]
    have e : IntKind.u64.wrap m = ((m.natAbs : Nat) : Int) := by
      rw [show m = ((m.natAbs : Nat) : Int) by omega, w64 (by omega)]; omega
    rw [e]; exact key _ rfl

/-- what a word stands for -/
theorem V_read {x : Nat} {q : Rat} (h : Flt.V x = some q) : x % 9223372036854775808 < 9218868437227405312 ∧
    q = Flt.sg (x / 9223372036854775808 % 2 == 1) (if x % 9223372036854775808 < 4503599627370496 then ((x % 9223372036854775808 : Nat) : Rat) * (2 : Rat) ^ (-1074 : Int)
      else ((4503599627370496 + x % 9223372036854775808 % 4503599627370496 : Nat) : Rat) * (2 : Rat) ^ ((-1074 : Int) + ((x % 9223372036854775808 / 4503599627370496 - 1 : Nat) : Int))) := by
  unfold Flt.V Ieee.Format.read at h
  simp only [Flt.double_sw, Flt.double_bn, Flt.double_ir, Flt.double_lp] at h
  by_cases h1 : x % 9223372036854775808 < 4503599627370496
  · rw [if_pos h1] at h
    refine ⟨by omega, ?_⟩
    rw [if_pos h1]
    exact (Option.some.inj h).symm
  · rw [if_neg h1] at h
    by_cases h2 : x % 9223372036854775808 < 9218868437227405312
    · rw [if_pos h2] at h
      refine ⟨h2, ?_⟩
      rw [if_neg h1]
      exact (Option.some.inj h).symm
    · rw [if_neg h2] at h
      split at h <;> cases h
theorem dyadicOf_p {x : Nat} {q : Rat} (hx : x < 18446744073709551616) (h : Flt.V x = some q) {F : Nat} (hF : 3 < F) :
    ∃ (n e : Int), p_DyadicOf F x = some ⟨W n, e⟩ ∧ q = (n : Rat) * (2 : Rat) ^ e ∧ n.natAbs < 9007199254740992 ∧ -1074 ≤ e ∧ e ≤ 1000 := by
  obtain ⟨hfin, hq⟩ := V_read h
  have eP : ∀ k : Nat, ((x : Nat) : Int) / 2 ^ k = ((x / 2 ^ k : Nat) : Int) := fun k => by rw [Int.natCast_ediv, Int.natCast_pow]; rfl
  have hE : bits .and .u64 (((x : Nat) : Int) / 2 ^ 52) (2047 : Int) = ((x / 4503599627370496 % 2048 : Nat) : Int) := by
    have := bits_and64 (a := x / 4503599627370496) (c := 2047) (by omega) (by omega)
    rw [show (2047 : Nat) = 2 ^ 11 - 1 from rfl, Nat.and_two_pow_sub_one_eq_mod] at this
    rw [eP]; exact this
  have hM : bits .and .u64 ((x : Nat) : Int) (4503599627370495 : Int) = ((x % 4503599627370496 : Nat) : Int) := by
    have := bits_and64 (a := x) (c := 4503599627370495) hx (by omega)
    rw [show (4503599627370495 : Nat) = 2 ^ 52 - 1 from rfl, Nat.and_two_pow_sub_one_eq_mod] at this
    exact this
  have wI : ∀ z : Nat, z < 9223372036854775808 → IntKind.i64.wrap (z : Int) = (z : Int) := fun z hz => wrap_in .i64 _ (by simp only [lo]; omega) (by simp only [hi]; omega)
  have key : ∀ (m : Nat) (e : Int), m < 9007199254740992 → 1 ≤ e → e ≤ 2046 → q = Flt.sg (x / 9223372036854775808 % 2 == 1) ((m : Rat) * (2 : Rat) ^ (e - 1075)) →
      ∃ (n e' : Int), p_DyadicOf_k1 x F ((m : Int), e) = some ⟨W n, e'⟩ ∧ q = (n : Rat) * (2 : Rat) ^ e' ∧ n.natAbs < 9007199254740992 ∧ -1074 ≤ e' ∧ e' ≤ 1000 := by
    intro m e hm he1 he2 hqe
    unfold p_DyadicOf_k1
    rw [need_pos (by omega), eP]
    by_cases hs : x / 9223372036854775808 = 1
    · rw [cond_t (decide_eq_true (by show ((x / 9223372036854775808 : Nat) : Int) = 1; omega)), need_pos (in64m (by simp only; omega) (by simp only; omega)), wholeOf_p (by omega) (by omega) hF, Option.bind_some, need_pos (in64m (by simp only; omega) (by simp only; omega))]
      refine ⟨-(m : Int), e - 1075, rfl, ?_, by omega, by omega, by omega⟩
      rw [hqe, hs]
      simp [Flt.sg, Rat.intCast_neg, Rat.neg_mul, Rat.intCast_natCast]
    · rw [cond_f (decide_eq_false (by show ¬ ((x / 9223372036854775808 : Nat) : Int) = 1; omega)), wholeOf_p (by simp only; omega) (by simp only; omega) hF, Option.bind_some, need_pos (in64m (by simp only; omega) (by simp only; omega))]
      refine ⟨(m : Int), e - 1075, rfl, ?_, by omega, by omega, by omega⟩
      have : x / 9223372036854775808 = 0 := by omega
      rw [hqe, this]
      simp [Flt.sg, Rat.intCast_natCast]
  unfold p_DyadicOf
  rw [need_pos (by omega), hE, wI _ (by omega), hM, wI _ (by omega), cond_f (decide_eq_false (by omega))]
  by_cases h0 : x / 4503599627370496 % 2048 = 0
  · rw [cond_t (decide_eq_true (by omega))]
    refine key _ 1 (by omega) (by omega) (by omega) ?_
    rw [hq, if_pos (by omega)]
    have : x % 9223372036854775808 = x % 4503599627370496 := by omega
    rw [this]; rfl
  · rw [cond_f (decide_eq_false (by omega)), need_pos (in64m (by omega) (by omega))]
    have e1 : ((x % 4503599627370496 : Nat) : Int) + 4503599627370496 = ((x % 4503599627370496 + 4503599627370496 : Nat) : Int) := by omega
    rw [e1]
    refine key _ ((x / 4503599627370496 % 2048 : Nat) : Int) (by omega) (by omega) (by omega) ?_
    rw [hq, if_neg (by omega)]
    have e2 : 4503599627370496 + x % 9223372036854775808 % 4503599627370496 = x % 4503599627370496 + 4503599627370496 := by omega
    have e3 : (-1074 : Int) + ((x % 9223372036854775808 / 4503599627370496 - 1 : Nat) : Int) = ((x / 4503599627370496 % 2048 : Nat) : Int) - 1075 := by omega
    rw [e2, e3]
end Go.Proofs.YtdchenbdnalbcaaGreat.Wk

namespace Go.Proofs.YtdchenbdnalbcaaGreat.Wk
open Go.Vm Limb
set_option linter.unusedVariables false
set_option linter.unusedSimpArgs false
/-- d is the number q, of m limbs at most, its exponent at most k -/
def Dyd (d : TSpec_Dyadic) (q : Rat) (m k : Nat) : Prop := ∃ (n e : Int), d = ⟨W n, e⟩ ∧ q = (n : Rat) * (2 : Rat) ^ e ∧ sz n ≤ m ∧ -(k : Int) ≤ e ∧ e ≤ k
def BigF (F : Nat) : Prop := 1073741826 ≤ F
def sgR (q : Rat) : Int := if q = 0 then 0 else if q < 0 then -1 else 1
theorem sg_dy {n e : Int} : sgR ((n : Rat) * (2 : Rat) ^ e) = if n = 0 then 0 else if n < 0 then -1 else 1 := by
  have hp : (0 : Rat) < (2 : Rat) ^ e := Flt.zpow_pos e
  have h0 : ((n : Rat) * (2 : Rat) ^ e = 0) ↔ n = 0 := by
    constructor
    · intro h
      rcases Rat.mul_eq_zero.1 h with h | h
      · exact Rat.intCast_inj.1 h
      · grind
    · rintro rfl; simp
  have h1 : ((n : Rat) * (2 : Rat) ^ e < 0) ↔ n < 0 := by
    constructor
    · intro h
      by_cases hn : n < 0
      · exact hn
      · have : (0 : Rat) ≤ (n : Rat) := by
          have := Rat.intCast_le_intCast.2 (show 0 ≤ n by omega); simpa using this
        have := Rat.mul_nonneg this (Rat.le_of_lt hp); grind
    · intro h
      have h2 : (n : Rat) < 0 := by have := Rat.intCast_lt_intCast.2 h; simpa using this
      have := Rat.mul_lt_mul_of_pos_right h2 hp
      simpa using this
  unfold sgR
  simp only [h0, h1]
theorem Dyd.mono {d : TSpec_Dyadic} {q : Rat} {m k m' k' : Nat} (h : Dyd d q m k) (hm : m ≤ m') (hk : k ≤ k') : Dyd d q m' k' := by
  obtain ⟨n, e, h1, h2, h3, h4, h5⟩ := h
  exact ⟨n, e, h1, h2, by omega, by omega, by omega⟩
theorem dyd_of {x : Nat} {q : Rat} (hx : x < 18446744073709551616) (h : Flt.V x = some q) {F : Nat} (hF : BigF F) : ∃ d, p_DyadicOf F x = some d ∧ Dyd d q 2 1074 := by
  obtain ⟨n, e, h1, h2, h3, h4, h5⟩ := dyadicOf_p hx h (F := F) (by unfold BigF at hF; omega)
  exact ⟨_, h1, n, e, rfl, h2, sz_of (by have : (4294967296 : Nat) ^ 2 = 18446744073709551616 := by decide
                                         omega), by omega, by omega⟩
theorem dyd_sign {d : TSpec_Dyadic} {q : Rat} {m k : Nat} (h : Dyd d q m k) : p_Dyadic_Sign d = some (sgR q) := by
  obtain ⟨n, e, rfl, rfl, _⟩ := h
  unfold p_Dyadic_Sign
  rw [sign_p, Option.bind_some, sg_dy]
theorem dyd_mul {a b : TSpec_Dyadic} {p q : Rat} {m k m' k' : Nat} (ha : Dyd a p m k) (hb : Dyd b q m' k') (hm : m + m' < 1000000) (hk : k + k' < 1000000) {F : Nat} (hF : BigF F) : ∃ d, p_Dyadic_Mul F a b = some d ∧ Dyd d (p * q) (m + m') (k + k') := by
  obtain ⟨n, e, rfl, rfl, h1, h2, h3⟩ := ha
  obtain ⟨n', e', rfl, rfl, h1', h2', h3'⟩ := hb
  unfold p_Dyadic_Mul
  rw [mul_p (by omega) hF, Option.bind_some, need_pos (in64m (by simp only; omega) (by simp only; omega))]
  refine ⟨_, rfl, n * n', e + e', rfl, ?_, ?_, by omega, by omega⟩
  · rw [Rat.intCast_mul, Flt.zpow_add]; grind
  · have := sz_mul n n'; omega
theorem dyd_add {a b : TSpec_Dyadic} {p q : Rat} {m k m' k' : Nat} (ha : Dyd a p m k) (hb : Dyd b q m' k') (hm : m + m' < 1000000) (hk : k + k' < 1000000) {F : Nat} (hF : BigF F) : ∃ d, p_Dyadic_Add F a b = some d ∧ Dyd d (p + q) (m + m' + (k + k') / 32 + 3) (k + k') := by
  have sa := dyd_sign ha
  have sb := dyd_sign hb
  unfold p_Dyadic_Add
  rw [sa, Option.bind_some]
  by_cases hp : p = 0
  · rw [cond_t (decide_eq_true (by unfold sgR; rw [if_pos hp]))]
    refine ⟨b, rfl, ?_⟩
    rw [hp, Rat.zero_add]; exact hb.mono (by omega) (by omega)
  · have hsp : ¬ sgR p = 0 := by unfold sgR; rw [if_neg hp]; split <;> decide
    rw [cond_f (decide_eq_false hsp), sb, Option.bind_some]
    by_cases hq : q = 0
    · rw [cond_t (decide_eq_true (by unfold sgR; rw [if_pos hq]))]
      refine ⟨a, rfl, ?_⟩
      rw [hq, Rat.add_zero]; exact ha.mono (by omega) (by omega)
    · have hsq : ¬ sgR q = 0 := by unfold sgR; rw [if_neg hq]; split <;> decide
      rw [cond_f (decide_eq_false hsq)]
      obtain ⟨n, e, rfl, rfl, h1, h2, h3⟩ := ha
      obtain ⟨n', e', rfl, rfl, h1', h2', h3'⟩ := hb
      have key : ∀ (x y : Int) (u v : Int), v ≤ u → u - v ≤ (k + k' : Nat) → sz x + sz y ≤ m + m' → ∃ N : Nat, u - v = (N : Int) ∧ p_Whole_Up F (W x) (u - v) = some (W (x * 2 ^ N)) ∧ p_Whole_Add F (W (x * 2 ^ N)) (W y) = some (W (x * 2 ^ N + y)) ∧
          ((x * 2 ^ N + y : Int) : Rat) * (2 : Rat) ^ v = (x : Rat) * (2 : Rat) ^ u + (y : Rat) * (2 : Rat) ^ v ∧ sz (x * 2 ^ N + y) ≤ m + m' + (k + k') / 32 + 3 := by
        intro x y u v huv hk2 hs
        obtain ⟨N, hN⟩ : ∃ N : Nat, u - v = (N : Int) := ⟨(u - v).toNat, by omega⟩
        have hsz := sz_up x N
        have hNk : N / 32 ≤ (k + k') / 32 := Nat.div_le_div_right (by omega)
        have hF' : 1073741826 ≤ F := hF
        refine ⟨N, hN, by rw [hN]; exact up_p (by omega) hF, add_p (by omega) (by omega) hF, ?_, ?_⟩
        · have e1 : u = v + (N : Int) := by omega
          rw [e1, Flt.zpow_add, Flt.zpow_nat, Rat.intCast_add, Rat.intCast_mul, Rat.intCast_pow]
          have e2 : ((2 ^ N : Nat) : Rat) = (2 : Rat) ^ N := Rat.natCast_pow 2 N
          have e3 : ((2 : Int) : Rat) = 2 := rfl
          rw [e2, e3]; grind
        · have := sz_add (x * 2 ^ N) y
          omega
      by_cases he : e' < e
      · obtain ⟨N, k0, k1, k2, k3, k4⟩ := key n n' e e' (by omega) (by omega) (by omega)
        rw [cond_t (decide_eq_true he), need_pos (in64m (by simp only; omega) (by simp only; omega))]
        simp only
        rw [k1, Option.bind_some, k2, Option.bind_some]
        exact ⟨_, rfl, _, e', rfl, k3.symm, k4, by omega, by omega⟩
      · obtain ⟨N, k0, k1, k2, k3, k4⟩ := key n' n e' e (by omega) (by omega) (by omega)
        rw [cond_f (decide_eq_false he), need_pos (in64m (by simp only; omega) (by simp only; omega))]
        simp only
        rw [k1, Option.bind_some, k2, Option.bind_some]
        refine ⟨_, rfl, _, e, rfl, ?_, k4, by omega, by omega⟩
        rw [k3, Rat.add_comm]
end Go.Proofs.YtdchenbdnalbcaaGreat.Wk

namespace Go.Proofs.YtdchenbdnalbcaaGreat.Wk
open Go.Vm Limb
set_option linter.unusedVariables false
set_option linter.unusedSimpArgs false
theorem minus_p (n : Int) : p_Whole_Minus (W n) = some (W (-n)) := by
  unfold p_Whole_Minus W
  simp only
  have hz : (nl (limbs n.natAbs)).length = 0 ↔ n = 0 := by
    rw [nl_len, List.length_eq_zero_iff, limbs_nil, Int.natAbs_eq_zero]
  by_cases h : n < 0
  · rw [show (!decide (n < 0)) = false by simp [h], Int.natAbs_neg, show decide (-n < 0) = false by simp; omega]; rfl
  · rw [show (!decide (n < 0)) = true by simp [h], Int.natAbs_neg]
    simp only [cond_true]
    congr 2
    apply decide_eq_decide.2
    constructor
    · intro h1
      have : ¬ n = 0 := fun e => by have := hz.2 e; omega
      omega
    · intro h1
      have : ¬ (nl (limbs n.natAbs)).length = 0 := fun e => by have := hz.1 e; omega
      omega
theorem dyd_minus {d : TSpec_Dyadic} {q : Rat} {m k : Nat} (h : Dyd d q m k) : ∃ d', p_Dyadic_Minus d = some d' ∧ Dyd d' (-q) m k := by
  obtain ⟨n, e, rfl, rfl, h1, h2, h3⟩ := h
  unfold p_Dyadic_Minus
  rw [minus_p, Option.bind_some]
  refine ⟨_, rfl, -n, e, rfl, ?_, by rw [sz_neg]; exact h1, h2, h3⟩
  rw [Rat.intCast_neg]; grind
theorem dyd_sub {a b : TSpec_Dyadic} {p q : Rat} {m k m' k' : Nat} (ha : Dyd a p m k) (hb : Dyd b q m' k') (hm : m + m' < 1000000) (hk : k + k' < 1000000) {F : Nat} (hF : BigF F) : ∃ d, p_Dyadic_Sub F a b = some d ∧ Dyd d (p - q) (m + m' + (k + k') / 32 + 3) (k + k') := by
  obtain ⟨b', h1, hb'⟩ := dyd_minus hb
  obtain ⟨d, h2, hd⟩ := dyd_add ha hb' hm hk hF
  refine ⟨d, ?_, ?_⟩
  · unfold p_Dyadic_Sub; rw [h1, Option.bind_some, h2, Option.bind_some]
  · rw [Rat.sub_eq_add_neg]; exact hd
theorem dyd_cmp {a b : TSpec_Dyadic} {p q : Rat} {m k m' k' : Nat} (ha : Dyd a p m k) (hb : Dyd b q m' k') (hm : m + m' < 1000000) (hk : k + k' < 1000000) {F : Nat} (hF : BigF F) : p_Dyadic_Cmp F a b = some (sgR (p - q)) := by
  obtain ⟨d, h1, hd⟩ := dyd_sub ha hb hm hk hF
  unfold p_Dyadic_Cmp
  rw [h1, Option.bind_some, dyd_sign hd, Option.bind_some]
theorem sgR_neg {q : Rat} : sgR q < 0 ↔ q < 0 := by
  unfold sgR
  split
  · rename_i h; subst h; simp
  · split
    · rename_i h; simp [h]
    · rename_i h; simp [h]
theorem sgR_le {q : Rat} : sgR q ≤ 0 ↔ q ≤ 0 := by
  unfold sgR
  split
  · rename_i h; subst h; simp
  · split
    · rename_i h; simp; grind
    · rename_i h; simp; grind
theorem sgR_zero {q : Rat} : sgR q = 0 ↔ q = 0 := by
  unfold sgR
  split
  · rename_i h; simp [h]
  · split
    · rename_i h1 h; simp [h1]
    · rename_i h1 h; simp [h1]
theorem sgR_int (n : Int) : sgR (n : Rat) = if n = 0 then 0 else if n < 0 then -1 else 1 := by
  have := @sg_dy n 0
  rw [Flt.zpow_zero', Rat.mul_one] at this
  exact this
end Go.Proofs.YtdchenbdnalbcaaGreat.Wk

namespace Go.Proofs.YtdchenbdnalbcaaGreat.Wk
open Go.Vm
set_option linter.unusedVariables false
set_option linter.unusedSimpArgs false
theorem wholeTo_p {F : Nat} (hF : BigF F) (m : Nat) (l : List Nat) (hl : l.length < 1000) : p_wholeTo F m l = some (l.all (Flt.wT m)) := by
  have hF' : 1073741826 ≤ F := hF
  unfold p_wholeTo
  have outer : iter (p_wholeTo_l2 m l) F (0 : Int) = some (if l.all (Flt.wT m) = true then Sum.inl () else Sum.inr false) := by
    refine scan_loop0 l _ _ _ (fun K k hk => ?_) (fun K k x hx => ?_) (by omega)
    · unfold p_wholeTo_l2; rw [cond_f (decide_eq_false (by omega))]
    · have hk := (List.getElem?_eq_some_iff.1 hx).1
      unfold p_wholeTo_l2
      rw [cond_t (decide_eq_true (by omega)), idx_get hx, Option.bind_some, succ_cast]
      cases g1 : feq x (Flt.truncN x) with
      | false => rw [cond_t (show (!false) = true from rfl), if_neg (by simp [Flt.wT, g1])]
      | true =>
        rw [cond_f (show (!true) = false from rfl)]
        cases g2 : fgt (Flt.fabs x) m with
        | true => rw [cond_t rfl, if_neg (by simp [Flt.wT, g2])]
        | false => rw [cond_f rfl, need_pos (in64 (by omega) (by omega)), if_pos (by simp [Flt.wT, g1, g2])]
  rw [outer, Option.bind_some]
  split
  · rename_i h; rw [h, aft_inl]; rfl
  · rename_i h; rw [aft_inr, show l.all (Flt.wT m) = false by simpa using h]
def planeOk (m : Nat) (p : TImpl_P2) : Bool := Flt.wT m p.X && Flt.wT m p.Y
theorem planeTo_p {F : Nat} (hF : BigF F) (m : Nat) (l : List TImpl_P2) (hl : l.length < 1000) : p_planeTo F m l = some (l.all (planeOk m)) := by
  have hF' : 1073741826 ≤ F := hF
  unfold p_planeTo
  have outer : iter (p_planeTo_l2 m l F) F (0 : Int) = some (if l.all (planeOk m) = true then Sum.inl () else Sum.inr false) := by
    refine scan_loop0 l _ _ _ (fun K k hk => ?_) (fun K k x hx => ?_) (by omega)
    · unfold p_planeTo_l2; rw [cond_f (decide_eq_false (by omega))]
    · have hk := (List.getElem?_eq_some_iff.1 hx).1
      unfold p_planeTo_l2
      rw [cond_t (decide_eq_true (by omega)), idx_get hx, Option.bind_some, succ_cast, wholeTo_p hF m _ (by simp), Option.bind_some]
      have e : [x.X, x.Y].all (Flt.wT m) = planeOk m x := by simp [planeOk]
      rw [e]
      cases planeOk m x with
      | false => rw [cond_t (show (!false) = true from rfl), if_neg (by simp)]
      | true => rw [cond_f (show (!true) = false from rfl), need_pos (in64 (by omega) (by omega)), if_pos rfl]
  rw [outer, Option.bind_some]
  split
  · rename_i h; rw [h, aft_inl]; rfl
  · rename_i h; rw [aft_inr, show l.all (planeOk m) = false by simpa using h]
/-- p is the place (x, y), whole -/
def At (p : TImpl_P2) (x y : Int) : Prop := Flt.I p.X x ∧ Flt.I p.Y y
theorem at_of {m : Nat} {k : Int} (hk : Flt.I m k) (hk0 : 0 ≤ k) (hk1 : k ≤ 4503599627370496) {p : TImpl_P2} (h : planeOk m p = true) : ∃ x y, At p x y ∧ (-k ≤ x ∧ x ≤ k) ∧ (-k ≤ y ∧ y ≤ k) := by
  simp only [planeOk, Bool.and_eq_true] at h
  obtain ⟨x, h1, h2⟩ := Flt.wT_int hk hk0 hk1 (Flt.fneg_int hk) h.1
  obtain ⟨y, h3, h4⟩ := Flt.wT_int hk hk0 hk1 (Flt.fneg_int hk) h.2
  exact ⟨x, y, ⟨h1, h3⟩, h2, h4⟩
/-- d is the exact point (x, y) -/
def DydAt (d : TSpec_Point) (x y : Rat) : Prop := Dyd d.X x 2 1074 ∧ Dyd d.Y y 2 1074
end Go.Proofs.YtdchenbdnalbcaaGreat.Wk

set_option linter.unusedVariables false
set_option linter.unusedSimpArgs false
namespace Go.Proofs.YtdchenbdnalbcaaGreat.Wk
open Go.Vm
/-- A loop through a list that is left with badv at the first element that is not p. -/
theorem fold_exit {α σ St V T : Type} (L : List α) (b : (St → Option (Sum V T)) → St → Option (Sum V T)) (mk : Nat → σ → St) (step : σ → α → σ) (p : α → Bool) (badv : T) (out : σ → V) (Inv : Nat → σ → Prop)
    (hend : ∀ K s, Inv L.length s → b K (mk L.length s) = some (.inl (out s)))
    (hstep : ∀ K i x s, L[i]? = some x → Inv i s → b K (mk i s) = if p x = true then K (mk (i + 1) (step s x)) else some (.inr badv))
    (hinv : ∀ i x s, L[i]? = some x → Inv i s → p x = true → Inv (i + 1) (step s x)) :
    ∀ (F i : Nat) (s : σ), L.length - i < F → i ≤ L.length → Inv i s → iter b F (mk i s) = some (if (L.drop i).all p = true then .inl (out ((L.drop i).foldl step s)) else .inr badv) := by
  intro F
  induction F with
  | zero => intro i s h; omega
  | succ F ih =>
    intro i s h hi hs
    show b (iter b F) (mk i s) = _
    by_cases hk : i < L.length
    · have hx : L[i]? = some L[i] := List.getElem?_eq_getElem hk
      rw [hstep _ i _ s hx hs, List.drop_eq_getElem_cons hk, List.all_cons, List.foldl_cons]
      cases hb : p L[i] with
      | false => rw [if_neg (by simp), Bool.false_and, if_neg (by simp)]
      | true => rw [if_pos rfl, Bool.true_and]; exact ih (i + 1) _ (by omega) (by omega) (hinv i _ s hx hs hb)
    · have : i = L.length := by omega
      subst this
      rw [hend _ s hs, List.drop_length]; rfl
/-- The same, without an exit. -/
theorem fold_all {α σ St V T : Type} (L : List α) (b : (St → Option (Sum V T)) → St → Option (Sum V T)) (mk : Nat → σ → St) (step : σ → α → σ) (out : σ → V) (Inv : Nat → σ → Prop)
    (hend : ∀ K s, Inv L.length s → b K (mk L.length s) = some (.inl (out s)))
    (hstep : ∀ K i x s, L[i]? = some x → Inv i s → b K (mk i s) = K (mk (i + 1) (step s x)))
    (hinv : ∀ i x s, L[i]? = some x → Inv i s → Inv (i + 1) (step s x)) :
    ∀ (F i : Nat) (s : σ), L.length - i < F → i ≤ L.length → Inv i s → iter b F (mk i s) = some (.inl (out ((L.drop i).foldl step s))) := by
  intro F
  induction F with
  | zero => intro i s h; omega
  | succ F ih =>
    intro i s h hi hs
    show b (iter b F) (mk i s) = _
    by_cases hk : i < L.length
    · have hx : L[i]? = some L[i] := List.getElem?_eq_getElem hk
      rw [hstep _ i _ s hx hs, List.drop_eq_getElem_cons hk, List.foldl_cons]
      exact ih (i + 1) _ (by omega) (by omega) (hinv i _ s hx hs)
    · have : i = L.length := by omega
      subst this
      rw [hend _ s hs, List.drop_length]; rfl
/-- The same, where only the bound counts. -/
theorem fold_ex {α σ St V T : Type} (L : List α) (b : (St → Option (Sum V T)) → St → Option (Sum V T)) (mk : Nat → σ → St) (out : σ → V) (Inv : Nat → σ → Prop)
    (hend : ∀ K s, Inv L.length s → b K (mk L.length s) = some (.inl (out s)))
    (hstep : ∀ i x s, L[i]? = some x → Inv i s → ∃ s', Inv (i + 1) s' ∧ ∀ K, b K (mk i s) = K (mk (i + 1) s')) :
    ∀ (F i : Nat) (s : σ), L.length - i < F → i ≤ L.length → Inv i s → ∃ s', Inv L.length s' ∧ iter b F (mk i s) = some (.inl (out s')) := by
  intro F
  induction F with
  | zero => intro i s h; omega
  | succ F ih =>
    intro i s h hi hs
    show ∃ s', Inv L.length s' ∧ b (iter b F) (mk i s) = _
    by_cases hk : i < L.length
    · have hx : L[i]? = some L[i] := List.getElem?_eq_getElem hk
      obtain ⟨s', h1, h2⟩ := hstep i _ s hx hs
      rw [h2]
      exact ih (i + 1) _ (by omega) (by omega) h1
    · have : i = L.length := by omega
      subst this
      exact ⟨s, hs, hend _ s hs⟩
theorem dlt {i n : Nat} (h : i < n) : decide ((i : Int) < (n : Int)) = true := decide_eq_true (by omega)
theorem dge {n : Nat} : decide ((n : Int) < (n : Int)) = false := decide_eq_false (by omega)
theorem mem_get {α : Type} {l : List α} {i : Nat} {x : α} (h : l[i]? = some x) : x ∈ l := List.mem_of_getElem? h
theorem lt_get {α : Type} {l : List α} {i : Nat} {x : α} (h : l[i]? = some x) : i < l.length := (List.getElem?_eq_some_iff.1 h).1
theorem i64s {k : Nat} (h : k < 4611686018427387904) : inI .i64 ((k : Int) + 1) := in64 (by omega) (by omega)
end Go.Proofs.YtdchenbdnalbcaaGreat.Wk

set_option linter.unusedVariables false
set_option linter.unusedSimpArgs false
namespace Go.Proofs.YtdchenbdnalbcaaGreat.Wk
open Go.Vm
/-- A loop through a list that either ends, with an invariant, or is left with one value. -/
theorem fold_or {α σ St V T : Type} (L : List α) (b : (St → Option (Sum V T)) → St → Option (Sum V T)) (mk : Nat → σ → St) (out : σ → V) (badv : T) (Inv : Nat → σ → Prop)
    (hend : ∀ K s, Inv L.length s → b K (mk L.length s) = some (.inl (out s)))
    (hstep : ∀ i x s, L[i]? = some x → Inv i s → (∃ s', Inv (i + 1) s' ∧ ∀ K, b K (mk i s) = K (mk (i + 1) s')) ∨ ∀ K, b K (mk i s) = some (.inr badv)) :
    ∀ (F i : Nat) (s : σ), L.length - i < F → i ≤ L.length → Inv i s → (∃ s', Inv L.length s' ∧ iter b F (mk i s) = some (.inl (out s'))) ∨ iter b F (mk i s) = some (.inr badv) := by
  intro F
  induction F with
  | zero => intro i s h; omega
  | succ F ih =>
    intro i s h hi hs
    show (∃ s', Inv L.length s' ∧ b (iter b F) (mk i s) = _) ∨ b (iter b F) (mk i s) = _
    by_cases hk : i < L.length
    · have hx : L[i]? = some L[i] := List.getElem?_eq_getElem hk
      rcases hstep i _ s hx hs with ⟨s', h1, h2⟩ | h2
      · rw [h2]; exact ih (i + 1) _ (by omega) (by omega) h1
      · rw [h2]; exact .inr rfl
    · have : i = L.length := by omega
      subst this
      exact .inl ⟨s, hs, hend _ s hs⟩
def strideN (k : Int) : Nat := if k = 1 then 2 else if k = 2 then 3 else if k = 3 then 3 else k.toNat
theorem stride_p {k : Int} (h1 : 1 ≤ k) (h2 : k ≤ 8) : p_Stride k = some (strideN k : Int) ∧ p_Layout_Stride k = some (strideN k : Int) ∧ 2 ≤ strideN k ∧ strideN k ≤ 8 := by
  unfold p_Stride p_Layout_Stride strideN
  have : k = 1 ∨ k = 2 ∨ k = 3 ∨ k = 4 ∨ k = 5 ∨ k = 6 ∨ k = 7 ∨ k = 8 := by omega
  rcases this with rfl | rfl | rfl | rfl | rfl | rfl | rfl | rfl <;> exact ⟨rfl, rfl, by decide, by decide⟩
/-- place number i of a row -/
def plc (s : Nat) (l : List Nat) (i : Nat) : TImpl_P2 := ⟨l.getD (i * s) 0, l.getD (i * s + 1) 0⟩
theorem mul_lt' {s m i : Nat} (hi : i < m) (hs : 2 ≤ s) : i * s + s ≤ m * s := by
  have : (i + 1) * s ≤ m * s := Nat.mul_le_mul_right s hi
  rw [Nat.add_mul] at this
  omega
theorem flat_loop {l : List Nat} {s m : Nat} (hs : 2 ≤ s) (hl : l.length = m * s) (hb : l.length < 2147483648) : ∀ (F i : Nat), m - i < F → i ≤ m →
    iter (p_flatTo_l4 l (s : Int)) F ((((i * s : Nat) : Int), (List.range i).map (plc s l)) : Int × List TImpl_P2) = some (Sum.inl ((List.range m).map (plc s l))) := by
  intro F
  induction F with
  | zero => intro i h; omega
  | succ F ih =>
    intro i h him
    have hms : i * s ≤ m * s := Nat.mul_le_mul_right s him
    show p_flatTo_l4 l (s : Int) (iter (p_flatTo_l4 l (s : Int)) F) _ = _
    generalize hK : iter (p_flatTo_l4 l (s : Int)) F = K at *
    unfold p_flatTo_l4
    simp only
    by_cases hi : i < m
    · have hle := mul_lt' hi hs
      have him2 : i ≤ i * s := Nat.le_mul_of_pos_right i (by omega)
      rw [cond_t (decide_eq_true (by omega)), idx_lt l (i * s) 0 (by omega), Option.bind_some, need_pos (in64 (by omega) (by omega)), succ_cast, idx_lt l (i * s + 1) 0 (by omega), Option.bind_some,
        need_pos (by simp; omega), need_pos (in64 (by omega) (by omega))]
      have e1 : (((i * s : Nat) : Int) + (s : Int)) = (((i + 1) * s : Nat) : Int) := by rw [Nat.add_mul]; omega
      have e2 : (List.range i).map (plc s l) ++ [(TImpl_P2.mk (l.getD (i * s) 0) (l.getD (i * s + 1) 0))] = (List.range (i + 1)).map (plc s l) := by
        rw [List.range_succ, List.map_append]; rfl
      rw [e1, e2]
      exact ih (i + 1) (by omega) hi
    · have : i = m := by omega
      subst this
      rw [cond_f (decide_eq_false (by omega))]
theorem flat_p {F : Nat} (hF : BigF F) {l : List Nat} {k : Int} (h1 : 1 ≤ k) (h2 : k ≤ 8) :
    (p_flatTo F k l 4634204016564240384 100 = some ([], false)) ∨ ∃ m, l.length = m * strideN k ∧ m ≤ 100 ∧ p_flatTo F k l 4634204016564240384 100 = some ((List.range m).map (plc (strideN k) l), ((List.range m).map (plc (strideN k) l)).all (planeOk 4634204016564240384)) := by
  have hF' : 1073741826 ≤ F := hF
  obtain ⟨e1, _, hs, hs8⟩ := stride_p h1 h2
  generalize strideN k = s at *
  unfold p_flatTo
  rw [cond_f (decide_eq_false (by omega))]
  unfold p_flatTo_k1
  rw [cond_f (decide_eq_false (by omega)), e1, Option.bind_some, need_pos (by omega)]
  have et : Int.tmod ((l.length : Nat) : Int) (s : Int) = ((l.length % s : Nat) : Int) := by rw [Int.tmod_eq_emod_of_nonneg (by omega)]; rfl
  rw [et]
  by_cases hd : l.length % s = 0
  · rw [cond_f (show (!decide (((l.length % s : Nat) : Int) = 0)) = false by simp [hd]), need_pos (in64 (by omega) (by omega))]
    unfold p_flatTo_k2
    by_cases h60 : ((s : Int) * 100) < ((l.length : Nat) : Int)
    · rw [cond_t (decide_eq_true h60)]; exact .inl rfl
    · rw [cond_f (decide_eq_false h60)]
      right
      have hl : l.length = l.length / s * s := by
        have := Nat.div_add_mod l.length s
        rw [hd, Nat.mul_comm] at this; omega
      generalize hm : l.length / s = m at *
      have hm100 : m ≤ 100 := by
        rcases Nat.lt_or_ge 100 m with h | h
        · exfalso
          have := Nat.mul_le_mul_right s h
          have e : (Nat.succ 100) * s = 101 * s := rfl
          omega
        · exact h
      have hb : m * s ≤ 100 * 8 := Nat.mul_le_mul hm100 hs8
      refine ⟨m, hl, hm100, ?_⟩
      have hlp := flat_loop hs hl (by omega) F 0 (by omega) (by omega)
      simp only [Nat.zero_mul, List.range_zero, List.map_nil] at hlp
      rw [show ((0 : Int), ([] : List TImpl_P2)) = (((0 : Nat) : Int), []) from rfl, hlp, Option.bind_some, aft_inl]
      unfold p_flatTo_k3
      rw [planeTo_p hF _ _ (by simp; omega), Option.bind_some]
  · rw [cond_t (show (!decide (((l.length % s : Nat) : Int) = 0)) = true by simp; omega)]
    unfold p_flatTo_k2
    exact .inl rfl
theorem K6 : Flt.I 4634204016564240384 64 ∧ Flt.I (fneg 4634204016564240384) (-64) := Flt.wordI 64 (by decide) (by decide +kernel) (by decide +kernel)
def B64 (z : Int × Int) : Prop := (-64 ≤ z.1 ∧ z.1 ≤ 64) ∧ (-64 ≤ z.2 ∧ z.2 ≤ 64)
/-- a row of whole places, and these -/
def Whole2 (s : Nat) (l : List Nat) (P : List (Int × Int)) : Prop := l.length = P.length * s ∧ ∀ (i : Nat) z, P[i]? = some z → At (plc s l i) z.1 z.2 ∧ B64 z
theorem whole_of {s m : Nat} {l : List Nat} (hl : l.length = m * s) (h : ((List.range m).map (plc s l)).all (planeOk 4634204016564240384) = true) : ∃ P : List (Int × Int), P.length = m ∧ Whole2 s l P := by
  have H : ∀ i, i < m → ∃ z : Int × Int, At (plc s l i) z.1 z.2 ∧ B64 z := fun i hi => by
    have := List.all_eq_true.1 h (plc s l i) (List.mem_map.2 ⟨i, List.mem_range.2 hi, rfl⟩)
    obtain ⟨x, y, h1, h2, h3⟩ := at_of K6.1 (by omega) (by omega) this
    exact ⟨(x, y), h1, h2, h3⟩
  refine ⟨(List.range m).map fun i => if h : i < m then Classical.choose (H i h) else (0, 0), by simp, by simp [hl], fun i z hz => ?_⟩
  rw [List.getElem?_map, Option.map_eq_some_iff] at hz
  obtain ⟨j, hj, hz⟩ := hz
  have hi : i < m := by
    have := (List.getElem?_eq_some_iff.1 hj).1
    simpa using this
  rw [List.getElem?_range hi] at hj
  cases hj
  rw [dif_pos hi] at hz
  subst hz
  exact Classical.choose_spec (H i hi)
/-- d is the exact point (x, y) -/
def LineR (pts : List TSpec_Point) (P : List (Int × Int)) : Prop := pts.length = P.length ∧ ∀ (i : Nat) p z, pts[i]? = some p → P[i]? = some z → DydAt p z.1 z.2 ∧ B64 z
theorem getD_mem {l : List Nat} {B : Nat} (h : ∀ x, x ∈ l → x < B) (hB : 0 < B) (i : Nat) : l.getD i 0 < B := by
  rw [List.getD_eq_getElem?_getD]
  cases e : l[i]? with
  | none => exact hB
  | some x => exact h x (List.mem_of_getElem? e)
theorem places_p {F : Nat} (hF : BigF F) {s : Nat} {l : List Nat} {P : List (Int × Int)} (hs : 2 ≤ s) (hs8 : s ≤ 8) (h : Whole2 s l P) (hP : P.length ≤ 100) (hw : ∀ x, x ∈ l → x < 18446744073709551616) :
    ∃ pts, p_Places F l (s : Int) = some pts ∧ LineR pts P := by
  have hF' : 1073741826 ≤ F := hF
  obtain ⟨hl, hz⟩ := h
  have hb : P.length * s ≤ 100 * 8 := Nat.mul_le_mul hP hs8
  obtain ⟨pts, ⟨i1, i2⟩, h2⟩ := fold_ex P (p_Places_l2 l (s : Int) F) (fun i (st : List TSpec_Point) => (((i * s : Nat) : Int), st)) (fun st => st)
    (fun i st => st.length = i ∧ ∀ (j : Nat) p z, st[j]? = some p → P[j]? = some z → DydAt p z.1 z.2 ∧ B64 z)
    (fun K st hst => by
      unfold p_Places_l2
      rw [cond_t (decide_eq_true (by omega)), need_pos (in64 (by simp only; omega) (by simp only; omega))]
      unfold p_Places_k3
      rw [cond_f (decide_eq_false (by simp only; omega))])
    (fun i z st hx hst => by
      have hi := lt_get hx
      have hle := mul_lt' hi hs
      obtain ⟨⟨a1, a2⟩, hB⟩ := hz i z hx
      obtain ⟨d1, f1, k1⟩ := dyd_of (getD_mem hw (by omega) _) a1 hF
      obtain ⟨d2, f2, k2⟩ := dyd_of (getD_mem hw (by omega) _) a2 hF
      refine ⟨st ++ [⟨d1, d2⟩], ⟨by simp [hst.1], fun j p z' hp hz' => ?_⟩, fun K => ?_⟩
      · rw [List.getElem?_append] at hp
        split at hp
        · exact hst.2 j p z' hp hz'
        · rename_i hj
          have hj0 : j - st.length = 0 := by
            have := (List.getElem?_eq_some_iff.1 hp).1
            simp at this; omega
          have hji : j = i := by have := hst.1; omega
          rw [hj0] at hp
          subst hji
          rw [hx] at hz'
          cases hz'
          simp at hp
          subst hp
          exact ⟨⟨k1, k2⟩, hB⟩
      · unfold p_Places_l2
        rw [cond_t (decide_eq_true (by omega)), need_pos (in64 (by simp only; omega) (by simp only; omega))]
        unfold p_Places_k3
        have hl1 := hst.1
        have e2 : (((i * s : Nat) : Int) + (s : Int)) = (((i + 1) * s : Nat) : Int) := by rw [Nat.add_mul]; omega
        rw [cond_t (decide_eq_true (by simp only; omega))]
        simp only
        rw [idx_lt l (i * s) 0 (by omega), Option.bind_some, need_pos (in64 (by omega) (by omega)), succ_cast, idx_lt l (i * s + 1) 0 (by omega), Option.bind_some]
        have ep : p_PointOf F (l.getD (i * s) 0) (l.getD (i * s + 1) 0) = some ⟨d1, d2⟩ := by
          unfold p_PointOf
          rw [show p_DyadicOf F (l.getD (i * s) 0) = some d1 from f1, Option.bind_some, show p_DyadicOf F (l.getD (i * s + 1) 0) = some d2 from f2]
          rfl
        rw [ep, Option.bind_some, need_pos (by simp; omega), need_pos (in64 (by omega) (by omega)), e2])
    F 0 [] (by omega) (by omega) ⟨rfl, fun j p z h => by simp at h⟩
  refine ⟨pts, ?_, i1, i2⟩
  unfold p_Places
  rw [show ((0 : Int), ([] : List TSpec_Point)) = (((0 * s : Nat) : Int), []) by rw [Nat.zero_mul]; rfl, h2, Option.bind_some, aft_inl]
  rfl
theorem lines_p {F : Nat} (hF : BigF F) {s : Nat} {l : List Nat} {pts : List TSpec_Point} (h : p_Places F l (s : Int) = some pts) (hb : l.length < 2147483648) : p_Lines F l [((l.length : Nat) : Int)] (s : Int) = some [pts] := by
  have hF' : 1073741826 ≤ F := hF
  obtain ⟨G, rfl⟩ : ∃ G, F = G + 2 := ⟨F - 2, by omega⟩
  unfold p_Lines
  have e : iter (p_Lines_l2 l [((l.length : Nat) : Int)] (s : Int) (G + 2)) (G + 2) ((0 : Int), (0 : Int), ([] : List (List TSpec_Point))) = some (Sum.inl [pts]) := by
    show p_Lines_l2 l [((l.length : Nat) : Int)] (s : Int) (G + 2) (fun st => p_Lines_l2 l [((l.length : Nat) : Int)] (s : Int) (G + 2) (iter (p_Lines_l2 l [((l.length : Nat) : Int)] (s : Int) (G + 2)) G) st) ((0 : Int), (0 : Int), ([] : List (List TSpec_Point))) = _
    generalize iter (p_Lines_l2 l [((l.length : Nat) : Int)] (s : Int) (G + 2)) G = K
    conv => lhs; unfold p_Lines_l2
    have i0 : idx [((l.length : Nat) : Int)] (0 : Int) = some ((l.length : Nat) : Int) := rfl
    simp only
    rw [cond_t (by rfl), i0, Option.bind_some, cond_t (decide_eq_true (by omega))]
    unfold p_Lines_k3
    have ed : (l.drop ((0 : Int)).toNat).take ((((l.length : Nat) : Int)).toNat - ((0 : Int)).toNat) = l := by simp
    rw [cond_t (decide_eq_true (by omega)), need_pos ⟨⟨by simp, by omega⟩, by simp, by simp⟩, ed, h, Option.bind_some, need_pos (by simp), need_pos (in64 (by simp) (by simp))]
    rfl
  rw [e, Option.bind_some, aft_inl]
  rfl
theorem good_p {F : Nat} (hF : BigF F) {g : TImpl_Geom} (hk : g.Kind = 8) (h1 : 1 ≤ g.Layout) (h2 : g.Layout ≤ 8) : ∃ b, p_Good F g = some b := by
  have hF' : 1073741826 ≤ F := hF
  obtain ⟨G, rfl⟩ : ∃ G, F = G + 1 := ⟨F - 1, by omega⟩
  obtain ⟨e1, _, hs, hs8⟩ := stride_p h1 h2
  have k4 : ∀ y, p_Good_k4 g G y () = some (decide (((g.Ends.length : Nat) : Int) = (0 : Int))) := fun y => by
    unfold p_Good_k4 p_Good_k5
    rw [hk]; rfl
  show ∃ b, p_Good_b _ G g = some b
  unfold p_Good_b
  rw [e1, Option.bind_some, cond_f (by rw [hk]; rfl), cond_f (decide_eq_false (by omega)), need_pos (by omega), k4]
  cases (!decide ((Int.tmod ((g.Flat.length : Nat) : Int) (strideN g.Layout : Int)) = (0 : Int))) with
  | true => exact ⟨_, rfl⟩
  | false =>
    rw [cond_false]
    cases (decide ((0 : Int) < ((g.Kids.length : Nat) : Int))) with
    | true => exact ⟨_, rfl⟩
    | false =>
      rw [cond_false]
      cases (decide ((0 : Int) < ((g.Endss.length : Nat) : Int))) with
      | true => rw [cond_true, cond_t (by rw [hk]; rfl)]; exact ⟨_, rfl⟩
      | false => exact ⟨_, rfl⟩
end Go.Proofs.YtdchenbdnalbcaaGreat.Wk

set_option linter.unusedVariables false
set_option linter.unusedSimpArgs false
namespace Go.Proofs.YtdchenbdnalbcaaGreat.Wk
open Go.Vm
def GeoR (a0 : Int) (g : TImpl_Geom) (P : List (Int × Int)) : Prop := g.Kind = 8 ∧ g.Layout = a0 ∧ Whole2 (strideN a0) g.Flat P ∧ P.length ≤ 100 ∧ 1 ≤ P.length
def Kin (a0 : Int) (gs : List TImpl_Geom) (i : Nat) (s : Int × List (List TSpec_Point) × List (List (Int × Int))) : Prop :=
  s.2.2.length = i ∧ s.2.1.length = i ∧ (0 ≤ s.1 ∧ s.1 ≤ 100 * i) ∧ ∀ (j : Nat) pts P g, s.2.1[j]? = some pts → s.2.2[j]? = some P → gs[j]? = some g → LineR pts P ∧ GeoR a0 g P
theorem kindred_p {F : Nat} (hF : BigF F) {a0 : Int} {gs : List TImpl_Geom} (hw : ∀ g, g ∈ gs → ∀ x, x ∈ g.Flat → x < 18446744073709551616) :
    (p_kindred F 8 a0 gs = some ([], false)) ∨ ∃ s, p_kindred F 8 a0 gs = some (s.2.1, decide (s.1 ≤ 100)) ∧ (1 ≤ a0 ∧ a0 ≤ 8) ∧ gs.length ≤ 20 ∧ Kin a0 gs gs.length s := by
  have hF' : 1073741826 ≤ F := hF
  unfold p_kindred
  by_cases h1 : a0 < 1
  · rw [cond_t (decide_eq_true h1)]; exact .inl rfl
  rw [cond_f (decide_eq_false h1)]
  by_cases h2 : 8 < a0
  · rw [cond_t (decide_eq_true h2)]; exact .inl rfl
  rw [cond_f (decide_eq_false h2)]
  by_cases h3 : (20 : Int) < ((gs.length : Nat) : Int)
  · rw [decide_eq_true h3]; exact .inl rfl
  rw [decide_eq_false h3]
  have a1 : 1 ≤ a0 := by omega
  have a8 : a0 ≤ 8 := by omega
  obtain ⟨e1, _, hs2, hs8⟩ := stride_p a1 a8
  unfold p_kindred_k1
  rw [cond_false, e1, Option.bind_some]
  have hl := fold_or gs (p_kindred_l3 8 a0 gs F (strideN a0 : Int)) (fun i (s : Int × List (List TSpec_Point) × List (List (Int × Int))) => (s.1, (i : Int), s.2.1)) (fun s => (s.1, s.2.1)) (([] : List (List TSpec_Point)), false)
    (Kin a0 gs)
    (fun K s hs => by unfold p_kindred_l3; rw [cond_f dge])
    (fun i g s hx hs => by
      have hi := lt_get hx
      have hb : ∀ K, p_kindred_l3 8 a0 gs F (strideN a0 : Int) K (s.1, (i : Int), s.2.1) = (cond (!decide (g.Kind = 8)) ((p_kindred_k4 8 a0 F (strideN a0 : Int) (s.1, (i : Int), s.2.1) K g) true) (cond (!decide (g.Layout = a0)) ((p_kindred_k4 8 a0 F (strideN a0 : Int) (s.1, (i : Int), s.2.1) K g) true) ((p_Good F g).bind fun y31 => ((cond (!y31) ((p_kindred_k4 8 a0 F (strideN a0 : Int) (s.1, (i : Int), s.2.1) K g) true) ((p_kindred_k4 8 a0 F (strideN a0 : Int) (s.1, (i : Int), s.2.1) K g) (decide (((g.Flat.length : Nat) : Int) = (0 : Int))))))))) := fun K => by
        unfold p_kindred_l3
        rw [cond_t (dlt hi)]
        simp only
        rw [idx_get hx, Option.bind_some]
      have bad : ∀ K, p_kindred_k4 8 a0 F (strideN a0 : Int) (s.1, (i : Int), s.2.1) K g true = some (Sum.inr ([], false)) := fun K => rfl
      by_cases hk : g.Kind = 8
      · by_cases hy : g.Layout = a0
        · obtain ⟨b, hg⟩ := good_p hF hk (by omega) (by omega)
          simp only [hb, hg, Option.bind_some, bad, nF hk, nF hy, cond_false]
          cases b with
          | false => exact .inr fun K => rfl
          | true =>
            simp only [Bool.not_true, cond_false]
            by_cases h0 : ((g.Flat.length : Nat) : Int) = 0
            · simp only [decide_eq_true h0, bad]; exact .inr fun K => trivial
            · simp only [decide_eq_false h0]
              unfold p_kindred_k4
              simp only [cond_false]
              rcases flat_p hF (l := g.Flat) a1 a8 with hfl | ⟨m, hlm, hm, hfl⟩
              · simp only [hfl, Option.bind_some, Bool.not_false, cond_true]; exact .inr fun K => trivial
              · rw [hfl]
                simp only [Option.bind_some]
                cases hall : ((List.range m).map (plc (strideN a0) g.Flat)).all (planeOk 4634204016564240384) with
                | false => simp only [Bool.not_false, cond_true]; exact .inr fun K => trivial
                | true =>
                  obtain ⟨P, hPl, hP⟩ := whole_of hlm hall
                  obtain ⟨pts, ep, hpts⟩ := places_p hF hs2 hs8 hP (by omega) (hw g (List.mem_of_getElem? hx))
                  have hP1 : 1 ≤ P.length := by
                    rcases Nat.eq_zero_or_pos P.length with e | e
                    · exfalso; apply h0; rw [hlm, ← hPl, e, Nat.zero_mul]; rfl
                    · exact e
                  have hb2 : m * strideN a0 ≤ 100 * 8 := Nat.mul_le_mul hm hs8
                  have el := lines_p hF ep (by omega)
                  have hdv : Int.tdiv ((g.Flat.length : Nat) : Int) (strideN a0 : Int) = (m : Int) := by
                    rw [Int.tdiv_eq_ediv_of_nonneg (by omega), hlm]
                    have : (((m * strideN a0 : Nat) : Int)) = (m : Int) * (strideN a0 : Int) := by simp
                    rw [this, Int.mul_ediv_cancel _ (by omega)]
                  obtain ⟨k1, k2, k3, k4⟩ := hs
                  refine .inl ⟨(s.1 + (m : Int), s.2.1 ++ [pts], s.2.2 ++ [P]), ⟨by simp [k1], by simp [k2], by simp only; omega, fun j p' P' g' q1 q2 q3 => ?_⟩, fun K => ?_⟩
                  · simp only at q1 q2
                    rw [List.getElem?_append] at q1 q2
                    by_cases hj : j < i
                    · rw [if_pos (by omega)] at q1 q2; exact k4 j p' P' g' q1 q2 q3
                    · rw [if_neg (by omega)] at q1 q2
                      have hj0 : j - s.2.1.length = 0 := by
                        have := (List.getElem?_eq_some_iff.1 q1).1
                        simp at this; omega
                      have hj1 : j - s.2.2.length = 0 := by omega
                      have hji : j = i := by omega
                      rw [hj0] at q1
                      rw [hj1] at q2
                      subst hji
                      rw [hx] at q3
                      cases q3
                      simp at q1 q2
                      subst q1 q2
                      exact ⟨hpts, hk, hy, hP, by omega, hP1⟩
                  · simp only [Bool.not_true, cond_false]
                    rw [hdv, need_pos ⟨by omega, in64 (by omega) (by omega)⟩, need_pos (in64 (by omega) (by omega)), cond_f (by rfl), cond_t (by rfl)]
                    unfold p_kindred_k5
                    simp only
                    rw [el, Option.bind_some, need_pos (by simp; omega), need_pos (i64s (by omega)), succ_cast, hdv]
        · simp only [hb, bad, nF hk, nT hy, cond_false, cond_true]; exact .inr fun K => trivial
      · simp only [hb, bad, nT hk, cond_true]; exact .inr fun K => trivial)
    F 0 (0, [], []) (by omega) (by omega) ⟨rfl, rfl, by simp, fun j p P g q => by simp at q⟩
  rcases hl with ⟨s, hs, hl⟩ | hl
  · right
    refine ⟨s, ?_, ⟨a1, a8⟩, by omega, hs⟩
    rw [show (((0 : Int), (0 : Int), ([] : List (List TSpec_Point))) : Int × Int × List (List TSpec_Point)) = ((0 : Int), (((0 : Nat) : Int)), ([] : List (List TSpec_Point))) from rfl, hl, Option.bind_some, aft_inl]
    rfl
  · left
    rw [show (((0 : Int), (0 : Int), ([] : List (List TSpec_Point))) : Int × Int × List (List TSpec_Point)) = ((0 : Int), (((0 : Nat) : Int)), ([] : List (List TSpec_Point))) from rfl, hl, Option.bind_some, aft_inr]
end Go.Proofs.YtdchenbdnalbcaaGreat.Wk

namespace Go.Proofs.YtdchenbdnalbcaaGreat.Wk
open Go.Vm Limb
set_option linter.unusedVariables false
set_option linter.unusedSimpArgs false
theorem dyd_abs {d : TSpec_Dyadic} {q : Rat} {m k : Nat} (h : Dyd d q m k) : ∃ d', p_Dyadic_Abs d = some d' ∧ Dyd d' (Flt.ab q) m k := by
  unfold p_Dyadic_Abs
  rw [dyd_sign h, Option.bind_some]
  by_cases hq : q < 0
  · obtain ⟨d', h1, h2⟩ := dyd_minus h
    rw [cond_t (decide_eq_true (sgR_neg.2 hq)), h1, Option.bind_some]
    refine ⟨d', rfl, ?_⟩
    unfold Flt.ab; rw [if_pos hq]; exact h2
  · rw [cond_f (decide_eq_false (fun h => hq (sgR_neg.1 h)))]
    refine ⟨d, rfl, ?_⟩
    unfold Flt.ab; rw [if_neg hq]; exact h
end Go.Proofs.YtdchenbdnalbcaaGreat.Wk

set_option linter.unusedVariables false
set_option linter.unusedSimpArgs false
namespace Go.Proofs.YtdchenbdnalbcaaGreat.Wk
open Go.Vm Limb
theorem dyd_addm {a b : TSpec_Dyadic} {p q : Rat} {m k m' k' : Nat} (ha : Dyd a p m k) (hb : Dyd b q m' k') (hm : m + m' < 1000000) (hk : k + k' < 1000000) {F : Nat} (hF : BigF F) : ∃ d, p_Dyadic_Add F a b = some d ∧ Dyd d (p + q) (m + m' + (k + k') / 32 + 3) (max k k') := by
  have sa := dyd_sign ha
  have sb := dyd_sign hb
  unfold p_Dyadic_Add
  rw [sa, Option.bind_some]
  by_cases hp : p = 0
  · rw [cond_t (decide_eq_true (by unfold sgR; rw [if_pos hp]))]
    refine ⟨b, rfl, ?_⟩
    rw [hp, Rat.zero_add]; exact hb.mono (by omega) (by omega)
  · have hsp : ¬ sgR p = 0 := by unfold sgR; rw [if_neg hp]; split <;> decide
    rw [cond_f (decide_eq_false hsp), sb, Option.bind_some]
    by_cases hq : q = 0
    · rw [cond_t (decide_eq_true (by unfold sgR; rw [if_pos hq]))]
      refine ⟨a, rfl, ?_⟩
      rw [hq, Rat.add_zero]; exact ha.mono (by omega) (by omega)
    · have hsq : ¬ sgR q = 0 := by unfold sgR; rw [if_neg hq]; split <;> decide
      rw [cond_f (decide_eq_false hsq)]
      obtain ⟨n, e, rfl, rfl, h1, h2, h3⟩ := ha
      obtain ⟨n', e', rfl, rfl, h1', h2', h3'⟩ := hb
      have key : ∀ (x y : Int) (u v : Int), v ≤ u → u - v ≤ (k + k' : Nat) → sz x + sz y ≤ m + m' → ∃ N : Nat, u - v = (N : Int) ∧ p_Whole_Up F (W x) (u - v) = some (W (x * 2 ^ N)) ∧ p_Whole_Add F (W (x * 2 ^ N)) (W y) = some (W (x * 2 ^ N + y)) ∧
          ((x * 2 ^ N + y : Int) : Rat) * (2 : Rat) ^ v = (x : Rat) * (2 : Rat) ^ u + (y : Rat) * (2 : Rat) ^ v ∧ sz (x * 2 ^ N + y) ≤ m + m' + (k + k') / 32 + 3 := by
        intro x y u v huv hk2 hs
        obtain ⟨N, hN⟩ : ∃ N : Nat, u - v = (N : Int) := ⟨(u - v).toNat, by omega⟩
        have hsz := sz_up x N
        have hNk : N / 32 ≤ (k + k') / 32 := Nat.div_le_div_right (by omega)
        have hF' : 1073741826 ≤ F := hF
        refine ⟨N, hN, by rw [hN]; exact up_p (by omega) hF, add_p (by omega) (by omega) hF, ?_, ?_⟩
        · have e1 : u = v + (N : Int) := by omega
          rw [e1, Flt.zpow_add, Flt.zpow_nat, Rat.intCast_add, Rat.intCast_mul, Rat.intCast_pow]
          have e2 : ((2 ^ N : Nat) : Rat) = (2 : Rat) ^ N := Rat.natCast_pow 2 N
          have e3 : ((2 : Int) : Rat) = 2 := rfl
          rw [e2, e3]; grind
        · have := sz_add (x * 2 ^ N) y
          omega
      by_cases he : e' < e
      · obtain ⟨N, k0, k1, k2, k3, k4⟩ := key n n' e e' (by omega) (by omega) (by omega)
        rw [cond_t (decide_eq_true he), need_pos (in64m (by simp only; omega) (by simp only; omega))]
        simp only
        rw [k1, Option.bind_some, k2, Option.bind_some]
        exact ⟨_, rfl, _, e', rfl, k3.symm, k4, by omega, by omega⟩
      · obtain ⟨N, k0, k1, k2, k3, k4⟩ := key n' n e' e (by omega) (by omega) (by omega)
        rw [cond_f (decide_eq_false he), need_pos (in64m (by simp only; omega) (by simp only; omega))]
        simp only
        rw [k1, Option.bind_some, k2, Option.bind_some]
        refine ⟨_, rfl, _, e, rfl, ?_, k4, by omega, by omega⟩
        rw [k3, Rat.add_comm]
theorem dyd_tight {d : TSpec_Dyadic} {n : Int} {m k : Nat} (h : Dyd d (n : Rat) m k) (hn : n.natAbs < 4294967296) : Dyd d (n : Rat) (k / 32 + 2) k := by
  obtain ⟨c, e, rfl, h2, h3, h4, h5⟩ := h
  refine ⟨c, e, rfl, h2, sz_of ?_, h4, h5⟩
  have hp : (4294967296 : Nat) ^ (k / 32 + 2) = 2 ^ (32 * (k / 32 + 2)) := by rw [Nat.pow_mul]
  rw [hp]
  by_cases he : 0 ≤ e
  · obtain ⟨N, rfl⟩ : ∃ N : Nat, e = (N : Int) := ⟨e.toNat, by omega⟩
    have h6 : n = c * ((2 ^ N : Nat) : Int) := by
      apply Rat.intCast_inj.1
      rw [h2, Flt.zpow_nat, Rat.intCast_mul]; rfl
    have h7 : n.natAbs = c.natAbs * 2 ^ N := by rw [h6, Int.natAbs_mul]; rfl
    have h8 : 0 < 2 ^ N := Nat.pow_pos (by omega)
    have h9 : c.natAbs ≤ c.natAbs * 2 ^ N := Nat.le_mul_of_pos_right _ h8
    have h10 : 2 ^ 32 ≤ 2 ^ (32 * (k / 32 + 2)) := Nat.pow_le_pow_right (by omega) (by omega)
    have h11 : (2 : Nat) ^ 32 = 4294967296 := by decide
    omega
  · obtain ⟨N, rfl⟩ : ∃ N : Nat, e = -(N : Int) := ⟨(-e).toNat, by omega⟩
    have hz : (2 : Rat) ^ (-(N : Int)) * (2 : Rat) ^ (N : Int) = 1 := by rw [← Flt.zpow_add, show -(N : Int) + (N : Int) = 0 by omega]; rfl
    have h6 : c = n * ((2 ^ N : Nat) : Int) := by
      apply Rat.intCast_inj.1
      rw [Rat.intCast_mul, h2, Rat.mul_assoc]
      have : (((2 ^ N : Nat) : Int) : Rat) = (2 : Rat) ^ (N : Int) := by rw [Flt.zpow_nat]; rfl
      rw [this, hz, Rat.mul_one]
    have h7 : c.natAbs = n.natAbs * 2 ^ N := by rw [h6, Int.natAbs_mul]; rfl
    have h8 : 0 < 2 ^ N := Nat.pow_pos (by omega)
    have h9 : n.natAbs * 2 ^ N < 4294967296 * 2 ^ N := Nat.mul_lt_mul_of_pos_right hn h8
    have h10 : 4294967296 * 2 ^ N = 2 ^ (32 + N) := by rw [Nat.pow_add]
    have h11 : 2 ^ (32 + N) ≤ 2 ^ (32 * (k / 32 + 2)) := Nat.pow_le_pow_right (by omega) (by omega)
    omega
/-- the exact number n, not long -/
def DD (d : TSpec_Dyadic) (n : Int) : Prop := Dyd d (n : Rat) 102 3222
theorem dd_add {a b : TSpec_Dyadic} {x y : Int} {m k : Nat} (ha : DD a x) (hb : Dyd b (y : Rat) m k) (hm : m ≤ 1000) (hk : k ≤ 3222) (h : (x + y).natAbs < 4294967296) {F : Nat} (hF : BigF F) : ∃ d, p_Dyadic_Add F a b = some d ∧ DD d (x + y) := by
  obtain ⟨d, e, k'⟩ := dyd_addm ha hb (by omega) (by omega) hF
  rw [← Rat.intCast_add] at k'
  exact ⟨d, e, (dyd_tight k' h).mono (by omega) (by omega)⟩
theorem dd_zero : DD ⟨⟨false, []⟩, 0⟩ 0 := ⟨0, 0, by rw [W_zero], by simp, Nat.le_trans (sz_of (m := 1) (by decide)) (by omega), by omega, by omega⟩
end Go.Proofs.YtdchenbdnalbcaaGreat.Wk

set_option linter.unusedVariables false
set_option linter.unusedSimpArgs false
namespace Go.Proofs.YtdchenbdnalbcaaGreat.Wk
open Go.Vm Limb
def nth (P : List (Int × Int)) (i : Nat) : Int × Int := P.getD i (0, 0)
theorem nth_get {P : List (Int × Int)} {i : Nat} {z : Int × Int} (h : P[i]? = some z) : nth P i = z := by unfold nth; rw [List.getD_eq_getElem?_getD, h]; rfl
def dd (p q : Int × Int) : Int := ((q.1 - p.1).natAbs : Int) + ((q.2 - p.2).natAbs : Int)
def Ax (p q : Int × Int) : Prop := q.1 = p.1 ∨ q.2 = p.2
def sg3 (p q : Int × Int) : Int × Int × Int := (dd p q, dd p q * (q.1 + p.1), dd p q * (q.2 + p.2))
def add3 (a b : Int × Int × Int) : Int × Int × Int := (a.1 + b.1, a.2.1 + b.2.1, a.2.2 + b.2.2)
/-- the sums over the first k segments of a line, from others on -/
def run (P : List (Int × Int)) (t : Int × Int × Int) : Nat → Int × Int × Int
  | 0 => t
  | k + 1 => add3 (run P t k) (sg3 (nth P k) (nth P (k + 1)))
/-- the sums over the first lines -/
def runs (Ps : List (List (Int × Int))) : Nat → Int × Int × Int
  | 0 => (0, 0, 0)
  | j + 1 => run (Ps.getD j []) (runs Ps j) ((Ps.getD j []).length - 1)
def Bnd (N : Nat) (t : Int × Int × Int) : Prop := (0 ≤ t.1 ∧ t.1 ≤ 256 * N) ∧ (-(32768 * N) ≤ t.2.1 ∧ t.2.1 ≤ 32768 * N) ∧ (-(32768 * N) ≤ t.2.2 ∧ t.2.2 ≤ 32768 * N)
theorem mul_b {a b : Int} {K L : Int} (ha : 0 ≤ a) (ha' : a ≤ K) (hb : -L ≤ b) (hb' : b ≤ L) (hL : 0 ≤ L) : -(K * L) ≤ a * b ∧ a * b ≤ K * L := by
  have h1 : a * b ≤ a * L := Int.mul_le_mul_of_nonneg_left hb' ha
  have h2 : a * L ≤ K * L := Int.mul_le_mul_of_nonneg_right ha' hL
  have h3 : a * (-L) ≤ a * b := Int.mul_le_mul_of_nonneg_left hb ha
  have h4 : a * (-L) = -(a * L) := Int.mul_neg _ _
  omega
theorem bnd_seg {p q : Int × Int} (hp : B64 p) (hq : B64 q) : Bnd 1 (sg3 p q) := by
  obtain ⟨⟨p1, p2⟩, p3, p4⟩ := hp
  obtain ⟨⟨q1, q2⟩, q3, q4⟩ := hq
  have hd : 0 ≤ dd p q ∧ dd p q ≤ 256 := by unfold dd; omega
  have m1 := mul_b (K := 256) (L := 128) hd.1 hd.2 (b := q.1 + p.1) (by omega) (by omega) (by omega)
  have m2 := mul_b (K := 256) (L := 128) hd.1 hd.2 (b := q.2 + p.2) (by omega) (by omega) (by omega)
  exact ⟨⟨hd.1, hd.2⟩, ⟨by simp only [sg3]; omega, by simp only [sg3]; omega⟩, by simp only [sg3]; omega, by simp only [sg3]; omega⟩
theorem bnd_add {M N : Nat} {s t : Int × Int × Int} (hs : Bnd M s) (ht : Bnd N t) : Bnd (M + N) (add3 s t) := by
  unfold Bnd add3 at *
  simp only
  omega
theorem bnd_run {P : List (Int × Int)} (hP : ∀ i, i < P.length → B64 (nth P i)) {N : Nat} {t : Int × Int × Int} (ht : Bnd N t) : ∀ k, k < P.length → Bnd (N + k) (run P t k)
  | 0, _ => ht
  | k + 1, hk => show Bnd ((N + k) + 1) _ from bnd_add (bnd_run hP ht k (by omega)) (bnd_seg (hP k (by omega)) (hP (k + 1) hk))
def mkI (i : Nat) (s : TSpec_Dyadic × TSpec_Dyadic × TSpec_Dyadic) : Int × Bool × List Int × Int × Bool × List Int × Int × Bool × List Int × Int :=
  ((i : Int), s.1.N.Neg, s.1.N.L, s.1.E, s.2.1.N.Neg, s.2.1.N.L, s.2.1.E, s.2.2.N.Neg, s.2.2.N.L, s.2.2.E)
def outI (s : TSpec_Dyadic × TSpec_Dyadic × TSpec_Dyadic) : Bool × List Int × Int × Bool × List Int × Int × Bool × List Int × Int :=
  (s.1.N.Neg, s.1.N.L, s.1.E, s.2.1.N.Neg, s.2.1.N.L, s.2.1.E, s.2.2.N.Neg, s.2.2.N.L, s.2.2.E)
def D3 (s : TSpec_Dyadic × TSpec_Dyadic × TSpec_Dyadic) (t : Int × Int × Int) : Prop := DD s.1 t.1 ∧ DD s.2.1 t.2.1 ∧ DD s.2.2 t.2.2
def R0 : TSpec_Ratio := TSpec_Ratio.mk (TSpec_Dyadic.mk (TSpec_Whole.mk false []) (0 : Int)) (TSpec_Dyadic.mk (TSpec_Whole.mk false []) (0 : Int))
theorem line_p {F : Nat} (hF : BigF F) {pts : List TSpec_Point} {P : List (Int × Int)} (hp : LineR pts P) (h1 : 1 ≤ P.length) (h100 : P.length ≤ 100) {N : Nat} (hN : N ≤ 2000) {t0 : Int × Int × Int} (hb : Bnd N t0)
    {s0 : TSpec_Dyadic × TSpec_Dyadic × TSpec_Dyadic} (h0 : D3 s0 t0) :
    (∃ s, (D3 s (run P t0 (P.length - 1)) ∧ ∀ k, k + 1 < P.length → Ax (nth P k) (nth P (k + 1))) ∧ iter (p_LineCentroid_l4 F pts) F (mkI 1 s0) = some (.inl (outI s))) ∨ iter (p_LineCentroid_l4 F pts) F (mkI 1 s0) = some (.inr (R0, R0, false)) := by
  have hF' : 1073741826 ≤ F := hF
  have hl := hp.1
  have hB : ∀ i, i < P.length → B64 (nth P i) := fun i hi => by
    have e1 : P[i]? = some P[i] := List.getElem?_eq_getElem hi
    have e2 : pts[i]? = some (pts[i]'(by omega)) := List.getElem?_eq_getElem (by omega)
    rw [nth_get e1]
    exact (hp.2 i _ _ e2 e1).2
  have key := fold_or pts (p_LineCentroid_l4 F pts) mkI outI (R0, R0, false) (fun i s => 1 ≤ i ∧ D3 s (run P t0 (i - 1)) ∧ ∀ k, k + 1 < i → Ax (nth P k) (nth P (k + 1)))
    (fun K s hs => by unfold p_LineCentroid_l4 mkI; rw [cond_f dge]; rfl)
    (fun i x s hx hs => by
      obtain ⟨hi1, ⟨j1, j2, j3⟩, ha⟩ := hs
      have hi := lt_get hx
      obtain ⟨z, hz⟩ : ∃ z, P[i]? = some z := ⟨_, List.getElem?_eq_getElem (by omega)⟩
      obtain ⟨q, hq⟩ : ∃ q, pts[i - 1]? = some q := ⟨_, List.getElem?_eq_getElem (by omega)⟩
      obtain ⟨w, hw⟩ : ∃ w, P[i - 1]? = some w := ⟨_, List.getElem?_eq_getElem (by omega)⟩
      obtain ⟨⟨x1, x2⟩, bz⟩ := hp.2 i x z hx hz
      obtain ⟨⟨q1, q2⟩, bw⟩ := hp.2 (i - 1) q w hq hw
      obtain ⟨a1, f1, k1⟩ := dyd_sub x1 q1 (by omega) (by omega) hF
      rw [← Rat.intCast_sub] at k1
      obtain ⟨a2, f2, k2⟩ := dyd_abs k1
      rw [Flt.ab_int] at k2
      obtain ⟨b1, g1, l1⟩ := dyd_sub x2 q2 (by omega) (by omega) hF
      rw [← Rat.intCast_sub] at l1
      obtain ⟨b2, g2, l2⟩ := dyd_abs l1
      rw [Flt.ab_int] at l2
      have s1 := dyd_sign k2
      have s2 := dyd_sign l2
      have im : ((i : Int) - 1) = ((i - 1 : Nat) : Int) := by omega
      have iq : idx pts ((i : Int) - 1) = some q := by rw [im]; exact idx_get hq
      have n64 : inI .i64 ((i : Int) - 1) := in64 (by omega) (by omega)
      have hbody : ∀ K, p_LineCentroid_l4 F pts K (mkI i s) = p_LineCentroid_k5 F pts (mkI i s) K a2 b2 (!decide (z.1 = w.1) && !decide (z.2 = w.2)) := fun K => by
        unfold p_LineCentroid_l4 mkI
        rw [cond_t (dlt hi)]
        simp only
        rw [idx_get hx, Option.bind_some, need_pos n64, iq, Option.bind_some, f1, Option.bind_some, f2, Option.bind_some, Option.bind_some, need_pos n64, Option.bind_some, g1, Option.bind_some, g2, Option.bind_some, s1, Option.bind_some, sgR_int]
        by_cases c1 : z.1 = w.1
        · rw [if_pos (by omega), cond_f (by rfl), decide_eq_true c1]; rfl
        · rw [if_neg (by omega), if_neg (by omega), cond_t (by rfl), s2, Option.bind_some, sgR_int, decide_eq_false c1]
          by_cases c2 : z.2 = w.2
          · rw [if_pos (by omega), decide_eq_true c2]; rfl
          · rw [if_neg (by omega), if_neg (by omega), decide_eq_false c2]; rfl
      by_cases hax : Ax w z
      · left
        have hg : (!decide (z.1 = w.1) && !decide (z.2 = w.2)) = false := by
          rcases hax with h | h <;> simp [h]
        have hrun : run P t0 i = add3 (run P t0 (i - 1)) (sg3 w z) := by
          obtain ⟨k, rfl⟩ : ∃ k, i = k + 1 := ⟨i - 1, by omega⟩
          show add3 (run P t0 k) (sg3 (nth P k) (nth P (k + 1))) = _
          rw [nth_get hz, show nth P k = w from nth_get hw]; rfl
        have hbr := bnd_run hB hb (i - 1) (by omega)
        have hbs := bnd_run hB hb i (by omega)
        rw [hrun] at hbs
        obtain ⟨c, e1, m1⟩ := dyd_addm k2 l2 (by omega) (by omega) hF
        rw [← Rat.intCast_add, show (((z.1 - w.1).natAbs : Int) + ((z.2 - w.2).natAbs : Int)) = dd w z from rfl] at m1
        obtain ⟨⟨u1, u2⟩, ⟨u3, u4⟩, u5, u6⟩ := hbs
        obtain ⟨y45, e45, m45⟩ := dd_add j1 m1 (by omega) (by omega) (by simp only [add3, sg3] at u1 u2; omega) hF
        obtain ⟨y52, e52, m52⟩ := dyd_addm x1 q1 (by omega) (by omega) hF
        rw [← Rat.intCast_add] at m52
        obtain ⟨y54, e54, m54⟩ := dyd_mul m1 m52 (by omega) (by omega) hF
        rw [← Rat.intCast_mul] at m54
        obtain ⟨y56, e56, m56⟩ := dd_add j2 m54 (by omega) (by omega) (by simp only [add3, sg3] at u3 u4; omega) hF
        obtain ⟨y63, e63, m63⟩ := dyd_addm x2 q2 (by omega) (by omega) hF
        rw [← Rat.intCast_add] at m63
        obtain ⟨y65, e65, m65⟩ := dyd_mul m1 m63 (by omega) (by omega) hF
        rw [← Rat.intCast_mul] at m65
        obtain ⟨y67, e67, m67⟩ := dd_add j3 m65 (by omega) (by omega) (by simp only [add3, sg3] at u5 u6; omega) hF
        refine ⟨(y45, y56, y67), ⟨by omega, ?_, fun k hk => ?_⟩, fun K => ?_⟩
        · show D3 _ (run P t0 (i + 1 - 1))
          rw [Nat.add_sub_cancel, hrun]
          exact ⟨m45, m56, m67⟩
        · by_cases hki : k + 1 < i
          · exact ha k hki
          · have : k = i - 1 := by omega
            subst this
            rw [show i - 1 + 1 = i by omega, nth_get hz, nth_get hw]; exact hax
        · rw [hbody, hg]
          unfold p_LineCentroid_k5 mkI
          rw [cond_false, e1, Option.bind_some]
          simp only
          rw [show (TSpec_Dyadic.mk (TSpec_Whole.mk s.1.N.Neg s.1.N.L) s.1.E) = s.1 from rfl, show (TSpec_Dyadic.mk (TSpec_Whole.mk s.2.1.N.Neg s.2.1.N.L) s.2.1.E) = s.2.1 from rfl, show (TSpec_Dyadic.mk (TSpec_Whole.mk s.2.2.N.Neg s.2.2.N.L) s.2.2.E) = s.2.2 from rfl]
          rw [e45, Option.bind_some, idx_get hx, Option.bind_some, need_pos n64, iq, Option.bind_some, e52, Option.bind_some, e54, Option.bind_some, e56, Option.bind_some, Option.bind_some, need_pos n64, Option.bind_some, e63, Option.bind_some, e65, Option.bind_some, e67, Option.bind_some, need_pos (i64s (by omega)), succ_cast]
      · right
        have hg : (!decide (z.1 = w.1) && !decide (z.2 = w.2)) = true := by
          unfold Ax at hax
          have c1 : ¬ z.1 = w.1 := fun h => hax (.inl h)
          have c2 : ¬ z.2 = w.2 := fun h => hax (.inr h)
          simp [c1, c2]
        intro K
        rw [hbody, hg]
        rfl)
    F 1 s0 (by omega) (by omega) ⟨by omega, h0, fun k hk => by omega⟩
  rcases key with ⟨s, ⟨_, hs, ha⟩, hk⟩ | hk
  · left
    rw [hl] at hs ha
    exact ⟨s, ⟨hs, ha⟩, hk⟩
  · right; exact hk
end Go.Proofs.YtdchenbdnalbcaaGreat.Wk

set_option linter.unusedVariables false
set_option linter.unusedSimpArgs false
namespace Go.Proofs.YtdchenbdnalbcaaGreat.Wk
open Go.Vm Limb
def AllAx (Ps : List (List (Int × Int))) (m : Nat) : Prop := ∀ j P, j < m → Ps[j]? = some P → ∀ k, k + 1 < P.length → Ax (nth P k) (nth P (k + 1))
def LinesR (lines : List (List TSpec_Point)) (Ps : List (List (Int × Int))) : Prop :=
  lines.length = Ps.length ∧ ∀ (j : Nat) pts P, lines[j]? = some pts → Ps[j]? = some P → LineR pts P ∧ P.length ≤ 100 ∧ 1 ≤ P.length
theorem shift1_p {d : TSpec_Dyadic} {n : Int} {m k : Nat} (h : Dyd d (n : Rat) m k) (hk : k < 1000000) : ∃ d', p_Dyadic_Shift d 1 = some d' ∧ Dyd d' ((2 * n : Int) : Rat) m (k + 1) := by
  obtain ⟨c, e, rfl, h2, h3, h4, h5⟩ := h
  unfold p_Dyadic_Shift
  rw [need_pos (in64m (by simp only; omega) (by simp only; omega))]
  refine ⟨_, rfl, c, e + 1, rfl, ?_, h3, by omega, by omega⟩
  rw [Rat.intCast_mul, h2, Flt.zpow_add]
  have e1 : (2 : Rat) ^ (1 : Int) = 2 := by decide +kernel
  have e2 : ((2 : Int) : Rat) = 2 := rfl
  rw [e1, e2]; grind
theorem runs_bnd {lines : List (List TSpec_Point)} {Ps : List (List (Int × Int))} (h : LinesR lines Ps) : ∀ j, j ≤ Ps.length → Bnd (100 * j) (runs Ps j)
  | 0, _ => by unfold Bnd runs; simp
  | j + 1, hj => by
    have ih := runs_bnd h j (by omega)
    obtain ⟨P, hP⟩ : ∃ P, Ps[j]? = some P := ⟨_, List.getElem?_eq_getElem (by omega)⟩
    obtain ⟨pts, hp⟩ : ∃ p, lines[j]? = some p := ⟨_, List.getElem?_eq_getElem (by have := h.1; omega)⟩
    obtain ⟨hl, h100, h1⟩ := h.2 j pts P hp hP
    have hB : ∀ i, i < P.length → B64 (nth P i) := fun i hi => by
      have e1 : P[i]? = some P[i] := List.getElem?_eq_getElem hi
      have e2 : pts[i]? = some (pts[i]'(by have := hl.1; omega)) := List.getElem?_eq_getElem (by have := hl.1; omega)
      rw [nth_get e1]
      exact (hl.2 i _ _ e2 e1).2
    have := bnd_run hB ih (P.length - 1) (by omega)
    show Bnd _ (run (Ps.getD j []) (runs Ps j) ((Ps.getD j []).length - 1))
    rw [List.getD_eq_getElem?_getD, hP]
    show Bnd _ (run P (runs Ps j) (P.length - 1))
    unfold Bnd at *
    omega
theorem centroid_p {F : Nat} (hF : BigF F) {lines : List (List TSpec_Point)} {Ps : List (List (Int × Int))} (h : LinesR lines Ps) (h20 : Ps.length ≤ 20) :
    (∃ N1 N2 D, p_LineCentroid F lines = some (⟨N1, D⟩, ⟨N2, D⟩, true) ∧ (runs Ps Ps.length).1 ≠ 0 ∧ DD N1 (runs Ps Ps.length).2.1 ∧ DD N2 (runs Ps Ps.length).2.2 ∧ Dyd D ((2 * (runs Ps Ps.length).1 : Int) : Rat) 102 3223 ∧ AllAx Ps Ps.length) ∨
      ∃ a b, p_LineCentroid F lines = some (a, b, false) := by
  have hF' : 1073741826 ≤ F := hF
  have hl := h.1
  have key := fold_or lines (p_LineCentroid_l2 lines F) mkI outI (R0, R0, false) (fun j s => D3 s (runs Ps j) ∧ AllAx Ps j)
    (fun K s hs => by unfold p_LineCentroid_l2 mkI; rw [cond_f dge]; rfl)
    (fun j pts s hx hs => by
      have hj := lt_get hx
      obtain ⟨P, hP⟩ : ∃ P, Ps[j]? = some P := ⟨_, List.getElem?_eq_getElem (by omega)⟩
      obtain ⟨hL, h100, h1⟩ := h.2 j pts P hx hP
      have hb := runs_bnd h j (by omega)
      have hbody : ∀ K, p_LineCentroid_l2 lines F K (mkI j s) = (iter (p_LineCentroid_l4 F pts) F (mkI 1 s)).bind fun o => aft o (fun r => some (Sum.inr r)) (p_LineCentroid_k3 (mkI j s) K) := fun K => by
        unfold p_LineCentroid_l2 mkI
        rw [cond_t (dlt hj)]
        simp only
        rw [idx_get hx, Option.bind_some]
        rfl
      rcases line_p hF hL h1 h100 (by omega) hb hs.1 with ⟨s', ⟨hs', ha⟩, e⟩ | e
      · left
        refine ⟨s', ⟨?_, fun i P' hi hP' => ?_⟩, fun K => ?_⟩
        · show D3 s' (run (Ps.getD j []) (runs Ps j) ((Ps.getD j []).length - 1))
          rw [List.getD_eq_getElem?_getD, hP]; exact hs'
        · by_cases hij : i < j
          · exact hs.2 i P' hij hP'
          · have : i = j := by omega
            subst this
            rw [hP] at hP'; cases hP'
            exact ha
        · rw [hbody, e, Option.bind_some, aft_inl]
          unfold p_LineCentroid_k3 mkI outI
          simp only
          rw [need_pos (i64s (by omega)), succ_cast]
      · right
        intro K
        rw [hbody, e, Option.bind_some, aft_inr])
    F 0 (⟨⟨false, []⟩, 0⟩, ⟨⟨false, []⟩, 0⟩, ⟨⟨false, []⟩, 0⟩) (by omega) (by omega) ⟨⟨dd_zero, dd_zero, dd_zero⟩, fun j P hj => by omega⟩
  have hini : (((0 : Int), false, [], (0 : Int), false, [], (0 : Int), false, [], (0 : Int)) : Int × Bool × List Int × Int × Bool × List Int × Int × Bool × List Int × Int) = mkI 0 (⟨⟨false, []⟩, 0⟩, ⟨⟨false, []⟩, 0⟩, ⟨⟨false, []⟩, 0⟩) := rfl
  unfold p_LineCentroid
  rw [hini]
  rcases key with ⟨s, ⟨⟨j1, j2, j3⟩, ha⟩, e⟩ | e
  · rw [e, Option.bind_some, aft_inl]
    unfold p_LineCentroid_k1 outI
    simp only
    rw [show (TSpec_Dyadic.mk (TSpec_Whole.mk s.1.N.Neg s.1.N.L) s.1.E) = s.1 from rfl, show (TSpec_Dyadic.mk (TSpec_Whole.mk s.2.1.N.Neg s.2.1.N.L) s.2.1.E) = s.2.1 from rfl, show (TSpec_Dyadic.mk (TSpec_Whole.mk s.2.2.N.Neg s.2.2.N.L) s.2.2.E) = s.2.2 from rfl]
    rw [hl] at j1 j2 j3 ha
    rw [dyd_sign j1, Option.bind_some, sgR_int]
    by_cases h0 : (runs Ps Ps.length).1 = 0
    · right
      rw [if_pos h0]
      exact ⟨_, _, rfl⟩
    · left
      have hne : (if (runs Ps Ps.length).1 = 0 then (0 : Int) else if (runs Ps Ps.length).1 < 0 then -1 else 1) ≠ 0 := by rw [if_neg h0]; split <;> decide
      obtain ⟨D, eD, kD⟩ := shift1_p j1 (by omega)
      rw [cond_f (decide_eq_false hne), eD, Option.bind_some]
      exact ⟨s.2.1, s.2.2, D, rfl, h0, j2, j3, kD, ha⟩
  · right
    rw [e, Option.bind_some, aft_inr]
    exact ⟨_, _, rfl⟩
end Go.Proofs.YtdchenbdnalbcaaGreat.Wk

set_option linter.unusedVariables false
set_option linter.unusedSimpArgs false
namespace Go.Proofs.YtdchenbdnalbcaaGreat.Wk
open Go.Vm
theorem half_sum {x y : Nat} {m n : Int} (hx : Flt.I x m) (hy : Flt.I y n) (hb : (m + n).natAbs ≤ 9007199254740992) : ∃ s z, floatBits .add .f64 x y = some s ∧ floatBits .quo .f64 s 4611686018427387904 = some z ∧ Flt.J (-1) z (m + n) := by
  obtain ⟨s, e1, i1⟩ := Flt.add_int hx hy hb
  have i2 : Flt.I 4611686018427387904 2 := by
    have e : (4611686018427387904 : Nat) = ofInt 2 := by decide +kernel
    rw [e]; exact Flt.ofInt_int (by decide)
  have half : (2 : Rat) ^ (-1 : Int) = 1 / 2 := by decide +kernel
  have hq : (((m + n : Int)) : Rat) / ((2 : Int) : Rat) = ((m + n : Int) : Rat) * 2 ^ (-1 : Int) := by
    rw [half, Rat.div_def]
    have : (((2 : Int) : Rat))⁻¹ = 1 / 2 := by decide +kernel
    rw [this]
  obtain ⟨z, e2, hz⟩ := Flt.quo_exact i1 i2 (by decide) hq hb (by decide) (by decide)
  exact ⟨s, z, e1, e2, by unfold Flt.J; rw [hz, hq]⟩
theorem cut0 {l : List Nat} {a : Nat} (h : a + 2 ≤ l.length) : idx ((l.drop (((a : Nat) : Int)).toNat).take ((((a : Nat) : Int) + 2).toNat - (((a : Nat) : Int)).toNat)) (0 : Int) = some (l.getD a 0) ∧ idx ((l.drop (((a : Nat) : Int)).toNat).take ((((a : Nat) : Int) + 2).toNat - (((a : Nat) : Int)).toNat)) (1 : Int) = some (l.getD (a + 1) 0) := by
  have e1 : (((a : Nat) : Int)).toNat = a := by omega
  have e2 : (((a : Nat) : Int) + 2).toNat - a = 2 := by omega
  rw [e1, e2]
  have g : ∀ k, k < 2 → ((l.drop a).take 2)[k]? = some (l.getD (a + k) 0) := fun k hk => by
    rw [List.getElem?_take, if_pos hk, List.getElem?_drop, List.getD_eq_getElem?_getD, List.getElem?_eq_getElem (by omega)]; rfl
  exact ⟨idx_get (k := 0) (g 0 (by omega)), idx_get (k := 1) (g 1 (by omega))⟩
theorem sq_ax {w z : Int × Int} (h : Ax w z) : ∃ k : Nat, dd w z = (k : Int) ∧ (w.1 - z.1) * (w.1 - z.1) + (w.2 - z.2) * (w.2 - z.2) = ((k * k : Nat) : Int) := by
  have sq : ∀ n : Int, n * n = ((n.natAbs * n.natAbs : Nat) : Int) := fun n => by rw [Int.natCast_mul, ← Int.natAbs_mul_self' n]
  unfold dd
  rcases h with h | h
  · refine ⟨(z.2 - w.2).natAbs, by omega, ?_⟩
    rw [h, Int.sub_self, sq (w.2 - z.2), show (w.2 - z.2).natAbs = (z.2 - w.2).natAbs by omega]; omega
  · refine ⟨(z.1 - w.1).natAbs, by omega, ?_⟩
    rw [h, Int.sub_self, sq (w.1 - z.1), show (w.1 - z.1).natAbs = (z.1 - w.1).natAbs by omega]; omega
theorem dist_p {A B : List Nat} {ax ay bx b_y : Nat} {w z : Int × Int} (a0 : idx A (0 : Int) = some ax) (a1 : idx A (1 : Int) = some ay) (b0 : idx B (0 : Int) = some bx) (b1 : idx B (1 : Int) = some b_y)
    (i1 : Flt.I ax w.1) (i2 : Flt.I ay w.2) (i3 : Flt.I bx z.1) (i4 : Flt.I b_y z.2) (hw : B64 w) (hz : B64 z) (h : Ax w z) : ∃ y, p_Distance2D A B = some y ∧ Flt.I y (dd w z) := by
  obtain ⟨⟨w1, w2⟩, w3, w4⟩ := hw
  obtain ⟨⟨z1, z2⟩, z3, z4⟩ := hz
  obtain ⟨x5, e5, j5⟩ := Flt.sub_int i1 i3 (by omega)
  obtain ⟨x11, e11, j11⟩ := Flt.sub_int i2 i4 (by omega)
  have nab : ∀ n : Int, n.natAbs ≤ 128 → (n * n).natAbs ≤ 16384 := fun n hn => by rw [Int.natAbs_mul]; exact Nat.mul_le_mul hn hn
  have n1 := nab (w.1 - z.1) (by omega)
  have n2 := nab (w.2 - z.2) (by omega)
  obtain ⟨x13, e13, j13⟩ := Flt.mul_int j5 j5 (by omega)
  obtain ⟨x15, e15, j15⟩ := Flt.mul_int j11 j11 (by omega)
  obtain ⟨x17, e17, j17⟩ := Flt.add_int j13 j15 (by omega)
  obtain ⟨k, hk, hs⟩ := sq_ax h
  have hd : dd w z ≤ 256 := by unfold dd; omega
  rw [hs] at j17
  obtain ⟨y, ey, jy⟩ := Flt.sqrt_int j17 (by omega)
  refine ⟨y, ?_, by rw [hk]; exact jy⟩
  unfold p_Distance2D
  have hS : p_Sqrt x17 = some y := by unfold p_Sqrt; rw [show FloatKind.f64.format.sqrt x17 = some y from ey]; rfl
  simp only [a0, a1, b0, b1, Option.bind_some, e5, e11, e13, e15, e17, hS]
/-- what the calculator holds -/
def FS (s : Nat) (st : List Nat × Nat) (t : Int × Int × Int) : Prop :=
  st.1.length = s ∧ Flt.J (-1) (st.1.getD 0 0) t.2.1 ∧ Flt.J (-1) (st.1.getD 1 0) t.2.2 ∧ (∀ k, 2 ≤ k → st.1.getD k 0 = 0) ∧ Flt.I st.2 t.1
theorem idxD {l : List Nat} {k : Nat} (h : k < l.length) : idx l (k : Int) = some (l.getD k 0) := idx_lt l k 0 h
theorem getD_set' (l : List Nat) (i k v : Nat) : (l.set i v).getD k 0 = if i = k ∧ i < l.length then v else l.getD k 0 := by
  simp only [List.getD_eq_getElem?_getD, List.getElem?_set]
  by_cases h : i = k
  · subst h
    by_cases h2 : i < l.length
    · simp [h2]
    · simp [h2]
  · simp [h]
theorem ring_loop {F : Nat} (hF : BigF F) {s : Nat} {l : List Nat} {P : List (Int × Int)} {y : TGeom_LinearRing} (hy : y.geom1.geom0.flatCoords = l) (hs : 2 ≤ s) (hs8 : s ≤ 8) (h : Whole2 s l P) (h1 : 1 ≤ P.length) (h100 : P.length ≤ 100)
    (hax : ∀ k, k + 1 < P.length → Ax (nth P k) (nth P (k + 1))) {N : Nat} (hN : N ≤ 2000) {t0 : Int × Int × Int} (hb : Bnd N t0) {st0 : List Nat × Nat} (h0 : FS s st0 t0) :
    ∃ st, FS s st (run P t0 (P.length - 1)) ∧ iter (p_RingsCentroid_l4 (s : Int) (s : Int) y) F ((0 : Int), st0.1, st0.2) = some (.inl (st.1, st.2)) := by
  have hF' : 1073741826 ≤ F := hF
  obtain ⟨hl, hz⟩ := h
  have hbl : P.length * s ≤ 100 * 8 := Nat.mul_le_mul h100 hs8
  have hB : ∀ i, i < P.length → At (plc s l i) (nth P i).1 (nth P i).2 ∧ B64 (nth P i) := fun i hi => by
    have e1 : P[i]? = some P[i] := List.getElem?_eq_getElem hi
    have := hz i _ e1
    rw [nth_get e1]; exact this
  have hlast : (P.length - 1) * s + s = P.length * s := by
    obtain ⟨m, hm⟩ : ∃ m, P.length = m + 1 := ⟨P.length - 1, by omega⟩
    rw [hm, Nat.add_sub_cancel, Nat.add_mul, Nat.one_mul]
  have hlen : (P.drop 1).length = P.length - 1 := by simp
  obtain ⟨st, hst, e⟩ := fold_ex (P.drop 1) (p_RingsCentroid_l4 (s : Int) (s : Int) y) (fun i (st : List Nat × Nat) => (((i * s : Nat) : Int), st.1, st.2)) (fun st => (st.1, st.2))
    (fun i st => FS s st (run P t0 i))
    (fun K st hst => by
      unfold p_RingsCentroid_l4
      rw [hy, hlen]
      rw [cond_f (decide_eq_false (by simp only; omega))])
    (fun i x st hx hst => by
      have hi := lt_get hx
      rw [hlen] at hi
      obtain ⟨⟨a1, a2⟩, aB⟩ := hB i (by omega)
      obtain ⟨⟨b1, b2⟩, bB⟩ := hB (i + 1) (by omega)
      simp only [plc] at a1 a2 b1 b2
      have hle : (i + 1) * s + s ≤ P.length * s := mul_lt' (by omega) hs
      have hi1 : (i + 1) * s = i * s + s := by rw [Nat.add_mul, Nat.one_mul]
      rw [hi1] at b1 b2
      have hx' := hax i (by omega)
      obtain ⟨d, ed, jd⟩ := dist_p (cut0 (l := l) (a := i * s) (by omega)).1 (cut0 (l := l) (a := i * s) (by omega)).2 (cut0 (l := l) (a := i * s + s) (by omega)).1 (cut0 (l := l) (a := i * s + s) (by omega)).2 a1 a2 b1 b2 aB bB hx'
      have hbr := bnd_run (fun i hi => (hB i hi).2) hb (i + 1) (by omega)
      have hbs := bnd_seg aB bB
      have hrun : run P t0 (i + 1) = add3 (run P t0 i) (sg3 (nth P i) (nth P (i + 1))) := rfl
      obtain ⟨q1, q2, q3, q4, q5⟩ := hst
      rw [hrun] at hbr
      obtain ⟨⟨u1, u2⟩, ⟨u3, u4⟩, u5, u6⟩ := hbr
      obtain ⟨⟨v1, v2⟩, ⟨v3, v4⟩, v5, v6⟩ := hbs
      simp only [add3, sg3] at u1 u2 u3 u4 u5 u6 v1 v2 v3 v4 v5 v6
      have hmid : ((nth P i).1 + (nth P (i + 1)).1).natAbs ≤ 128 ∧ ((nth P i).2 + (nth P (i + 1)).2).natAbs ≤ 128 := by
        obtain ⟨⟨c1, c2⟩, c3, c4⟩ := aB
        obtain ⟨⟨c5, c6⟩, c7, c8⟩ := bB
        omega
      obtain ⟨z66, e66, j66⟩ := Flt.add_int q5 jd (by omega)
      obtain ⟨z73, z75, e73, e75, j75⟩ := half_sum a1 b1 (by omega)
      obtain ⟨z93, z95, e93, e95, j95⟩ := half_sum a2 b2 (by omega)
      rw [Int.add_comm] at j75 j95
      obtain ⟨z80, e80, j80⟩ := Flt.mul_dy jd.J j75 (by omega) (by decide) (by decide)
      obtain ⟨z100, e100, j100⟩ := Flt.mul_dy jd.J j95 (by omega) (by decide) (by decide)
      have j80' : Flt.J (-1) z80 (dd (nth P i) (nth P (i + 1)) * ((nth P (i + 1)).1 + (nth P i).1)) := j80
      have j100' : Flt.J (-1) z100 (dd (nth P i) (nth P (i + 1)) * ((nth P (i + 1)).2 + (nth P i).2)) := j100
      obtain ⟨z82, e82, j82⟩ := Flt.add_dy q2 j80' (by omega) (by decide) (by decide)
      obtain ⟨z102, e102, j102⟩ := Flt.add_dy q3 j100' (by omega) (by decide) (by decide)
      refine ⟨((st.1.set 0 z82).set 1 z102, z66), ?_, fun K => ?_⟩
      · refine ⟨by simp [q1], ?_, ?_, fun k hk => ?_, j66⟩
        · show Flt.J (-1) (((st.1.set 0 z82).set 1 z102).getD 0 0) _
          rw [getD_set', if_neg (by omega), getD_set', if_pos (by omega)]; exact j82
        · show Flt.J (-1) (((st.1.set 0 z82).set 1 z102).getD 1 0) _
          rw [getD_set', if_pos ⟨rfl, by simp; omega⟩]; exact j102
        · show ((st.1.set 0 z82).set 1 z102).getD k 0 = 0
          rw [getD_set', if_neg (by omega), getD_set', if_neg (by omega)]; exact q4 k hk
      · unfold p_RingsCentroid_l4
        rw [hy, hl]
        have ei : (((i * s : Nat) : Int) + (s : Int)) = (((i * s + s : Nat)) : Int) := by omega
        rw [cond_t (decide_eq_true (by simp only; omega))]
        simp only [ei]
        rw [need_pos (in64 (by omega) (by omega)), need_pos (by omega), need_pos (in64 (by omega) (by omega)), need_pos (in64 (by omega) (by omega)), need_pos (in64 (by omega) (by omega)), need_pos (by omega)]
        rw [ed, Option.bind_some, e66, Option.bind_some, idxD (show i * s < l.length by omega), Option.bind_some, need_pos (in64 (by omega) (by omega)), idxD (show i * s + s < l.length by omega), Option.bind_some, e73, Option.bind_some, e75, Option.bind_some]
        rw [need_pos (by omega), show idx st.1 (0 : Int) = some (st.1.getD 0 0) from idxD (k := 0) (by omega), Option.bind_some, e80, Option.bind_some, e82, Option.bind_some, need_pos (by omega), need_pos (show ((0 : Int)).toNat < st.1.length by omega)]
        rw [need_pos (in64 (by omega) (by omega)), succ_cast, idxD (show i * s + 1 < l.length by omega), Option.bind_some, need_pos (in64 (by omega) (by omega)), need_pos (in64 (by omega) (by omega)), succ_cast, idxD (show i * s + s + 1 < l.length by omega), Option.bind_some, e93, Option.bind_some, e95, Option.bind_some]
        rw [show ((0 : Int)).toNat = 0 from rfl, show ((1 : Int)).toNat = 1 from rfl]
        have i1 : idx (st.1.set 0 z82) (1 : Int) = some (st.1.getD 1 0) := by
          rw [show idx (st.1.set 0 z82) (1 : Int) = some ((st.1.set 0 z82).getD 1 0) from idxD (k := 1) (by simp; omega), getD_set', if_neg (by omega)]
        rw [need_pos (by omega), i1, Option.bind_some, e100, Option.bind_some, e102, Option.bind_some, need_pos (by omega), need_pos (by simp; omega), need_pos (in64 (by omega) (by omega)), hi1])
    F 0 st0 (by omega) (by omega) h0
  rw [hlen] at hst
  refine ⟨st, hst, ?_⟩
  rw [show (((0 : Int), st0.1, st0.2) : Int × List Nat × Nat) = ((((0 * s : Nat)) : Int), st0.1, st0.2) by rw [Nat.zero_mul]; rfl]
  exact e
end Go.Proofs.YtdchenbdnalbcaaGreat.Wk

set_option linter.unusedVariables false
set_option linter.unusedSimpArgs false
namespace Go.Proofs.YtdchenbdnalbcaaGreat.Wk
open Go.Vm Limb
def Gs (a0 : Int) (gs : List TImpl_Geom) (Ps : List (List (Int × Int))) : Prop := gs.length = Ps.length ∧ ∀ (j : Nat) g P, gs[j]? = some g → Ps[j]? = some P → GeoR a0 g P
theorem quo_lt64 {x y z : Nat} (h : floatBits .quo .f64 x y = some z) : z < 18446744073709551616 := Ieee.Format.div_lt Ieee.double h
theorem rep0 (n k : Nat) : (List.replicate n (0 : Nat)).getD k 0 = 0 := by
  simp only [List.getD_eq_getElem?_getD, List.getElem?_replicate]
  split <;> rfl
theorem rings_loop {F : Nat} (hF : BigF F) {a0 : Int} {gs : List TImpl_Geom} {lines : List (List TSpec_Point)} {Ps : List (List (Int × Int))} (h1 : 1 ≤ a0) (h8 : a0 ≤ 8) (hg : Gs a0 gs Ps) (hL : LinesR lines Ps) (h20 : gs.length ≤ 20) (hax : AllAx Ps Ps.length) :
    ∃ st, FS (strideN a0) st (runs Ps Ps.length) ∧ iter (p_RingsCentroid_l2 gs F (strideN a0 : Int) (strideN a0 : Int)) F ((0 : Int), List.replicate ((strideN a0 : Int)).toNat (0 : Nat), (0 : Nat)) = some (.inl (st.1, st.2)) := by
  have hF' : 1073741826 ≤ F := hF
  obtain ⟨_, e2, hs, hs8⟩ := stride_p h1 h8
  obtain ⟨st, hst, e⟩ := fold_ex gs (p_RingsCentroid_l2 gs F (strideN a0 : Int) (strideN a0 : Int)) (fun i (st : List Nat × Nat) => ((i : Int), st.1, st.2)) (fun st => (st.1, st.2))
    (fun j st => FS (strideN a0) st (runs Ps j))
    (fun K st hst => by unfold p_RingsCentroid_l2; rw [cond_f dge])
    (fun j g st hx hst => by
      have hj := lt_get hx
      obtain ⟨P, hP⟩ : ∃ P, Ps[j]? = some P := ⟨_, List.getElem?_eq_getElem (by have := hg.1; omega)⟩
      obtain ⟨pts, hp⟩ : ∃ p, lines[j]? = some p := ⟨_, List.getElem?_eq_getElem (by have := hL.1; have := hg.1; omega)⟩
      obtain ⟨hk, hy, hW, h100, hP1⟩ := hg.2 j g P hx hP
      have hb := runs_bnd hL j (by have := hg.1; omega)
      have hbl : P.length * strideN a0 ≤ 100 * 8 := Nat.mul_le_mul h100 hs8
      have hlen := hW.1
      obtain ⟨st', hst', e'⟩ := ring_loop hF (y := TGeom_LinearRing.mk (TGeom_geom1.mk (TGeom_geom0.mk g.Layout (strideN a0 : Int) g.Flat (0 : Int)))) rfl hs hs8 hW hP1 h100 (hax j P (by have := hg.1; omega) hP) (by omega) hb hst
      refine ⟨st', ?_, fun K => ?_⟩
      · show FS _ st' (run (Ps.getD j []) (runs Ps j) ((Ps.getD j []).length - 1))
        rw [List.getD_eq_getElem?_getD, hP]; exact hst'
      · unfold p_RingsCentroid_l2
        rw [cond_t (dlt hj)]
        simp only
        rw [idx_get hx, Option.bind_some]
        have ef : p_floats g.Flat = some g.Flat := by unfold p_floats; rw [need_pos (by omega)]
        have en : p_NewLinearRingFlat g.Layout g.Flat = some (TGeom_LinearRing.mk (TGeom_geom1.mk (TGeom_geom0.mk g.Layout (strideN a0 : Int) g.Flat (0 : Int)))) := by
          unfold p_NewLinearRingFlat; rw [hy, e2]; rfl
        rw [ef, Option.bind_some, cond_f (by rw [hk]; rfl), cond_f (by rw [hk]; rfl), cond_t (by rw [hk]; rfl), en, Option.bind_some]
        simp only
        rw [need_pos (in64m (by omega) (by omega)), e', Option.bind_some, aft_inl]
        unfold p_RingsCentroid_k3
        simp only
        rw [need_pos (i64s (by omega)), succ_cast])
    F 0 (List.replicate (strideN a0) 0, 0) (by omega) (by omega) (by
      refine ⟨by simp, ?_, ?_, fun k hk => ?_, ?_⟩
      · have := rep0 (strideN a0) 0
        show Flt.J (-1) ((List.replicate (strideN a0) (0 : Nat)).getD _ 0) 0
        rw [this]
        have := Flt.zero_int.J.less
        exact this
      · have := rep0 (strideN a0) 1
        show Flt.J (-1) ((List.replicate (strideN a0) (0 : Nat)).getD _ 0) 0
        rw [this]
        have := Flt.zero_int.J.less
        exact this
      · show (List.replicate (strideN a0) (0 : Nat)).getD k 0 = 0
        simp only [List.getD_eq_getElem?_getD, List.getElem?_replicate]
        split <;> rfl
      · exact Flt.zero_int)
  rw [hg.1] at hst
  refine ⟨st, hst, ?_⟩
  rw [show ((strideN a0 : Int)).toNat = strideN a0 by omega]
  exact e
theorem quo_p {x y : Nat} {A L : Int} (hx : Flt.J (-1) x A) (hy : Flt.I y L) (hL : 0 < L) (hA : -65536000 ≤ A ∧ A ≤ 65536000) : ∃ z r, floatBits .quo .f64 x y = some z ∧ Flt.V z = some r ∧ r - (A : Rat) / ((2 * L : Int) : Rat) < 1 / 1048576 ∧ (A : Rat) / ((2 * L : Int) : Rat) - r < 1 / 1048576 := by
  have e1 : (2 : Rat) ^ (-1 : Int) = 1 / 2 := by decide +kernel
  have hLr : (1 : Rat) ≤ (L : Rat) := by have : ((1 : Int) : Rat) ≤ (L : Rat) := Rat.intCast_le_intCast.2 (by omega); exact this
  have hinv := Rat.mul_inv_cancel (L : Rat) (by grind)
  have hi0 : 0 < (L : Rat)⁻¹ := Rat.inv_pos.2 (by grind)
  have hi1 : (L : Rat)⁻¹ ≤ 1 := by
    have := Rat.mul_le_mul_of_nonneg_right hLr (Rat.le_of_lt hi0)
    rw [hinv, Rat.one_mul] at this; exact this
  unfold Flt.J at hx
  rw [e1] at hx
  have h2L : (((2 * L : Int) : Rat))⁻¹ = (L : Rat)⁻¹ * (1 / 2) := by
    have e5 : ((2 : Int) : Rat) = 2 := rfl
    have h3 : ((2 * L : Int) : Rat) = 2 * (L : Rat) := by rw [Rat.intCast_mul, e5]
    have h4 := Rat.mul_inv_cancel ((2 * L : Int) : Rat) (by rw [h3]; grind)
    rw [h3] at h4 ⊢
    grind
  obtain ⟨Q, hQ⟩ : ∃ Q : Rat, Q = (A : Rat) * (1 / 2) * (L : Rat)⁻¹ := ⟨_, rfl⟩
  have hR : (A : Rat) / ((2 * L : Int) : Rat) = Q := by rw [Rat.div_def, h2L, hQ]; grind
  have hdiv : (A : Rat) * (1 / 2) / (L : Rat) = Q := by rw [Rat.div_def, hQ]
  have a1 : (-65536000 : Rat) ≤ (A : Rat) := by have : ((-65536000 : Int) : Rat) ≤ (A : Rat) := Rat.intCast_le_intCast.2 hA.1; exact this
  have a2 : (A : Rat) ≤ (65536000 : Rat) := by have : (A : Rat) ≤ ((65536000 : Int) : Rat) := Rat.intCast_le_intCast.2 hA.2; exact this
  have bQ : Flt.Bd Q 32768000 := by
    unfold Flt.Bd
    have m1 := Rat.mul_le_mul_of_nonneg_right (show (-32768000 : Rat) ≤ (A : Rat) * (1 / 2) by grind) (Rat.le_of_lt hi0)
    have m2 := Rat.mul_le_mul_of_nonneg_right (show (A : Rat) * (1 / 2) ≤ 32768000 by grind) (Rat.le_of_lt hi0)
    rw [← hQ] at m1 m2
    constructor <;> grind
  have abQ := Flt.ab_le bQ
  have big : (32768000 : Rat) < 2 ^ (1022 : Int) := by decide +kernel
  obtain ⟨z, r, ez, hz, near⟩ := Flt.div_rnd hx hy (by grind) (by rw [hdiv]; grind)
  rw [hdiv] at near
  have e52 : (2 : Rat) ^ (-52 : Int) = 1 / 4503599627370496 := by decide +kernel
  have n1 := near.lo
  have n2 := near.hi
  have tl := Flt.tiny_le
  rw [e52] at n1 n2
  have t0 : Flt.tiny ≤ 1 / 1099511627776 := by decide +kernel
  rw [hR]
  exact ⟨z, r, ez, hz, by grind, by grind⟩
theorem shift20_p {d : TSpec_Dyadic} {q : Rat} {m k : Nat} (h : Dyd d q m k) (hk : k < 1000000) : ∃ d', p_Dyadic_Shift d (-20) = some d' ∧ Dyd d' (q * (1 / 1048576)) m (k + 20) := by
  obtain ⟨n, e, rfl, rfl, h1, h2, h3⟩ := h
  unfold p_Dyadic_Shift
  rw [need_pos (in64m (by simp only; omega) (by simp only; omega))]
  refine ⟨_, rfl, n, e + -20, rfl, ?_, h1, by omega, by omega⟩
  have e20 : (2 : Rat) ^ (-20 : Int) = 1 / 1048576 := by decide +kernel
  rw [Flt.zpow_add, e20]; grind
theorem near20_p {F : Nat} (hF : BigF F) {v : Nat} {r R d : Rat} {N D : TSpec_Dyadic} (hv : Flt.V v = some r) (hw : v < 18446744073709551616) (hd : 0 < d) (hD : Dyd D d 102 3223) (hN : Dyd N (R * d) 102 3222) (h1 : r - R < 1 / 1048576) (h2 : R - r < 1 / 1048576) : p_nearRatio F v ⟨N, D⟩ (-20) = some true := by
  have hfin : Flt.isFin v = true := by unfold Flt.isFin; rw [hv]; rfl
  obtain ⟨d1, e1, k1⟩ := dyd_of hw hv hF
  obtain ⟨d2, e2, k2⟩ := dyd_mul k1 hD (by omega) (by omega) hF
  obtain ⟨d3, e3, k3⟩ := dyd_sub k2 hN (by omega) (by omega) hF
  obtain ⟨d4, e4, k4⟩ := dyd_abs k3
  obtain ⟨d5, e5, k5⟩ := shift20_p hD (by omega)
  have e6 := dyd_cmp k4 k5 (by omega) (by omega) hF
  unfold p_nearRatio
  rw [cond_t hfin, e1, Option.bind_some, e2, Option.bind_some, e3, Option.bind_some, e4, Option.bind_some, e5, Option.bind_some, e6, Option.bind_some]
  congr 1
  refine decide_eq_true (sgR_neg.2 ?_)
  have a1 := Rat.mul_lt_mul_of_pos_right h1 hd
  have a2 := Rat.mul_lt_mul_of_pos_right h2 hd
  unfold Flt.ab
  split <;> grind
theorem centred_p {F : Nat} (hF : BigF F) {l : List Nat} {s : Nat} {r1 r2 : TSpec_Ratio} (hl : l.length = s) (hs : 2 ≤ s) (hs8 : s ≤ 8) (n1 : p_nearRatio F (l.getD 0 0) r1 (-20) = some true) (n2 : p_nearRatio F (l.getD 1 0) r2 (-20) = some true) (hz : ∀ k, 2 ≤ k → l.getD k 0 = 0) :
    p_centred F l r1 r2 (s : Int) = some true := by
  have hF' : 1073741826 ≤ F := hF
  unfold p_centred
  rw [cond_f (show (!decide (((l.length : Nat) : Int) = (s : Int))) = false by simp [hl]), cond_f (decide_eq_false (by omega)), show idx l (0 : Int) = some (l.getD 0 0) from idxD (k := 0) (by omega), Option.bind_some, n1, Option.bind_some, Bool.not_true, cond_false,
    show idx l (1 : Int) = some (l.getD 1 0) from idxD (k := 1) (by omega), Option.bind_some, n2, Option.bind_some, Bool.not_true]
  unfold p_centred_k1
  rw [cond_false, need_pos ⟨by simp, by omega, by omega⟩]
  have e : iter (p_centred_l3 l) F (0 : Int) = some (if ((l.drop ((2 : Int)).toNat).take (l.length - ((2 : Int)).toNat)).all (fun x => feq x 0) = true then Sum.inl () else Sum.inr false) := by
    refine scan_loop0 ((l.drop ((2 : Int)).toNat).take (l.length - ((2 : Int)).toNat)) _ _ _ (fun K k hk => ?_) (fun K k x hx => ?_) (by simp; omega)
    · unfold p_centred_l3; rw [cond_f (decide_eq_false (by omega))]
    · have hk := (List.getElem?_eq_some_iff.1 hx).1
      have hk2 : k < 8 := by simp at hk; omega
      unfold p_centred_l3
      rw [cond_t (decide_eq_true (by omega)), idx_get hx, Option.bind_some, succ_cast]
      cases feq x 0 with
      | false => rw [Bool.not_false, cond_true, if_neg (by simp)]
      | true => rw [Bool.not_true, cond_false, need_pos (in64 (by omega) (by omega)), if_pos rfl]
  have hall : ((l.drop ((2 : Int)).toNat).take (l.length - ((2 : Int)).toNat)).all (fun x => feq x 0) = true := by
    rw [List.all_eq_true]
    intro x hx
    obtain ⟨k, hk⟩ := List.getElem?_of_mem hx
    rw [List.getElem?_take] at hk
    split at hk
    · rw [List.getElem?_drop] at hk
      have : l.getD (((2 : Int)).toNat + k) 0 = x := by rw [List.getD_eq_getElem?_getD, hk]; rfl
      rw [← this, hz _ (by omega)]; decide +kernel
    · cases hk
  rw [e, if_pos hall, Option.bind_some, aft_inl]
  rfl
theorem law_rings {F : Nat} (hF : 1073741826 ≤ F) (a0 : Int) (gs : List TImpl_Geom) (hw : ∀ g, g ∈ gs → ∀ x, x ∈ g.Flat → x < 18446744073709551616) : p_FnRingsCentroid F a0 gs = some true := by
  have hk1 : ∀ y, p_FnRingsCentroid_k1 a0 gs F y true = some true := fun y => rfl
  unfold p_FnRingsCentroid
  by_cases hz : (2147483647 : Int) < ((gs.length : Nat) : Int)
  · rw [cond_t (decide_eq_true hz)]
  rw [cond_f (decide_eq_false hz)]
  rcases kindred_p (F := F) hF (a0 := a0) hw with e | ⟨s, e, ⟨h1, h8⟩, h20, q1, q2, q3, q4⟩
  · rw [e, Option.bind_some]
    have : ∃ y, p_LineCentroid F [] = some y := by
      rcases centroid_p hF (lines := []) (Ps := []) ⟨rfl, fun j p P h => by simp at h⟩ (by simp) with ⟨_, _, _, h, _⟩ | ⟨_, _, h⟩ <;> exact ⟨_, h⟩
    obtain ⟨y, hy⟩ := this
    show (p_LineCentroid F []).bind _ = _
    rw [hy, Option.bind_some]
    rfl
  · rw [e, Option.bind_some]
    have hL : LinesR s.2.1 s.2.2 := ⟨by omega, fun j pts P hp hP => by
      obtain ⟨g, hg⟩ : ∃ g, gs[j]? = some g := ⟨_, List.getElem?_eq_getElem (by have := (List.getElem?_eq_some_iff.1 hp).1; omega)⟩
      obtain ⟨a, b⟩ := q4 j pts P g hp hP hg
      exact ⟨a, b.2.2.2.1, b.2.2.2.2⟩⟩
    have hG : Gs a0 gs s.2.2 := ⟨q1.symm, fun j g P hg hP => by
      obtain ⟨p, hp⟩ : ∃ p, s.2.1[j]? = some p := ⟨_, List.getElem?_eq_getElem (by have := (List.getElem?_eq_some_iff.1 hP).1; omega)⟩
      exact (q4 j p P g hp hP hg).2⟩
    have hk2 : ∀ y : TSpec_Ratio × TSpec_Ratio × Bool, p_FnRingsCentroid_k1 a0 gs F y (!y.2.2) = some true → (cond (!decide (s.1 ≤ 100)) (p_FnRingsCentroid_k1 a0 gs F y true) (p_FnRingsCentroid_k1 a0 gs F y (!y.2.2))) = some true := fun y h => by
      cases (!decide (s.1 ≤ 100)) with
      | true => rfl
      | false => exact h
    rcases centroid_p hF hL (by omega) with ⟨N1, N2, D, ec, hne, k1, k2, kD, hax⟩ | ⟨a, b, ec⟩
    · show (p_LineCentroid F s.2.1).bind _ = _
      rw [ec, Option.bind_some]
      refine hk2 _ ?_
      show p_FnRingsCentroid_k1 a0 gs F (⟨N1, D⟩, ⟨N2, D⟩, true) false = some true
      obtain ⟨e1, e2, hs, hs8⟩ := stride_p h1 h8
      obtain ⟨st, ⟨f1, f2, f3, f4, f5⟩, el⟩ := rings_loop hF h1 h8 hG hL h20 hax
      obtain ⟨⟨b1, b2⟩, ⟨b3, b4⟩, b5, b6⟩ := runs_bnd hL s.2.2.length (by omega)
      have hpos : 0 < (runs s.2.2 s.2.2.length).1 := by omega
      obtain ⟨z17, r17, ez17, v17, n17, n17'⟩ := quo_p f2 f5 hpos (by omega)
      obtain ⟨z24, r24, ez24, v24, n24, n24'⟩ := quo_p f3 f5 hpos (by omega)
      obtain ⟨out, hout⟩ : ∃ o, o = ((List.replicate (strideN a0) (0 : Nat)).set 0 z17).set 1 z24 := ⟨_, rfl⟩
      have er : p_RingsCentroid F a0 gs = some (out, true) := by
        unfold p_RingsCentroid
        rw [e2, Option.bind_some, Option.bind_some, need_pos (by omega), el, Option.bind_some, aft_inl]
        unfold p_RingsCentroid_k1
        rw [e2, Option.bind_some, need_pos (by omega), need_pos (by omega), show idx st.1 (0 : Int) = some (st.1.getD 0 0) from idxD (k := 0) (by omega), Option.bind_some, ez17, Option.bind_some, need_pos (by omega), need_pos (by simp; omega), need_pos (by omega),
          show idx st.1 (1 : Int) = some (st.1.getD 1 0) from idxD (k := 1) (by omega), Option.bind_some, ez24, Option.bind_some, need_pos (by omega), need_pos (by simp; omega), need_pos (by simp)]
        rw [show ((strideN a0 : Int)).toNat = strideN a0 by omega, show ((0 : Int)).toNat = 0 from rfl, show ((1 : Int)).toNat = 1 from rfl, ← hout]
        unfold p_floats
        rw [need_pos (by rw [hout]; simp; omega)]
        rfl
      have hol : out.length = strideN a0 := by rw [hout]; simp
      have o0 : out.getD 0 0 = z17 := by rw [hout, getD_set', if_neg (by omega), getD_set', if_pos ⟨rfl, by simp; omega⟩]
      have o1 : out.getD 1 0 = z24 := by rw [hout, getD_set', if_pos ⟨rfl, by simp; omega⟩]
      have o2 : ∀ k, 2 ≤ k → out.getD k 0 = 0 := fun k hk => by
        rw [hout, getD_set', if_neg (by omega), getD_set', if_neg (by omega)]
        simp only [List.getD_eq_getElem?_getD, List.getElem?_replicate]
        split <;> rfl
      unfold p_FnRingsCentroid_k1
      rw [cond_false, er, Option.bind_some]
      have d0 : (0 : Rat) < ((2 * (runs s.2.2 s.2.2.length).1 : Int) : Rat) := by
        have : ((0 : Int) : Rat) < ((2 * (runs s.2.2 s.2.2.length).1 : Int) : Rat) := Rat.intCast_lt_intCast.2 (by omega)
        simpa using this
      have hq : ∀ A : Int, (A : Rat) / ((2 * (runs s.2.2 s.2.2.length).1 : Int) : Rat) * ((2 * (runs s.2.2 s.2.2.length).1 : Int) : Rat) = (A : Rat) := fun A => by
        have := Rat.mul_inv_cancel ((2 * (runs s.2.2 s.2.2.length).1 : Int) : Rat) (by grind)
        rw [Rat.div_def]; grind
      have g1 := near20_p hF v17 (quo_lt64 ez17) d0 kD (R := ((runs s.2.2 s.2.2.length).2.1 : Rat) / ((2 * (runs s.2.2 s.2.2.length).1 : Int) : Rat)) (by rw [hq]; exact k1) n17 n17'
      have g2 := near20_p hF v24 (quo_lt64 ez24) d0 kD (R := ((runs s.2.2 s.2.2.length).2.2 : Rat) / ((2 * (runs s.2.2 s.2.2.length).1 : Int) : Rat)) (by rw [hq]; exact k2) n24 n24'
      have hc := centred_p hF (r1 := ⟨N1, D⟩) (r2 := ⟨N2, D⟩) hol hs hs8 (by rw [o0]; exact g1) (by rw [o1]; exact g2) o2
      show (cond true _ _) = _
      rw [cond_true, e1, Option.bind_some]
      show (p_centred F out ⟨N1, D⟩ ⟨N2, D⟩ _).bind _ = _
      rw [hc]
      rfl
    · show (p_LineCentroid F s.2.1).bind _ = _
      rw [ec, Option.bind_some]
      exact hk2 _ rfl
end Go.Proofs.YtdchenbdnalbcaaGreat.Wk

set_option linter.unusedVariables false
set_option linter.unusedSimpArgs false
namespace Go.Proofs.YtdchenbdnalbcaaGreat.Wk
open Go.Vm
mutual
def WfG : TImpl_Geom → Prop
  | .mk a b c f e es ks => (lo .i64 ≤ a ∧ a ≤ hi .i64) ∧ (lo .i64 ≤ b ∧ b ≤ hi .i64) ∧ (lo .i64 ≤ c ∧ c ≤ hi .i64) ∧ (f.length ≤ maxLen ∧ ∀ x ∈ f, (Lit.float .f64 x).wf = true) ∧ (e.length ≤ maxLen ∧ ∀ x ∈ e, lo .i64 ≤ x ∧ x ≤ hi .i64) ∧
    (es.length ≤ maxLen ∧ ∀ l ∈ es, l.length ≤ maxLen ∧ ∀ x ∈ l, lo .i64 ≤ x ∧ x ≤ hi .i64) ∧ ks.length ≤ maxLen ∧ WfGs ks
def WfGs : List TImpl_Geom → Prop
  | [] => True
  | g :: r => WfG g ∧ WfGs r
end
theorem wfGs_mem : ∀ {l : List TImpl_Geom}, WfGs l → ∀ k ∈ l, WfG k
  | [], _, k, h => by cases h
  | g :: r, h, k, hk => by
    simp only [WfGs] at h
    rcases List.mem_cons.1 hk with rfl | hk
    · exact h.1
    · exact wfGs_mem h.2 k hk
theorem wfGs_of : ∀ {l : List TImpl_Geom}, (∀ k ∈ l, WfG k) → WfGs l
  | [], _ => by simp only [WfGs]
  | g :: r, h => by simp only [WfGs]; exact ⟨h g (by simp), wfGs_of fun k hk => h k (by simp [hk])⟩
theorem wfG_flat {g : TImpl_Geom} (h : WfG g) : ∀ x, x ∈ g.Flat → x < 18446744073709551616 := by
  cases g
  simp only [WfG] at h
  exact fun x hx => wf64 (h.2.2.2.1.2 x hx)
end Go.Proofs.YtdchenbdnalbcaaGreat.Wk
