/- Proved: plain texts of a law, joined. -/
import Derived.Test.YtohgipjhcgblfaaGreatPLx
import Derived.Test.YtohgipjhcgblfaaGreatLibC
namespace Go.Proofs.YtohgipjhcgblfaaGreat.Wk
open Go.Vm Limb
set_option linter.unusedVariables false
set_option linter.unusedSimpArgs false

def nl (l : List Nat) : List Int := l.map fun x : Nat => (x : Int)
theorem nl_len (l : List Nat) : (nl l).length = l.length := by simp [nl]
theorem nl_append (l m : List Nat) : nl l ++ nl m = nl (l ++ m) := by simp [nl]
theorem nl_one (x : Nat) : [((x : Nat) : Int)] = nl [x] := rfl
theorem idx_nl {l : List Nat} {k : Nat} (h : k < l.length) : idx (nl l) (k : Int) = some ((l.getD k 0 : Nat) : Int) := by
 unfold idx; rw [if_pos (by omega)]; simp [nl, h]
theorem w32 (s : Nat) : IntKind.u32.wrap (s : Int) = ((s % 4294967296 : Nat) : Int) := by simp [IntKind.wrap, IntKind.signed, IntKind.bits]
theorem w64 {s : Nat} (h : s < 18446744073709551616) : IntKind.u64.wrap (s : Int) = (s : Int) := wrap_in .u64 _ (by simp only [lo]; omega) (by simp only [hi]; omega)
theorem okget {l : List Nat} (h : ok l) (k : Nat) : l.getD k 0 < 4294967296 := by
 rw [List.getD_eq_getElem?_getD]
 cases hq : l[k]? with
 | none => decide
 | some x => exact h x (List.mem_of_getElem? hq)


/-! ### trim -/
theorem trim_loop : ∀ (n : Nat) (l : List Nat), l.length = n → l.length < 9223372036854775807 → ∀ F, n < F → iter p_trim_l2 F (nl l) = some (Sum.inl (nl (trim l))) := by
 intro n
 induction n with
 | zero =>
  intro l hl _ F hF
  obtain ⟨F, rfl⟩ : ∃ m, F = m + 1 := ⟨F - 1, by omega⟩
  have : l = [] := List.eq_nil_of_length_eq_zero hl
  subst this
  rfl
 | succ n ih =>
  intro l hl hb F hF
  obtain ⟨F, rfl⟩ : ∃ m, F = m + 1 := ⟨F - 1, by omega⟩
  rcases List.eq_nil_or_concat l with rfl | ⟨i, x, rfl⟩
  ·simp at hl
  ·simp only [List.concat_eq_append] at *
   have hi : i.length = n := by simpa using hl
   have hc : (((nl (i ++ [x])).length : Nat) : Int) - 1 = ((n : Nat) : Int) := by rw [nl_len]; simp [hi]
   show p_trim_l2 (iter p_trim_l2 F) (nl (i ++ [x])) = _
   unfold p_trim_l2
   rw [cond_t (by rw [nl_len]; simp), hc, need_pos (in64 (by omega) (by simp at hb; omega)), idx_nl (by simp; omega)]
   have hg : (i ++ [x]).getD n 0 = x := by rw [List.getD_eq_getElem?_getD, ← hi]; simp
   rw [hg, Option.bind_some, trim_snoc]
   by_cases hx : x = 0
   ·subst hx
    rw [cond_t (by simp), if_pos rfl, need_pos (in64 (by omega) (by simp at hb; omega)), need_pos (by rw [nl_len]; simp; omega)]
    have : ((nl (i ++ [0])).drop 0).take ((n : Int).toNat - 0) = nl i := by simp [nl, ← hi]
    rw [this]
    exact ih i hi (by simp at hb; omega) F (by omega)
   ·rw [cond_f (by simp; omega), if_neg hx]
theorem trim_p {F : Nat} {l : List Nat} (hl : l.length < F) (hb : l.length < 9223372036854775807) : p_trim F (nl l) = some (nl (trim l)) := by
 unfold p_trim
 rw [trim_loop _ l rfl hb F hl]; rfl

/-! ### sums -/
theorem add_loop {x y : List Nat} (hx : ok x) (hy : ok y) (hyx : y.length ≤ x.length) (hb : x.length < 1073741824) : ∀ (n k c : Nat) (out : List Nat), n = x.length - k → k ≤ x.length → out.length = k → ok out → c ≤ 1 →
  val out + 4294967296 ^ k * c = val (x.take k) + val (y.take k) → ∀ F, n < F →
  ∃ (c' : Nat) (out' : List Nat), iter (p_addLimbs_l3 (nl x, nl y)) F ((c : Int), (k : Int), nl out) = some (Sum.inl ((c' : Int), nl out')) ∧ out'.length = x.length ∧ ok out' ∧ c' ≤ 1 ∧ val out' + 4294967296 ^ x.length * c' = val x + val y := by
 intro n
 induction n with
 | zero =>
  intro k c out hn hk ho hok hc hv F hF
  obtain ⟨F, rfl⟩ : ∃ m, F = m + 1 := ⟨F - 1, by omega⟩
  have hkx : k = x.length := by omega
  subst hkx
  refine ⟨c, out, ?_, ho, hok, hc, ?_⟩
  ·show p_addLimbs_l3 _ _ _ = _
   unfold p_addLimbs_l3
   rw [cond_f (by simp [nl_len])]
  ·rw [hv, List.take_of_length_le (Nat.le_refl _), List.take_of_length_le hyx]
 | succ n ih =>
  intro k c out hn hk ho hok hc hv F hF
  obtain ⟨F, rfl⟩ : ∃ m, F = m + 1 := ⟨F - 1, by omega⟩
  have hkx : k < x.length := by omega
  have bx := okget hx k
  have bY := okget hy k
  have fin : ∀ s : Nat, s = x.getD k 0 + c + y.getD k 0 →
    ∃ (c' : Nat) (out' : List Nat), p_addLimbs_k4 ((c : Int), (k : Int), nl out) (iter (p_addLimbs_l3 (nl x, nl y)) F) (s : Int) = some (Sum.inl ((c' : Int), nl out')) ∧ out'.length = x.length ∧ ok out' ∧ c' ≤ 1 ∧ val out' + 4294967296 ^ x.length * c' = val x + val y := by
   intro s hs
   unfold p_addLimbs_k4
   rw [need_pos (by simp only [nl_len, List.length_singleton]; omega), need_pos (by omega), need_pos (in64 (by simp only; omega) (by simp only; omega)), w32]
   have e1 : (s : Int) / 2 ^ 32 = ((s / 4294967296 : Nat) : Int) := by
    have : (2 : Int) ^ 32 = 4294967296 := by decide
    rw [this]; omega
   have e2 : ((k : Int) + 1) = ((k + 1 : Nat) : Int) := by omega
   simp only [e1, e2, nl_one, nl_append]
   exact ih (k + 1) (s / 4294967296) (out ++ [s % 4294967296]) (by omega) (by omega) (by simp [ho]) (ok_snoc hok) (by omega) (add_step ho hv hs) F (by omega)
  show ∃ (c' : Nat) (out' : List Nat), p_addLimbs_l3 _ _ _ = _ ∧ _
  unfold p_addLimbs_l3
  simp only
  rw [cond_t (by simp [nl_len]; omega), idx_nl hkx, Option.bind_some, w64 (by omega), need_pos (inu64 (by omega) (by omega))]
  by_cases hky : k < y.length
  ·rw [cond_t (by simp [nl_len]; omega), idx_nl hky, Option.bind_some, w64 (by omega), need_pos (inu64 (by omega) (by omega))]
   have := fin (x.getD k 0 + c + y.getD k 0) rfl
   have e : ((x.getD k 0 : Nat) : Int) + (c : Int) + ((y.getD k 0 : Nat) : Int) = ((x.getD k 0 + c + y.getD k 0 : Nat) : Int) := by omega
   rw [e]; exact this
  ·have hz : y.getD k 0 = 0 := by rw [List.getD_eq_getElem?_getD, List.getElem?_eq_none (by omega)]; rfl
   rw [cond_f (by simp [nl_len]; omega)]
   have := fin (x.getD k 0 + c) (by omega)
   have e : ((x.getD k 0 : Nat) : Int) + (c : Int) = ((x.getD k 0 + c : Nat) : Int) := by omega
   rw [e]; exact this
theorem add_k {x y : List Nat} (hx : ok x) (hy : ok y) (hyx : y.length ≤ x.length) (hb : x.length < 1073741824) {F : Nat} (hF : 1073741826 ≤ F) : p_addLimbs_k1 F (nl x, nl y) = some (nl (limbs (val x + val y))) := by
 obtain ⟨c, out, h1, h2, h3, h4, h5⟩ := add_loop hx hy hyx hb x.length 0 0 [] rfl (Nat.zero_le _) rfl (fun z hz => by simp at hz) (by omega) (by simp [val]) F (by omega)
 unfold p_addLimbs_k1
 simp only [nl_len]
 rw [need_pos (in64 (by omega) (by omega)), need_pos (by omega)]
 have h1' : iter (p_addLimbs_l3 (nl x, nl y)) F ((0 : Int), (0 : Int), []) = some (Sum.inl ((c : Int), nl out)) := h1
 rw [h1', Option.bind_some]
 show p_addLimbs_k2 F ((c : Int), nl out) = _
 unfold p_addLimbs_k2
 have e : ((c : Nat) % 4294967296) = c := by omega
 rw [need_pos (by simp only [nl_len, List.length_singleton]; omega), w32, e, nl_one, nl_append, trim_p (by simp; omega) (by simp; omega), Option.bind_some, trim_limbs _ (fun z hz => by
  rcases List.mem_append.1 hz with h | h
  ·exact h3 z h
  ·rw [List.mem_singleton.1 h]; omega)]
 have ev : val (out ++ [c]) = val x + val y := by rw [val_append, h2, ← h5]; simp [val]
 rw [ev]
theorem addLimbs_p {a b : List Nat} (ha : ok a) (hb : ok b) (la : a.length < 1073741824) (lb : b.length < 1073741824) {F : Nat} (hF : 1073741826 ≤ F) : p_addLimbs F (nl a) (nl b) = some (nl (limbs (val a + val b))) := by
 unfold p_addLimbs
 simp only [nl_len]
 by_cases h : a.length < b.length
 ·rw [cond_t (by simp; omega), add_k hb ha (by omega) lb hF, Nat.add_comm]
 ·rw [cond_f (by simp; omega), add_k ha hb (by omega) la hF]

/-! ### comparing -/
theorem cmp_loop {x y : List Nat} (hx : ok x) (hy : ok y) (hl : x.length = y.length) (hb : x.length < 1073741824) : ∀ (j : Nat), j ≤ x.length → x.drop j = y.drop j → ∀ F, j < F →
  iter (p_cmpLimbs_l2 (nl x) (nl y)) F ((j : Int) - 1) = some (if val x = val y then Sum.inl () else Sum.inr (if val x < val y then -1 else 1)) := by
 intro j
 induction j with
 | zero =>
  intro hj hd F hF
  obtain ⟨F, rfl⟩ : ∃ m, F = m + 1 := ⟨F - 1, by omega⟩
  have : x = y := by simpa using hd
  subst this
  rw [if_pos rfl]
  show p_cmpLimbs_l2 _ _ _ _ = _
  unfold p_cmpLimbs_l2
  rw [cond_f (by decide)]
 | succ j ih =>
  intro hj hd F hF
  obtain ⟨F, rfl⟩ : ∃ m, F = m + 1 := ⟨F - 1, by omega⟩
  show p_cmpLimbs_l2 _ _ _ _ = _
  have e : (((j + 1 : Nat) : Int) - 1) = (j : Int) := by omega
  rw [e]
  unfold p_cmpLimbs_l2
  rw [cond_t (by simp), idx_nl (by omega), Option.bind_some, idx_nl (by omega), Option.bind_some]
  by_cases hxy : x.getD j 0 = y.getD j 0
  ·rw [cond_f (nF (by omega)), need_pos (in64m (by omega) (by omega))]
   have hd' : x.drop j = y.drop j := by
    have h1 : x[j]'(by omega) = y[j]'(by omega) := by
     have h2 := hxy
     rw [List.getD_eq_getElem?_getD, List.getD_eq_getElem?_getD, List.getElem?_eq_getElem (l := x) (i := j) (by omega), List.getElem?_eq_getElem (l := y) (i := j) (by omega)] at h2
     exact h2
    rw [List.drop_eq_getElem_cons (l := x) (i := j) (by omega), List.drop_eq_getElem_cons (l := y) (i := j) (by omega), h1, hd]
   exact ih (by omega) hd' F (by omega)
  ·rw [cond_t (nT (by omega))]
   simp only [Option.bind_some]
   by_cases hlt : x.getD j 0 < y.getD j 0
   ·have hv := cmp_at hx hy (by omega) (by omega) hd hlt
    rw [cond_t (decide_eq_true (by omega)), if_neg (by omega), if_pos hv]
   ·have hv := cmp_at hy hx (j := j) (by omega) (by omega) hd.symm (by omega)
    rw [cond_f (decide_eq_false (by omega)), if_neg (by omega), if_neg (by omega)]
theorem cmp_p {a b : Nat} (la : (limbs a).length < 1073741824) (lb : (limbs b).length < 1073741824) {F : Nat} (hF : 1073741826 ≤ F) :
  p_cmpLimbs F (nl (limbs a)) (nl (limbs b)) = some (if a = b then 0 else if a < b then -1 else 1) := by
 unfold p_cmpLimbs
 simp only [nl_len]
 by_cases hl : (limbs a).length = (limbs b).length
 ·rw [cond_f (by simp [hl]), need_pos (in64m (by omega) (by omega)), cmp_loop (limbs_ok a) (limbs_ok b) hl la (limbs a).length (Nat.le_refl _) (by rw [List.drop_length, hl, List.drop_length]) F (by omega), val_limbs, val_limbs]
  by_cases h : a = b
  ·rw [if_pos h, if_pos h]; rfl
  ·rw [if_neg h, if_neg h]; rfl
 ·rw [cond_t (by simp; omega)]
  by_cases h : (limbs a).length < (limbs b).length
  ·have := limbs_len_lt h
   rw [cond_t (by simp; omega), if_neg (by omega), if_pos this]
  ·have := limbs_len_lt (a := b) (b := a) (by omega)
   rw [cond_f (by simp; omega), if_neg (by omega), if_neg (by omega)]

/-! ### differences -/
theorem sub_loop {x y : List Nat} (hx : ok x) (hy : ok y) (hyx : y.length ≤ x.length) (hb : x.length < 1073741824) : ∀ (n k c : Nat) (out : List Nat), n = x.length - k → k ≤ x.length → out.length = k → ok out → c ≤ 1 →
  val out + val (y.take k) = val (x.take k) + 4294967296 ^ k * c → ∀ F, n < F →
  ∃ (c' : Nat) (out' : List Nat), iter (p_subLimbs_l2 (nl x) (nl y)) F ((c : Int), (k : Int), nl out) = some (Sum.inl (nl out')) ∧ ok out' ∧ out'.length = x.length ∧ val out' + val y = val x + 4294967296 ^ x.length * c' := by
 intro n
 induction n with
 | zero =>
  intro k c out hn hk ho hok hc hv F hF
  obtain ⟨F, rfl⟩ : ∃ m, F = m + 1 := ⟨F - 1, by omega⟩
  have hkx : k = x.length := by omega
  subst hkx
  refine ⟨c, out, ?_, hok, ho, ?_⟩
  ·show p_subLimbs_l2 _ _ _ _ = _
   unfold p_subLimbs_l2
   rw [cond_f (by simp [nl_len])]
  ·rw [List.take_of_length_le (Nat.le_refl _), List.take_of_length_le hyx] at hv
   exact hv
 | succ n ih =>
  intro k c out hn hk ho hok hc hv F hF
  obtain ⟨F, rfl⟩ : ∃ m, F = m + 1 := ⟨F - 1, by omega⟩
  have hkx : k < x.length := by omega
  have bx := okget hx k
  have bY := okget hy k
  have fin : ∀ s b : Nat, s = c + y.getD k 0 → b = (if x.getD k 0 < s then 1 else 0) →
    ∃ (c' : Nat) (out' : List Nat), p_subLimbs_k4 ((c : Int), (k : Int), nl out) (iter (p_subLimbs_l2 (nl x) (nl y)) F) ((x.getD k 0 : Nat) : Int) (s : Int) (b : Int) = some (Sum.inl (nl out')) ∧ ok out' ∧ out'.length = x.length ∧ val out' + val y = val x + 4294967296 ^ x.length * c' := by
   intro s b hs hb2
   have hb1 : b ≤ 1 := by rw [hb2]; split <;> omega
   have hge : s ≤ x.getD k 0 + b * 4294967296 := by rw [hb2]; split <;> omega
   have hlt : x.getD k 0 + b * 4294967296 - s < 4294967296 := by rw [hb2]; split <;> omega
   obtain ⟨t, ht⟩ : ∃ t, t = x.getD k 0 + b * 4294967296 - s := ⟨_, rfl⟩
   unfold p_subLimbs_k4
   have e1 : (b : Int) * 2 ^ 32 = ((b * 4294967296 : Nat) : Int) := by
    have : (2 : Int) ^ 32 = 4294967296 := by decide
    rw [this]; omega
   have e2 : ((k : Int) + 1) = ((k + 1 : Nat) : Int) := by omega
   have e3 : ((x.getD k 0 : Nat) : Int) + ((b * 4294967296 : Nat) : Int) - (s : Int) = (t : Int) := by omega
   rw [w64 (by omega), e1, w64 (by omega), need_pos (inu64 (by omega) (by omega)), e3, need_pos (inu64 (by omega) (by omega)), w32, need_pos (by simp only [nl_len, List.length_singleton]; omega), need_pos (in64 (by simp only; omega) (by simp only; omega))]
   have e4 : t % 4294967296 = t := by omega
   simp only [e2, e4, nl_one, nl_append]
   refine ih (k + 1) b (out ++ [t]) (by omega) (by omega) (by simp [ho]) (fun z hz => ?_) hb1 ?_ F (by omega)
   ·rcases List.mem_append.1 hz with h | h
    ·exact hok z h
    ·rw [List.mem_singleton.1 h]; omega
   ·rw [val_append, ho, val_take_any, val_take_any]
    have h1 : val [t] = t := by simp [val]
    rw [h1, Nat.pow_succ]
    have h2 : 4294967296 ^ k * t + 4294967296 ^ k * s = 4294967296 ^ k * x.getD k 0 + 4294967296 ^ k * 4294967296 * b := by
     rw [Nat.mul_assoc, ← Nat.mul_add, ← Nat.mul_add]; congr 1; omega
    have h3 : 4294967296 ^ k * s = 4294967296 ^ k * c + 4294967296 ^ k * y.getD k 0 := by rw [hs, Nat.mul_add]
    omega
  have fin2 : ∀ s : Nat, s = c + y.getD k 0 →
    ∃ (c' : Nat) (out' : List Nat), p_subLimbs_k3 ((c : Int), (k : Int), nl out) (iter (p_subLimbs_l2 (nl x) (nl y)) F) ((x.getD k 0 : Nat) : Int) (s : Int) = some (Sum.inl (nl out')) ∧ ok out' ∧ out'.length = x.length ∧ val out' + val y = val x + 4294967296 ^ x.length * c' := by
   intro s hs
   unfold p_subLimbs_k3
   rw [w64 (by omega)]
   by_cases h : x.getD k 0 < s
   ·rw [cond_t (decide_eq_true (by omega))]; exact fin s 1 hs (by rw [if_pos h])
   ·rw [cond_f (decide_eq_false (by omega))]; exact fin s 0 hs (by rw [if_neg h])
  show ∃ (c' : Nat) (out' : List Nat), p_subLimbs_l2 _ _ _ _ = _ ∧ _
  unfold p_subLimbs_l2
  simp only
  rw [cond_t (by simp [nl_len]; omega), idx_nl hkx, Option.bind_some]
  by_cases hky : k < y.length
  ·rw [cond_t (by simp [nl_len]; omega), idx_nl hky, Option.bind_some, w64 (by omega), need_pos (inu64 (by omega) (by omega))]
   have := fin2 (c + y.getD k 0) rfl
   have e : (c : Int) + ((y.getD k 0 : Nat) : Int) = ((c + y.getD k 0 : Nat) : Int) := by omega
   rw [e]; exact this
  ·have hz : y.getD k 0 = 0 := by rw [List.getD_eq_getElem?_getD, List.getElem?_eq_none (by omega)]; rfl
   rw [cond_f (by simp [nl_len]; omega)]
   exact fin2 c (by omega)
theorem subLimbs_p {a b : List Nat} (ha : ok a) (hb : ok b) (la : a.length < 1073741824) (lb : b.length ≤ a.length) (hv : val b ≤ val a) {F : Nat} (hF : 1073741826 ≤ F) : p_subLimbs F (nl a) (nl b) = some (nl (limbs (val a - val b))) := by
 obtain ⟨c, out, h1, h2, h3, h4⟩ := sub_loop ha hb lb la a.length 0 0 [] rfl (Nat.zero_le _) rfl (fun z hz => by simp at hz) (by omega) (by simp [val]) F (by omega)
 have hc : c = 0 := by
  have := val_lt h2
  rw [h3] at this
  rcases Nat.eq_zero_or_pos c with h | h
  ·exact h
  ·have h5 : 4294967296 ^ a.length * 1 ≤ 4294967296 ^ a.length * c := Nat.mul_le_mul_left _ h
   omega
 subst hc
 unfold p_subLimbs
 simp only [nl_len]
 have h1' : iter (p_subLimbs_l2 (nl a) (nl b)) F ((0 : Int), (0 : Int), []) = some (Sum.inl (nl out)) := h1
 rw [need_pos (by omega), h1', Option.bind_some]
 show p_subLimbs_k1 F (nl out) = _
 unfold p_subLimbs_k1
 rw [trim_p (by omega) (by omega), Option.bind_some, trim_limbs _ h2]
 have ev : val out = val a - val b := by omega
 rw [ev]
end Go.Proofs.YtohgipjhcgblfaaGreat.Wk

namespace Go.Proofs.YtohgipjhcgblfaaGreat.Wk
open Go.Vm Limb
set_option linter.unusedVariables false
set_option linter.unusedSimpArgs false

/-! ### products -/
theorem val_set : ∀ (l : List Nat) (j v : Nat), j < l.length → val (l.set j v) + 4294967296 ^ j * l.getD j 0 = val l + 4294967296 ^ j * v
 | [], j, v, h => by simp at h
 | x :: r, 0, v, h => by simp [val]; omega
 | x :: r, j + 1, v, h => by
  have := val_set r j v (by simpa using h)
  simp only [List.set_cons_succ, val, List.getD_cons_succ, Nat.pow_succ]
  have e1 : 4294967296 ^ j * 4294967296 * r.getD j 0 = 4294967296 * (4294967296 ^ j * r.getD j 0) := by rw [Nat.mul_comm (4294967296 ^ j) 4294967296, Nat.mul_assoc]
  have e2 : 4294967296 ^ j * 4294967296 * v = 4294967296 * (4294967296 ^ j * v) := by rw [Nat.mul_comm (4294967296 ^ j) 4294967296, Nat.mul_assoc]
  rw [e1, e2]; omega
theorem nl_set (l : List Nat) (j v : Nat) : (nl l).set j (v : Int) = nl (l.set j v) := by simp [nl, List.map_set]
theorem ok_set {l : List Nat} (h : ok l) (j : Nat) {v : Nat} (hv : v < 4294967296) : ok (l.set j v) := fun x hx => by
 rcases List.mem_or_eq_of_mem_set hx with h1 | h1
 ·exact h x h1
 ·rw [h1]; exact hv
theorem getD_set (l : List Nat) (i j v : Nat) (h : i ≠ j) : (l.set i v).getD j 0 = l.getD j 0 := by
 rw [List.getD_eq_getElem?_getD, List.getElem?_set_ne h, List.getD_eq_getElem?_getD]
theorem prod_lt {a b : Nat} (ha : a < 4294967296) (hb : b < 4294967296) : a * b ≤ 18446744065119617025 := by
 have : a * b ≤ 4294967295 * 4294967295 := Nat.mul_le_mul (by omega) (by omega)
 omega

theorem mul_in {s t : Bool} {x y : List Nat} {i ai N base : Nat} {o0 : List Int} (hN : N = x.length + y.length) (hi : i < x.length) (hb : N < 1073741824) (hai : ai < 4294967296) (hy : ok y) :
  ∀ (n k c : Nat) (out : List Nat), n = y.length - k → k ≤ y.length → out.length = N → ok out → c < 4294967296 → (∀ j, i + y.length ≤ j → out.getD j 0 = 0) →
  val out + 4294967296 ^ (i + k) * c = base + 4294967296 ^ i * (ai * val (y.take k)) → ∀ F, n < F →
  ∃ (c' : Nat) (out' : List Nat), iter (p_Whole_Mul_l4 ⟨s, nl x⟩ ⟨t, nl y⟩ ((i : Int), o0) (ai : Int)) F ((c : Int), (k : Int), nl out) = some (Sum.inl ((c' : Int), nl out')) ∧ out'.length = N ∧ ok out' ∧ c' < 4294967296 ∧
   (∀ j, i + y.length ≤ j → out'.getD j 0 = 0) ∧ val out' + 4294967296 ^ (i + y.length) * c' = base + 4294967296 ^ i * (ai * val y) := by
 intro n
 induction n with
 | zero =>
  intro k c out hn hk ho hok hc hz hv F hF
  obtain ⟨F, rfl⟩ : ∃ m, F = m + 1 := ⟨F - 1, by omega⟩
  have hky : k = y.length := by omega
  subst hky
  refine ⟨c, out, ?_, ho, hok, hc, hz, ?_⟩
  ·show p_Whole_Mul_l4 _ _ _ _ _ _ = _
   unfold p_Whole_Mul_l4
   rw [cond_f (by simp [nl_len])]
  ·rw [hv, List.take_of_length_le (Nat.le_refl _)]
 | succ n ih =>
  intro k c out hn hk ho hok hc hz hv F hF
  obtain ⟨F, rfl⟩ : ∃ m, F = m + 1 := ⟨F - 1, by omega⟩
  have hky : k < y.length := by omega
  have bY := okget hy k
  have bo := okget hok (i + k)
  have bp := prod_lt hai bY
  show ∃ (c' : Nat) (out' : List Nat), p_Whole_Mul_l4 _ _ _ _ _ _ = _ ∧ _
  generalize hK : iter (p_Whole_Mul_l4 ⟨s, nl x⟩ ⟨t, nl y⟩ ((i : Int), o0) (ai : Int)) F = K
  unfold p_Whole_Mul_l4
  simp only [nl_len]
  have e1 : ((ai : Nat) : Int) * ((y.getD k 0 : Nat) : Int) = ((ai * y.getD k 0 : Nat) : Int) := by rw [Int.natCast_mul]
  have e2 : ((i : Nat) : Int) + ((k : Nat) : Int) = ((i + k : Nat) : Int) := by omega
  have e3 : (((x.length : Nat) : Int) + ((y.length : Nat) : Int)).toNat = x.length + y.length := by omega
  have e4 : ((ai * y.getD k 0 : Nat) : Int) + ((out.getD (i + k) 0 : Nat) : Int) = ((ai * y.getD k 0 + out.getD (i + k) 0 : Nat) : Int) := by omega
  obtain ⟨S, hS⟩ : ∃ S, S = ai * y.getD k 0 + out.getD (i + k) 0 + c := ⟨_, rfl⟩
  have e5 : ((ai * y.getD k 0 + out.getD (i + k) 0 : Nat) : Int) + (c : Int) = (S : Int) := by omega
  have e6 : ((S : Nat) : Int) / 2 ^ 32 = ((S / 4294967296 : Nat) : Int) := by
   have : (2 : Int) ^ 32 = 4294967296 := by decide
   rw [this]; omega
  have e7 : ((k : Nat) : Int) + 1 = ((k + 1 : Nat) : Int) := by omega
  rw [cond_t (decide_eq_true (by omega)), idx_nl hky, Option.bind_some, w64 (by omega), w64 (by omega), e1, need_pos (inu64 (by omega) (by omega)), e2, need_pos (in64 (by omega) (by omega)), need_pos (by omega), idx_nl (by omega), Option.bind_some]
  rw [w64 (by omega), e4, need_pos (inu64 (by omega) (by omega)), e5, need_pos (inu64 (by omega) (by omega)), need_pos (in64 (by omega) (by omega)), need_pos (by omega), need_pos (by omega), need_pos (by omega), e7, need_pos (in64 (by omega) (by omega)), e6, w32]
  have e8 : (((i + k : Nat) : Int)).toNat = i + k := by omega
  rw [e8, nl_set, ← hK]
  have hlt : i + k < out.length := by omega
  refine ih (k + 1) (S / 4294967296) (out.set (i + k) (S % 4294967296)) (by omega) (by omega) (by simp [ho]) (ok_set hok _ (by omega)) (by omega) (fun j hj => ?_) ?_ F (by omega)
  ·rw [getD_set _ _ _ _ (by omega)]; exact hz j hj
  ·have h1 := val_set out (i + k) (S % 4294967296) hlt
   have h2 : S % 4294967296 + 4294967296 * (S / 4294967296) = S := Nat.mod_add_div _ _
   have h3 : 4294967296 ^ (i + (k + 1)) * (S / 4294967296) = 4294967296 ^ (i + k) * (4294967296 * (S / 4294967296)) := by rw [← Nat.add_assoc, Nat.pow_succ, Nat.mul_assoc]
   have h4 : 4294967296 ^ (i + k) * (S % 4294967296) + 4294967296 ^ (i + k) * (4294967296 * (S / 4294967296)) = 4294967296 ^ (i + k) * (ai * y.getD k 0) + 4294967296 ^ (i + k) * out.getD (i + k) 0 + 4294967296 ^ (i + k) * c := by rw [← Nat.mul_add, h2, hS, Nat.mul_add, Nat.mul_add]
   have h5 : 4294967296 ^ i * (ai * val (y.take (k + 1))) = 4294967296 ^ i * (ai * val (y.take k)) + 4294967296 ^ (i + k) * (ai * y.getD k 0) := by
    rw [val_take_any, Nat.mul_add, Nat.mul_add, Nat.pow_add]
    congr 1
    rw [Nat.mul_left_comm ai, Nat.mul_assoc]
   rw [h3, h5]
   omega

theorem mul_loop {s t : Bool} {x y : List Nat} {N : Nat} (hN : N = x.length + y.length) (hb : N < 1073741824) (hx : ok x) (hy : ok y) {G : Nat} (hG : 1073741826 ≤ G) :
  ∀ (n i : Nat) (out : List Nat), n = x.length - i → i ≤ x.length → out.length = N → ok out → (∀ j, i + y.length ≤ j → out.getD j 0 = 0) → val out = val (x.take i) * val y → ∀ F, n < F →
  ∃ (out' : List Nat), iter (p_Whole_Mul_l2 ⟨s, nl x⟩ ⟨t, nl y⟩ G) F ((i : Int), nl out) = some (Sum.inl (nl out')) ∧ out'.length = N ∧ ok out' ∧ val out' = val x * val y := by
 intro n
 induction n with
 | zero =>
  intro i out hn hi ho hok hz hv F hF
  obtain ⟨F, rfl⟩ : ∃ m, F = m + 1 := ⟨F - 1, by omega⟩
  have hix : i = x.length := by omega
  subst hix
  refine ⟨out, ?_, ho, hok, ?_⟩
  ·show p_Whole_Mul_l2 _ _ _ _ _ = _
   unfold p_Whole_Mul_l2
   rw [cond_f (by simp [nl_len])]
  ·rw [hv, List.take_of_length_le (Nat.le_refl _)]
 | succ n ih =>
  intro i out hn hi ho hok hz hv F hF
  obtain ⟨F, rfl⟩ : ∃ m, F = m + 1 := ⟨F - 1, by omega⟩
  have hix : i < x.length := by omega
  have bx := okget hx i
  show ∃ (out' : List Nat), p_Whole_Mul_l2 _ _ _ _ _ = _ ∧ _
  generalize hK : iter (p_Whole_Mul_l2 ⟨s, nl x⟩ ⟨t, nl y⟩ G) F = K
  unfold p_Whole_Mul_l2
  simp only [nl_len]
  rw [cond_t (decide_eq_true (by omega)), idx_nl hix, Option.bind_some]
  obtain ⟨c, o2, h1, h2, h3, h4, h5, h6⟩ := mul_in (s := s) (t := t) (o0 := nl out) (base := val out) hN hix hb bx hy y.length 0 0 out rfl (Nat.zero_le _) ho hok (by omega) hz (by simp [val]) G (by omega)
  have h1' : iter (p_Whole_Mul_l4 ⟨s, nl x⟩ ⟨t, nl y⟩ ((i : Int), nl out) ((x.getD i 0 : Nat) : Int)) G ((0 : Int), (0 : Int), nl out) = some (Sum.inl ((c : Int), nl o2)) := h1
  rw [h1', Option.bind_some]
  show ∃ (out' : List Nat), p_Whole_Mul_k3 _ _ _ _ _ = _ ∧ _
  unfold p_Whole_Mul_k3
  simp only [nl_len]
  have e2 : ((i : Nat) : Int) + ((y.length : Nat) : Int) = ((i + y.length : Nat) : Int) := by omega
  have e3 : (((x.length : Nat) : Int) + ((y.length : Nat) : Int)).toNat = x.length + y.length := by omega
  have e7 : ((i : Nat) : Int) + 1 = ((i + 1 : Nat) : Int) := by omega
  have e8 : (((i + y.length : Nat) : Int)).toNat = i + y.length := by omega
  rw [e2, need_pos (in64 (by omega) (by omega)), need_pos (by omega), need_pos (by omega), e7, need_pos (in64 (by omega) (by omega)), e8, w32, nl_set, ← hK]
  have hlt : i + y.length < o2.length := by omega
  have e9 : c % 4294967296 = c := by omega
  rw [e9]
  refine ih (i + 1) (o2.set (i + y.length) c) (by omega) (by omega) (by simp [h2]) (ok_set h3 _ h4) (fun j hj => ?_) ?_ F (by omega)
  ·rw [getD_set _ _ _ _ (by omega)]; exact h5 j (by omega)
  ·have g1 := val_set o2 (i + y.length) c hlt
   rw [h5 _ (Nat.le_refl _)] at g1
   have g2 : val (x.take (i + 1)) * val y = val (x.take i) * val y + 4294967296 ^ i * (x.getD i 0 * val y) := by
    rw [val_take_any, Nat.add_mul, Nat.mul_assoc]
   rw [g2]
   omega
theorem val_zeros (n : Nat) : val (List.replicate n 0) = 0 := by
 induction n with
 | zero => rfl
 | succ n ih => simp [List.replicate_succ, val, ih]
theorem ok_zeros (n : Nat) : ok (List.replicate n 0) := fun x hx => by rw [List.eq_of_mem_replicate hx]; omega
theorem nl_zeros (n : Nat) : List.replicate n (0 : Int) = nl (List.replicate n 0) := by simp [nl]

/-! ### numbers -/
/-- the reference's number n -/
def W (n : Int) : TSpec_Whole := ⟨decide (n < 0), nl (limbs n.natAbs)⟩
/-- how many limbs -/
def sz (n : Int) : Nat := (limbs n.natAbs).length
theorem sz_neg (n : Int) : sz (-n) = sz n := by unfold sz; rw [Int.natAbs_neg]
theorem sz_of {n : Int} {m : Nat} (h : n.natAbs < 4294967296 ^ m) : sz n ≤ m := by
 unfold sz
 generalize n.natAbs = a at h
 induction m generalizing a with
 | zero =>
  have : a = 0 := by simpa using h
  subst this; rw [limbs_zero]; simp
 | succ m ih =>
  by_cases ha : a = 0
  ·subst ha; rw [limbs_zero]; simp
  ·rw [limbs_pos ha]
   have := ih (a / 4294967296) (by rw [Nat.pow_succ] at h; exact Nat.div_lt_of_lt_mul (by rw [Nat.mul_comm]; exact h))
   simp; omega
theorem lt_sz (n : Int) : n.natAbs < 4294967296 ^ sz n := by
 have := val_lt (limbs_ok n.natAbs)
 rwa [val_limbs] at this
theorem sz_add (a b : Int) : sz (a + b) ≤ max (sz a) (sz b) + 1 := by
 refine sz_of ?_
 have h1 := lt_sz a
 have h2 := lt_sz b
 have h3 : 4294967296 ^ sz a ≤ 4294967296 ^ max (sz a) (sz b) := Nat.pow_le_pow_right (by omega) (by omega)
 have h4 : 4294967296 ^ sz b ≤ 4294967296 ^ max (sz a) (sz b) := Nat.pow_le_pow_right (by omega) (by omega)
 rw [Nat.pow_succ]
 have := Int.natAbs_add_le a b
 omega
theorem sz_mul (a b : Int) : sz (a * b) ≤ sz a + sz b := by
 refine sz_of ?_
 rw [Int.natAbs_mul, Nat.pow_add]
 exact Nat.mul_lt_mul'' (lt_sz a) (lt_sz b)
theorem limbs_nil {n : Nat} : limbs n = [] ↔ n = 0 := by
 constructor
 ·intro h
  have := val_limbs n
  rw [h] at this; exact this.symm
 ·rintro rfl; exact limbs_zero
theorem W_len (n : Int) : (W n).L.length = sz n := by unfold W sz; rw [nl_len]
theorem sign_p (n : Int) : p_Whole_Sign (W n) = some (if n = 0 then 0 else if n < 0 then -1 else 1) := by
 unfold p_Whole_Sign
 rw [W_len]
 by_cases h : n = 0
 ·subst h
  rw [if_pos rfl, cond_t (decide_eq_true (by unfold sz; rw [show (0 : Int).natAbs = 0 from rfl, limbs_zero]; rfl))]
 ·have : sz n ≠ 0 := fun e => h (by
   have : limbs n.natAbs = [] := List.eq_nil_of_length_eq_zero e
   rw [limbs_nil] at this; omega)
  rw [cond_f (decide_eq_false (by omega)), if_neg h]
  by_cases h0 : n < 0
  ·rw [if_pos h0, cond_t (by simp [W, h0])]
  ·rw [if_neg h0, cond_f (by simp [W]; omega)]
theorem W_zero : W 0 = ⟨false, []⟩ := by
 unfold W
 rw [show (0 : Int).natAbs = 0 from rfl, limbs_zero]; rfl
theorem add_p {a b : Int} (ha : sz a < 1073741824) (hb : sz b < 1073741824) {F : Nat} (hF : 1073741826 ≤ F) : p_Whole_Add F (W a) (W b) = some (W (a + b)) := by
 unfold p_Whole_Add
 have eL : ∀ n : Int, (W n).L = nl (limbs n.natAbs) := fun _ => rfl
 have eN : ∀ n : Int, (W n).Neg = decide (n < 0) := fun _ => rfl
 simp only [eL, eN]
 by_cases hs : (decide (a < 0)) = (decide (b < 0))
 ·rw [cond_t (by simp [hs]), addLimbs_p (limbs_ok _) (limbs_ok _) ha hb hF, Option.bind_some, val_limbs, val_limbs]
  have hs' : a < 0 ↔ b < 0 := decide_eq_decide.1 hs
  have h1 : (a + b).natAbs = a.natAbs + b.natAbs := by omega
  have h2 : decide (a + b < 0) = decide (a < 0) := decide_eq_decide.2 (by omega)
  unfold W
  rw [h1, h2]
 ·rw [cond_f (by simpa using hs), cmp_p ha hb hF, Option.bind_some]
  have hs' : ¬ (a < 0 ↔ b < 0) := fun h => hs (decide_eq_decide.2 h)
  by_cases h1 : a.natAbs = b.natAbs
  ·rw [if_pos h1, cond_t (by rfl)]
   have : a + b = 0 := by omega
   rw [this, W_zero]
  ·rw [if_neg h1]
   by_cases h2 : a.natAbs < b.natAbs
   ·rw [if_pos h2, cond_f (by rfl), cond_f (by rfl), subLimbs_p (limbs_ok _) (limbs_ok _) hb (by
     rcases Nat.lt_or_ge (limbs b.natAbs).length (limbs a.natAbs).length with h | h
     ·have := limbs_len_lt h; omega
     ·exact h) (by rw [val_limbs, val_limbs]; omega) hF, Option.bind_some, val_limbs, val_limbs]
    have h3 : (a + b).natAbs = b.natAbs - a.natAbs := by omega
    have h4 : decide (a + b < 0) = decide (b < 0) := decide_eq_decide.2 (by omega)
    unfold W
    rw [h3, h4]
   ·rw [if_neg h2, cond_f (by rfl), cond_t (by rfl), subLimbs_p (limbs_ok _) (limbs_ok _) ha (by
     rcases Nat.lt_or_ge (limbs a.natAbs).length (limbs b.natAbs).length with h | h
     ·have := limbs_len_lt h; omega
     ·exact h) (by rw [val_limbs, val_limbs]; omega) hF, Option.bind_some, val_limbs, val_limbs]
    have h3 : (a + b).natAbs = a.natAbs - b.natAbs := by omega
    have h4 : decide (a + b < 0) = decide (a < 0) := decide_eq_decide.2 (by omega)
    unfold W
    rw [h3, h4]
theorem mul_p {a b : Int} (h : sz a + sz b < 1073741824) {F : Nat} (hF : 1073741826 ≤ F) : p_Whole_Mul F (W a) (W b) = some (W (a * b)) := by
 obtain ⟨out, h1, h2, h3, h4⟩ := mul_loop (s := decide (a < 0)) (t := decide (b < 0)) (x := limbs a.natAbs) (y := limbs b.natAbs) (N := sz a + sz b) rfl h (limbs_ok _) (limbs_ok _) hF (limbs a.natAbs).length 0 (List.replicate (sz a + sz b) 0) rfl (Nat.zero_le _) (by simp) (ok_zeros _) (fun j hj => by
  rw [List.getD_eq_getElem?_getD, List.getElem?_replicate]; split <;> rfl) (by simp [val, val_zeros]) F (by unfold sz at h; omega)
 unfold p_Whole_Mul
 rw [W_len, W_len]
 have e3 : (((sz a : Nat) : Int) + ((sz b : Nat) : Int)).toNat = sz a + sz b := by omega
 rw [need_pos (in64 (by omega) (by omega)), need_pos (by omega), e3, nl_zeros]
 have h1' : iter (p_Whole_Mul_l2 (W a) (W b) F) F ((0 : Int), nl (List.replicate (sz a + sz b) 0)) = some (Sum.inl (nl out)) := h1
 rw [h1', Option.bind_some]
 show p_Whole_Mul_k1 (W a) (W b) F (nl out) = _
 unfold p_Whole_Mul_k1
 rw [W_len, W_len, e3, nl_len, need_pos h2.symm, trim_p (by omega) (by omega), Option.bind_some, trim_limbs _ h3, h4, val_limbs, val_limbs, nl_len]
 have ev : a.natAbs * b.natAbs = (a * b).natAbs := (Int.natAbs_mul a b).symm
 rw [ev]
 by_cases h0 : a * b = 0
 ·rw [h0]
  rw [cond_f (decide_eq_false (by rw [show (0 : Int).natAbs = 0 from rfl, limbs_zero]; simp)), W_zero, show (0 : Int).natAbs = 0 from rfl, limbs_zero]; rfl
 ·have hne : limbs (a * b).natAbs ≠ [] := fun e => h0 (by rw [limbs_nil] at e; omega)
  have hlen : 0 < (limbs (a * b).natAbs).length := List.length_pos_iff.2 hne
  rw [cond_t (decide_eq_true (by omega))]
  unfold W
  congr 2
  have ha : a ≠ 0 := fun e => h0 (by rw [e, Int.zero_mul])
  have hb : b ≠ 0 := fun e => h0 (by rw [e, Int.mul_zero])
  by_cases h5 : a < 0 <;> by_cases h6 : b < 0
  ·have := Int.mul_pos_of_neg_of_neg h5 h6
   simp [h5, h6]; omega
  ·have := Int.mul_neg_of_neg_of_pos h5 (show 0 < b by omega)
   simp [h5, h6, this]
  ·have := Int.mul_neg_of_pos_of_neg (show 0 < a by omega) h6
   simp [h5, h6, this]
  ·have := Int.mul_pos (show 0 < a by omega) (show 0 < b by omega)
   simp [h5, h6]; omega
end Go.Proofs.YtohgipjhcgblfaaGreat.Wk

namespace Go.Proofs.YtohgipjhcgblfaaGreat.Wk
open Go.Vm Limb
set_option linter.unusedVariables false
set_option linter.unusedSimpArgs false

theorem bits_or32 {a c : Nat} (ha : a < 4294967296) (hc : c < 4294967296) : bits .or .u32 (a : Int) (c : Int) = ((a ||| c : Nat) : Int) := by
 unfold bits
 have e0 : (BitVec.ofInt 32 (a : Int) ||| BitVec.ofInt 32 (c : Int)).toNat = a ||| c := by
  rw [BitVec.toNat_or, BitVec.toNat_ofInt, BitVec.toNat_ofInt]
  have e : ∀ z : Nat, z < 4294967296 → ((z : Int) % ((2 ^ 32 : Nat) : Int)).toNat = z := fun z hz => by omega
  rw [e a ha, e c hc]
 show IntKind.u32.wrap (((BitVec.ofInt 32 (a : Int) ||| BitVec.ofInt 32 (c : Int)).toNat : Nat) : Int) = _
 rw [e0]
 have hlt : a ||| c < 2 ^ 32 := Nat.or_lt_two_pow (by omega) (by omega)
 rw [w32, Nat.mod_eq_of_lt (by omega)]
theorem bits_and64 {a c : Nat} (ha : a < 18446744073709551616) (hc : c < 18446744073709551616) : bits .and .u64 (a : Int) (c : Int) = ((a &&& c : Nat) : Int) := by
 unfold bits
 have e0 : (BitVec.ofInt 64 (a : Int) &&& BitVec.ofInt 64 (c : Int)).toNat = a &&& c := by
  rw [BitVec.toNat_and, BitVec.toNat_ofInt, BitVec.toNat_ofInt]
  have e : ∀ z : Nat, z < 18446744073709551616 → ((z : Int) % ((2 ^ 64 : Nat) : Int)).toNat = z := fun z hz => by omega
  rw [e a ha, e c hc]
 show IntKind.u64.wrap (((BitVec.ofInt 64 (a : Int) &&& BitVec.ofInt 64 (c : Int)).toNat : Nat) : Int) = _
 rw [e0]
 have hle : a &&& c ≤ a := Nat.and_le_left
 rw [w64 (by omega)]

theorem tdiv32 (n : Nat) : Int.tdiv (n : Int) (32 : Int) = ((n / 32 : Nat) : Int) := by rw [Int.tdiv_eq_ediv_of_nonneg (by omega)]; omega
theorem tmod32 (n : Nat) : Int.tmod (n : Int) (32 : Int) = ((n % 32 : Nat) : Int) := by rw [Int.tmod_eq_emod_of_nonneg (by omega)]; omega

theorem up_loop {s : Bool} {x : List Nat} (hx : ok x) {n q r : Nat} (hq : n / 32 = q) (hr : n % 32 = r) (hb : q + x.length < 1073741824) : ∀ (m k c : Nat) (out : List Nat), m = x.length - k → k ≤ x.length → out.length = q + k → ok out → c < 2 ^ r →
  val out + 4294967296 ^ (q + k) * c = 4294967296 ^ q * (2 ^ r * val (x.take k)) → ∀ F, m < F →
  ∃ (c' : Nat) (out' : List Nat), iter (p_Whole_Up_l2 ⟨s, nl x⟩ (n : Int)) F ((c : Int), (k : Int), nl out) = some (Sum.inl ((c' : Int), nl out')) ∧ out'.length = q + x.length ∧ ok out' ∧ c' < 2 ^ r ∧ val out' + 4294967296 ^ (q + x.length) * c' = 4294967296 ^ q * (2 ^ r * val x) := by
 have hr32 : r < 32 := by omega
 have hp : 2 ^ r ≤ 2147483648 := Nat.le_trans (Nat.pow_le_pow_right (by omega) (show r ≤ 31 by omega)) (by decide)
 have hp0 : 0 < 2 ^ r := Nat.two_pow_pos r
 have hpp : 2 ^ r * 2 ^ (32 - r) = 4294967296 := by rw [← Nat.pow_add, show r + (32 - r) = 32 by omega]
 intro m
 induction m with
 | zero =>
  intro k c out hm hk ho hok hc hv F hF
  obtain ⟨F, rfl⟩ : ∃ m, F = m + 1 := ⟨F - 1, by omega⟩
  have hkx : k = x.length := by omega
  subst hkx
  refine ⟨c, out, ?_, ho, hok, hc, ?_⟩
  ·show p_Whole_Up_l2 _ _ _ _ = _
   unfold p_Whole_Up_l2
   rw [cond_f (by simp [nl_len])]
  ·rw [hv, List.take_of_length_le (Nat.le_refl _)]
 | succ m ih =>
  intro k c out hm hk ho hok hc hv F hF
  obtain ⟨F, rfl⟩ : ∃ m, F = m + 1 := ⟨F - 1, by omega⟩
  have hkx : k < x.length := by omega
  have bx := okget hx k
  show ∃ (c' : Nat) (out' : List Nat), p_Whole_Up_l2 _ _ _ _ = _ ∧ _
  generalize hK : iter (p_Whole_Up_l2 ⟨s, nl x⟩ (n : Int)) F = K
  unfold p_Whole_Up_l2
  simp only [nl_len]
  have hS : x.getD k 0 * 2 ^ r ≤ 4294967295 * 2147483648 := Nat.mul_le_mul (by omega) hp
  have eT : (Int.tmod (n : Int) (32 : Int)).toNat = r := by rw [tmod32, hr]; omega
  have hbits : 0 ≤ Int.tmod (n : Int) (32 : Int) ∧ Int.tmod (n : Int) (32 : Int) ≤ (IntKind.u64.bits : Int) := by
   have h64 : ((IntKind.u64.bits : Nat) : Int) = 64 := rfl
   rw [tmod32, h64]; omega
  have e1 : ((x.getD k 0 : Nat) : Int) * 2 ^ r = ((x.getD k 0 * 2 ^ r : Nat) : Int) := by rw [Int.natCast_mul, Int.natCast_pow]; rfl
  rw [cond_t (decide_eq_true (by omega)), idx_nl hkx, Option.bind_some, need_pos (by decide), need_pos hbits, eT, w64 (by omega), e1]
  obtain ⟨S, hSe⟩ : ∃ S, S = x.getD k 0 * 2 ^ r := ⟨_, rfl⟩
  rw [← hSe] at hS
  rw [← hSe, w64 (by omega), w32]
  have hy : S % 4294967296 = x.getD k 0 % 2 ^ (32 - r) * 2 ^ r := by rw [hSe, ← hpp, Nat.mul_comm (2 ^ r) (2 ^ (32 - r)), Nat.mul_mod_mul_right]
  have hor : S % 4294967296 ||| c = S % 4294967296 + c := by
   rw [hy, ← Nat.shiftLeft_eq, Nat.shiftLeft_add_eq_or_of_lt hc]
  have hm1 : S % 4294967296 + c < 4294967296 := by
   have h1 : x.getD k 0 % 2 ^ (32 - r) + 1 ≤ 2 ^ (32 - r) := Nat.mod_lt _ (Nat.two_pow_pos _)
   have h2 := Nat.mul_le_mul_right (2 ^ r) h1
   rw [Nat.add_mul, Nat.mul_comm (2 ^ (32 - r)) (2 ^ r), hpp, ← hy] at h2
   omega
  have e6 : ((S : Nat) : Int) / 2 ^ 32 = ((S / 4294967296 : Nat) : Int) := by
   have : (2 : Int) ^ 32 = 4294967296 := by decide
   rw [this]; omega
  have e7 : ((k : Nat) : Int) + 1 = ((k + 1 : Nat) : Int) := by omega
  have hd : S / 4294967296 < 2 ^ r := by
   rw [hSe]
   apply Nat.div_lt_of_lt_mul
   exact Nat.mul_lt_mul_of_pos_right bx hp0
  have hd2 : S / 4294967296 % 4294967296 = S / 4294967296 := Nat.mod_eq_of_lt (by omega)
  rw [bits_or32 (by omega) (by omega), hor, need_pos (by simp only [List.length_singleton]; omega), need_pos (by omega), e7, need_pos (in64 (by omega) (by omega)), e6, w32, hd2, nl_one, nl_append, ← hK]
  refine ih (k + 1) (S / 4294967296) (out ++ [S % 4294967296 + c]) (by omega) (by omega) (by simp [ho]; omega) (fun z hz => ?_) hd ?_ F (by omega)
  ·rcases List.mem_append.1 hz with h | h
   ·exact hok z h
   ·rw [List.mem_singleton.1 h]; exact hm1
  ·rw [val_append, ho, val_take_any]
   have h1 : val [S % 4294967296 + c] = S % 4294967296 + c := by simp [val]
   have h2 : S % 4294967296 + 4294967296 * (S / 4294967296) = S := Nat.mod_add_div _ _
   have h3 : 4294967296 ^ (q + (k + 1)) * (S / 4294967296) = 4294967296 ^ (q + k) * (4294967296 * (S / 4294967296)) := by rw [← Nat.add_assoc, Nat.pow_succ, Nat.mul_assoc]
   have h4 : 4294967296 ^ (q + k) * (S % 4294967296 + c) + 4294967296 ^ (q + k) * (4294967296 * (S / 4294967296)) = 4294967296 ^ (q + k) * S + 4294967296 ^ (q + k) * c := by rw [← Nat.mul_add, ← Nat.mul_add]; congr 1; omega
   have h5 : 4294967296 ^ q * (2 ^ r * (val (x.take k) + 4294967296 ^ k * x.getD k 0)) = 4294967296 ^ q * (2 ^ r * val (x.take k)) + 4294967296 ^ (q + k) * S := by
    rw [Nat.mul_add, Nat.mul_add, Nat.pow_add, hSe]
    congr 1
    rw [Nat.mul_left_comm (2 ^ r), Nat.mul_assoc, Nat.mul_comm (2 ^ r) (x.getD k 0)]
   rw [h1, h3, h5]
   omega
theorem up_p {a : Int} {n : Nat} (h : sz a + n / 32 < 1073741000) {F : Nat} (hF : 1073741826 ≤ F) : p_Whole_Up F (W a) (n : Int) = some (W (a * 2 ^ n)) := by
 unfold p_Whole_Up
 rw [W_len]
 by_cases h0 : sz a = 0
 ·have ha : a = 0 := by
   have : limbs a.natAbs = [] := List.eq_nil_of_length_eq_zero h0
   rw [limbs_nil] at this; omega
  subst ha
  rw [cond_t (decide_eq_true (by omega)), Int.zero_mul]
 ·have ha : a ≠ 0 := fun e => h0 (by subst e; unfold sz; rw [show (0 : Int).natAbs = 0 from rfl, limbs_zero]; rfl)
  obtain ⟨c, out, h1, h2, h3, h4, h5⟩ := up_loop (s := decide (a < 0)) (limbs_ok a.natAbs) (n := n) rfl rfl (show n / 32 + sz a < 1073741824 by omega) (limbs a.natAbs).length 0 0 (List.replicate (n / 32) 0) rfl (Nat.zero_le _) (by simp) (ok_zeros _) (Nat.two_pow_pos _) (by simp [val, val_zeros]) F (by unfold sz at h; omega)
  rw [cond_f (decide_eq_false (by omega)), tdiv32, need_pos ⟨by decide, in64 (by omega) (by omega)⟩, need_pos ⟨by decide, in64 (by omega) (by omega)⟩, need_pos (in64 (by omega) (by omega)), need_pos (in64 (by omega) (by omega)), need_pos (by omega)]
  have et : (((n / 32 : Nat) : Int)).toNat = n / 32 := by omega
  rw [et, nl_zeros]
  have h1' : iter (p_Whole_Up_l2 (W a) (n : Int)) F ((0 : Int), (0 : Int), nl (List.replicate (n / 32) 0)) = some (Sum.inl ((c : Int), nl out)) := h1
  rw [h1', Option.bind_some]
  show p_Whole_Up_k1 (W a) F ((c : Int), nl out) = _
  unfold p_Whole_Up_k1
  have hc : c < 4294967296 := Nat.lt_of_lt_of_le h4 (Nat.le_trans (Nat.pow_le_pow_right (by omega) (show n % 32 ≤ 31 by omega)) (by decide))
  have hl : (limbs a.natAbs).length = sz a := rfl
  rw [need_pos (by simp only [nl_len, List.length_singleton]; omega), nl_one, nl_append, trim_p (by simp; omega) (by simp; omega), Option.bind_some, trim_limbs _ (fun z hz => by
   rcases List.mem_append.1 hz with h | h
   ·exact h3 z h
   ·rw [List.mem_singleton.1 h]; exact hc)]
  have ev : val (out ++ [c]) = (a * 2 ^ n).natAbs := by
   have e1 : val [c] = c := by simp [val]
   rw [val_append, h2, e1, h5, val_limbs, Int.natAbs_mul, Int.natAbs_pow]
   have e2 : (2 : Int).natAbs = 2 := rfl
   have e3 : (4294967296 : Nat) = 2 ^ 32 := rfl
   rw [e2, e3, ← Nat.pow_mul, ← Nat.mul_assoc, ← Nat.pow_add, Nat.mul_comm, Nat.div_add_mod]
  rw [ev]
  have hpos : (0 : Int) < 2 ^ n := Int.pow_pos (by decide)
  have en : decide (a * 2 ^ n < 0) = decide (a < 0) := decide_eq_decide.2 ⟨fun h => by
   by_cases h' : a < 0
   ·exact h'
   ·have := Int.mul_nonneg (show 0 ≤ a by omega) (Int.le_of_lt hpos); omega, fun h => Int.mul_neg_of_neg_of_pos h hpos⟩
  show some (TSpec_Whole.mk (W a).Neg _) = some (W _)
  unfold W
  rw [en]
theorem sz_up (a : Int) (n : Nat) : sz (a * 2 ^ n) ≤ sz a + n / 32 + 1 := by
 refine sz_of ?_
 rw [Int.natAbs_mul, Int.natAbs_pow, show (2 : Int).natAbs = 2 from rfl, Nat.add_assoc, Nat.pow_add]
 have h1 := lt_sz a
 have h2 : 2 ^ n ≤ 4294967296 ^ (n / 32 + 1) := by
  rw [show (4294967296 : Nat) = 2 ^ 32 from rfl, ← Nat.pow_mul]
  exact Nat.pow_le_pow_right (by omega) (by omega)
 exact Nat.lt_of_lt_of_le (Nat.mul_lt_mul_of_pos_right h1 (Nat.two_pow_pos n)) (Nat.mul_le_mul_left _ h2)

/-! ### numbers of the machine -/
theorem two64 (u : Nat) (hu : u < 18446744073709551616) {F : Nat} (hF : 3 < F) : p_trim F [(IntKind.u32.wrap (u : Int)), (IntKind.u32.wrap ((u : Int) / 2 ^ 32))] = some (nl (limbs u)) := by
 have e6 : ((u : Nat) : Int) / 2 ^ 32 = ((u / 4294967296 : Nat) : Int) := by
  have : (2 : Int) ^ 32 = 4294967296 := by decide
  rw [this]; omega
 have e7 : u / 4294967296 % 4294967296 = u / 4294967296 := by omega
 rw [e6, w32, w32, e7]
 show p_trim F (nl [u % 4294967296, u / 4294967296]) = _
 rw [trim_p (by simp; omega) (by simp), trim_limbs _ (fun x hx => by simp at hx; omega)]
 have : val [u % 4294967296, u / 4294967296] = u := by simp [val]; omega
 rw [this]
theorem wholeOf_p {m : Int} (h1 : -9223372036854775808 ≤ m) (h2 : m ≤ 9223372036854775807) {F : Nat} (hF : 3 < F) : p_WholeOf F m = some (W m) := by
 unfold p_WholeOf
 have key : ∀ u : Nat, u = m.natAbs → p_WholeOf_k1 m F (u : Int) = some (W m) := fun u hu => by
  unfold p_WholeOf_k1
  rw [need_pos (by omega), two64 u (by omega) hF, Option.bind_some, hu]; rfl
 by_cases h : m < 0
 ·rw [cond_t (decide_eq_true h)]
  have e : IntKind.u64.wrap (-(IntKind.u64.wrap m)) = ((m.natAbs : Nat) : Int) := by
   simp only [IntKind.wrap, IntKind.bits, IntKind.signed, Bool.false_and]
   simp
   omega
  rw [e]; exact key _ rfl
 ·rw [cond_f (decide_eq_false h)]
  have e : IntKind.u64.wrap m = ((m.natAbs : Nat) : Int) := by
   rw [show m = ((m.natAbs : Nat) : Int) by omega, w64 (by omega)]; omega
  rw [e]; exact key _ rfl

/-- what a word stands for -/
theorem V_read {x : Nat} {q : Rat} (h : Flt.V x = some q) : x % 9223372036854775808 < 9218868437227405312 ∧
  q = Flt.sg (x / 9223372036854775808 % 2 == 1) (if x % 9223372036854775808 < 4503599627370496 then ((x % 9223372036854775808 : Nat) : Rat) * (2 : Rat) ^ (-1074 : Int)
   else ((4503599627370496 + x % 9223372036854775808 % 4503599627370496 : Nat) : Rat) * (2 : Rat) ^ ((-1074 : Int) + ((x % 9223372036854775808 / 4503599627370496 - 1 : Nat) : Int))) := by
 unfold Flt.V Ieee.Format.read at h
 simp only [Flt.double_sw, Flt.double_bn, Flt.double_ir, Flt.double_lp] at h
 by_cases h1 : x % 9223372036854775808 < 4503599627370496
 ·rw [if_pos h1] at h
  refine ⟨by omega, ?_⟩
  rw [if_pos h1]
  exact (Option.some.inj h).symm
 ·rw [if_neg h1] at h
  by_cases h2 : x % 9223372036854775808 < 9218868437227405312
  ·rw [if_pos h2] at h
   refine ⟨h2, ?_⟩
   rw [if_neg h1]
   exact (Option.some.inj h).symm
  ·rw [if_neg h2] at h
   split at h <;> cases h
theorem dyadicOf_p {x : Nat} {q : Rat} (hx : x < 18446744073709551616) (h : Flt.V x = some q) {F : Nat} (hF : 3 < F) :
  ∃ (n e : Int), p_DyadicOf F x = some ⟨W n, e⟩ ∧ q = (n : Rat) * (2 : Rat) ^ e ∧ n.natAbs < 9007199254740992 ∧ -1074 ≤ e ∧ e ≤ 1000 := by
 obtain ⟨hfin, hq⟩ := V_read h
 have eP : ∀ k : Nat, ((x : Nat) : Int) / 2 ^ k = ((x / 2 ^ k : Nat) : Int) := fun k => by rw [Int.natCast_ediv, Int.natCast_pow]; rfl
 have hE : bits .and .u64 (((x : Nat) : Int) / 2 ^ 52) (2047 : Int) = ((x / 4503599627370496 % 2048 : Nat) : Int) := by
  have := bits_and64 (a := x / 4503599627370496) (c := 2047) (by omega) (by omega)
  rw [show (2047 : Nat) = 2 ^ 11 - 1 from rfl, Nat.and_two_pow_sub_one_eq_mod] at this
  rw [eP]; exact this
 have hM : bits .and .u64 ((x : Nat) : Int) (4503599627370495 : Int) = ((x % 4503599627370496 : Nat) : Int) := by
  have := bits_and64 (a := x) (c := 4503599627370495) hx (by omega)
  rw [show (4503599627370495 : Nat) = 2 ^ 52 - 1 from rfl, Nat.and_two_pow_sub_one_eq_mod] at this
  exact this
 have wI : ∀ z : Nat, z < 9223372036854775808 → IntKind.i64.wrap (z : Int) = (z : Int) := fun z hz => wrap_in .i64 _ (by simp only [lo]; omega) (by simp only [hi]; omega)
 have key : ∀ (m : Nat) (e : Int), m < 9007199254740992 → 1 ≤ e → e ≤ 2046 → q = Flt.sg (x / 9223372036854775808 % 2 == 1) ((m : Rat) * (2 : Rat) ^ (e - 1075)) →
   ∃ (n e' : Int), p_DyadicOf_k1 x F ((m : Int), e) = some ⟨W n, e'⟩ ∧ q = (n : Rat) * (2 : Rat) ^ e' ∧ n.natAbs < 9007199254740992 ∧ -1074 ≤ e' ∧ e' ≤ 1000 := by
  intro m e hm he1 he2 hqe
  unfold p_DyadicOf_k1
  rw [need_pos (by omega), eP]
  by_cases hs : x / 9223372036854775808 = 1
  ·rw [cond_t (decide_eq_true (by show ((x / 9223372036854775808 : Nat) : Int) = 1; omega)), need_pos (in64m (by simp only; omega) (by simp only; omega)), wholeOf_p (by omega) (by omega) hF, Option.bind_some, need_pos (in64m (by simp only; omega) (by simp only; omega))]
   refine ⟨-(m : Int), e - 1075, rfl, ?_, by omega, by omega, by omega⟩
   rw [hqe, hs]
   simp [Flt.sg, Rat.intCast_neg, Rat.neg_mul, Rat.intCast_natCast]
  ·rw [cond_f (decide_eq_false (by show ¬ ((x / 9223372036854775808 : Nat) : Int) = 1; omega)), wholeOf_p (by simp only; omega) (by simp only; omega) hF, Option.bind_some, need_pos (in64m (by simp only; omega) (by simp only; omega))]
   refine ⟨(m : Int), e - 1075, rfl, ?_, by omega, by omega, by omega⟩
   have : x / 9223372036854775808 = 0 := by omega
   rw [hqe, this]
   simp [Flt.sg, Rat.intCast_natCast]
 unfold p_DyadicOf
 rw [need_pos (by omega), hE, wI _ (by omega), hM, wI _ (by omega), cond_f (decide_eq_false (by omega))]
 by_cases h0 : x / 4503599627370496 % 2048 = 0
 ·rw [cond_t (decide_eq_true (by omega))]
  refine key _ 1 (by omega) (by omega) (by omega) ?_
  rw [hq, if_pos (by omega)]
  have : x % 9223372036854775808 = x % 4503599627370496 := by omega
  rw [this]; rfl
 ·rw [cond_f (decide_eq_false (by omega)), need_pos (in64m (by omega) (by omega))]
  have e1 : ((x % 4503599627370496 : Nat) : Int) + 4503599627370496 = ((x % 4503599627370496 + 4503599627370496 : Nat) : Int) := by omega
  rw [e1]
  refine key _ ((x / 4503599627370496 % 2048 : Nat) : Int) (by omega) (by omega) (by omega) ?_
  rw [hq, if_neg (by omega)]
  have e2 : 4503599627370496 + x % 9223372036854775808 % 4503599627370496 = x % 4503599627370496 + 4503599627370496 := by omega
  have e3 : (-1074 : Int) + ((x % 9223372036854775808 / 4503599627370496 - 1 : Nat) : Int) = ((x / 4503599627370496 % 2048 : Nat) : Int) - 1075 := by omega
  rw [e2, e3]
end Go.Proofs.YtohgipjhcgblfaaGreat.Wk

namespace Go.Proofs.YtohgipjhcgblfaaGreat.Wk
open Go.Vm Limb
set_option linter.unusedVariables false
set_option linter.unusedSimpArgs false
/-- d is the number q, of m limbs at most, its exponent at most k -/
def Dyd (d : TSpec_Dyadic) (q : Rat) (m k : Nat) : Prop := ∃ (n e : Int), d = ⟨W n, e⟩ ∧ q = (n : Rat) * (2 : Rat) ^ e ∧ sz n ≤ m ∧ -(k : Int) ≤ e ∧ e ≤ k
def BigF (F : Nat) : Prop := 1073741826 ≤ F
def sgR (q : Rat) : Int := if q = 0 then 0 else if q < 0 then -1 else 1
theorem sg_dy {n e : Int} : sgR ((n : Rat) * (2 : Rat) ^ e) = if n = 0 then 0 else if n < 0 then -1 else 1 := by
 have hp : (0 : Rat) < (2 : Rat) ^ e := Flt.zpow_pos e
 have h0 : ((n : Rat) * (2 : Rat) ^ e = 0) ↔ n = 0 := by
  constructor
  ·intro h
   rcases Rat.mul_eq_zero.1 h with h | h
   ·exact Rat.intCast_inj.1 h
   ·grind
  ·rintro rfl; simp
 have h1 : ((n : Rat) * (2 : Rat) ^ e < 0) ↔ n < 0 := by
  constructor
  ·intro h
   by_cases hn : n < 0
   ·exact hn
   ·have : (0 : Rat) ≤ (n : Rat) := by
     have := Rat.intCast_le_intCast.2 (show 0 ≤ n by omega); simpa using this
    have := Rat.mul_nonneg this (Rat.le_of_lt hp); grind
  ·intro h
   have h2 : (n : Rat) < 0 := by have := Rat.intCast_lt_intCast.2 h; simpa using this
   have := Rat.mul_lt_mul_of_pos_right h2 hp
   simpa using this
 unfold sgR
 simp only [h0, h1]
theorem Dyd.mono {d : TSpec_Dyadic} {q : Rat} {m k m' k' : Nat} (h : Dyd d q m k) (hm : m ≤ m') (hk : k ≤ k') : Dyd d q m' k' := by
 obtain ⟨n, e, h1, h2, h3, h4, h5⟩ := h
 exact ⟨n, e, h1, h2, by omega, by omega, by omega⟩
theorem dyd_of {x : Nat} {q : Rat} (hx : x < 18446744073709551616) (h : Flt.V x = some q) {F : Nat} (hF : BigF F) : ∃ d, p_DyadicOf F x = some d ∧ Dyd d q 2 1074 := by
 obtain ⟨n, e, h1, h2, h3, h4, h5⟩ := dyadicOf_p hx h (F := F) (by unfold BigF at hF; omega)
 exact ⟨_, h1, n, e, rfl, h2, sz_of (by
  have : (4294967296 : Nat) ^ 2 = 18446744073709551616 := by decide
  omega), by omega, by omega⟩
theorem dyd_sign {d : TSpec_Dyadic} {q : Rat} {m k : Nat} (h : Dyd d q m k) : p_Dyadic_Sign d = some (sgR q) := by
 obtain ⟨n, e, rfl, rfl, _⟩ := h
 unfold p_Dyadic_Sign
 rw [sign_p, Option.bind_some, sg_dy]
theorem dyd_mul {a b : TSpec_Dyadic} {p q : Rat} {m k m' k' : Nat} (ha : Dyd a p m k) (hb : Dyd b q m' k') (hm : m + m' < 1000000) (hk : k + k' < 1000000) {F : Nat} (hF : BigF F) : ∃ d, p_Dyadic_Mul F a b = some d ∧ Dyd d (p * q) (m + m') (k + k') := by
 obtain ⟨n, e, rfl, rfl, h1, h2, h3⟩ := ha
 obtain ⟨n', e', rfl, rfl, h1', h2', h3'⟩ := hb
 unfold p_Dyadic_Mul
 rw [mul_p (by omega) hF, Option.bind_some, need_pos (in64m (by simp only; omega) (by simp only; omega))]
 refine ⟨_, rfl, n * n', e + e', rfl, ?_, ?_, by omega, by omega⟩
 ·rw [Rat.intCast_mul, Flt.zpow_add]; grind
 ·have := sz_mul n n'; omega
theorem dyd_add {a b : TSpec_Dyadic} {p q : Rat} {m k m' k' : Nat} (ha : Dyd a p m k) (hb : Dyd b q m' k') (hm : m + m' < 1000000) (hk : k + k' < 1000000) {F : Nat} (hF : BigF F) : ∃ d, p_Dyadic_Add F a b = some d ∧ Dyd d (p + q) (m + m' + (k + k') / 32 + 3) (k + k') := by
 have sa := dyd_sign ha
 have sb := dyd_sign hb
 unfold p_Dyadic_Add
 rw [sa, Option.bind_some]
 by_cases hp : p = 0
 ·rw [cond_t (decide_eq_true (by unfold sgR; rw [if_pos hp]))]
  refine ⟨b, rfl, ?_⟩
  rw [hp, Rat.zero_add]; exact hb.mono (by omega) (by omega)
 ·have hsp : ¬ sgR p = 0 := by unfold sgR; rw [if_neg hp]; split <;> decide
  rw [cond_f (decide_eq_false hsp), sb, Option.bind_some]
  by_cases hq : q = 0
  ·rw [cond_t (decide_eq_true (by unfold sgR; rw [if_pos hq]))]
   refine ⟨a, rfl, ?_⟩
   rw [hq, Rat.add_zero]; exact ha.mono (by omega) (by omega)
  ·have hsq : ¬ sgR q = 0 := by unfold sgR; rw [if_neg hq]; split <;> decide
   rw [cond_f (decide_eq_false hsq)]
   obtain ⟨n, e, rfl, rfl, h1, h2, h3⟩ := ha
   obtain ⟨n', e', rfl, rfl, h1', h2', h3'⟩ := hb
   have key : ∀ (x y : Int) (u v : Int), v ≤ u → u - v ≤ (k + k' : Nat) → sz x + sz y ≤ m + m' → ∃ N : Nat, u - v = (N : Int) ∧ p_Whole_Up F (W x) (u - v) = some (W (x * 2 ^ N)) ∧ p_Whole_Add F (W (x * 2 ^ N)) (W y) = some (W (x * 2 ^ N + y)) ∧
     ((x * 2 ^ N + y : Int) : Rat) * (2 : Rat) ^ v = (x : Rat) * (2 : Rat) ^ u + (y : Rat) * (2 : Rat) ^ v ∧ sz (x * 2 ^ N + y) ≤ m + m' + (k + k') / 32 + 3 := by
    intro x y u v huv hk2 hs
    obtain ⟨N, hN⟩ : ∃ N : Nat, u - v = (N : Int) := ⟨(u - v).toNat, by omega⟩
    have hsz := sz_up x N
    have hNk : N / 32 ≤ (k + k') / 32 := Nat.div_le_div_right (by omega)
    have hF' : 1073741826 ≤ F := hF
    refine ⟨N, hN, by rw [hN]; exact up_p (by omega) hF, add_p (by omega) (by omega) hF, ?_, ?_⟩
    ·have e1 : u = v + (N : Int) := by omega
     rw [e1, Flt.zpow_add, Flt.zpow_nat, Rat.intCast_add, Rat.intCast_mul, Rat.intCast_pow]
     have e2 : ((2 ^ N : Nat) : Rat) = (2 : Rat) ^ N := Rat.natCast_pow 2 N
     have e3 : ((2 : Int) : Rat) = 2 := rfl
     rw [e2, e3]; grind
    ·have := sz_add (x * 2 ^ N) y
     omega
   by_cases he : e' < e
   ·obtain ⟨N, k0, k1, k2, k3, k4⟩ := key n n' e e' (by omega) (by omega) (by omega)
    rw [cond_t (decide_eq_true he), need_pos (in64m (by simp only; omega) (by simp only; omega))]
    simp only
    rw [k1, Option.bind_some, k2, Option.bind_some]
    exact ⟨_, rfl, _, e', rfl, k3.symm, k4, by omega, by omega⟩
   ·obtain ⟨N, k0, k1, k2, k3, k4⟩ := key n' n e' e (by omega) (by omega) (by omega)
    rw [cond_f (decide_eq_false he), need_pos (in64m (by simp only; omega) (by simp only; omega))]
    simp only
    rw [k1, Option.bind_some, k2, Option.bind_some]
    refine ⟨_, rfl, _, e, rfl, ?_, k4, by omega, by omega⟩
    rw [k3, Rat.add_comm]
end Go.Proofs.YtohgipjhcgblfaaGreat.Wk

namespace Go.Proofs.YtohgipjhcgblfaaGreat.Wk
open Go.Vm Limb
set_option linter.unusedVariables false
set_option linter.unusedSimpArgs false
theorem minus_p (n : Int) : p_Whole_Minus (W n) = some (W (-n)) := by
 unfold p_Whole_Minus W
 simp only
 have hz : (nl (limbs n.natAbs)).length = 0 ↔ n = 0 := by
  rw [nl_len, List.length_eq_zero_iff, limbs_nil, Int.natAbs_eq_zero]
 by_cases h : n < 0
 ·rw [show (!decide (n < 0)) = false by simp [h], Int.natAbs_neg, show decide (-n < 0) = false by simp; omega]; rfl
 ·rw [show (!decide (n < 0)) = true by simp [h], Int.natAbs_neg]
  simp only [cond_true]
  congr 2
  apply decide_eq_decide.2
  constructor
  ·intro h1
   have : ¬ n = 0 := fun e => by have := hz.2 e; omega
   omega
  ·intro h1
   have : ¬ (nl (limbs n.natAbs)).length = 0 := fun e => by have := hz.1 e; omega
   omega
theorem dyd_minus {d : TSpec_Dyadic} {q : Rat} {m k : Nat} (h : Dyd d q m k) : ∃ d', p_Dyadic_Minus d = some d' ∧ Dyd d' (-q) m k := by
 obtain ⟨n, e, rfl, rfl, h1, h2, h3⟩ := h
 unfold p_Dyadic_Minus
 rw [minus_p, Option.bind_some]
 refine ⟨_, rfl, -n, e, rfl, ?_, by rw [sz_neg]; exact h1, h2, h3⟩
 rw [Rat.intCast_neg]; grind
theorem dyd_sub {a b : TSpec_Dyadic} {p q : Rat} {m k m' k' : Nat} (ha : Dyd a p m k) (hb : Dyd b q m' k') (hm : m + m' < 1000000) (hk : k + k' < 1000000) {F : Nat} (hF : BigF F) : ∃ d, p_Dyadic_Sub F a b = some d ∧ Dyd d (p - q) (m + m' + (k + k') / 32 + 3) (k + k') := by
 obtain ⟨b', h1, hb'⟩ := dyd_minus hb
 obtain ⟨d, h2, hd⟩ := dyd_add ha hb' hm hk hF
 refine ⟨d, ?_, ?_⟩
 ·unfold p_Dyadic_Sub; rw [h1, Option.bind_some, h2, Option.bind_some]
 ·rw [Rat.sub_eq_add_neg]; exact hd
theorem dyd_cmp {a b : TSpec_Dyadic} {p q : Rat} {m k m' k' : Nat} (ha : Dyd a p m k) (hb : Dyd b q m' k') (hm : m + m' < 1000000) (hk : k + k' < 1000000) {F : Nat} (hF : BigF F) : p_Dyadic_Cmp F a b = some (sgR (p - q)) := by
 obtain ⟨d, h1, hd⟩ := dyd_sub ha hb hm hk hF
 unfold p_Dyadic_Cmp
 rw [h1, Option.bind_some, dyd_sign hd, Option.bind_some]
theorem sgR_neg {q : Rat} : sgR q < 0 ↔ q < 0 := by
 unfold sgR
 split
 ·rename_i h; subst h; simp
 ·split
  ·rename_i h; simp [h]
  ·rename_i h; simp [h]
theorem sgR_le {q : Rat} : sgR q ≤ 0 ↔ q ≤ 0 := by
 unfold sgR
 split
 ·rename_i h; subst h; simp
 ·split
  ·rename_i h; simp; grind
  ·rename_i h; simp; grind
theorem sgR_zero {q : Rat} : sgR q = 0 ↔ q = 0 := by
 unfold sgR
 split
 ·rename_i h; simp [h]
 ·split
  ·rename_i h1 h; simp [h1]
  ·rename_i h1 h; simp [h1]
theorem sgR_int (n : Int) : sgR (n : Rat) = if n = 0 then 0 else if n < 0 then -1 else 1 := by
 have := @sg_dy n 0
 rw [Flt.zpow_zero', Rat.mul_one] at this
 exact this
end Go.Proofs.YtohgipjhcgblfaaGreat.Wk

namespace Go.Proofs.YtohgipjhcgblfaaGreat.Wk
open Go.Vm
set_option linter.unusedVariables false
set_option linter.unusedSimpArgs false
theorem wholeTo_p {F : Nat} (hF : BigF F) (m : Nat) (l : List Nat) (hl : l.length < 1000) : p_wholeTo F m l = some (l.all (Flt.wT m)) := by
 have hF' : 1073741826 ≤ F := hF
 unfold p_wholeTo
 have outer : iter (p_wholeTo_l2 m l) F (0 : Int) = some (if l.all (Flt.wT m) = true then Sum.inl () else Sum.inr false) := by
  refine scan_loop0 l _ _ _ (fun K k hk => ?_) (fun K k x hx => ?_) (by omega)
  ·unfold p_wholeTo_l2; rw [cond_f (decide_eq_false (by omega))]
  ·have hk := (List.getElem?_eq_some_iff.1 hx).1
   unfold p_wholeTo_l2
   rw [cond_t (decide_eq_true (by omega)), idx_get hx, Option.bind_some, succ_cast]
   cases g1 : feq x (Flt.truncN x) with
   | false => rw [cond_t (show (!false) = true from rfl), if_neg (by simp [Flt.wT, g1])]
   | true =>
    rw [cond_f (show (!true) = false from rfl)]
    cases g2 : fgt (Flt.fabs x) m with
    | true => rw [cond_t rfl, if_neg (by simp [Flt.wT, g2])]
    | false => rw [cond_f rfl, need_pos (in64 (by omega) (by omega)), if_pos (by simp [Flt.wT, g1, g2])]
 rw [outer, Option.bind_some]
 split
 ·rename_i h; rw [h, aft_inl]; rfl
 ·rename_i h; rw [aft_inr, show l.all (Flt.wT m) = false by simpa using h]
def planeOk (m : Nat) (p : TImpl_P2) : Bool := Flt.wT m p.X && Flt.wT m p.Y
theorem planeTo_p {F : Nat} (hF : BigF F) (m : Nat) (l : List TImpl_P2) (hl : l.length < 1000) : p_planeTo F m l = some (l.all (planeOk m)) := by
 have hF' : 1073741826 ≤ F := hF
 unfold p_planeTo
 have outer : iter (p_planeTo_l2 m l F) F (0 : Int) = some (if l.all (planeOk m) = true then Sum.inl () else Sum.inr false) := by
  refine scan_loop0 l _ _ _ (fun K k hk => ?_) (fun K k x hx => ?_) (by omega)
  ·unfold p_planeTo_l2; rw [cond_f (decide_eq_false (by omega))]
  ·have hk := (List.getElem?_eq_some_iff.1 hx).1
   unfold p_planeTo_l2
   rw [cond_t (decide_eq_true (by omega)), idx_get hx, Option.bind_some, succ_cast, wholeTo_p hF m _ (by simp), Option.bind_some]
   have e : [x.X, x.Y].all (Flt.wT m) = planeOk m x := by simp [planeOk]
   rw [e]
   cases planeOk m x with
   | false => rw [cond_t (show (!false) = true from rfl), if_neg (by simp)]
   | true => rw [cond_f (show (!true) = false from rfl), need_pos (in64 (by omega) (by omega)), if_pos rfl]
 rw [outer, Option.bind_some]
 split
 ·rename_i h; rw [h, aft_inl]; rfl
 ·rename_i h; rw [aft_inr, show l.all (planeOk m) = false by simpa using h]
/-- p is the place (x, y), whole -/
def At (p : TImpl_P2) (x y : Int) : Prop := Flt.I p.X x ∧ Flt.I p.Y y
theorem at_of {m : Nat} {k : Int} (hk : Flt.I m k) (hk0 : 0 ≤ k) (hk1 : k ≤ 4503599627370496) {p : TImpl_P2} (h : planeOk m p = true) : ∃ x y, At p x y ∧ (-k ≤ x ∧ x ≤ k) ∧ (-k ≤ y ∧ y ≤ k) := by
 simp only [planeOk, Bool.and_eq_true] at h
 obtain ⟨x, h1, h2⟩ := Flt.wT_int hk hk0 hk1 (Flt.fneg_int hk) h.1
 obtain ⟨y, h3, h4⟩ := Flt.wT_int hk hk0 hk1 (Flt.fneg_int hk) h.2
 exact ⟨x, y, ⟨h1, h3⟩, h2, h4⟩
/-- d is the exact point (x, y) -/
def DydAt (d : TSpec_Point) (x y : Rat) : Prop := Dyd d.X x 2 1074 ∧ Dyd d.Y y 2 1074
theorem exactly_p {F : Nat} (hF : BigF F) {p : TImpl_P2} {x y : Int} (h : At p x y) (wx : p.X < 18446744073709551616) (wy : p.Y < 18446744073709551616) : ∃ d, p_exactly F p = some d ∧ DydAt d x y := by
 obtain ⟨d1, e1, k1⟩ := dyd_of wx h.1 hF
 obtain ⟨d2, e2, k2⟩ := dyd_of wy h.2 hF
 exact ⟨⟨d1, d2⟩, by simp only [p_exactly, p_PointOf, e1, e2, Option.bind_some], k1, k2⟩
def crossR (ax ay bx b_y cx cy : Rat) : Rat := (bx - ax) * (cy - ay) - (b_y - ay) * (cx - ax)
theorem cross_p {F : Nat} (hF : BigF F) {a b c : TSpec_Point} {ax ay bx b_y cx cy : Rat} (ha : DydAt a ax ay) (hb : DydAt b bx b_y) (hc : DydAt c cx cy) : ∃ d, p_Cross F a b c = some d ∧ Dyd d (crossR ax ay bx b_y cx cy) 567 8592 := by
 obtain ⟨d1, e1, k1⟩ := dyd_sub hb.1 ha.1 (by omega) (by omega) hF
 obtain ⟨d2, e2, k2⟩ := dyd_sub hc.2 ha.2 (by omega) (by omega) hF
 obtain ⟨d3, e3, k3⟩ := dyd_mul k1 k2 (by omega) (by omega) hF
 obtain ⟨d4, e4, k4⟩ := dyd_sub hb.2 ha.2 (by omega) (by omega) hF
 obtain ⟨d5, e5, k5⟩ := dyd_sub hc.1 ha.1 (by omega) (by omega) hF
 obtain ⟨d6, e6, k6⟩ := dyd_mul k4 k5 (by omega) (by omega) hF
 obtain ⟨d7, e7, k7⟩ := dyd_sub k3 k6 (by omega) (by omega) hF
 exact ⟨d7, by simp only [p_Cross, e1, e2, e3, e4, e5, e6, e7, Option.bind_some], k7⟩
end Go.Proofs.YtohgipjhcgblfaaGreat.Wk

namespace Go.Proofs.YtohgipjhcgblfaaGreat.Wk
open Go.Vm
set_option linter.unusedVariables false
set_option linter.unusedSimpArgs false
theorem orient_p {F : Nat} (hF : BigF F) {a b c : TSpec_Point} {ax ay bx b_y cx cy : Rat} (ha : DydAt a ax ay) (hb : DydAt b bx b_y) (hc : DydAt c cx cy) : p_Orient F a b c = some (sgR (crossR ax ay bx b_y cx cy)) := by
 obtain ⟨d, e, k⟩ := cross_p hF ha hb hc
 unfold p_Orient
 rw [e, Option.bind_some, dyd_sign k, Option.bind_some]
end Go.Proofs.YtohgipjhcgblfaaGreat.Wk

namespace Go.Proofs.YtohgipjhcgblfaaGreat.Wk
open Go.Vm
set_option linter.unusedVariables false
set_option linter.unusedSimpArgs false
def turn (ax ay bx b_y cx cy : Int) : Int := (ax - cx) * (b_y - cy) - (ay - cy) * (bx - cx)
theorem cross_int (ax ay bx b_y cx cy : Int) : crossR ax ay bx b_y cx cy = ((turn ax ay bx b_y cx cy : Int) : Rat) := by
 unfold crossR turn
 simp only [Rat.intCast_sub, Rat.intCast_mul]
 grind
def btwR (p q r : Rat) : Prop := (p ≤ r ∧ r ≤ q) ∨ (q ≤ r ∧ r ≤ p)
def btwI (p q r : Int) : Prop := (p ≤ r ∧ r ≤ q) ∨ (q ≤ r ∧ r ≤ p)
instance (p q r : Rat) : Decidable (btwR p q r) := by unfold btwR; infer_instance
instance (p q r : Int) : Decidable (btwI p q r) := by unfold btwI; infer_instance
theorem btw_int (p q r : Int) : btwR p q r ↔ btwI p q r := by
 unfold btwR btwI
 simp only [Rat.intCast_le_intCast]
theorem le_sub (p q : Rat) : p - q ≤ 0 ↔ p ≤ q := by constructor <;> intro h <;> grind
theorem between_p {F : Nat} (hF : BigF F) {a b c : TSpec_Dyadic} {p q r : Rat} (ha : Dyd a p 2 1074) (hb : Dyd b q 2 1074) (hc : Dyd c r 2 1074) : p_Between F a b c = some (decide (btwR p q r)) := by
 unfold p_Between btwR
 rw [dyd_cmp ha hc (by omega) (by omega) hF, dyd_cmp hc hb (by omega) (by omega) hF, dyd_cmp hb hc (by omega) (by omega) hF, dyd_cmp hc ha (by omega) (by omega) hF]
 simp only [Option.bind_some, sgR_le, le_sub]
 by_cases h1 : p ≤ r <;> by_cases h2 : r ≤ q <;> by_cases h3 : q ≤ r <;> by_cases h4 : r ≤ p <;> simp [h1, h2, h3, h4]
abbrev K24 : Nat := 4715268809856909312
theorem turn_swap (ax ay bx b_y cx cy : Int) : turn ax ay cx cy bx b_y = -turn ax ay bx b_y cx cy := by
 unfold turn
 simp only [Int.sub_mul, Int.mul_sub]
 have c1 := Int.mul_comm ax cy
 have c2 := Int.mul_comm bx ay
 have c3 := Int.mul_comm bx b_y
 have c4 := Int.mul_comm ax b_y
 have c5 := Int.mul_comm cx cy
 have c6 := Int.mul_comm cx b_y
 have c7 := Int.mul_comm cx ay
 have c8 := Int.mul_comm bx cy
 omega
theorem on_p {F : Nat} (hF : BigF F) {a b c : TSpec_Point} {ax ay bx b_y cx cy : Int} (ha : DydAt a ax ay) (hb : DydAt b bx b_y) (hc : DydAt c cx cy) :
  p_OnSegment F b a c = some (decide (turn ax ay bx b_y cx cy = 0 ∧ btwI ax cx bx ∧ btwI ay cy b_y)) := by
 unfold p_OnSegment
 rw [orient_p hF ha hc hb, Option.bind_some, cross_int, turn_swap, sgR_int, between_p hF ha.1 hc.1 hb.1, between_p hF ha.2 hc.2 hb.2]
 simp only [Option.bind_some, btw_int]
 generalize turn ax ay bx b_y cx cy = n
 by_cases h : n = 0
 ·rw [if_pos (by omega), cond_t (decide_eq_true rfl)]
  by_cases h1 : btwI ax cx bx <;> by_cases h2 : btwI ay cy b_y <;> simp [h, h1, h2]
 ·rw [if_neg (show ¬ -n = 0 by omega), cond_f (decide_eq_false (by split <;> omega))]
  simp [h]
end Go.Proofs.YtohgipjhcgblfaaGreat.Wk

set_option linter.unusedVariables false
set_option linter.unusedSimpArgs false
namespace Go.Proofs.YtohgipjhcgblfaaGreat.Wk
open Go.Vm
/-- The same, where only the bound counts. -/
theorem fold_ex {α σ St V T : Type} (L : List α) (b : (St → Option (Sum V T)) → St → Option (Sum V T)) (mk : Nat → σ → St) (out : σ → V) (Inv : Nat → σ → Prop)
  (hend : ∀ K s, Inv L.length s → b K (mk L.length s) = some (.inl (out s)))
  (hstep : ∀ i x s, L[i]? = some x → Inv i s → ∃ s', Inv (i + 1) s' ∧ ∀ K, b K (mk i s) = K (mk (i + 1) s')) :
  ∀ (F i : Nat) (s : σ), L.length - i < F → i ≤ L.length → Inv i s → ∃ s', Inv L.length s' ∧ iter b F (mk i s) = some (.inl (out s')) := by
 intro F
 induction F with
 | zero => intro i s h; omega
 | succ F ih =>
  intro i s h hi hs
  show ∃ s', Inv L.length s' ∧ b (iter b F) (mk i s) = _
  by_cases hk : i < L.length
  ·have hx : L[i]? = some L[i] := List.getElem?_eq_getElem hk
   obtain ⟨s', h1, h2⟩ := hstep i _ s hx hs
   rw [h2]
   exact ih (i + 1) _ (by omega) (by omega) h1
  ·have : i = L.length := by omega
   subst this
   exact ⟨s, hs, hend _ s hs⟩
theorem dlt {i n : Nat} (h : i < n) : decide ((i : Int) < (n : Int)) = true := decide_eq_true (by omega)
theorem dge {n : Nat} : decide ((n : Int) < (n : Int)) = false := decide_eq_false (by omega)
theorem mem_get {α : Type} {l : List α} {i : Nat} {x : α} (h : l[i]? = some x) : x ∈ l := List.mem_of_getElem? h
theorem lt_get {α : Type} {l : List α} {i : Nat} {x : α} (h : l[i]? = some x) : i < l.length := (List.getElem?_eq_some_iff.1 h).1
theorem i64s {k : Nat} (h : k < 4611686018427387904) : inI .i64 ((k : Int) + 1) := in64 (by omega) (by omega)
end Go.Proofs.YtohgipjhcgblfaaGreat.Wk

set_option linter.unusedVariables false
set_option linter.unusedSimpArgs false
namespace Go.Proofs.YtohgipjhcgblfaaGreat.Wk
open Go.Vm
def Pt (p : TSpec_Point) : Prop := ∃ x y : Int, DydAt p x y
theorem less_p {F : Nat} (hF : BigF F) {p q : TSpec_Point} (hp : Pt p) (hq : Pt q) : ∃ b, p_Less F p q = some b := by
 obtain ⟨x, y, h1, h2⟩ := hp
 obtain ⟨u, v, h3, h4⟩ := hq
 unfold p_Less
 rw [dyd_cmp h1 h3 (by omega) (by omega) hF, Option.bind_some]
 cases decide (sgR ((x : Rat) - u) < 0) with
 | true => exact ⟨_, rfl⟩
 | false =>
  cases decide (sgR ((x : Rat) - u) = 0) with
  | true => rw [dyd_cmp h2 h4 (by omega) (by omega) hF]; exact ⟨_, rfl⟩
  | false => exact ⟨_, rfl⟩
theorem same_p {F : Nat} (hF : BigF F) {p q : TSpec_Point} (hp : Pt p) (hq : Pt q) : ∃ b, p_Same F p q = some b := by
 obtain ⟨x, y, h1, h2⟩ := hp
 obtain ⟨u, v, h3, h4⟩ := hq
 unfold p_Same
 rw [dyd_cmp h1 h3 (by omega) (by omega) hF, Option.bind_some]
 cases decide (sgR ((x : Rat) - u) = 0) with
 | true => rw [dyd_cmp h2 h4 (by omega) (by omega) hF]; exact ⟨_, rfl⟩
 | false => exact ⟨_, rfl⟩
theorem place_loop {F : Nat} (hF : BigF F) {s : List TSpec_Point} {i : Int} {x : TSpec_Point} (hs : ∀ p ∈ s, Pt p) (hx : Pt x) (hl : s.length ≤ 4) :
  ∀ (G j : Nat), s.length - j < G → j ≤ s.length → ∃ k : Nat, k ≤ s.length ∧ iter (p_Distinct_l5 F (s, i) x) G (j : Int) = some (.inl (k : Int)) := by
 intro G
 induction G with
 | zero => intro j h; omega
 | succ G ih =>
  intro j h hj
  show ∃ k : Nat, k ≤ s.length ∧ p_Distinct_l5 F (s, i) x (iter (p_Distinct_l5 F (s, i) x) G) (j : Int) = _
  unfold p_Distinct_l5
  dsimp only
  by_cases hlt : j < s.length
  ·obtain ⟨b, hb⟩ := less_p hF (hs _ (List.getElem_mem hlt)) hx
   rw [cond_t (dlt hlt), idx_get (List.getElem?_eq_getElem hlt), Option.bind_some, hb, Option.bind_some]
   cases b with
   | true =>
    rw [cond_t (by rfl), need_pos (i64s (by omega)), succ_cast]
    exact ih (j + 1) (by omega) (by omega)
   | false => exact ⟨j, hj, rfl⟩
  ·exact ⟨j, hj, by rw [cond_f (decide_eq_false (by omega))]⟩
theorem distinct_p {F : Nat} (hF : BigF F) {l : List TSpec_Point} (hl : ∀ p ∈ l, Pt p) (h4 : l.length ≤ 4) : ∃ r, p_Distinct F l = some r ∧ r.length ≤ 4 := by
 have hFb : 1073741826 ≤ F := hF
 obtain ⟨r, ⟨h1, _⟩, h2⟩ := fold_ex (σ := List TSpec_Point) l (p_Distinct_l2 l F) (fun i s => (s, (i : Int))) (fun s => s) (fun i s => s.length ≤ i ∧ ∀ p ∈ s, Pt p)
  (fun K s _ => by unfold p_Distinct_l2; dsimp only; rw [cond_f dge])
  (fun i x s hx ⟨h1, h2⟩ => by
   have hi := lt_get hx
   have px := hl x (mem_get hx)
   obtain ⟨k, hk, hk2⟩ := place_loop hF (i := (i : Int)) h2 px (by omega) F 0 (by omega) (by omega)
   have hk2' : iter (p_Distinct_l5 F (s, (i : Int)) x) F (0 : Int) = some (.inl (k : Int)) := hk2
   have add : ∀ K, p_Distinct_k4 (s, (i : Int)) K x (k : Int) () = K (s.take k ++ ([x] ++ (s.drop k).take (s.length - k)), ((i + 1 : Nat) : Int)) := fun K => by
    unfold p_Distinct_k4
    dsimp only
    rw [Int.toNat_natCast, need_pos ⟨by omega, hk⟩, need_pos ⟨⟨by omega, trivial⟩, hk, Nat.le_refl _⟩, need_pos (by simp; omega), need_pos (by simp; omega), need_pos (i64s (by omega)), succ_cast]
   have new : ∃ s', (s'.length ≤ i + 1 ∧ ∀ p ∈ s', Pt p) ∧ ∀ K, p_Distinct_k4 (s, (i : Int)) K x (k : Int) () = K (s', ((i + 1 : Nat) : Int)) :=
    ⟨_, ⟨by simp; omega, fun p hp => by
     simp only [List.mem_append, List.mem_singleton] at hp
     rcases hp with hp | hp | hp
     ·exact h2 p (List.mem_of_mem_take hp)
     ·exact hp ▸ px
     ·exact h2 p (List.mem_of_mem_drop (List.mem_of_mem_take hp))⟩, add⟩
   by_cases hlt : k < s.length
   ·obtain ⟨b, hb⟩ := same_p hF (h2 _ (List.getElem_mem hlt)) px
    have e : ∀ K, p_Distinct_l2 l F K (s, (i : Int)) = cond b (K (s, ((i + 1 : Nat) : Int))) (p_Distinct_k4 (s, (i : Int)) K x (k : Int) ()) := fun K => by
     unfold p_Distinct_l2
     dsimp only
     rw [cond_t (dlt hi), idx_get hx, Option.bind_some, hk2', Option.bind_some, aft_inl]
     unfold p_Distinct_k3
     dsimp only
     rw [cond_t (dlt hlt), idx_get (List.getElem?_eq_getElem hlt), Option.bind_some, hb, Option.bind_some, need_pos (i64s (by omega)), succ_cast]
    cases b with
    | true => exact ⟨s, ⟨by omega, h2⟩, fun K => by rw [e]; rfl⟩
    | false =>
     obtain ⟨s', g1, g2⟩ := new
     exact ⟨s', g1, fun K => by rw [e, cond_f (by rfl), g2]⟩
   ·obtain ⟨s', g1, g2⟩ := new
    refine ⟨s', g1, fun K => ?_⟩
    unfold p_Distinct_l2
    dsimp only
    rw [cond_t (dlt hi), idx_get hx, Option.bind_some, hk2', Option.bind_some, aft_inl]
    unfold p_Distinct_k3
    dsimp only
    rw [cond_f (decide_eq_false (by omega)), g2]) F 0 [] (by omega) (by omega) ⟨by simp, fun p hp => by simp at hp⟩
 have h2' : iter (p_Distinct_l2 l F) F (([] : List TSpec_Point), (0 : Int)) = some (.inl r) := h2
 exact ⟨r, by unfold p_Distinct; rw [h2']; rfl, by omega⟩
theorem sg_in (p q : Rat) : inI .i64 (sgR p * sgR q) := by
 unfold sgR
 split <;> split <;> (try split) <;> (try split) <;> exact ⟨by decide, by decide⟩
/-- The segments cross, within both. -/
def Crossed (ax ay bx b_y cx cy dx dy : Rat) : Prop := sgR (crossR ax ay bx b_y cx cy) * sgR (crossR ax ay bx b_y dx dy) < 0 ∧ sgR (crossR cx cy dx dy ax ay) * sgR (crossR cx cy dx dy bx b_y) < 0
theorem meet_p {F : Nat} (hF : BigF F) {a b c d : TSpec_Point} {ax ay bx b_y cx cy dx dy : Int} (ha : DydAt a ax ay) (hb : DydAt b bx b_y) (hc : DydAt c cx cy) (hd : DydAt d dx dy) :
  ∃ h f t w, p_Meet F a b c d = some (h, f, t, w) ∧ (h = 1 → w = false → Crossed ax ay bx b_y cx cy dx dy) := by
 have hFb : 1073741826 ≤ F := hF
 have pa : Pt a := ⟨_, _, ha⟩
 have pb : Pt b := ⟨_, _, hb⟩
 have pc : Pt c := ⟨_, _, hc⟩
 have pd : Pt d := ⟨_, _, hd⟩
 obtain ⟨m1, ⟨l1, q1⟩, e1⟩ := fold_ex (σ := List TSpec_Point) [a, b] (p_Meet_l5 a b c d F) (fun i s => ((i : Int), s)) (fun s => s) (fun i s => s.length ≤ i ∧ ∀ p ∈ s, Pt p)
  (fun K s _ => by unfold p_Meet_l5; dsimp only; first | rw [cond_f dge] | exact cond_f (decide_eq_false (by simp)) _ _)
  (fun i x s hx ⟨h1, h2⟩ => by
   have hi := lt_get hx
   have hi2 : i < 2 := hi
   have px : Pt x := by
    have := mem_get hx
    simp only [List.mem_cons, List.mem_nil_iff, or_false] at this
    rcases this with rfl | rfl <;> assumption
   obtain ⟨u, v, hx2⟩ := px
   have ho := on_p hF hc hx2 hd
   have e : ∀ K, p_Meet_l5 a b c d F K ((i : Int), s) = cond (Option.get (p_OnSegment F x c d) (by rw [ho]; rfl)) (K (((i + 1 : Nat) : Int), s ++ [x])) (K (((i + 1 : Nat) : Int), s)) := fun K => by
    unfold p_Meet_l5
    dsimp only
    simp only [ho, Option.get_some]
    rw [cond_t (by first | exact dlt hi | exact decide_eq_true (by omega)), idx_get hx, Option.bind_some, ho, Option.bind_some, need_pos (by simp; omega), need_pos (i64s (by omega)), succ_cast, need_pos (in64 (by omega) (by omega))]
   generalize Option.get (p_OnSegment F x c d) (by rw [ho]; rfl) = b0 at e
   cases b0 with
   | true => exact ⟨s ++ [x], ⟨by simp; omega, fun p hp => by
     rcases List.mem_append.1 hp with hp | hp
     ·exact h2 p hp
     ·rw [List.mem_singleton.1 hp]; exact ⟨u, v, hx2⟩⟩, fun K => by rw [e]; rfl⟩
   | false => exact ⟨s, ⟨by omega, h2⟩, fun K => by rw [e]; rfl⟩) F 0 [] (by simp; omega) (by simp) ⟨by simp, fun p hp => by simp at hp⟩
 have l1' : m1.length ≤ 2 := l1
 obtain ⟨m2, ⟨l2, q2⟩, e2⟩ := fold_ex (σ := List TSpec_Point) [c, d] (p_Meet_l4 a b c d F) (fun i s => ((i : Int), s)) (fun s => s) (fun i s => s.length ≤ 2 + i ∧ ∀ p ∈ s, Pt p)
  (fun K s _ => by unfold p_Meet_l4; dsimp only; first | rw [cond_f dge] | exact cond_f (decide_eq_false (by simp)) _ _)
  (fun i x s hx ⟨h1, h2⟩ => by
   have hi := lt_get hx
   have hi2 : i < 2 := hi
   have px : Pt x := by
    have := mem_get hx
    simp only [List.mem_cons, List.mem_nil_iff, or_false] at this
    rcases this with rfl | rfl <;> assumption
   obtain ⟨u, v, hx2⟩ := px
   have ho := on_p hF ha hx2 hb
   have e : ∀ K, p_Meet_l4 a b c d F K ((i : Int), s) = cond (Option.get (p_OnSegment F x a b) (by rw [ho]; rfl)) (K (((i + 1 : Nat) : Int), s ++ [x])) (K (((i + 1 : Nat) : Int), s)) := fun K => by
    unfold p_Meet_l4
    dsimp only
    simp only [ho, Option.get_some]
    rw [cond_t (by first | exact dlt hi | exact decide_eq_true (by omega)), idx_get hx, Option.bind_some, ho, Option.bind_some, need_pos (by simp; omega), need_pos (i64s (by omega)), succ_cast, need_pos (in64 (by omega) (by omega))]
   generalize Option.get (p_OnSegment F x a b) (by rw [ho]; rfl) = b0 at e
   cases b0 with
   | true => exact ⟨s ++ [x], ⟨by simp; omega, fun p hp => by
     rcases List.mem_append.1 hp with hp | hp
     ·exact h2 p hp
     ·rw [List.mem_singleton.1 hp]; exact ⟨u, v, hx2⟩⟩, fun K => by rw [e]; rfl⟩
   | false => exact ⟨s, ⟨by omega, h2⟩, fun K => by rw [e]; rfl⟩) F 0 m1 (by simp; omega) (by simp) ⟨by omega, q1⟩
 have e1' : iter (p_Meet_l5 a b c d F) F ((0 : Int), []) = some (.inl m1) := e1
 have e2' : iter (p_Meet_l4 a b c d F) F ((0 : Int), m1) = some (.inl m2) := e2
 have l2' : m2.length ≤ 4 := l2
 obtain ⟨r, e3, l3⟩ := distinct_p hF q2 l2'
 unfold p_Meet
 rw [e1', Option.bind_some, aft_inl]
 unfold p_Meet_k1
 rw [e2', Option.bind_some, aft_inl]
 unfold p_Meet_k2
 rw [e3, Option.bind_some]
 match r, l3 with
 | [], _ =>
  rw [cond_f (by rfl), cond_f (by rfl), orient_p hF ha hb hc, Option.bind_some, orient_p hF ha hb hd, Option.bind_some, need_pos (sg_in _ _)]
  by_cases h1 : sgR (crossR ax ay bx b_y cx cy) * sgR (crossR ax ay bx b_y dx dy) < 0
  ·rw [cond_t (decide_eq_true h1), orient_p hF hc hd ha, Option.bind_some, orient_p hF hc hd hb, Option.bind_some, need_pos (sg_in _ _)]
   by_cases h2 : sgR (crossR cx cy dx dy ax ay) * sgR (crossR cx cy dx dy bx b_y) < 0
   ·rw [decide_eq_true h2]
    exact ⟨_, _, _, _, rfl, fun _ _ => ⟨h1, h2⟩⟩
   ·rw [decide_eq_false h2]
    exact ⟨_, _, _, _, rfl, fun h _ => by cases h⟩
  ·rw [cond_f (decide_eq_false h1)]
   exact ⟨_, _, _, _, rfl, fun h _ => by cases h⟩
 | [p], _ => exact ⟨_, _, _, _, rfl, fun _ h => by cases h⟩
 | p :: q :: r, hr =>
  obtain ⟨z, hz⟩ : ∃ z, (p :: q :: r)[r.length + 1]? = some z := ⟨_, List.getElem?_eq_getElem (by simp)⟩
  have hlast : (((p :: q :: r).length : Nat) : Int) - 1 = ((r.length + 1 : Nat) : Int) := by simp only [List.length_cons]; omega
  rw [cond_t (decide_eq_true (by simp; omega)), show idx (p :: q :: r) (0 : Int) = some p from rfl, Option.bind_some, hlast, need_pos (in64 (by omega) (by simp at hr; omega)), idx_get hz, Option.bind_some]
  exact ⟨_, _, _, _, rfl, fun h _ => by cases h⟩
end Go.Proofs.YtohgipjhcgblfaaGreat.Wk

namespace Go.Proofs.YtohgipjhcgblfaaGreat.Wk
open Go.Vm Limb
set_option linter.unusedVariables false
set_option linter.unusedSimpArgs false
theorem dyd_abs {d : TSpec_Dyadic} {q : Rat} {m k : Nat} (h : Dyd d q m k) : ∃ d', p_Dyadic_Abs d = some d' ∧ Dyd d' (Flt.ab q) m k := by
 unfold p_Dyadic_Abs
 rw [dyd_sign h, Option.bind_some]
 by_cases hq : q < 0
 ·obtain ⟨d', h1, h2⟩ := dyd_minus h
  rw [cond_t (decide_eq_true (sgR_neg.2 hq)), h1, Option.bind_some]
  refine ⟨d', rfl, ?_⟩
  unfold Flt.ab; rw [if_pos hq]; exact h2
 ·rw [cond_f (decide_eq_false (fun h => hq (sgR_neg.1 h)))]
  refine ⟨d, rfl, ?_⟩
  unfold Flt.ab; rw [if_neg hq]; exact h
end Go.Proofs.YtohgipjhcgblfaaGreat.Wk

set_option linter.unusedVariables false
set_option linter.unusedSimpArgs false
namespace Go.Proofs.YtohgipjhcgblfaaGreat.Wk
open Go.Vm
def denR (ax ay bx b_y cx cy dx dy : Rat) : Rat := (bx - ax) * (dy - cy) - (b_y - ay) * (dx - cx)
def numR (ax ay cx cy dx dy : Rat) : Rat := (cx - ax) * (dy - cy) - (cy - ay) * (dx - cx)
theorem ratioOf_p {n d : TSpec_Dyadic} {N D : Rat} {m k m' k' : Nat} (hn : Dyd n N m k) (hd : Dyd d D m' k') (h0 : D ≠ 0) :
  ∃ n' d', p_RatioOf n d = some ⟨n', d'⟩ ∧ ∃ D', 0 < D' ∧ Dyd d' D' m' k' ∧ Dyd n' (N / D * D') m k := by
 unfold p_RatioOf
 rw [dyd_sign hd, Option.bind_some]
 have e1 : N / D * D = N := by rw [Rat.div_def, Rat.mul_assoc, Rat.mul_comm _ D, Rat.mul_inv_cancel _ h0, Rat.mul_one]
 by_cases h : D < 0
 ·rw [cond_t (decide_eq_true (sgR_neg.2 h))]
  obtain ⟨n', e2, k2⟩ := dyd_minus hn
  obtain ⟨d', e3, k3⟩ := dyd_minus hd
  rw [e2, Option.bind_some, e3, Option.bind_some]
  refine ⟨_, _, rfl, -D, by grind, k3, ?_⟩
  have : N / D * -D = -N := by rw [← e1]; grind
  rw [this]; exact k2
 ·rw [cond_f (decide_eq_false (fun h' => h (sgR_neg.1 h')))]
  refine ⟨_, _, rfl, D, by grind, hd, ?_⟩
  rw [e1]; exact hn
theorem crossing_p {F : Nat} (hF : BigF F) {a b c d : TSpec_Point} {ax ay bx b_y cx cy dx dy : Rat} (ha : DydAt a ax ay) (hb : DydAt b bx b_y) (hc : DydAt c cx cy) (hd : DydAt d dx dy)
  (h0 : denR ax ay bx b_y cx cy dx dy ≠ 0) :
  ∃ N1 D1 N2 D2, p_Crossing F a b c d = some (⟨N1, D1⟩, ⟨N2, D2⟩, true) ∧
   (∃ D, 0 < D ∧ Dyd D1 D 567 8592 ∧ Dyd N1 ((ax * denR ax ay bx b_y cx cy dx dy + numR ax ay cx cy dx dy * (bx - ax)) / denR ax ay bx b_y cx cy dx dy * D) 2000 21000) ∧
   (∃ D, 0 < D ∧ Dyd D2 D 567 8592 ∧ Dyd N2 ((ay * denR ax ay bx b_y cx cy dx dy + numR ax ay cx cy dx dy * (b_y - ay)) / denR ax ay bx b_y cx cy dx dy * D) 2000 21000) := by
 obtain ⟨d1, e1, k1⟩ := dyd_sub hb.1 ha.1 (by omega) (by omega) hF
 obtain ⟨d2, e2, k2⟩ := dyd_sub hb.2 ha.2 (by omega) (by omega) hF
 obtain ⟨d3, e3, k3⟩ := dyd_sub hd.1 hc.1 (by omega) (by omega) hF
 obtain ⟨d4, e4, k4⟩ := dyd_sub hd.2 hc.2 (by omega) (by omega) hF
 obtain ⟨d5, e5, k5⟩ := dyd_mul k1 k4 (by omega) (by omega) hF
 obtain ⟨d6, e6, k6⟩ := dyd_mul k2 k3 (by omega) (by omega) hF
 obtain ⟨d7, e7, k7⟩ := dyd_sub k5 k6 (by omega) (by omega) hF
 obtain ⟨d8, e8, k8⟩ := dyd_sub hc.1 ha.1 (by omega) (by omega) hF
 obtain ⟨d9, e9, k9⟩ := dyd_mul k8 k4 (by omega) (by omega) hF
 obtain ⟨d10, e10, k10⟩ := dyd_sub hc.2 ha.2 (by omega) (by omega) hF
 obtain ⟨d11, e11, k11⟩ := dyd_mul k10 k3 (by omega) (by omega) hF
 obtain ⟨d12, e12, k12⟩ := dyd_sub k9 k11 (by omega) (by omega) hF
 obtain ⟨d13, e13, k13⟩ := dyd_mul ha.1 k7 (by omega) (by omega) hF
 obtain ⟨d14, e14, k14⟩ := dyd_mul k12 k1 (by omega) (by omega) hF
 obtain ⟨d15, e15, k15⟩ := dyd_add k13 k14 (by omega) (by omega) hF
 obtain ⟨d16, e16, k16⟩ := dyd_mul ha.2 k7 (by omega) (by omega) hF
 obtain ⟨d17, e17, k17⟩ := dyd_mul k12 k2 (by omega) (by omega) hF
 obtain ⟨d18, e18, k18⟩ := dyd_add k16 k17 (by omega) (by omega) hF
 have k7' : Dyd d7 (denR ax ay bx b_y cx cy dx dy) 567 8592 := k7
 obtain ⟨n1, q1, r1, D1, p1, g1, g2⟩ := ratioOf_p k15 k7 h0
 obtain ⟨n2, q2, r2, D2, p2, g3, g4⟩ := ratioOf_p k18 k7 h0
 refine ⟨n1, q1, n2, q2, ?_, ⟨D1, p1, g1, g2.mono (by omega) (by omega)⟩, ⟨D2, p2, g3, g4.mono (by omega) (by omega)⟩⟩
 unfold p_Crossing
 simp only [e1, e2, e3, e4, e5, e6, e7, Option.bind_some]
 rw [dyd_sign k7', Option.bind_some, cond_f (decide_eq_false (fun h => h0 (sgR_zero.1 h)))]
 simp only [e8, e9, e10, e11, e12, e13, e14, e15, e16, e17, e18, r1, r2, Option.bind_some]
theorem shift30_p {d : TSpec_Dyadic} {q : Rat} {m k : Nat} (h : Dyd d q m k) (hk : k < 1000000) : ∃ d', p_Dyadic_Shift d (-30) = some d' ∧ Dyd d' (q * (1 / 1073741824)) m (k + 30) := by
 obtain ⟨n, e, rfl, rfl, h1, h2, h3⟩ := h
 unfold p_Dyadic_Shift
 rw [need_pos (in64m (by simp only; omega) (by simp only; omega))]
 refine ⟨_, rfl, n, e + -30, rfl, ?_, h1, by omega, by omega⟩
 have e20 : (2 : Rat) ^ (-30 : Int) = 1 / 1073741824 := by decide +kernel
 rw [Flt.zpow_add, e20]; grind
theorem near30_p {F : Nat} (hF : BigF F) {v : Nat} {r R d : Rat} {N D : TSpec_Dyadic} (hv : Flt.V v = some r) (hw : v < 18446744073709551616) (hd : 0 < d) (hD : Dyd D d 567 8592) (hN : Dyd N (R * d) 2000 21000) (h1 : r - R < 1 / 1073741824) (h2 : R - r < 1 / 1073741824) : p_nearRatio F v ⟨N, D⟩ (-30) = some true := by
 have hfin : Flt.isFin v = true := by unfold Flt.isFin; rw [hv]; rfl
 obtain ⟨d1, e1, k1⟩ := dyd_of hw hv hF
 obtain ⟨d2, e2, k2⟩ := dyd_mul k1 hD (by omega) (by omega) hF
 obtain ⟨d3, e3, k3⟩ := dyd_sub k2 hN (by omega) (by omega) hF
 obtain ⟨d4, e4, k4⟩ := dyd_abs k3
 obtain ⟨d5, e5, k5⟩ := shift30_p hD (by omega)
 have e6 := dyd_cmp k4 k5 (by omega) (by omega) hF
 unfold p_nearRatio
 rw [cond_t hfin, e1, Option.bind_some, e2, Option.bind_some, e3, Option.bind_some, e4, Option.bind_some, e5, Option.bind_some, e6, Option.bind_some]
 congr 1
 refine decide_eq_true (sgR_neg.2 ?_)
 have a1 := Rat.mul_lt_mul_of_pos_right h1 hd
 have a2 := Rat.mul_lt_mul_of_pos_right h2 hd
 unfold Flt.ab
 split <;> grind
end Go.Proofs.YtohgipjhcgblfaaGreat.Wk

set_option linter.unusedVariables false
set_option linter.unusedSimpArgs false
namespace Go.Proofs.YtohgipjhcgblfaaGreat.Wk
open Go.Vm
theorem sg_opp {p q : Rat} (h : sgR p * sgR q < 0) : (0 < p ∧ q < 0) ∨ (p < 0 ∧ 0 < q) := by
 unfold sgR at h
 split at h
 ·simp at h
 ·split at h
  ·split at h
   ·simp at h
   ·split at h
    ·simp at h
    ·right; constructor <;> grind
  ·split at h
   ·simp at h
   ·split at h
    ·left; constructor <;> grind
    ·simp at h
/-- The place at which they cross, of both. -/
structure XI (ax ay bx b_y cx cy dx dy D N M : Int) : Prop where
 d0 : 0 < D
 n0 : 0 < N
 n1 : N < D
 m0 : 0 < M
 m1 : M < D
 den : (denR ax ay bx b_y cx cy dx dy = (D : Rat) ∧ numR ax ay cx cy dx dy = (N : Rat)) ∨ (denR ax ay bx b_y cx cy dx dy = -(D : Rat) ∧ numR ax ay cx cy dx dy = -(N : Rat))
 x : ax * (D - N) + bx * N = cx * (D - M) + dx * M
 y : ay * (D - N) + b_y * N = cy * (D - M) + dy * M
 deni : (bx - ax) * (dy - cy) - (b_y - ay) * (dx - cx) = D ∨ (bx - ax) * (dy - cy) - (b_y - ay) * (dx - cx) = -D
 numi : ((bx - ax) * (dy - cy) - (b_y - ay) * (dx - cx) = D → (cx - ax) * (dy - cy) - (cy - ay) * (dx - cx) = N) ∧ ((bx - ax) * (dy - cy) - (b_y - ay) * (dx - cx) = -D → (cx - ax) * (dy - cy) - (cy - ay) * (dx - cx) = -N)
theorem den_int (ax ay bx b_y cx cy dx dy : Int) : denR ax ay bx b_y cx cy dx dy = (((bx - ax) * (dy - cy) - (b_y - ay) * (dx - cx) : Int) : Rat) := by
 unfold denR; simp only [Rat.intCast_sub, Rat.intCast_mul]
theorem num_int (ax ay cx cy dx dy : Int) : numR ax ay cx cy dx dy = (((cx - ax) * (dy - cy) - (cy - ay) * (dx - cx) : Int) : Rat) := by
 unfold numR; simp only [Rat.intCast_sub, Rat.intCast_mul]
theorem cr_int (ax ay bx b_y cx cy : Int) : crossR ax ay bx b_y cx cy = (((bx - ax) * (cy - ay) - (b_y - ay) * (cx - ax) : Int) : Rat) := by
 unfold crossR; simp only [Rat.intCast_sub, Rat.intCast_mul]
theorem cast_pos {n : Int} : (0 : Rat) < (n : Rat) ↔ 0 < n := by
 have : ((0 : Int) : Rat) = 0 := rfl
 rw [← this]; exact Rat.intCast_lt_intCast
theorem cast_neg {n : Int} : (n : Rat) < (0 : Rat) ↔ n < 0 := by
 have : ((0 : Int) : Rat) = 0 := rfl
 rw [← this]; exact Rat.intCast_lt_intCast
theorem xi_of {ax ay bx b_y cx cy dx dy : Int} (h : Crossed ax ay bx b_y cx cy dx dy) : ∃ D N M, XI ax ay bx b_y cx cy dx dy D N M := by
 obtain ⟨h1, h2⟩ := h
 have g1 := sg_opp h1
 have g2 := sg_opp h2
 rw [cr_int, cr_int, cast_pos, cast_neg, cast_neg, cast_pos] at g1 g2
 generalize e1 : (bx - ax) * (dy - cy) - (b_y - ay) * (dx - cx) = den
 generalize e2 : (cx - ax) * (dy - cy) - (cy - ay) * (dx - cx) = num
 generalize e3 : (bx - ax) * (cy - ay) - (b_y - ay) * (cx - ax) = m2 at g1
 have i1 : (bx - ax) * (dy - ay) - (b_y - ay) * (dx - ax) = m2 + den := by grind
 have i2 : (dx - cx) * (ay - cy) - (dy - cy) * (ax - cx) = num := by grind
 have i3 : (dx - cx) * (b_y - cy) - (dy - cy) * (bx - cx) = num - den := by grind
 have i4 : ax * den + bx * num - ax * num = cx * den - dx * m2 + cx * m2 := by grind
 have i5 : ay * den + b_y * num - ay * num = cy * den - dy * m2 + cy * m2 := by grind
 rw [i1] at g1
 rw [i2, i3] at g2
 have hd := den_int ax ay bx b_y cx cy dx dy
 have hn := num_int ax ay cx cy dx dy
 rw [e1] at hd
 rw [e2] at hn
 rcases g2 with ⟨k1, k2⟩ | ⟨k1, k2⟩
 ·rcases g1 with ⟨k3, k4⟩ | ⟨k3, k4⟩
  ·omega
  ·exact ⟨den, num, -m2, by omega, k1, by omega, by omega, by omega, .inl ⟨hd, hn⟩, by grind, by grind, .inl e1, ⟨fun _ => e2, fun h => by omega⟩⟩
 ·rcases g1 with ⟨k3, k4⟩ | ⟨k3, k4⟩
  ·exact ⟨-den, -num, m2, by omega, by omega, by omega, by omega, by omega, .inr ⟨by rw [hd, Rat.intCast_neg]; grind, by rw [hn, Rat.intCast_neg]; grind⟩, by grind, by grind, .inr (by omega), ⟨fun h => by omega, fun _ => by omega⟩⟩
  ·omega
theorem XI.val {ax ay bx b_y cx cy dx dy D N M : Int} (h : XI ax ay bx b_y cx cy dx dy D N M) :
  denR ax ay bx b_y cx cy dx dy ≠ 0 ∧ (ax * denR ax ay bx b_y cx cy dx dy + numR ax ay cx cy dx dy * (bx - ax)) / denR ax ay bx b_y cx cy dx dy = ((ax * (D - N) + bx * N : Int) : Rat) / (D : Rat) ∧
   (ay * denR ax ay bx b_y cx cy dx dy + numR ax ay cx cy dx dy * (b_y - ay)) / denR ax ay bx b_y cx cy dx dy = ((ay * (D - N) + b_y * N : Int) : Rat) / (D : Rat) := by
 have hD : (0 : Rat) < (D : Rat) := cast_pos.2 h.d0
 have hinv := Rat.mul_inv_cancel (D : Rat) (by grind)
 simp only [Rat.intCast_add, Rat.intCast_mul, Rat.intCast_sub]
 rcases h.den with ⟨h1, h2⟩ | ⟨h1, h2⟩
 ·rw [h1, h2]
  exact ⟨by grind, by rw [Rat.div_def, Rat.div_def]; grind, by rw [Rat.div_def, Rat.div_def]; grind⟩
 ·rw [h1, h2]
  have hi : (-(D : Rat))⁻¹ = -(D : Rat)⁻¹ := by
   have h1 := Rat.mul_inv_cancel (-(D : Rat)) (by grind)
   grind
  exact ⟨by grind, by rw [Rat.div_def, Rat.div_def, hi]; grind, by rw [Rat.div_def, Rat.div_def, hi]; grind⟩
/-- A mean of two numbers lies between them. -/
theorem mean_btw {p q v w : Int} (hv : 0 ≤ v) (hw : 0 ≤ w) : (if p < q then p else q) * (v + w) ≤ p * v + q * w ∧ p * v + q * w ≤ (if p > q then p else q) * (v + w) := by
 have key : ∀ {s t : Int}, s ≤ t → s * (v + w) ≤ s * v + t * w ∧ s * v + t * w ≤ t * (v + w) ∧ s * (v + w) ≤ t * v + s * w ∧ t * v + s * w ≤ t * (v + w) := fun {s t} h => by
  have a1 := Int.mul_le_mul_of_nonneg_right h hv
  have a2 := Int.mul_le_mul_of_nonneg_right h hw
  rw [Int.mul_add, Int.mul_add]; omega
 rcases Int.lt_trichotomy p q with h | h | h
 ·rw [if_pos h, if_neg (by omega)]; obtain ⟨a, b, _, _⟩ := key (Int.le_of_lt h); exact ⟨a, b⟩
 ·subst h; simp only [ite_self]; obtain ⟨a, b, _, _⟩ := key (Int.le_refl p); exact ⟨a, b⟩
 ·rw [if_neg (by omega), if_pos (by omega)]; obtain ⟨_, _, a, b⟩ := key (Int.le_of_lt h); exact ⟨a, b⟩
end Go.Proofs.YtohgipjhcgblfaaGreat.Wk

set_option linter.unusedVariables false
set_option linter.unusedSimpArgs false
namespace Go.Proofs.YtohgipjhcgblfaaGreat.Wk
open Go.Vm
theorem max_V : ∃ q, Flt.V 9218868437227405311 = some q ∧ Flt.huge ≤ q := by
 have h : (Flt.V 9218868437227405311).isSome = true ∧ Flt.huge ≤ (Flt.V 9218868437227405311).getD 0 := by decide +kernel
 obtain ⟨h1, h2⟩ := h
 cases hv : Flt.V 9218868437227405311 with
 | none => rw [hv] at h1; cases h1
 | some q => rw [hv] at h2; exact ⟨q, rfl, h2⟩
theorem isNaN_p {z : Nat} {r : Rat} (h : Flt.V z = some r) : p_IsNaN z = some false := by
 unfold p_IsNaN
 rw [Flt.feq_val h h, decide_eq_true rfl]; rfl
theorem isInf_p {z : Nat} {r : Rat} (h : Flt.V z = some r) (hb : Flt.ab r ≤ Flt.huge) : p_IsInf z 0 = some false := by
 obtain ⟨q, hq, h2⟩ := max_V
 unfold p_IsInf
 rw [cond_t (decide_eq_true rfl), Flt.fgt_val (Flt.fabs_V h) hq, decide_eq_false (by grind)]
theorem sel_lt {α : Type} {a b : Nat} {A B : Int} (ha : Flt.I a A) (hb : Flt.I b B) (K : Nat → α) : ∃ z, cond (flt a b) (K a) (K b) = K z ∧ Flt.I z (if A < B then A else B) := by
 rw [Flt.flt_int ha hb]
 by_cases h : A < B
 ·rw [decide_eq_true h, if_pos h]; exact ⟨a, rfl, ha⟩
 ·rw [decide_eq_false h, if_neg h]; exact ⟨b, rfl, hb⟩
theorem sel_gt {α : Type} {a b : Nat} {A B : Int} (ha : Flt.I a A) (hb : Flt.I b B) (K : Nat → α) : ∃ z, cond (fgt a b) (K a) (K b) = K z ∧ Flt.I z (if A > B then A else B) := by
 rw [Flt.fgt_int ha hb]
 by_cases h : B < A
 ·rw [decide_eq_true h, if_pos h]; exact ⟨a, rfl, ha⟩
 ·rw [decide_eq_false h, if_neg h]; exact ⟨b, rfl, hb⟩
abbrev B13 (n : Int) : Prop := -8192 ≤ n ∧ n ≤ 8192
def lo2 (p q r s : Int) : Int := if (if p < q then p else q) > (if r < s then r else s) then (if p < q then p else q) else (if r < s then r else s)
def hi2 (p q r s : Int) : Int := if (if p > q then p else q) < (if r > s then r else s) then (if p > q then p else q) else (if r > s then r else s)
theorem lo2_b {p q r s : Int} (hp : B13 p) (hq : B13 q) (hr : B13 r) (hs : B13 s) : B13 (lo2 p q r s) := by unfold lo2; (repeat' split) <;> assumption
theorem hi2_b {p q r s : Int} (hp : B13 p) (hq : B13 q) (hr : B13 r) (hs : B13 s) : B13 (hi2 p q r s) := by unfold hi2; (repeat' split) <;> assumption
theorem box_btw {p q r s D N M : Int} (n0 : 0 < N) (n1 : N < D) (m0 : 0 < M) (m1 : M < D) (h : p * (D - N) + q * N = r * (D - M) + s * M) :
  lo2 p q r s * D ≤ p * (D - N) + q * N ∧ p * (D - N) + q * N ≤ hi2 p q r s * D := by
 have e1 : D - N + N = D := by omega
 have e2 : D - M + M = D := by omega
 obtain ⟨a1, a2⟩ := mean_btw (p := p) (q := q) (v := D - N) (w := N) (by omega) (by omega)
 obtain ⟨b1, b2⟩ := mean_btw (p := r) (q := s) (v := D - M) (w := M) (by omega) (by omega)
 rw [e1] at a1 a2
 rw [e2] at b1 b2
 unfold lo2 hi2
 generalize (if p < q then p else q) = u1 at *
 generalize (if p > q then p else q) = u2 at *
 generalize (if r < s then r else s) = u3 at *
 generalize (if r > s then r else s) = u4 at *
 constructor
 ·split <;> omega
 ·split <;> omega
/-- The middle. -/
theorem half_sum {x y : Nat} {m n : Int} (hx : Flt.I x m) (hy : Flt.I y n) (hb : (m + n).natAbs ≤ 9007199254740992) : ∃ s z, floatBits .add .f64 x y = some s ∧ floatBits .quo .f64 s 4611686018427387904 = some z ∧ Flt.J (-1) z (m + n) := by
 obtain ⟨s, e1, i1⟩ := Flt.add_int hx hy hb
 have i2 : Flt.I 4611686018427387904 2 := by
  have e : (4611686018427387904 : Nat) = ofInt 2 := by decide +kernel
  rw [e]; exact Flt.ofInt_int (by decide)
 have half : (2 : Rat) ^ (-1 : Int) = 1 / 2 := by decide +kernel
 have hq : (((m + n : Int)) : Rat) / ((2 : Int) : Rat) = ((m + n : Int) : Rat) * 2 ^ (-1 : Int) := by
  rw [half, Rat.div_def]
  have : (((2 : Int) : Rat))⁻¹ = 1 / 2 := by decide +kernel
  rw [this]
 obtain ⟨z, e2, hz⟩ := Flt.quo_exact i1 i2 (by decide) hq hb (by decide) (by decide)
 exact ⟨s, z, e1, e2, by unfold Flt.J; rw [hz, hq]⟩
theorem J_app {E : Int} {z : Nat} {n : Int} (h : Flt.J E z n) : Flt.App z ((n : Rat) * 2 ^ E) 0 := ⟨_, h, by grind, by grind⟩
end Go.Proofs.YtohgipjhcgblfaaGreat.Wk

set_option linter.unusedVariables false
set_option linter.unusedSimpArgs false
namespace Go.Proofs.YtohgipjhcgblfaaGreat.Wk
open Go.Vm
theorem less0 {x : Nat} {n : Int} (h : Flt.I x n) : Flt.J (-1) x (2 * n) := h.J.less
theorem nab {a b : Int} {K L : Nat} (ha : a.natAbs ≤ K) (hb : b.natAbs ≤ L) : (a * b).natAbs ≤ K * L := by rw [Int.natAbs_mul]; exact Nat.mul_le_mul ha hb
theorem sub1 {x y : Nat} {m n : Int} (hx : Flt.J (-1) x m) (hy : Flt.J (-1) y n) (h : (m - n).natAbs ≤ 9007199254740992) : ∃ z, floatBits .sub .f64 x y = some z ∧ Flt.J (-1) z (m - n) := Flt.sub_dy hx hy h (by decide) (by decide)
theorem sub2 {x y : Nat} {m n : Int} (hx : Flt.J (-2) x m) (hy : Flt.J (-2) y n) (h : (m - n).natAbs ≤ 9007199254740992) : ∃ z, floatBits .sub .f64 x y = some z ∧ Flt.J (-2) z (m - n) := Flt.sub_dy hx hy h (by decide) (by decide)
theorem sub3 {x y : Nat} {m n : Int} (hx : Flt.J (-3) x m) (hy : Flt.J (-3) y n) (h : (m - n).natAbs ≤ 9007199254740992) : ∃ z, floatBits .sub .f64 x y = some z ∧ Flt.J (-3) z (m - n) := Flt.sub_dy hx hy h (by decide) (by decide)
theorem mul11 {x y : Nat} {m n : Int} (hx : Flt.J (-1) x m) (hy : Flt.J (-1) y n) (h : (m * n).natAbs ≤ 9007199254740992) : ∃ z, floatBits .mul .f64 x y = some z ∧ Flt.J (-2) z (m * n) := Flt.mul_dy hx hy h (by decide) (by decide)
theorem mul12 {x y : Nat} {m n : Int} (hx : Flt.J (-1) x m) (hy : Flt.J (-2) y n) (h : (m * n).natAbs ≤ 9007199254740992) : ∃ z, floatBits .mul .f64 x y = some z ∧ Flt.J (-3) z (m * n) := Flt.mul_dy hx hy h (by decide) (by decide)
/-- The quotient and the sum, of one axis. -/
theorem axis_p {x w c : Nat} {X W m P D l h : Int} (hx : Flt.J (-3) x X) (hw : Flt.J (-2) w W) (hc : Flt.J (-1) c m) (d0 : 0 < D) (s : (X = 4 * (2 * P - m * D) ∧ W = 4 * D) ∨ (X = -(4 * (2 * P - m * D)) ∧ W = -(4 * D)))
  (hm : m = l + h) (hl : B13 l) (hh : B13 h) (p1 : l * D ≤ P) (p2 : P ≤ h * D) :
  ∃ z r, floatBits .quo .f64 x w = some z ∧ Flt.V z = some r ∧ Flt.ab r ≤ Flt.huge ∧ ∃ v, floatBits .add .f64 z c = some v ∧ Flt.App v ((P : Rat) / (D : Rat)) (1 / 2147483648) ∧ v < 18446744073709551616 := by
 have hD : (0 : Rat) < (D : Rat) := cast_pos.2 d0
 have hinv := Rat.mul_inv_cancel (D : Rat) (by grind)
 have hi0 : 0 < (D : Rat)⁻¹ := Rat.inv_pos.2 hD
 have e1 : (2 : Rat) ^ (-1 : Int) = 1 / 2 := by decide +kernel
 have e2 : (2 : Rat) ^ (-2 : Int) = 1 / 4 := by decide +kernel
 have e3 : (2 : Rat) ^ (-3 : Int) = 1 / 8 := by decide +kernel
 unfold Flt.J at hx hw
 rw [e3] at hx
 rw [e2] at hw
 have hc' := J_app hc
 rw [e1] at hc'
 obtain ⟨q, hq⟩ : ∃ q : Rat, q = (P : Rat) / (D : Rat) := ⟨_, rfl⟩
 have hq1 : q * (D : Rat) = (P : Rat) := by rw [hq, Rat.div_def]; grind
 obtain ⟨Q, hQ⟩ : ∃ Q : Rat, Q = q - (m : Rat) * (1 / 2) := ⟨_, rfl⟩
 have hW0 : (W : Rat) * (1 / 4) ≠ 0 := by
  rcases s with ⟨_, h⟩ | ⟨_, h⟩ <;> rw [h] <;> simp only [Rat.intCast_neg, Rat.intCast_mul] <;> have e4 : ((4 : Int) : Rat) = 4 := rfl <;> rw [e4] <;> grind
 have hXW : (X : Rat) * (1 / 8) = (W : Rat) * (1 / 4) * Q := by
  have e4 : ((4 : Int) : Rat) = 4 := rfl
  have e5 : ((2 : Int) : Rat) = 2 := rfl
  rcases s with ⟨h1, h2⟩ | ⟨h1, h2⟩ <;> rw [h1, h2, hQ] <;> simp only [Rat.intCast_neg, Rat.intCast_mul, Rat.intCast_sub] <;> rw [e4, e5] <;> grind
 have hdiv : (X : Rat) * (1 / 8) / ((W : Rat) * (1 / 4)) = Q := by
  have := Rat.mul_inv_cancel _ hW0
  rw [hXW, Rat.div_def]; grind
 have q1 : (l : Rat) ≤ q := by
  have a1 : (l : Rat) * (D : Rat) ≤ (P : Rat) := by rw [← Rat.intCast_mul]; exact Rat.intCast_le_intCast.2 p1
  rw [← hq1] at a1
  have := Rat.mul_le_mul_of_nonneg_right a1 (Rat.le_of_lt hi0)
  rw [Rat.mul_assoc, hinv, Rat.mul_one, Rat.mul_assoc, hinv, Rat.mul_one] at this
  exact this
 have q2 : q ≤ (h : Rat) := by
  have a1 : (P : Rat) ≤ (h : Rat) * (D : Rat) := by rw [← Rat.intCast_mul]; exact Rat.intCast_le_intCast.2 p2
  rw [← hq1] at a1
  have := Rat.mul_le_mul_of_nonneg_right a1 (Rat.le_of_lt hi0)
  rw [Rat.mul_assoc, hinv, Rat.mul_one, Rat.mul_assoc, hinv, Rat.mul_one] at this
  exact this
 have l1 : (-8192 : Rat) ≤ (l : Rat) := by have : ((-8192 : Int) : Rat) ≤ (l : Rat) := Rat.intCast_le_intCast.2 hl.1; exact this
 have l2 : (l : Rat) ≤ (8192 : Rat) := by have : (l : Rat) ≤ ((8192 : Int) : Rat) := Rat.intCast_le_intCast.2 hl.2; exact this
 have h1 : (-8192 : Rat) ≤ (h : Rat) := by have : ((-8192 : Int) : Rat) ≤ (h : Rat) := Rat.intCast_le_intCast.2 hh.1; exact this
 have h2 : (h : Rat) ≤ (8192 : Rat) := by have : (h : Rat) ≤ ((8192 : Int) : Rat) := Rat.intCast_le_intCast.2 hh.2; exact this
 have hmr : (m : Rat) = (l : Rat) + (h : Rat) := by rw [hm, Rat.intCast_add]
 have bQ : Flt.Bd Q 8192 := by unfold Flt.Bd; constructor <;> grind
 have abQ := Flt.ab_le bQ
 have big : (8192 : Rat) < 2 ^ (1022 : Int) := by decide +kernel
 obtain ⟨z, r, ez, hz, near⟩ := Flt.div_rnd hx hw hW0 (by rw [hdiv]; grind)
 rw [hdiv] at near
 have e52 : (2 : Rat) ^ (-52 : Int) = 1 / 4503599627370496 := by decide +kernel
 have n1 := near.lo
 have n2 := near.hi
 have tl := Flt.tiny_le
 rw [e52] at n1 n2
 have t0 : Flt.tiny ≤ 1 / 1099511627776 := by decide +kernel
 have app : Flt.App z Q (1 / 137438953472) := ⟨r, hz, by grind, by grind⟩
 have hab : Flt.ab r ≤ Flt.huge := by
  have : Flt.Bd r 10000 := by unfold Flt.Bd; constructor <;> grind
  have h3 := Flt.ab_le this
  have h4 : (10000 : Rat) ≤ Flt.huge := by decide +kernel
  grind
 obtain ⟨v, ev, av⟩ := Flt.app_add (B := 16384) (g := 1 / 2147483648) app hc' (by unfold Flt.Bd; constructor <;> grind) (by decide +kernel) (by decide +kernel)
 refine ⟨z, r, ez, hz, hab, v, ev, ?_, Flt.add_lt64 ev⟩
 rw [← hq]
 have : Q + (m : Rat) * (1 / 2) = q := by grind
 rw [← this]; exact av
end Go.Proofs.YtohgipjhcgblfaaGreat.Wk

set_option linter.unusedVariables false
set_option linter.unusedSimpArgs false
namespace Go.Proofs.YtohgipjhcgblfaaGreat.Wk
open Go.Vm
/-- whole numbers from -k to k: products -/
theorem prodB {f m k : Int} (f1 : -k ≤ f) (f2 : f ≤ k) (m1 : -k ≤ m) (m2 : m ≤ k) : -(k * k) ≤ f * m ∧ f * m ≤ k * k := by
 have h1 : (f + k) * (m + k) ≥ 0 := Int.mul_nonneg (by omega) (by omega)
 have h2 : (k - f) * (k - m) ≥ 0 := Int.mul_nonneg (by omega) (by omega)
 have h3 : (f + k) * (k - m) ≥ 0 := Int.mul_nonneg (by omega) (by omega)
 have h4 : (k - f) * (m + k) ≥ 0 := Int.mul_nonneg (by omega) (by omega)
 simp only [Int.add_mul, Int.mul_add, Int.sub_mul, Int.mul_sub] at h1 h2 h3 h4
 have c1 : k * m = m * k := Int.mul_comm _ _
 have c2 : k * f = f * k := Int.mul_comm _ _
 omega
def sgI (n : Int) : Int := if n = 0 then 0 else if n < 0 then -1 else 1
theorem sign_f {z : Nat} {n : Int} (h : Flt.I z n) : p_orientationBasedOnSign z = some (sgI n) := by
 unfold p_orientationBasedOnSign sgI
 rw [Flt.fgt_int h Flt.zero_int, Flt.flt_int h Flt.zero_int]
 by_cases h1 : 0 < n
 ·rw [cond_t (decide_eq_true h1), if_neg (by omega), if_neg (by omega)]
 ·rw [cond_f (decide_eq_false h1)]
  by_cases h2 : n < 0
  ·rw [cond_t (decide_eq_true h2), if_neg (by omega), if_pos h2]
  ·rw [cond_f (decide_eq_false h2), if_pos (by omega)]
theorem sgI_le (n : Int) : decide (sgI n ≤ 1) = true := by
 refine decide_eq_true ?_
 unfold sgI
 split
 ·omega
 ·split <;> omega
theorem turn_same (ax ay bx b_y cx cy : Int) : (bx - ax) * (cy - b_y) - (b_y - ay) * (cx - bx) = turn ax ay bx b_y cx cy := by
 unfold turn
 simp only [Int.sub_mul, Int.mul_sub]
 have c1 := Int.mul_comm ax cy
 have c2 := Int.mul_comm bx ay
 have c3 := Int.mul_comm bx b_y
 have c4 := Int.mul_comm ax b_y
 have c5 := Int.mul_comm cx cy
 have c6 := Int.mul_comm cx b_y
 have c7 := Int.mul_comm cx ay
 have c8 := Int.mul_comm bx cy
 omega
theorem index_p {xa ya xb yb xc yc : Nat} {ax ay bx b_y cx cy : Int} (ha : Flt.I xa ax) (ha' : Flt.I ya ay) (hb : Flt.I xb bx) (hb' : Flt.I yb b_y) (hc : Flt.I xc cx) (hc' : Flt.I yc cy)
  (la : -16777216 ≤ ax ∧ ax ≤ 16777216) (la' : -16777216 ≤ ay ∧ ay ≤ 16777216) (lb : -16777216 ≤ bx ∧ bx ≤ 16777216) (lb' : -16777216 ≤ b_y ∧ b_y ≤ 16777216) (lc : -16777216 ≤ cx ∧ cx ≤ 16777216) (lc' : -16777216 ≤ cy ∧ cy ≤ 16777216) :
  p_OrientationIndex [xa, ya] [xb, yb] [xc, yc] = some (sgI (turn ax ay bx b_y cx cy)) := by
 obtain ⟨z5, e5, i5⟩ := Flt.sub_int ha hc (by omega)
 obtain ⟨z11, e11, i11⟩ := Flt.sub_int hb' hc' (by omega)
 have p3 := prodB (k := 67108864) (f := ax - cx) (m := b_y - cy) (by omega) (by omega) (by omega) (by omega)
 obtain ⟨z13, e13, i13⟩ := Flt.mul_int i5 i11 (by omega)
 obtain ⟨z19, e19, i19⟩ := Flt.sub_int ha' hc' (by omega)
 obtain ⟨z25, e25, i25⟩ := Flt.sub_int hb hc (by omega)
 have p4 := prodB (k := 67108864) (f := ay - cy) (m := bx - cx) (by omega) (by omega) (by omega) (by omega)
 obtain ⟨z27, e27, i27⟩ := Flt.mul_int i19 i25 (by omega)
 obtain ⟨z29, e29, i29⟩ := Flt.sub_int i13 i27 (by omega)
 obtain ⟨z8, e8, i8⟩ := Flt.sub_int hb ha (by omega)
 obtain ⟨z14, e14, i14⟩ := Flt.sub_int hb' ha' (by omega)
 obtain ⟨z20, e20, i20⟩ := Flt.sub_int hc hb (by omega)
 obtain ⟨z26, e26, i26⟩ := Flt.sub_int hc' hb' (by omega)
 have p1 := prodB (k := 33554432) (f := bx - ax) (m := cy - b_y) (by omega) (by omega) (by omega) (by omega)
 have p2 := prodB (k := 33554432) (f := b_y - ay) (m := cx - bx) (by omega) (by omega) (by omega) (by omega)
 obtain ⟨z28, e28, i28⟩ := Flt.mul_int i8 i26 (by omega)
 obtain ⟨z30, e30, i30⟩ := Flt.mul_int i14 i20 (by omega)
 obtain ⟨z32, e32, i32⟩ := Flt.sub_int i28 i30 (by omega)
 rw [turn_same] at i32
 have q : ∀ (x y : Nat), idx [x, y] (0 : Int) = some x ∧ idx [x, y] (1 : Int) = some y := fun x y => ⟨rfl, rfl⟩
 have n21 : decide ((2 : Int) ≤ 1) = false := rfl
 have j29 : Flt.I z29 (turn ax ay bx b_y cx cy) := i29
 have le := sgI_le (turn ax ay bx b_y cx cy)
 have k2 : ∀ g, p_OrientationIndex_k2 [xa, ya] [xb, yb] [xc, yc] z29 g = some (sgI (turn ax ay bx b_y cx cy)) := fun g => by
  unfold p_OrientationIndex_k2
  simp only [(q _ _).1, (q _ _).2, Option.bind_some, e8, e14, e20, e26, e28, e30, e32, sign_f i32, sign_f j29, le, n21, cond_true, cond_false]
  cases g <;> rfl
 have k1 : ∀ g, p_OrientationIndex_k1 [xa, ya] [xb, yb] [xc, yc] z29 g = some (sgI (turn ax ay bx b_y cx cy)) := fun g => by
  unfold p_OrientationIndex_k1
  refine anyN_of fun z => ?_
  rw [k2, k2]
  cases fge z29 z <;> rfl
 unfold p_OrientationIndex
 simp only [(q _ _).1, (q _ _).2, Option.bind_some, e5, e11, e13, e19, e25, e27, e29, e8, e14, e20, e26, e28, e30, e32, sign_f i32, sign_f j29, le, n21, cond_true, cond_false, k1, Flt.fgt_int i13 Flt.zero_int, Flt.flt_int i13 Flt.zero_int, Flt.fle_int i27 Flt.zero_int, Flt.fge_int i27 Flt.zero_int]
 obtain ⟨z44, e44, i44⟩ := Flt.add_int i13 i27 (by omega)
 obtain ⟨z50, e50, i50⟩ := Flt.sub_int (Flt.fneg_int i13) i27 (by omega)
 rw [e44, e50]
 simp only [Option.bind_some, k1, Bool.cond_self]
end Go.Proofs.YtohgipjhcgblfaaGreat.Wk

set_option linter.unusedVariables false
set_option linter.unusedSimpArgs false
namespace Go.Proofs.YtohgipjhcgblfaaGreat.Wk
open Go.Vm
theorem axis_eq {x w c : Nat} {X W m P D l : Int} (hx : Flt.J (-3) x X) (hw : Flt.J (-2) w W) (hc : Flt.J (-1) c m) (d0 : 0 < D) (s : (X = 4 * (2 * P - m * D) ∧ W = 4 * D) ∨ (X = -(4 * (2 * P - m * D)) ∧ W = -(4 * D)))
  (hm : m = l + l) (hl : B13 l) (hP : P = l * D) :
  ∃ z r, floatBits .quo .f64 x w = some z ∧ Flt.V z = some r ∧ Flt.ab r ≤ Flt.huge ∧ ∃ v, floatBits .add .f64 z c = some v ∧ Flt.App v ((P : Rat) / (D : Rat)) (1 / 2147483648) ∧ v < 18446744073709551616 ∧ ∃ q, Flt.V v = some q ∧ (l : Rat) ≤ q ∧ q ≤ (l : Rat) := by
 have hD : (0 : Rat) < (D : Rat) := cast_pos.2 d0
 have hinv := Rat.mul_inv_cancel (D : Rat) (by grind)
 have e1 : (2 : Rat) ^ (-1 : Int) = 1 / 2 := by decide +kernel
 have e2 : (2 : Rat) ^ (-2 : Int) = 1 / 4 := by decide +kernel
 have hz0 : 2 * P - m * D = 0 := by rw [hm, hP]; grind
 have hX : X = 0 := by rcases s with ⟨h, _⟩ | ⟨h, _⟩ <;> rw [h, hz0] <;> rfl
 have hx0 : Flt.V x = some 0 := by
  rw [hX] at hx
  unfold Flt.J at hx
  rw [hx, show ((0 : Int) : Rat) = 0 from rfl, Rat.zero_mul]
 have hw' := hw
 unfold Flt.J at hw'
 rw [e2] at hw'
 have hW0 : (W : Rat) * (1 / 4) ≠ 0 := by
  rcases s with ⟨_, h⟩ | ⟨_, h⟩ <;> rw [h] <;> simp only [Rat.intCast_neg, Rat.intCast_mul] <;> have e4 : ((4 : Int) : Rat) = 4 := rfl <;> rw [e4] <;> grind
 obtain ⟨z, ez, hz⟩ := Flt.div_zero' hx0 hw' hW0
 have jz : Flt.J (-1) z 0 := by
  unfold Flt.J
  rw [hz, show ((0 : Int) : Rat) = 0 from rfl, Rat.zero_mul]
 obtain ⟨v, ev, jv⟩ := Flt.add_dy jz hc (by omega) (by decide) (by decide)
 have hv : Flt.V v = some (l : Rat) := by
  unfold Flt.J at jv
  rw [jv, e1, hm]
  congr 1
  have : (((0 : Int) + (l + l) : Int) : Rat) = (l : Rat) + (l : Rat) := by rw [Int.zero_add, Rat.intCast_add]
  rw [this]; grind
 have hq : (P : Rat) / (D : Rat) = (l : Rat) := by
  rw [hP, Rat.intCast_mul, Rat.div_def, Rat.mul_assoc, hinv, Rat.mul_one]
 refine ⟨z, 0, ez, hz, ?_, v, ev, ⟨_, hv, ?_, ?_⟩, Flt.add_lt64 ev, _, hv, Rat.le_refl, Rat.le_refl⟩
 ·decide +kernel
 ·rw [hq]; grind
 ·rw [hq]; grind
theorem axis_q {x w c : Nat} {X W m P D l h : Int} (hx : Flt.J (-3) x X) (hw : Flt.J (-2) w W) (hc : Flt.J (-1) c m) (d0 : 0 < D) (d30 : D ≤ 1073741824) (s : (X = 4 * (2 * P - m * D) ∧ W = 4 * D) ∨ (X = -(4 * (2 * P - m * D)) ∧ W = -(4 * D)))
  (hm : m = l + h) (hl : B13 l) (hh : B13 h) (p1 : l * D ≤ P) (p2 : P ≤ h * D) (hs : l = h ∨ (l * D < P ∧ P < h * D)) :
  ∃ z r, floatBits .quo .f64 x w = some z ∧ Flt.V z = some r ∧ Flt.ab r ≤ Flt.huge ∧ ∃ v, floatBits .add .f64 z c = some v ∧ Flt.App v ((P : Rat) / (D : Rat)) (1 / 2147483648) ∧ v < 18446744073709551616 ∧ ∃ q, Flt.V v = some q ∧ (l : Rat) ≤ q ∧ q ≤ (h : Rat) := by
 rcases hs with rfl | ⟨h1, h2⟩
 ·exact axis_eq hx hw hc d0 s hm hl (by omega)
 ·obtain ⟨z, r, ez, hz, hr, v, ev, ⟨q, hq, b1, b2⟩, hv⟩ := axis_p hx hw hc d0 s hm hl hh p1 p2
  refine ⟨z, r, ez, hz, hr, v, ev, ⟨q, hq, b1, b2⟩, hv, q, hq, ?_⟩
  have hD : (0 : Rat) < (D : Rat) := cast_pos.2 d0
  have hD30 : (D : Rat) ≤ 1073741824 := by have : (D : Rat) ≤ ((1073741824 : Int) : Rat) := Rat.intCast_le_intCast.2 d30; exact this
  have hinv := Rat.mul_inv_cancel (D : Rat) (by grind)
  obtain ⟨T, hT⟩ : ∃ T : Rat, T = (P : Rat) / (D : Rat) := ⟨_, rfl⟩
  have hT1 : T * (D : Rat) = (P : Rat) := by rw [hT, Rat.div_def]; grind
  rw [← hT] at b1 b2
  have k1 : (l : Rat) * (D : Rat) + 1 ≤ (P : Rat) := by
   have : ((l * D + 1 : Int) : Rat) ≤ (P : Rat) := Rat.intCast_le_intCast.2 (by omega)
   rw [Rat.intCast_add, Rat.intCast_mul] at this
   exact this
  have k2 : (P : Rat) + 1 ≤ (h : Rat) * (D : Rat) := by
   have : ((P + 1 : Int) : Rat) ≤ ((h * D : Int) : Rat) := Rat.intCast_le_intCast.2 (by omega)
   rw [Rat.intCast_add, Rat.intCast_mul] at this
   exact this
  have g1 : (1 : Rat) / 1073741824 ≤ T - (l : Rat) := by
   refine Rat.not_lt.1 fun hc => ?_
   have := Rat.mul_lt_mul_of_pos_right hc hD
   grind
  have g2 : (1 : Rat) / 1073741824 ≤ (h : Rat) - T := by
   refine Rat.not_lt.1 fun hc => ?_
   have := Rat.mul_lt_mul_of_pos_right hc hD
   grind
  constructor <;> grind
theorem rmin_le {p q s : Rat} (h : p ≤ s ∨ q ≤ s) : Flt.rmin p q ≤ s := by
 unfold Flt.rmin
 split <;> rcases h with h | h <;> grind
theorem le_rmax {p q s : Rat} (h : s ≤ p ∨ s ≤ q) : s ≤ Flt.rmax p q := by
 unfold Flt.rmax
 split <;> rcases h with h | h <;> grind
theorem within_p {zx zy px py qx qy : Nat} {X1 Y1 X2 Y2 : Int} {sx sy : Rat} (h1 : Flt.I px X1) (h2 : Flt.I py Y1) (h3 : Flt.I qx X2) (h4 : Flt.I qy Y2) (vx : Flt.V zx = some sx) (vy : Flt.V zy = some sy)
  (a1 : (X1 : Rat) ≤ sx ∨ (X2 : Rat) ≤ sx) (a2 : sx ≤ (X1 : Rat) ∨ sx ≤ (X2 : Rat)) (a3 : (Y1 : Rat) ≤ sy ∨ (Y2 : Rat) ≤ sy) (a4 : sy ≤ (Y1 : Rat) ∨ sy ≤ (Y2 : Rat)) : p_IsPointWithinLineBounds [zx, zy] [px, py] [qx, qy] = some true := by
 have i0 : ∀ p q : Nat, idx [p, q] (0 : Int) = some p := fun _ _ => rfl
 have i1 : ∀ p q : Nat, idx [p, q] (1 : Int) = some q := fun _ _ => rfl
 unfold p_IsPointWithinLineBounds
 simp only [i0, i1, Option.bind_some]
 rw [Flt.fle_val (Flt.amin_V h1 h3) vx, Flt.fge_val (Flt.amax_V h1 h3) vx, Flt.fle_val (Flt.amin_V h2 h4) vy, Flt.fge_val (Flt.amax_V h2 h4) vy,
  decide_eq_true (rmin_le a1), decide_eq_true (le_rmax a2), decide_eq_true (rmin_le a3), decide_eq_true (le_rmax a4)]
 rfl
theorem imin_e (p q : Int) : Flt.imin p q = if p < q then p else q := by
 unfold Flt.imin
 split <;> split <;> omega
theorem imax_e (p q : Int) : Flt.imax p q = if p > q then p else q := by
 unfold Flt.imax
 split <;> split <;> omega
theorem lohi {p q r s : Int} (h : lo2 p q r s ≤ hi2 p q r s) : ¬ Flt.imax r s < Flt.imin p q ∧ ¬ Flt.imax p q < Flt.imin r s := by
 rw [imin_e, imin_e, imax_e, imax_e]
 unfold lo2 hi2 at h
 generalize (if p < q then p else q) = m1 at *
 generalize (if r < s then r else s) = m2 at *
 generalize (if p > q then p else q) = n1 at *
 generalize (if r > s then r else s) = n2 at *
 split at h <;> split at h <;> omega
theorem overlap_p {xa ya xb yb xc yc xd yd : Nat} {ax ay bx b_y cx cy dx dy : Int} (ha : Flt.I xa ax) (ha' : Flt.I ya ay) (hb : Flt.I xb bx) (hb' : Flt.I yb b_y) (hc : Flt.I xc cx) (hc' : Flt.I yc cy) (hd : Flt.I xd dx) (hd' : Flt.I yd dy)
  (h1 : lo2 ax bx cx dx ≤ hi2 ax bx cx dx) (h2 : lo2 ay b_y cy dy ≤ hi2 ay b_y cy dy) : p_DoLinesOverlap [xa, ya] [xb, yb] [xc, yc] [xd, yd] = some true := by
 have i0 : ∀ p q : Nat, idx [p, q] (0 : Int) = some p := fun _ _ => rfl
 have i1 : ∀ p q : Nat, idx [p, q] (1 : Int) = some q := fun _ _ => rfl
 have mn : ∀ {x y : Nat} {m n : Int}, Flt.I x m → Flt.I y n → Flt.I (Flt.amin x y) (Flt.imin m n) := fun h1 h2 => (Flt.amin_dy h1.J h2.J).I
 have mx : ∀ {x y : Nat} {m n : Int}, Flt.I x m → Flt.I y n → Flt.I (Flt.amax x y) (Flt.imax m n) := fun h1 h2 => (Flt.amax_dy h1.J h2.J).I
 unfold p_DoLinesOverlap
 simp only [i0, i1, Option.bind_some]
 rw [Flt.fgt_int (mn ha hb) (mx hc hd), Flt.flt_int (mx ha hb) (mn hc hd), decide_eq_false (lohi h1).1, decide_eq_false (lohi h1).2, cond_false]
 unfold p_DoLinesOverlap_k1
 rw [cond_false, Flt.fgt_int (mn ha' hb') (mx hc' hd'), Flt.flt_int (mx ha' hb') (mn hc' hd'), decide_eq_false (lohi h2).1, decide_eq_false (lohi h2).2, cond_false, cond_false]
end Go.Proofs.YtohgipjhcgblfaaGreat.Wk

set_option linter.unusedVariables false
set_option linter.unusedSimpArgs false
namespace Go.Proofs.YtohgipjhcgblfaaGreat.Wk
open Go.Vm
theorem ix0 (p q : Nat) : idx [p, q] (0 : Int) = some p := rfl
theorem ix1 (p q : Nat) : idx [p, q] (1 : Int) = some q := rfl
theorem st0 (x y u : Nat) : [x, y].set ((0 : Int)).toNat u = [u, y] := rfl
theorem st1 (x y u : Nat) : [x, y].set ((1 : Int)).toNat u = [x, u] := rfl
theorem f1 {α : Type} (x y : Nat) (k : Option α) {i : Decidable (0 ≤ (0 : Int) ∧ (0 : Int) < (([x, y].length : Nat) : Int))} : @need α (0 ≤ (0 : Int) ∧ (0 : Int) < (([x, y].length : Nat) : Int)) i k = k := @need_pos α (0 ≤ (0 : Int) ∧ (0 : Int) < (([x, y].length : Nat) : Int)) i ⟨by omega, by show (0 : Int) < ((2 : Nat) : Int); omega⟩ k
theorem f2 {α : Type} (x y : Nat) (k : Option α) {i : Decidable (0 ≤ (1 : Int) ∧ (1 : Int) < (([x, y].length : Nat) : Int))} : @need α (0 ≤ (1 : Int) ∧ (1 : Int) < (([x, y].length : Nat) : Int)) i k = k := @need_pos α (0 ≤ (1 : Int) ∧ (1 : Int) < (([x, y].length : Nat) : Int)) i ⟨by omega, by show (1 : Int) < ((2 : Nat) : Int); omega⟩ k
theorem f3 {α : Type} (x y : Nat) (k : Option α) {i : Decidable (((0 : Int)).toNat < [x, y].length)} : @need α (((0 : Int)).toNat < [x, y].length) i k = k := @need_pos α (((0 : Int)).toNat < [x, y].length) i (by show 0 < 2; omega) k
theorem f4 {α : Type} (x y : Nat) (k : Option α) {i : Decidable (((1 : Int)).toNat < [x, y].length)} : @need α (((1 : Int)).toNat < [x, y].length) i k = k := @need_pos α (((1 : Int)).toNat < [x, y].length) i (by show 1 < 2; omega) k
theorem f5 {α : Type} (k : Option α) {i : Decidable (0 ≤ (0 : Int) ∧ (0 : Int) < ((((2 : Int)).toNat : Nat) : Int))} : @need α (0 ≤ (0 : Int) ∧ (0 : Int) < ((((2 : Int)).toNat : Nat) : Int)) i k = k := @need_pos α (0 ≤ (0 : Int) ∧ (0 : Int) < ((((2 : Int)).toNat : Nat) : Int)) i ⟨by omega, by omega⟩ k
theorem f6 {α : Type} (k : Option α) {i : Decidable (0 ≤ (1 : Int) ∧ (1 : Int) < ((((2 : Int)).toNat : Nat) : Int))} : @need α (0 ≤ (1 : Int) ∧ (1 : Int) < ((((2 : Int)).toNat : Nat) : Int)) i k = k := @need_pos α (0 ≤ (1 : Int) ∧ (1 : Int) < ((((2 : Int)).toNat : Nat) : Int)) i ⟨by omega, by omega⟩ k
theorem f7 {α : Type} (k : Option α) {i : Decidable (0 ≤ (2 : Int) ∧ (2 : Int) ≤ 4294967296)} : @need α (0 ≤ (2 : Int) ∧ (2 : Int) ≤ 4294967296) i k = k := @need_pos α (0 ≤ (2 : Int) ∧ (2 : Int) ≤ 4294967296) i ⟨by omega, by omega⟩ k
theorem f8 {α : Type} (k : Option α) {i : Decidable ((((2 : Int)).toNat) = (List.replicate ((2 : Int)).toNat (0 : Nat)).length)} : @need α ((((2 : Int)).toNat) = (List.replicate ((2 : Int)).toNat (0 : Nat)).length) i k = k := @need_pos α ((((2 : Int)).toNat) = (List.replicate ((2 : Int)).toNat (0 : Nat)).length) i (by rw [List.length_replicate]) k
theorem ixs (x y u : Nat) : idx ([x, y].set ((0 : Int)).toNat u) (1 : Int) = some y := rfl
theorem f9 {α : Type} (x y u : Nat) (k : Option α) : need (((1 : Int)).toNat < ([x, y].set ((0 : Int)).toNat u).length) k = k := need_pos (by show 1 < 2; omega) k
theorem pair_p {α : Type} {Q Nn : List Nat} {p q u v s t : Nat} (hQ : Q = [p, q]) (hN : Nn = [u, v]) (e1 : floatBits .sub .f64 p u = some s) (e2 : floatBits .sub .f64 q v = some t) (k : Nat → Nat → Option α) :
  (need (0 ≤ (0 : Int) ∧ (0 : Int) < ((((2 : Int)).toNat : Nat) : Int)) ((idx Q (0 : Int)).bind fun x69 => (need (0 ≤ (0 : Int) ∧ (0 : Int) < ((Nn.length : Nat) : Int)) ((idx Nn (0 : Int)).bind fun x72 => ((floatBits .sub .f64 x69 x72).bind fun z74 => (need (0 ≤ (0 : Int) ∧ (0 : Int) < ((((2 : Int)).toNat : Nat) : Int)) (need (((0 : Int)).toNat < Q.length) (need (0 ≤ (1 : Int) ∧ (1 : Int) < ((((2 : Int)).toNat : Nat) : Int)) ((idx (Q.set ((0 : Int)).toNat z74) (1 : Int)).bind fun x79 => (need (0 ≤ (1 : Int) ∧ (1 : Int) < ((Nn.length : Nat) : Int)) ((idx Nn (1 : Int)).bind fun x82 => ((floatBits .sub .f64 x79 x82).bind fun z84 => (need (0 ≤ (1 : Int) ∧ (1 : Int) < ((((2 : Int)).toNat : Nat) : Int)) (need (((1 : Int)).toNat < (Q.set ((0 : Int)).toNat z74).length) (k z74 z84))))))))))))))) = k s t := by
 subst hQ hN
 rw [f5, ix0, Option.bind_some, f1, ix0, Option.bind_some, e1, Option.bind_some, f5, f3, f6, ixs, Option.bind_some, f2, ix1, Option.bind_some, e2, Option.bind_some, f6, f9]
set_option maxHeartbeats 4000000 in
theorem eval_q (a b c d : TImpl_P2) {lx hx ly hy z56 z58 z60 z62 z74 z84 z94 z104 z114 z124 z134 z144 z156 z164 z172 z180 z182 z190 z198 z206 z214 z216 z218 z220 z222 z224 z226 z228 z230 z232 z234 z236 z238 zx zy : Nat} {r236 r238 : Rat} (e56 : floatBits .add .f64 lx hx = some z56) (e58 : floatBits .quo .f64 z56 4611686018427387904 = some z58) (e60 : floatBits .add .f64 ly hy = some z60) (e62 : floatBits .quo .f64 z60 4611686018427387904 = some z62) (e74 : floatBits .sub .f64 a.X z58 = some z74) (e84 : floatBits .sub .f64 a.Y z62 = some z84) (e94 : floatBits .sub .f64 b.X z58 = some z94) (e104 : floatBits .sub .f64 b.Y z62 = some z104) (e114 : floatBits .sub .f64 c.X z58 = some z114) (e124 : floatBits .sub .f64 c.Y z62 = some z124) (e134 : floatBits .sub .f64 d.X z58 = some z134) (e144 : floatBits .sub .f64 d.Y z62 = some z144) (e156 : floatBits .sub .f64 z84 z104 = some z156) (e164 : floatBits .sub .f64 z94 z74 = some z164) (e172 : floatBits .mul .f64 z74 z104 = some z172) (e180 : floatBits .mul .f64 z94 z84 = some z180) (e182 : floatBits .sub .f64 z172 z180 = some z182) (e190 : floatBits .sub .f64 z124 z144 = some z190) (e198 : floatBits .sub .f64 z134 z114 = some z198) (e206 : floatBits .mul .f64 z114 z144 = some z206) (e214 : floatBits .mul .f64 z134 z124 = some z214) (e216 : floatBits .sub .f64 z206 z214 = some z216) (e218 : floatBits .mul .f64 z164 z216 = some z218) (e220 : floatBits .mul .f64 z198 z182 = some z220) (e222 : floatBits .sub .f64 z218 z220 = some z222) (e224 : floatBits .mul .f64 z190 z182 = some z224) (e226 : floatBits .mul .f64 z156 z216 = some z226) (e228 : floatBits .sub .f64 z224 z226 = some z228) (e230 : floatBits .mul .f64 z156 z198 = some z230) (e232 : floatBits .mul .f64 z190 z164 = some z232) (e234 : floatBits .sub .f64 z230 z232 = some z234) (e236 : floatBits .quo .f64 z222 z234 = some z236) (e238 : floatBits .quo .f64 z228 z234 = some z238)
  (v236 : Flt.V z236 = some r236) (w236 : Flt.ab r236 ≤ Flt.huge) (v238 : Flt.V z238 = some r238) (w238 : Flt.ab r238 ≤ Flt.huge) (ex : floatBits .add .f64 z236 z58 = some zx) (ey : floatBits .add .f64 z238 z62 = some zy) (w1 : p_IsPointWithinLineBounds [zx, zy] [c.X, c.Y] [d.X, d.Y] = some true) (w2 : p_IsPointWithinLineBounds [zx, zy] [a.X, a.Y] [b.X, b.Y] = some true) :
  p_intersection_k12 [c.X, c.Y] [d.X, d.Y] [a.X, a.Y] [b.X, b.Y] [a.X, a.Y] [b.X, b.Y] [c.X, c.Y] [d.X, d.Y] lx hx ly hy = some [zx, zy] := by
 have k14 : p_intersection_k14 [c.X, c.Y] [d.X, d.Y] [a.X, a.Y] [b.X, b.Y] z58 z62 z236 z238 false = some [zx, zy] := by
  unfold p_intersection_k14
  rw [cond_false, f1, ix0, Option.bind_some, st0, st1, f1, ix0, Option.bind_some, ex, Option.bind_some, f1, f3, st0, f2, ix1, Option.bind_some, f2, ix1, Option.bind_some, ey, Option.bind_some, f2, f4, st1, w1, Option.bind_some, w2, Option.bind_some, cond_true]
  rfl
 have k13 : p_intersection_k13 [c.X, c.Y] [d.X, d.Y] [a.X, a.Y] [b.X, b.Y] z58 z62 z236 z238 false = some [zx, zy] := by
  unfold p_intersection_k13
  rw [cond_false, isInf_p v236 w236, Option.bind_some, cond_false, isInf_p v238 w238, Option.bind_some, k14]
 unfold p_intersection_k12
 rw [e56, Option.bind_some, e58, Option.bind_some, e60, Option.bind_some, e62, Option.bind_some, f1, f3, st0, f2, f4, st1]
 refine (pair_p rfl rfl e74 e84 _).trans ?_
 refine (pair_p rfl rfl e94 e104 _).trans ?_
 refine (pair_p rfl rfl e114 e124 _).trans ?_
 refine (pair_p rfl rfl e134 e144 _).trans ?_
 simp only [st0, st1]
 simp only [f5, f6, ix0, ix1, Option.bind_some, e156, e164, e172, e180, e182, e190, e198, e206, e214, e216, e218, e220, e222, e224, e226, e228, e230, e232, e234, e236, e238, isNaN_p v236, isNaN_p v238, cond_false, k13]
set_option maxHeartbeats 4000000 in
theorem core_q {a b c d : TImpl_P2} {ax ay bx b_y cx cy dx dy D N M : Int} (ia : At a ax ay) (ib : At b bx b_y) (ic : At c cx cy) (id : At d dx dy)
  (ba : B13 ax) (ba' : B13 ay) (bb : B13 bx) (bb' : B13 b_y) (bc : B13 cx) (bc' : B13 cy) (bd : B13 dx) (bd' : B13 dy) (X : XI ax ay bx b_y cx cy dx dy D N M)
  {lx hx ly hy : Nat} {l1 h1 l2 h2 : Int} (il1 : Flt.I lx l1) (ih1 : Flt.I hx h1) (il2 : Flt.I ly l2) (ih2 : Flt.I hy h2) (b1 : B13 l1) (b2 : B13 h1) (b3 : B13 l2) (b4 : B13 h2) (d30 : D ≤ 1073741824) (s1 : l1 = h1 ∨ (l1 * D < ax * (D - N) + bx * N ∧ ax * (D - N) + bx * N < h1 * D)) (s2 : l2 = h2 ∨ (l2 * D < ay * (D - N) + b_y * N ∧ ay * (D - N) + b_y * N < h2 * D)) (t1 : ∀ s : Rat, (l1 : Rat) ≤ s → s ≤ (h1 : Rat) → (((ax : Rat) ≤ s ∨ (bx : Rat) ≤ s) ∧ (s ≤ (ax : Rat) ∨ s ≤ (bx : Rat))) ∧ (((cx : Rat) ≤ s ∨ (dx : Rat) ≤ s) ∧ (s ≤ (cx : Rat) ∨ s ≤ (dx : Rat)))) (t2 : ∀ s : Rat, (l2 : Rat) ≤ s → s ≤ (h2 : Rat) → (((ay : Rat) ≤ s ∨ (b_y : Rat) ≤ s) ∧ (s ≤ (ay : Rat) ∨ s ≤ (b_y : Rat))) ∧ (((cy : Rat) ≤ s ∨ (dy : Rat) ≤ s) ∧ (s ≤ (cy : Rat) ∨ s ≤ (dy : Rat))))
  (p1 : l1 * D ≤ ax * (D - N) + bx * N) (p2 : ax * (D - N) + bx * N ≤ h1 * D) (p3 : l2 * D ≤ ay * (D - N) + b_y * N) (p4 : ay * (D - N) + b_y * N ≤ h2 * D) :
  ∃ zx zy, p_intersection_k12 [c.X, c.Y] [d.X, d.Y] [a.X, a.Y] [b.X, b.Y] [a.X, a.Y] [b.X, b.Y] [c.X, c.Y] [d.X, d.Y] lx hx ly hy = some [zx, zy] ∧ Flt.App zx (((ax * (D - N) + bx * N : Int) : Rat) / (D : Rat)) (1 / 2147483648) ∧ Flt.App zy (((ay * (D - N) + b_y * N : Int) : Rat) / (D : Rat)) (1 / 2147483648) ∧ zx < 18446744073709551616 ∧ zy < 18446744073709551616 ∧ p_IsPointWithinLineBounds [zx, zy] [c.X, c.Y] [d.X, d.Y] = some true ∧ p_IsPointWithinLineBounds [zx, zy] [a.X, a.Y] [b.X, b.Y] = some true := by
 obtain ⟨z56, z58, e56, e58, j58⟩ := half_sum il1 ih1 (by omega)
 obtain ⟨z60, z62, e60, e62, j62⟩ := half_sum il2 ih2 (by omega)
 obtain ⟨m1, hm1⟩ : ∃ m, m = l1 + h1 := ⟨_, rfl⟩
 obtain ⟨m2, hm2⟩ : ∃ m, m = l2 + h2 := ⟨_, rfl⟩
 rw [← hm1] at j58
 rw [← hm2] at j62
 obtain ⟨z74, e74, j74⟩ := sub1 (less0 ia.1) j58 (by omega)
 obtain ⟨z84, e84, j84⟩ := sub1 (less0 ia.2) j62 (by omega)
 obtain ⟨z94, e94, j94⟩ := sub1 (less0 ib.1) j58 (by omega)
 obtain ⟨z104, e104, j104⟩ := sub1 (less0 ib.2) j62 (by omega)
 obtain ⟨z114, e114, j114⟩ := sub1 (less0 ic.1) j58 (by omega)
 obtain ⟨z124, e124, j124⟩ := sub1 (less0 ic.2) j62 (by omega)
 obtain ⟨z134, e134, j134⟩ := sub1 (less0 id.1) j58 (by omega)
 obtain ⟨z144, e144, j144⟩ := sub1 (less0 id.2) j62 (by omega)
 obtain ⟨A1, hA1⟩ : ∃ n, n = 2 * ax - m1 := ⟨_, rfl⟩
 obtain ⟨A2, hA2⟩ : ∃ n, n = 2 * ay - m2 := ⟨_, rfl⟩
 obtain ⟨B1, hB1⟩ : ∃ n, n = 2 * bx - m1 := ⟨_, rfl⟩
 obtain ⟨B2, hB2⟩ : ∃ n, n = 2 * b_y - m2 := ⟨_, rfl⟩
 obtain ⟨C1, hC1⟩ : ∃ n, n = 2 * cx - m1 := ⟨_, rfl⟩
 obtain ⟨C2, hC2⟩ : ∃ n, n = 2 * cy - m2 := ⟨_, rfl⟩
 obtain ⟨D1, hD1⟩ : ∃ n, n = 2 * dx - m1 := ⟨_, rfl⟩
 obtain ⟨D2, hD2⟩ : ∃ n, n = 2 * dy - m2 := ⟨_, rfl⟩
 rw [← hA1] at j74
 rw [← hA2] at j84
 rw [← hB1] at j94
 rw [← hB2] at j104
 rw [← hC1] at j114
 rw [← hC2] at j124
 rw [← hD1] at j134
 rw [← hD2] at j144
 have nA1 : A1.natAbs ≤ 32768 := by omega
 have nA2 : A2.natAbs ≤ 32768 := by omega
 have nB1 : B1.natAbs ≤ 32768 := by omega
 have nB2 : B2.natAbs ≤ 32768 := by omega
 have nC1 : C1.natAbs ≤ 32768 := by omega
 have nC2 : C2.natAbs ≤ 32768 := by omega
 have nD1 : D1.natAbs ≤ 32768 := by omega
 have nD2 : D2.natAbs ≤ 32768 := by omega
 obtain ⟨z156, e156, j156⟩ := sub1 j84 j104 (by omega)
 obtain ⟨z164, e164, j164⟩ := sub1 j94 j74 (by omega)
 have q1 := nab nA1 nB2
 have q2 := nab nB1 nA2
 obtain ⟨z172, e172, j172⟩ := mul11 j74 j104 (by omega)
 obtain ⟨z180, e180, j180⟩ := mul11 j94 j84 (by omega)
 obtain ⟨z182, e182, j182⟩ := sub2 j172 j180 (by omega)
 obtain ⟨z190, e190, j190⟩ := sub1 j124 j144 (by omega)
 obtain ⟨z198, e198, j198⟩ := sub1 j134 j114 (by omega)
 have q3 := nab nC1 nD2
 have q4 := nab nD1 nC2
 obtain ⟨z206, e206, j206⟩ := mul11 j114 j144 (by omega)
 obtain ⟨z214, e214, j214⟩ := mul11 j134 j124 (by omega)
 obtain ⟨z216, e216, j216⟩ := sub2 j206 j214 (by omega)
 have n1 : (B1 - A1).natAbs ≤ 65536 := by omega
 have n2 : (D1 - C1).natAbs ≤ 65536 := by omega
 have n3 : (C2 - D2).natAbs ≤ 65536 := by omega
 have n4 : (A2 - B2).natAbs ≤ 65536 := by omega
 have n5 : (A1 * B2 - B1 * A2).natAbs ≤ 2147483648 := by omega
 have n6 : (C1 * D2 - D1 * C2).natAbs ≤ 2147483648 := by omega
 have r1 := nab n1 n6
 have r2 := nab n2 n5
 have r3 := nab n3 n5
 have r4 := nab n4 n6
 have r5 := nab n4 n2
 have r6 := nab n3 n1
 obtain ⟨z218, e218, j218⟩ := mul12 j164 j216 (by omega)
 obtain ⟨z220, e220, j220⟩ := mul12 j198 j182 (by omega)
 obtain ⟨z222, e222, j222⟩ := sub3 j218 j220 (by omega)
 obtain ⟨z224, e224, j224⟩ := mul12 j190 j182 (by omega)
 obtain ⟨z226, e226, j226⟩ := mul12 j156 j216 (by omega)
 obtain ⟨z228, e228, j228⟩ := sub3 j224 j226 (by omega)
 obtain ⟨z230, e230, j230⟩ := mul11 j156 j198 (by omega)
 obtain ⟨z232, e232, j232⟩ := mul11 j190 j164 (by omega)
 obtain ⟨z234, e234, j234⟩ := sub2 j230 j232 (by omega)
 obtain ⟨den, hden⟩ : ∃ n, n = (bx - ax) * (dy - cy) - (b_y - ay) * (dx - cx) := ⟨_, rfl⟩
 obtain ⟨num, hnum⟩ : ∃ n, n = (cx - ax) * (dy - cy) - (cy - ay) * (dx - cx) := ⟨_, rfl⟩
 have hW : (A2 - B2) * (D1 - C1) - (C2 - D2) * (B1 - A1) = 4 * den := by subst hA1 hA2 hB1 hB2 hC1 hC2 hD1 hD2 hden; grind
 have hX : (B1 - A1) * (C1 * D2 - D1 * C2) - (D1 - C1) * (A1 * B2 - B1 * A2) = 4 * (2 * (ax * den + num * (bx - ax)) - m1 * den) := by subst hA1 hA2 hB1 hB2 hC1 hC2 hD1 hD2 hden hnum; grind
 have hY : (C2 - D2) * (A1 * B2 - B1 * A2) - (A2 - B2) * (C1 * D2 - D1 * C2) = 4 * (2 * (ay * den + num * (b_y - ay)) - m2 * den) := by subst hA1 hA2 hB1 hB2 hC1 hC2 hD1 hD2 hden hnum; grind
 rw [hW] at j234
 rw [hX] at j222
 rw [hY] at j228
 have dn := X.deni
 have nn := X.numi
 rw [← hden, ← hnum] at nn
 rw [← hden] at dn
 have sx : ((4 * (2 * (ax * den + num * (bx - ax)) - m1 * den) = 4 * (2 * (ax * (D - N) + bx * N) - m1 * D) ∧ 4 * den = 4 * D) ∨ (4 * (2 * (ax * den + num * (bx - ax)) - m1 * den) = -(4 * (2 * (ax * (D - N) + bx * N) - m1 * D)) ∧ 4 * den = -(4 * D))) := by
  rcases dn with h | h
  ·have := nn.1 h; left; rw [h, this]; constructor <;> grind
  ·have := nn.2 h; right; rw [h, this]; constructor <;> grind
 have sy : ((4 * (2 * (ay * den + num * (b_y - ay)) - m2 * den) = 4 * (2 * (ay * (D - N) + b_y * N) - m2 * D) ∧ 4 * den = 4 * D) ∨ (4 * (2 * (ay * den + num * (b_y - ay)) - m2 * den) = -(4 * (2 * (ay * (D - N) + b_y * N) - m2 * D)) ∧ 4 * den = -(4 * D))) := by
  rcases dn with h | h
  ·have := nn.1 h; left; rw [h, this]; constructor <;> grind
  ·have := nn.2 h; right; rw [h, this]; constructor <;> grind
 obtain ⟨z236, r236, e236, v236, w236, zx, ex, ax', lx', qx, vqx, qx1, qx2⟩ := axis_q j222 j234 j58 X.d0 d30 sx hm1 b1 b2 p1 p2 s1
 obtain ⟨z238, r238, e238, v238, w238, zy, ey, ay', ly', qy, vqy, qy1, qy2⟩ := axis_q j228 j234 j62 X.d0 d30 sy hm2 b3 b4 p3 p4 s2
 obtain ⟨ux, ux'⟩ := t1 qx qx1 qx2
 obtain ⟨uy, uy'⟩ := t2 qy qy1 qy2
 have k1 := within_p ic.1 ic.2 id.1 id.2 vqx vqy ux'.1 ux'.2 uy'.1 uy'.2
 have k2 := within_p ia.1 ia.2 ib.1 ib.2 vqx vqy ux.1 ux.2 uy.1 uy.2
 refine ⟨zx, zy, ?_, ax', ay', lx', ly', k1, k2⟩
 exact eval_q a b c d e56 e58 e60 e62 e74 e84 e94 e104 e114 e124 e134 e144 e156 e164 e172 e180 e182 e190 e198 e206 e214 e216 e218 e220 e222 e224 e226 e228 e230 e232 e234 e236 e238 v236 w236 v238 w238 ex ey k1 k2
end Go.Proofs.YtohgipjhcgblfaaGreat.Wk

set_option linter.unusedVariables false
set_option linter.unusedSimpArgs false
namespace Go.Proofs.YtohgipjhcgblfaaGreat.Wk
open Go.Vm
/-- The common box is of no width, or the crossing lies strictly in it. -/
theorem box_strict {p q r s D N M : Int} (d0 : 0 < D) (n0 : 0 < N) (n1 : N < D) (m0 : 0 < M) (m1 : M < D) (h : p * (D - N) + q * N = r * (D - M) + s * M) :
  (lo2 p q r s = hi2 p q r s ∨ (lo2 p q r s * D < p * (D - N) + q * N ∧ p * (D - N) + q * N < hi2 p q r s * D)) ∧ lo2 p q r s ≤ hi2 p q r s ∧ True ∧ True ∧ True := by
 have mono : ∀ {x y N : Int}, 0 < N → x < y → x * N < y * N := fun hN hxy => Int.mul_lt_mul_of_pos_right hxy hN
 have key : ∀ (x y N : Int), 0 < N → N < D → (x = y ∧ x * (D - N) + y * N = x * D) ∨ (x < y ∧ x * D < x * (D - N) + y * N ∧ x * (D - N) + y * N < y * D) ∨ (y < x ∧ y * D < x * (D - N) + y * N ∧ x * (D - N) + y * N < x * D) := fun x y N h0 h1 => by
  have e1 : x * (D - N) + x * N = x * D := by grind
  have e2 : y * (D - N) + y * N = y * D := by grind
  rcases Int.lt_trichotomy x y with hxy | hxy | hxy
  ·right; left
   have a1 := mono h0 hxy
   have a2 := mono (N := D - N) (by omega) hxy
   exact ⟨hxy, by omega, by omega⟩
  ·left; subst hxy; exact ⟨rfl, e1⟩
  ·right; right
   have a1 := mono h0 hxy
   have a2 := mono (N := D - N) (by omega) hxy
   exact ⟨hxy, by omega, by omega⟩
 have k1 := key p q N n0 n1
 have k2 := key r s M m0 m1
 rw [← h] at k2
 generalize p * (D - N) + q * N = T at *
 have lt_of : ∀ {x y : Int}, x * D < y * D → x < y := fun h => Int.lt_of_mul_lt_mul_right h (by omega)
 have eq_of : ∀ {x y : Int}, x * D = y * D → x = y := fun h => Int.eq_of_mul_eq_mul_right (by omega) h
 unfold lo2 hi2
 have all : ∀ {x y : Int}, x * D < T → T < y * D → x < y := fun h1 h2 => lt_of (by omega)
 have all2 : ∀ {x y : Int}, x * D < T → T = y * D → x < y := fun h1 h2 => lt_of (by omega)
 have all3 : ∀ {x y : Int}, T = x * D → T < y * D → x < y := fun h1 h2 => lt_of (by omega)
 rcases k1 with ⟨rfl, k1⟩ | ⟨hpq, k1, k1'⟩ | ⟨hpq, k1, k1'⟩ <;> rcases k2 with ⟨rfl, k2⟩ | ⟨hrs, k2, k2'⟩ | ⟨hrs, k2, k2'⟩
 ·have := eq_of (k1.symm.trans k2); subst this; simp
 ·have a1 := all2 k2 k1; have a2 := all3 k1 k2'
  refine ⟨.inl ?_, ?_, trivial, trivial, trivial⟩ <;> (repeat' split) <;> omega
 ·have a1 := all2 k2 k1; have a2 := all3 k1 k2'
  refine ⟨.inl ?_, ?_, trivial, trivial, trivial⟩ <;> (repeat' split) <;> omega
 ·have a1 := all2 k1 k2; have a2 := all3 k2 k1'
  refine ⟨.inl ?_, ?_, trivial, trivial, trivial⟩ <;> (repeat' split) <;> omega
 ·have a1 := all k1 k2'; have a2 := all k2 k1'
  refine ⟨.inr ⟨?_, ?_⟩, ?_, trivial, trivial, trivial⟩ <;> (repeat' split) <;> omega
 ·have a1 := all k1 k2'; have a2 := all k2 k1'
  refine ⟨.inr ⟨?_, ?_⟩, ?_, trivial, trivial, trivial⟩ <;> (repeat' split) <;> omega
 ·have a1 := all2 k1 k2; have a2 := all3 k2 k1'
  refine ⟨.inl ?_, ?_, trivial, trivial, trivial⟩ <;> (repeat' split) <;> omega
 ·have a1 := all k1 k2'; have a2 := all k2 k1'
  refine ⟨.inr ⟨?_, ?_⟩, ?_, trivial, trivial, trivial⟩ <;> (repeat' split) <;> omega
 ·have a1 := all k1 k2'; have a2 := all k2 k1'
  refine ⟨.inr ⟨?_, ?_⟩, ?_, trivial, trivial, trivial⟩ <;> (repeat' split) <;> omega
theorem in_box {p q r s : Int} {t : Rat} (h1 : ((lo2 p q r s : Int) : Rat) ≤ t) (h2 : t ≤ ((hi2 p q r s : Int) : Rat)) : (((p : Rat) ≤ t ∨ (q : Rat) ≤ t) ∧ (t ≤ (p : Rat) ∨ t ≤ (q : Rat))) ∧ (((r : Rat) ≤ t ∨ (s : Rat) ≤ t) ∧ (t ≤ (r : Rat) ∨ t ≤ (s : Rat))) := by
 have up : ∀ {x y : Int}, x ≤ y → ((y : Int) : Rat) ≤ t → (x : Rat) ≤ t := fun hxy hy => Rat.le_trans (Rat.intCast_le_intCast.2 hxy) hy
 have dn : ∀ {x y : Int}, y ≤ x → t ≤ ((y : Int) : Rat) → t ≤ (x : Rat) := fun hxy hy => Rat.le_trans hy (Rat.intCast_le_intCast.2 hxy)
 refine ⟨⟨?_, ?_⟩, ⟨?_, ?_⟩⟩
 ·rcases Int.le_total p q with h | h
  ·exact .inl (up (by unfold lo2; (repeat' split) <;> omega) h1)
  ·exact .inr (up (by unfold lo2; (repeat' split) <;> omega) h1)
 ·rcases Int.le_total p q with h | h
  ·exact .inr (dn (by unfold hi2; (repeat' split) <;> omega) h2)
  ·exact .inl (dn (by unfold hi2; (repeat' split) <;> omega) h2)
 ·rcases Int.le_total r s with h | h
  ·exact .inl (up (by unfold lo2; (repeat' split) <;> omega) h1)
  ·exact .inr (up (by unfold lo2; (repeat' split) <;> omega) h1)
 ·rcases Int.le_total r s with h | h
  ·exact .inr (dn (by unfold hi2; (repeat' split) <;> omega) h2)
  ·exact .inl (dn (by unfold hi2; (repeat' split) <;> omega) h2)
theorem den_30 {ax ay bx b_y cx cy dx dy D N M : Int} (X : XI ax ay bx b_y cx cy dx dy D N M) (ba : B13 ax) (ba' : B13 ay) (bb : B13 bx) (bb' : B13 b_y) (bc : B13 cx) (bc' : B13 cy) (bd : B13 dx) (bd' : B13 dy) : D ≤ 1073741824 := by
 have h1 := prodB (k := 16384) (f := bx - ax) (m := dy - cy) (by omega) (by omega) (by omega) (by omega)
 have h2 := prodB (k := 16384) (f := b_y - ay) (m := dx - cx) (by omega) (by omega) (by omega) (by omega)
 rcases X.deni with h | h <;> omega
theorem cpx (p q : Nat) : ([p, q].take (min [p, q].length (List.replicate ((2 : Int)).toNat (0 : Nat)).length) ++ (List.replicate ((2 : Int)).toNat (0 : Nat)).drop (min [p, q].length (List.replicate ((2 : Int)).toNat (0 : Nat)).length)) = [p, q] := rfl
set_option maxHeartbeats 4000000 in
theorem inter_p {a b c d : TImpl_P2} {ax ay bx b_y cx cy dx dy D N M : Int} (ia : At a ax ay) (ib : At b bx b_y) (ic : At c cx cy) (id : At d dx dy)
  (ba : B13 ax) (ba' : B13 ay) (bb : B13 bx) (bb' : B13 b_y) (bc : B13 cx) (bc' : B13 cy) (bd : B13 dx) (bd' : B13 dy) (X : XI ax ay bx b_y cx cy dx dy D N M) :
  ∃ zx zy, p_intersection [a.X, a.Y] [b.X, b.Y] [c.X, c.Y] [d.X, d.Y] [c.X, c.Y] [d.X, d.Y] [a.X, a.Y] [b.X, b.Y] [(0 : Nat), (0 : Nat)] [(0 : Nat), (0 : Nat)] (0 : Int) true [(0 : Nat), (0 : Nat)] [(0 : Nat), (0 : Nat)] = some [zx, zy] ∧ Flt.App zx (((ax * (D - N) + bx * N : Int) : Rat) / (D : Rat)) (1 / 2147483648) ∧ Flt.App zy (((ay * (D - N) + b_y * N : Int) : Rat) / (D : Rat)) (1 / 2147483648) ∧ zx < 18446744073709551616 ∧ zy < 18446744073709551616 ∧ p_IsPointWithinLineBounds [zx, zy] [c.X, c.Y] [d.X, d.Y] = some true ∧ p_IsPointWithinLineBounds [zx, zy] [a.X, a.Y] [b.X, b.Y] = some true := by
 obtain ⟨A, hA⟩ : ∃ l, l = [a.X, a.Y] := ⟨_, rfl⟩
 obtain ⟨B, hB⟩ : ∃ l, l = [b.X, b.Y] := ⟨_, rfl⟩
 obtain ⟨C, hC⟩ : ∃ l, l = [c.X, c.Y] := ⟨_, rfl⟩
 obtain ⟨E, hE⟩ : ∃ l, l = [d.X, d.Y] := ⟨_, rfl⟩
 have xA : idx A (0 : Int) = some a.X := by subst hA; rfl
 have yA : idx A (1 : Int) = some a.Y := by subst hA; rfl
 have xB : idx B (0 : Int) = some b.X := by subst hB; rfl
 have yB : idx B (1 : Int) = some b.Y := by subst hB; rfl
 have xC : idx C (0 : Int) = some c.X := by subst hC; rfl
 have yC : idx C (1 : Int) = some c.Y := by subst hC; rfl
 have xE : idx E (0 : Int) = some d.X := by subst hE; rfl
 have yE : idx E (1 : Int) = some d.Y := by subst hE; rfl
 obtain ⟨z1, e1, i1⟩ := sel_lt ia.1 ib.1 (p_intersection_k1 C E A B A B C E)
 obtain ⟨z2, e2, i2⟩ := sel_lt ia.2 ib.2 (p_intersection_k2 C E A B A B C E z1)
 obtain ⟨z3, e3, i3⟩ := sel_gt ia.1 ib.1 (p_intersection_k3 C E A B A B C E z1 z2)
 obtain ⟨z4, e4, i4⟩ := sel_gt ia.2 ib.2 (p_intersection_k4 C E A B A B C E z1 z2 z3)
 obtain ⟨z5, e5, i5⟩ := sel_lt ic.1 id.1 (p_intersection_k5 C E A B A B C E z1 z2 z3 z4)
 obtain ⟨z6, e6, i6⟩ := sel_lt ic.2 id.2 (p_intersection_k6 C E A B A B C E z1 z2 z3 z4 z5)
 obtain ⟨z7, e7, i7⟩ := sel_gt ic.1 id.1 (p_intersection_k7 C E A B A B C E z1 z2 z3 z4 z5 z6)
 obtain ⟨z8, e8, i8⟩ := sel_gt ic.2 id.2 (p_intersection_k8 C E A B A B C E z1 z2 z3 z4 z5 z6 z7)
 obtain ⟨z9, e9, i9⟩ := sel_gt i1 i5 (p_intersection_k9 C E A B A B C E z2 z3 z4 z6 z7 z8)
 obtain ⟨z10, e10, i10⟩ := sel_lt i3 i7 (p_intersection_k10 C E A B A B C E z2 z4 z6 z8 z9)
 obtain ⟨z11, e11, i11⟩ := sel_gt i2 i6 (p_intersection_k11 C E A B A B C E z4 z8 z9 z10)
 obtain ⟨z12, e12, i12⟩ := sel_lt i4 i8 (p_intersection_k12 C E A B A B C E z9 z10 z11)
 have p1 := box_btw X.n0 X.n1 X.m0 X.m1 X.x
 have p2 := box_btw X.n0 X.n1 X.m0 X.m1 X.y
 obtain ⟨sx1, sx2, sx3, sx4, sx5⟩ := box_strict X.d0 X.n0 X.n1 X.m0 X.m1 X.x
 obtain ⟨sy1, sy2, sy3, sy4, sy5⟩ := box_strict X.d0 X.n0 X.n1 X.m0 X.m1 X.y
 obtain ⟨zx, zy, ev, kv⟩ := core_q ia ib ic id ba ba' bb bb' bc bc' bd bd' X (l1 := lo2 ax bx cx dx) (h1 := hi2 ax bx cx dx) (l2 := lo2 ay b_y cy dy) (h2 := hi2 ay b_y cy dy) i9 i10 i11 i12
  (lo2_b ba bb bc bd) (hi2_b ba bb bc bd) (lo2_b ba' bb' bc' bd') (hi2_b ba' bb' bc' bd') (den_30 X ba ba' bb bb' bc bc' bd bd') sx1 sy1 (fun s h1 h2 => in_box h1 h2) (fun s h1 h2 => in_box h1 h2) p1.1 p1.2 p2.1 p2.2
 refine ⟨zx, zy, ?_, kv⟩
 rw [← hA, ← hB, ← hC, ← hE] at ev
 rw [← ev]
 have w11 : p_intersection_k11 C E A B A B C E z4 z8 z9 z10 z11 = p_intersection_k12 C E A B A B C E z9 z10 z11 z12 := by unfold p_intersection_k11; exact e12
 have w10 : p_intersection_k10 C E A B A B C E z2 z4 z6 z8 z9 z10 = p_intersection_k11 C E A B A B C E z4 z8 z9 z10 z11 := by unfold p_intersection_k10; exact e11
 have w9 : p_intersection_k9 C E A B A B C E z2 z3 z4 z6 z7 z8 z9 = p_intersection_k10 C E A B A B C E z2 z4 z6 z8 z9 z10 := by unfold p_intersection_k9; exact e10
 have w8 : p_intersection_k8 C E A B A B C E z1 z2 z3 z4 z5 z6 z7 z8 = p_intersection_k9 C E A B A B C E z2 z3 z4 z6 z7 z8 z9 := by unfold p_intersection_k8; exact e9
 have w7 : p_intersection_k7 C E A B A B C E z1 z2 z3 z4 z5 z6 z7 = p_intersection_k8 C E A B A B C E z1 z2 z3 z4 z5 z6 z7 z8 := by
  unfold p_intersection_k7; simp only [f5, f6, xC, yC, xE, yE, Option.bind_some]; exact e8
 have w6 : p_intersection_k6 C E A B A B C E z1 z2 z3 z4 z5 z6 = p_intersection_k7 C E A B A B C E z1 z2 z3 z4 z5 z6 z7 := by
  unfold p_intersection_k6; simp only [f5, f6, xC, yC, xE, yE, Option.bind_some]; exact e7
 have w5 : p_intersection_k5 C E A B A B C E z1 z2 z3 z4 z5 = p_intersection_k6 C E A B A B C E z1 z2 z3 z4 z5 z6 := by
  unfold p_intersection_k5; simp only [f5, f6, xC, yC, xE, yE, Option.bind_some]; exact e6
 have w4 : p_intersection_k4 C E A B A B C E z1 z2 z3 z4 = p_intersection_k5 C E A B A B C E z1 z2 z3 z4 z5 := by
  unfold p_intersection_k4; simp only [f5, f6, xC, yC, xE, yE, Option.bind_some]; exact e5
 have w3 : p_intersection_k3 C E A B A B C E z1 z2 z3 = p_intersection_k4 C E A B A B C E z1 z2 z3 z4 := by
  unfold p_intersection_k3; simp only [f5, f6, xA, yA, xB, yB, Option.bind_some]; exact e4
 have w2 : p_intersection_k2 C E A B A B C E z1 z2 = p_intersection_k3 C E A B A B C E z1 z2 z3 := by
  unfold p_intersection_k2; simp only [f5, f6, xA, yA, xB, yB, Option.bind_some]; exact e3
 have w1 : p_intersection_k1 C E A B A B C E z1 = p_intersection_k2 C E A B A B C E z1 z2 := by
  unfold p_intersection_k1; simp only [f5, f6, xA, yA, xB, yB, Option.bind_some]; exact e2
 have w0 : p_intersection [a.X, a.Y] [b.X, b.Y] [c.X, c.Y] [d.X, d.Y] [c.X, c.Y] [d.X, d.Y] [a.X, a.Y] [b.X, b.Y] [(0 : Nat), (0 : Nat)] [(0 : Nat), (0 : Nat)] (0 : Int) true [(0 : Nat), (0 : Nat)] [(0 : Nat), (0 : Nat)] = p_intersection_k1 C E A B A B C E z1 := by
  unfold p_intersection
  simp only [f7, f8, Option.bind_some, cpx]
  rw [← hA, ← hB, ← hC, ← hE]
  simp only [f5, f6, xA, yA, xB, yB, Option.bind_some]; exact e1
 rw [w0, w1, w2, w3, w4, w5, w6, w7, w8, w9, w10, w11]
theorem K13 : Flt.I 4665729213955833856 8192 ∧ Flt.I (fneg 4665729213955833856) (-8192) := Flt.wordI 8192 (by decide) (by decide +kernel) (by decide +kernel)
theorem near_app {v : Nat} {R : Rat} (h : Flt.App v R (1 / 2147483648)) : ∃ r, Flt.V v = some r ∧ r - R < 1 / 1073741824 ∧ R - r < 1 / 1073741824 := by
 obtain ⟨r, hr, h1, h2⟩ := h
 exact ⟨r, hr, by grind, by grind⟩
end Go.Proofs.YtohgipjhcgblfaaGreat.Wk

set_option linter.unusedVariables false
set_option linter.unusedSimpArgs false
namespace Go.Proofs.YtohgipjhcgblfaaGreat.Wk
open Go.Vm
theorem opp_of {p q : Int} (h : (0 < p ∧ q < 0) ∨ (p < 0 ∧ 0 < q)) : (sgI p = 1 ∧ sgI q = -1) ∨ (sgI p = -1 ∧ sgI q = 1) := by
 unfold sgI
 rcases h with ⟨h1, h2⟩ | ⟨h1, h2⟩
 ·rw [if_neg (by omega), if_neg (by omega), if_neg (by omega), if_pos (by omega)]; exact .inl ⟨rfl, rfl⟩
 ·rw [if_neg (by omega), if_pos (by omega), if_neg (by omega), if_neg (by omega)]; exact .inr ⟨rfl, rfl⟩
theorem turns {ax ay bx b_y cx cy dx dy : Int} (h : Crossed ax ay bx b_y cx cy dx dy) :
  ((sgI (turn ax ay bx b_y cx cy) = 1 ∧ sgI (turn ax ay bx b_y dx dy) = -1) ∨ (sgI (turn ax ay bx b_y cx cy) = -1 ∧ sgI (turn ax ay bx b_y dx dy) = 1)) ∧
  ((sgI (turn cx cy dx dy ax ay) = 1 ∧ sgI (turn cx cy dx dy bx b_y) = -1) ∨ (sgI (turn cx cy dx dy ax ay) = -1 ∧ sgI (turn cx cy dx dy bx b_y) = 1)) := by
 obtain ⟨h1, h2⟩ := h
 have g1 := sg_opp h1
 have g2 := sg_opp h2
 rw [cross_int, cross_int, cast_pos, cast_neg, cast_neg, cast_pos] at g1 g2
 exact ⟨opp_of g1, opp_of g2⟩
theorem lk4 (A B C E : List Nat) : p_LineIntersectsLine_k4 A B C E false = (p_intersection A B C E C E A B [(0 : Nat), (0 : Nat)] [(0 : Nat), (0 : Nat)] (0 : Int) true [(0 : Nat), (0 : Nat)] [(0 : Nat), (0 : Nat)]).bind fun y21 => some (TLineintersection_Result.mk (1 : Int) [y21]) := rfl
theorem lk2 (A B C E : List Nat) {y5 y7 y11 y13 : Int} (h1 : (y5 = 1 ∧ y7 = -1) ∨ (y5 = -1 ∧ y7 = 1)) (h2 : (y11 = 1 ∧ y13 = -1) ∨ (y11 = -1 ∧ y13 = 1)) : p_LineIntersectsLine_k2 A B C E y5 y7 y11 y13 false = p_LineIntersectsLine_k4 A B C E false := by
 rcases h1 with ⟨rfl, rfl⟩ | ⟨rfl, rfl⟩ <;> rcases h2 with ⟨rfl, rfl⟩ | ⟨rfl, rfl⟩ <;> rfl
theorem lsel {y5 y7 : Int} {K : Bool → Option TLineintersection_Result} (h1 : (y5 = 1 ∧ y7 = -1) ∨ (y5 = -1 ∧ y7 = 1)) :
  (cond (decide ((0 : Int) < y5)) (cond (decide ((0 : Int) < y7)) (K true) (cond (decide (y5 < (0 : Int))) (K (decide (y7 < (0 : Int)))) (K false))) (cond (decide (y5 < (0 : Int))) (K (decide (y7 < (0 : Int)))) (K false))) = K false := by
 rcases h1 with ⟨rfl, rfl⟩ | ⟨rfl, rfl⟩ <;> rfl
theorem lines_p {a b c d : TImpl_P2} {ax ay bx b_y cx cy dx dy D N M : Int} (ia : At a ax ay) (ib : At b bx b_y) (ic : At c cx cy) (id : At d dx dy)
  (ba : B13 ax) (ba' : B13 ay) (bb : B13 bx) (bb' : B13 b_y) (bc : B13 cx) (bc' : B13 cy) (bd : B13 dx) (bd' : B13 dy) (X : XI ax ay bx b_y cx cy dx dy D N M) (hc : Crossed ax ay bx b_y cx cy dx dy) :
  p_LineIntersectsLine [a.X, a.Y] [b.X, b.Y] [c.X, c.Y] [d.X, d.Y] = (p_intersection [a.X, a.Y] [b.X, b.Y] [c.X, c.Y] [d.X, d.Y] [c.X, c.Y] [d.X, d.Y] [a.X, a.Y] [b.X, b.Y] [(0 : Nat), (0 : Nat)] [(0 : Nat), (0 : Nat)] (0 : Int) true [(0 : Nat), (0 : Nat)] [(0 : Nat), (0 : Nat)]).bind fun y21 => some (TLineintersection_Result.mk (1 : Int) [y21]) := by
 obtain ⟨s1, s2⟩ := turns hc
 have lg : ∀ {n : Int}, B13 n → -16777216 ≤ n ∧ n ≤ 16777216 := fun h => ⟨by unfold B13 at h; omega, by unfold B13 at h; omega⟩
 unfold p_LineIntersectsLine
 rw [overlap_p ia.1 ia.2 ib.1 ib.2 ic.1 ic.2 id.1 id.2 (box_strict X.d0 X.n0 X.n1 X.m0 X.m1 X.x).2.1 (box_strict X.d0 X.n0 X.n1 X.m0 X.m1 X.y).2.1, Option.bind_some,
  show (!true) = false from rfl, cond_false,
  index_p ia.1 ia.2 ib.1 ib.2 ic.1 ic.2 (lg ba) (lg ba') (lg bb) (lg bb') (lg bc) (lg bc'), Option.bind_some, index_p ia.1 ia.2 ib.1 ib.2 id.1 id.2 (lg ba) (lg ba') (lg bb) (lg bb') (lg bd) (lg bd'), Option.bind_some, lsel s1]
 unfold p_LineIntersectsLine_k1
 rw [cond_false, index_p ic.1 ic.2 id.1 id.2 ia.1 ia.2 (lg bc) (lg bc') (lg bd) (lg bd') (lg ba) (lg ba'), Option.bind_some, index_p ic.1 ic.2 id.1 id.2 ib.1 ib.2 (lg bc) (lg bc') (lg bd) (lg bd') (lg bb) (lg bb'), Option.bind_some,
  lsel s2, lk2 _ _ _ _ s1 s2, lk4]
theorem places_1 {F : Nat} (hF : 1073741826 ≤ F) (zx zy : Nat) : p_places F [[zx, zy]] = some [⟨zx, zy⟩] := by
 obtain ⟨m, rfl⟩ : ∃ m, F = m + 2 := ⟨F - 2, by omega⟩
 rfl
theorem law_cross {F : Nat} (hF : 1073741826 ≤ F) (a b c d : TImpl_P2) (w1 : a.X < 18446744073709551616) (w2 : a.Y < 18446744073709551616) (w3 : b.X < 18446744073709551616) (w4 : b.Y < 18446744073709551616) (w5 : c.X < 18446744073709551616) (w6 : c.Y < 18446744073709551616) (w7 : d.X < 18446744073709551616) (w8 : d.Y < 18446744073709551616) :
  p_FnLinesCross F a b c d = some true := by
 unfold p_FnLinesCross
 rw [planeTo_p hF _ _ (by simp), Option.bind_some]
 cases h : [a, b, c, d].all (planeOk 4665729213955833856) with
 | false => rw [show (!false) = true from rfl, cond_true]
 | true =>
  rw [show (!true) = false from rfl, cond_false]
  simp only [List.all_cons, List.all_nil, Bool.and_true, Bool.and_eq_true] at h
  obtain ⟨h1, h2, h3, h4⟩ := h
  obtain ⟨ax, ay, ia, ba⟩ := at_of K13.1 (by omega) (by omega) h1
  obtain ⟨bx, b_y, ib, bb⟩ := at_of K13.1 (by omega) (by omega) h2
  obtain ⟨cx, cy, ic, bc⟩ := at_of K13.1 (by omega) (by omega) h3
  obtain ⟨dx, dy, id, bd⟩ := at_of K13.1 (by omega) (by omega) h4
  obtain ⟨pa, ea, ka⟩ := exactly_p hF ia w1 w2
  obtain ⟨pb, eb, kb⟩ := exactly_p hF ib w3 w4
  obtain ⟨pc, ec, kc⟩ := exactly_p hF ic w5 w6
  obtain ⟨pd, ed, kd⟩ := exactly_p hF id w7 w8
  obtain ⟨hw, f, t, w, em, hm⟩ := meet_p hF ka kb kc kd
  rw [ea, Option.bind_some, eb, Option.bind_some, ec, Option.bind_some, ed, Option.bind_some, em, Option.bind_some]
  by_cases h1 : hw = 1
  ·rw [show (!decide ((hw, f, t, w).1 = (1 : Int))) = false by simp [h1], cond_false]
   show p_FnLinesCross_k1 a b c d F w = some true
   unfold p_FnLinesCross_k1
   cases w with
   | true => rfl
   | false =>
    rw [cond_false]
    have hx := hm h1 rfl
    obtain ⟨D, N, M, X⟩ := xi_of hx
    obtain ⟨v0, v1, v2⟩ := X.val
    obtain ⟨n1, d1, n2, d2, e1, ⟨D1, g1, g2, g3⟩, ⟨D2, g4, g5, g6⟩⟩ := crossing_p hF ka kb kc kd v0
    rw [v1] at g3
    rw [v2] at g6
    obtain ⟨zx, zy, ev, r1, r2, r3, r4, r5, r6⟩ := inter_p ia ib ic id ba.1 ba.2 bb.1 bb.2 bc.1 bc.2 bd.1 bd.2 X
    obtain ⟨s1, t1, t2, t3⟩ := near_app r1
    obtain ⟨s2, t4, t5, t6⟩ := near_app r2
    rw [ea, Option.bind_some, eb, Option.bind_some, ec, Option.bind_some, ed, Option.bind_some, e1, Option.bind_some]
    simp only [p_coord, Option.bind_some]
    rw [lines_p ia ib ic id ba.1 ba.2 bb.1 bb.2 bc.1 bc.2 bd.1 bd.2 X hx, ev, Option.bind_some, Option.bind_some, places_1 hF, Option.bind_some]
    show (cond true _ _) = _
    rw [cond_true]
    show (cond true _ _) = _
    rw [cond_true]
    show (cond true _ _) = _
    rw [cond_true]
    have q1 : p_nearPlace F ⟨zx, zy⟩ ⟨n1, d1⟩ ⟨n2, d2⟩ = some true := by
     unfold p_nearPlace
     show ((p_nearRatio F zx ⟨n1, d1⟩ (-30)).bind _) = _
     rw [near30_p hF t1 r3 g1 g2 g3 t2 t3, Option.bind_some, cond_true]
     show ((p_nearRatio F zy ⟨n2, d2⟩ (-30)).bind _) = _
     rw [near30_p hF t4 r4 g4 g5 g6 t5 t6]
     rfl
    have q2 : p_InLineBox ⟨zx, zy⟩ a b = some true := by
     unfold p_InLineBox p_IsPointWithinLineBounds_28 p_coord
     simp only [Option.bind_some]
     rw [r6]; rfl
    have q3 : p_InLineBox ⟨zx, zy⟩ c d = some true := by
     unfold p_InLineBox p_IsPointWithinLineBounds_28 p_coord
     simp only [Option.bind_some]
     rw [r5]; rfl
    show (p_nearPlace F ⟨zx, zy⟩ ⟨n1, d1⟩ ⟨n2, d2⟩).bind _ = _
    rw [q1, Option.bind_some, cond_true]
    show (p_InLineBox ⟨zx, zy⟩ a b).bind _ = _
    rw [q2, Option.bind_some, cond_true]
    show (p_InLineBox ⟨zx, zy⟩ c d).bind _ = _
    rw [q3, Option.bind_some]
  ·rw [show (!decide ((hw, f, t, w).1 = (1 : Int))) = true by simp [h1], cond_true]
   rfl
end Go.Proofs.YtohgipjhcgblfaaGreat.Wk
