/- Proved: plain texts of a law, joined. -/
import Derived.Test.YtdchenbdnalbcaaGreatDoorPPf
import Derived.Test.YtdchenbdnalbcaaGreatDoorLibB
namespace Go.Proofs.YtdchenbdnalbcaaGreatDoor.Wk
open Go.Vm Limb
set_option linter.unusedVariables false
set_option linter.unusedSimpArgs false

def nl (l : List Nat) : List Int := l.map fun x : Nat => (x : Int)
theorem nl_len (l : List Nat) : (nl l).length = l.length := by simp [nl]
theorem nl_append (l m : List Nat) : nl l ++ nl m = nl (l ++ m) := by simp [nl]
theorem nl_one (x : Nat) : [((x : Nat) : Int)] = nl [x] := rfl
theorem idx_nl {l : List Nat} {k : Nat} (h : k < l.length) : idx (nl l) (k : Int) = some ((l.getD k 0 : Nat) : Int) := by
 unfold idx; rw [if_pos (by omega)]; simp [nl, h]
theorem w32 (s : Nat) : IntKind.u32.wrap (s : Int) = ((s % 4294967296 : Nat) : Int) := by simp [IntKind.wrap, IntKind.signed, IntKind.bits]
theorem w64 {s : Nat} (h : s < 18446744073709551616) : IntKind.u64.wrap (s : Int) = (s : Int) := wrap_in .u64 _ (by simp only [lo]; omega) (by simp only [hi]; omega)
theorem okget {l : List Nat} (h : ok l) (k : Nat) : l.getD k 0 < 4294967296 := by
 rw [List.getD_eq_getElem?_getD]
 cases hq : l[k]? with
 | none => decide
 | some x => exact h x (List.mem_of_getElem? hq)


/-! ### trim -/
theorem trim_loop : ∀ (n : Nat) (l : List Nat), l.length = n → l.length < 9223372036854775807 → ∀ F, n < F → iter p_trim_l2 F (nl l) = some (Sum.inl (nl (trim l))) := by
 intro n
 induction n with
 | zero =>
  intro l hl _ F hF
  obtain ⟨F, rfl⟩ : ∃ m, F = m + 1 := ⟨F - 1, by omega⟩
  have : l = [] := List.eq_nil_of_length_eq_zero hl
  subst this
  rfl
 | succ n ih =>
  intro l hl hb F hF
  obtain ⟨F, rfl⟩ : ∃ m, F = m + 1 := ⟨F - 1, by omega⟩
  rcases List.eq_nil_or_concat l with rfl | ⟨i, x, rfl⟩
  ·simp at hl
  ·simp only [List.concat_eq_append] at *
   have hi : i.length = n := by simpa using hl
   have hc : (((nl (i ++ [x])).length : Nat) : Int) - 1 = ((n : Nat) : Int) := by rw [nl_len]; simp [hi]
   show p_trim_l2 (iter p_trim_l2 F) (nl (i ++ [x])) = _
   unfold p_trim_l2
   rw [cond_t (by rw [nl_len]; simp), hc, need_pos (in64 (by omega) (by simp at hb; omega)), idx_nl (by simp; omega)]
   have hg : (i ++ [x]).getD n 0 = x := by rw [List.getD_eq_getElem?_getD, ← hi]; simp
   rw [hg, Option.bind_some, trim_snoc]
   by_cases hx : x = 0
   ·subst hx
    rw [cond_t (by simp), if_pos rfl, need_pos (in64 (by omega) (by simp at hb; omega)), need_pos (by rw [nl_len]; simp; omega)]
    have : ((nl (i ++ [0])).drop 0).take ((n : Int).toNat - 0) = nl i := by simp [nl, ← hi]
    rw [this]
    exact ih i hi (by simp at hb; omega) F (by omega)
   ·rw [cond_f (by simp; omega), if_neg hx]
theorem trim_p {F : Nat} {l : List Nat} (hl : l.length < F) (hb : l.length < 9223372036854775807) : p_trim F (nl l) = some (nl (trim l)) := by
 unfold p_trim
 rw [trim_loop _ l rfl hb F hl]; rfl

/-! ### sums -/
theorem add_loop {x y : List Nat} (hx : ok x) (hy : ok y) (hyx : y.length ≤ x.length) (hb : x.length < 1073741824) : ∀ (n k c : Nat) (out : List Nat), n = x.length - k → k ≤ x.length → out.length = k → ok out → c ≤ 1 →
  val out + 4294967296 ^ k * c = val (x.take k) + val (y.take k) → ∀ F, n < F →
  ∃ (c' : Nat) (out' : List Nat), iter (p_addLimbs_l3 (nl x, nl y)) F ((c : Int), (k : Int), nl out) = some (Sum.inl ((c' : Int), nl out')) ∧ out'.length = x.length ∧ ok out' ∧ c' ≤ 1 ∧ val out' + 4294967296 ^ x.length * c' = val x + val y := by
 intro n
 induction n with
 | zero =>
  intro k c out hn hk ho hok hc hv F hF
  obtain ⟨F, rfl⟩ : ∃ m, F = m + 1 := ⟨F - 1, by omega⟩
  have hkx : k = x.length := by omega
  subst hkx
  refine ⟨c, out, ?_, ho, hok, hc, ?_⟩
  ·show p_addLimbs_l3 _ _ _ = _
   unfold p_addLimbs_l3
   rw [cond_f (by simp [nl_len])]
  ·rw [hv, List.take_of_length_le (Nat.le_refl _), List.take_of_length_le hyx]
 | succ n ih =>
  intro k c out hn hk ho hok hc hv F hF
  obtain ⟨F, rfl⟩ : ∃ m, F = m + 1 := ⟨F - 1, by omega⟩
  have hkx : k < x.length := by omega
  have bx := okget hx k
  have bY := okget hy k
  have fin : ∀ s : Nat, s = x.getD k 0 + c + y.getD k 0 →
    ∃ (c' : Nat) (out' : List Nat), p_addLimbs_k4 ((c : Int), (k : Int), nl out) (iter (p_addLimbs_l3 (nl x, nl y)) F) (s : Int) = some (Sum.inl ((c' : Int), nl out')) ∧ out'.length = x.length ∧ ok out' ∧ c' ≤ 1 ∧ val out' + 4294967296 ^ x.length * c' = val x + val y := by
   intro s hs
   unfold p_addLimbs_k4
   rw [need_pos (by simp only [nl_len, List.length_singleton]; omega), need_pos (by omega), need_pos (in64 (by simp only; omega) (by simp only; omega)), w32]
   have e1 : (s : Int) / 2 ^ 32 = ((s / 4294967296 : Nat) : Int) := by
    have : (2 : Int) ^ 32 = 4294967296 := by decide
    rw [this]; omega
   have e2 : ((k : Int) + 1) = ((k + 1 : Nat) : Int) := by omega
   simp only [e1, e2, nl_one, nl_append]
   exact ih (k + 1) (s / 4294967296) (out ++ [s % 4294967296]) (by omega) (by omega) (by simp [ho]) (ok_snoc hok) (by omega) (add_step ho hv hs) F (by omega)
  show ∃ (c' : Nat) (out' : List Nat), p_addLimbs_l3 _ _ _ = _ ∧ _
  unfold p_addLimbs_l3
  simp only
  rw [cond_t (by simp [nl_len]; omega), idx_nl hkx, Option.bind_some, w64 (by omega), need_pos (inu64 (by omega) (by omega))]
  by_cases hky : k < y.length
  ·rw [cond_t (by simp [nl_len]; omega), idx_nl hky, Option.bind_some, w64 (by omega), need_pos (inu64 (by omega) (by omega))]
   have := fin (x.getD k 0 + c + y.getD k 0) rfl
   have e : ((x.getD k 0 : Nat) : Int) + (c : Int) + ((y.getD k 0 : Nat) : Int) = ((x.getD k 0 + c + y.getD k 0 : Nat) : Int) := by omega
   rw [e]; exact this
  ·have hz : y.getD k 0 = 0 := by rw [List.getD_eq_getElem?_getD, List.getElem?_eq_none (by omega)]; rfl
   rw [cond_f (by simp [nl_len]; omega)]
   have := fin (x.getD k 0 + c) (by omega)
   have e : ((x.getD k 0 : Nat) : Int) + (c : Int) = ((x.getD k 0 + c : Nat) : Int) := by omega
   rw [e]; exact this
theorem add_k {x y : List Nat} (hx : ok x) (hy : ok y) (hyx : y.length ≤ x.length) (hb : x.length < 1073741824) {F : Nat} (hF : 1073741826 ≤ F) : p_addLimbs_k1 F (nl x, nl y) = some (nl (limbs (val x + val y))) := by
 obtain ⟨c, out, h1, h2, h3, h4, h5⟩ := add_loop hx hy hyx hb x.length 0 0 [] rfl (Nat.zero_le _) rfl (fun z hz => by simp at hz) (by omega) (by simp [val]) F (by omega)
 unfold p_addLimbs_k1
 simp only [nl_len]
 rw [need_pos (in64 (by omega) (by omega)), need_pos (by omega)]
 have h1' : iter (p_addLimbs_l3 (nl x, nl y)) F ((0 : Int), (0 : Int), []) = some (Sum.inl ((c : Int), nl out)) := h1
 rw [h1', Option.bind_some]
 show p_addLimbs_k2 F ((c : Int), nl out) = _
 unfold p_addLimbs_k2
 have e : ((c : Nat) % 4294967296) = c := by omega
 rw [need_pos (by simp only [nl_len, List.length_singleton]; omega), w32, e, nl_one, nl_append, trim_p (by simp; omega) (by simp; omega), Option.bind_some, trim_limbs _ (fun z hz => by
  rcases List.mem_append.1 hz with h | h
  ·exact h3 z h
  ·rw [List.mem_singleton.1 h]; omega)]
 have ev : val (out ++ [c]) = val x + val y := by rw [val_append, h2, ← h5]; simp [val]
 rw [ev]
theorem addLimbs_p {a b : List Nat} (ha : ok a) (hb : ok b) (la : a.length < 1073741824) (lb : b.length < 1073741824) {F : Nat} (hF : 1073741826 ≤ F) : p_addLimbs F (nl a) (nl b) = some (nl (limbs (val a + val b))) := by
 unfold p_addLimbs
 simp only [nl_len]
 by_cases h : a.length < b.length
 ·rw [cond_t (by simp; omega), add_k hb ha (by omega) lb hF, Nat.add_comm]
 ·rw [cond_f (by simp; omega), add_k ha hb (by omega) la hF]

/-! ### comparing -/
theorem cmp_loop {x y : List Nat} (hx : ok x) (hy : ok y) (hl : x.length = y.length) (hb : x.length < 1073741824) : ∀ (j : Nat), j ≤ x.length → x.drop j = y.drop j → ∀ F, j < F →
  iter (p_cmpLimbs_l2 (nl x) (nl y)) F ((j : Int) - 1) = some (if val x = val y then Sum.inl () else Sum.inr (if val x < val y then -1 else 1)) := by
 intro j
 induction j with
 | zero =>
  intro hj hd F hF
  obtain ⟨F, rfl⟩ : ∃ m, F = m + 1 := ⟨F - 1, by omega⟩
  have : x = y := by simpa using hd
  subst this
  rw [if_pos rfl]
  show p_cmpLimbs_l2 _ _ _ _ = _
  unfold p_cmpLimbs_l2
  rw [cond_f (by decide)]
 | succ j ih =>
  intro hj hd F hF
  obtain ⟨F, rfl⟩ : ∃ m, F = m + 1 := ⟨F - 1, by omega⟩
  show p_cmpLimbs_l2 _ _ _ _ = _
  have e : (((j + 1 : Nat) : Int) - 1) = (j : Int) := by omega
  rw [e]
  unfold p_cmpLimbs_l2
  rw [cond_t (by simp), idx_nl (by omega), Option.bind_some, idx_nl (by omega), Option.bind_some]
  by_cases hxy : x.getD j 0 = y.getD j 0
  ·rw [cond_f (nF (by omega)), need_pos (in64m (by omega) (by omega))]
   have hd' : x.drop j = y.drop j := by
    have h1 : x[j]'(by omega) = y[j]'(by omega) := by
     have h2 := hxy
     rw [List.getD_eq_getElem?_getD, List.getD_eq_getElem?_getD, List.getElem?_eq_getElem (l := x) (i := j) (by omega), List.getElem?_eq_getElem (l := y) (i := j) (by omega)] at h2
     exact h2
    rw [List.drop_eq_getElem_cons (l := x) (i := j) (by omega), List.drop_eq_getElem_cons (l := y) (i := j) (by omega), h1, hd]
   exact ih (by omega) hd' F (by omega)
  ·rw [cond_t (nT (by omega))]
   simp only [Option.bind_some]
   by_cases hlt : x.getD j 0 < y.getD j 0
   ·have hv := cmp_at hx hy (by omega) (by omega) hd hlt
    rw [cond_t (decide_eq_true (by omega)), if_neg (by omega), if_pos hv]
   ·have hv := cmp_at hy hx (j := j) (by omega) (by omega) hd.symm (by omega)
    rw [cond_f (decide_eq_false (by omega)), if_neg (by omega), if_neg (by omega)]
theorem cmp_p {a b : Nat} (la : (limbs a).length < 1073741824) (lb : (limbs b).length < 1073741824) {F : Nat} (hF : 1073741826 ≤ F) :
  p_cmpLimbs F (nl (limbs a)) (nl (limbs b)) = some (if a = b then 0 else if a < b then -1 else 1) := by
 unfold p_cmpLimbs
 simp only [nl_len]
 by_cases hl : (limbs a).length = (limbs b).length
 ·rw [cond_f (by simp [hl]), need_pos (in64m (by omega) (by omega)), cmp_loop (limbs_ok a) (limbs_ok b) hl la (limbs a).length (Nat.le_refl _) (by rw [List.drop_length, hl, List.drop_length]) F (by omega), val_limbs, val_limbs]
  by_cases h : a = b
  ·rw [if_pos h, if_pos h]; rfl
  ·rw [if_neg h, if_neg h]; rfl
 ·rw [cond_t (by simp; omega)]
  by_cases h : (limbs a).length < (limbs b).length
  ·have := limbs_len_lt h
   rw [cond_t (by simp; omega), if_neg (by omega), if_pos this]
  ·have := limbs_len_lt (a := b) (b := a) (by omega)
   rw [cond_f (by simp; omega), if_neg (by omega), if_neg (by omega)]

/-! ### differences -/
theorem sub_loop {x y : List Nat} (hx : ok x) (hy : ok y) (hyx : y.length ≤ x.length) (hb : x.length < 1073741824) : ∀ (n k c : Nat) (out : List Nat), n = x.length - k → k ≤ x.length → out.length = k → ok out → c ≤ 1 →
  val out + val (y.take k) = val (x.take k) + 4294967296 ^ k * c → ∀ F, n < F →
  ∃ (c' : Nat) (out' : List Nat), iter (p_subLimbs_l2 (nl x) (nl y)) F ((c : Int), (k : Int), nl out) = some (Sum.inl (nl out')) ∧ ok out' ∧ out'.length = x.length ∧ val out' + val y = val x + 4294967296 ^ x.length * c' := by
 intro n
 induction n with
 | zero =>
  intro k c out hn hk ho hok hc hv F hF
  obtain ⟨F, rfl⟩ : ∃ m, F = m + 1 := ⟨F - 1, by omega⟩
  have hkx : k = x.length := by omega
  subst hkx
  refine ⟨c, out, ?_, hok, ho, ?_⟩
  ·show p_subLimbs_l2 _ _ _ _ = _
   unfold p_subLimbs_l2
   rw [cond_f (by simp [nl_len])]
  ·rw [List.take_of_length_le (Nat.le_refl _), List.take_of_length_le hyx] at hv
   exact hv
 | succ n ih =>
  intro k c out hn hk ho hok hc hv F hF
  obtain ⟨F, rfl⟩ : ∃ m, F = m + 1 := ⟨F - 1, by omega⟩
  have hkx : k < x.length := by omega
  have bx := okget hx k
  have bY := okget hy k
  have fin : ∀ s b : Nat, s = c + y.getD k 0 → b = (if x.getD k 0 < s then 1 else 0) →
    ∃ (c' : Nat) (out' : List Nat), p_subLimbs_k4 ((c : Int), (k : Int), nl out) (iter (p_subLimbs_l2 (nl x) (nl y)) F) ((x.getD k 0 : Nat) : Int) (s : Int) (b : Int) = some (Sum.inl (nl out')) ∧ ok out' ∧ out'.length = x.length ∧ val out' + val y = val x + 4294967296 ^ x.length * c' := by
   intro s b hs hb2
   have hb1 : b ≤ 1 := by rw [hb2]; split <;> omega
   have hge : s ≤ x.getD k 0 + b * 4294967296 := by rw [hb2]; split <;> omega
   have hlt : x.getD k 0 + b * 4294967296 - s < 4294967296 := by rw [hb2]; split <;> omega
   obtain ⟨t, ht⟩ : ∃ t, t = x.getD k 0 + b * 4294967296 - s := ⟨_, rfl⟩
   unfold p_subLimbs_k4
   have e1 : (b : Int) * 2 ^ 32 = ((b * 4294967296 : Nat) : Int) := by
    have : (2 : Int) ^ 32 = 4294967296 := by decide
    rw [this]; omega
   have e2 : ((k : Int) + 1) = ((k + 1 : Nat) : Int) := by omega
   have e3 : ((x.getD k 0 : Nat) : Int) + ((b * 4294967296 : Nat) : Int) - (s : Int) = (t : Int) := by omega
   rw [w64 (by omega), e1, w64 (by omega), need_pos (inu64 (by omega) (by omega)), e3, need_pos (inu64 (by omega) (by omega)), w32, need_pos (by simp only [nl_len, List.length_singleton]; omega), need_pos (in64 (by simp only; omega) (by simp only; omega))]
   have e4 : t % 4294967296 = t := by omega
   simp only [e2, e4, nl_one, nl_append]
   refine ih (k + 1) b (out ++ [t]) (by omega) (by omega) (by simp [ho]) (fun z hz => ?_) hb1 ?_ F (by omega)
   ·rcases List.mem_append.1 hz with h | h
    ·exact hok z h
    ·rw [List.mem_singleton.1 h]; omega
   ·rw [val_append, ho, val_take_any, val_take_any]
    have h1 : val [t] = t := by simp [val]
    rw [h1, Nat.pow_succ]
    have h2 : 4294967296 ^ k * t + 4294967296 ^ k * s = 4294967296 ^ k * x.getD k 0 + 4294967296 ^ k * 4294967296 * b := by
     rw [Nat.mul_assoc, ← Nat.mul_add, ← Nat.mul_add]; congr 1; omega
    have h3 : 4294967296 ^ k * s = 4294967296 ^ k * c + 4294967296 ^ k * y.getD k 0 := by rw [hs, Nat.mul_add]
    omega
  have fin2 : ∀ s : Nat, s = c + y.getD k 0 →
    ∃ (c' : Nat) (out' : List Nat), p_subLimbs_k3 ((c : Int), (k : Int), nl out) (iter (p_subLimbs_l2 (nl x) (nl y)) F) ((x.getD k 0 : Nat) : Int) (s : Int) = some (Sum.inl (nl out')) ∧ ok out' ∧ out'.length = x.length ∧ val out' + val y = val x + 4294967296 ^ x.length * c' := by
   intro s hs
   unfold p_subLimbs_k3
   rw [w64 (by omega)]
   by_cases h : x.getD k 0 < s
   ·rw [cond_t (decide_eq_true (by omega))]; exact fin s 1 hs (by rw [if_pos h])
   ·rw [cond_f (decide_eq_false (by omega))]; exact fin s 0 hs (by rw [if_neg h])
  show ∃ (c' : Nat) (out' : List Nat), p_subLimbs_l2 _ _ _ _ = _ ∧ _
  unfold p_subLimbs_l2
  simp only
  rw [cond_t (by simp [nl_len]; omega), idx_nl hkx, Option.bind_some]
  by_cases hky : k < y.length
  ·rw [cond_t (by simp [nl_len]; omega), idx_nl hky, Option.bind_some, w64 (by omega), need_pos (inu64 (by omega) (by omega))]
   have := fin2 (c + y.getD k 0) rfl
   have e : (c : Int) + ((y.getD k 0 : Nat) : Int) = ((c + y.getD k 0 : Nat) : Int) := by omega
   rw [e]; exact this
  ·have hz : y.getD k 0 = 0 := by rw [List.getD_eq_getElem?_getD, List.getElem?_eq_none (by omega)]; rfl
   rw [cond_f (by simp [nl_len]; omega)]
   exact fin2 c (by omega)
theorem subLimbs_p {a b : List Nat} (ha : ok a) (hb : ok b) (la : a.length < 1073741824) (lb : b.length ≤ a.length) (hv : val b ≤ val a) {F : Nat} (hF : 1073741826 ≤ F) : p_subLimbs F (nl a) (nl b) = some (nl (limbs (val a - val b))) := by
 obtain ⟨c, out, h1, h2, h3, h4⟩ := sub_loop ha hb lb la a.length 0 0 [] rfl (Nat.zero_le _) rfl (fun z hz => by simp at hz) (by omega) (by simp [val]) F (by omega)
 have hc : c = 0 := by
  have := val_lt h2
  rw [h3] at this
  rcases Nat.eq_zero_or_pos c with h | h
  ·exact h
  ·have h5 : 4294967296 ^ a.length * 1 ≤ 4294967296 ^ a.length * c := Nat.mul_le_mul_left _ h
   omega
 subst hc
 unfold p_subLimbs
 simp only [nl_len]
 have h1' : iter (p_subLimbs_l2 (nl a) (nl b)) F ((0 : Int), (0 : Int), []) = some (Sum.inl (nl out)) := h1
 rw [need_pos (by omega), h1', Option.bind_some]
 show p_subLimbs_k1 F (nl out) = _
 unfold p_subLimbs_k1
 rw [trim_p (by omega) (by omega), Option.bind_some, trim_limbs _ h2]
 have ev : val out = val a - val b := by omega
 rw [ev]
end Go.Proofs.YtdchenbdnalbcaaGreatDoor.Wk

namespace Go.Proofs.YtdchenbdnalbcaaGreatDoor.Wk
open Go.Vm Limb
set_option linter.unusedVariables false
set_option linter.unusedSimpArgs false

/-! ### products -/
theorem val_set : ∀ (l : List Nat) (j v : Nat), j < l.length → val (l.set j v) + 4294967296 ^ j * l.getD j 0 = val l + 4294967296 ^ j * v
 | [], j, v, h => by simp at h
 | x :: r, 0, v, h => by simp [val]; omega
 | x :: r, j + 1, v, h => by
  have := val_set r j v (by simpa using h)
  simp only [List.set_cons_succ, val, List.getD_cons_succ, Nat.pow_succ]
  have e1 : 4294967296 ^ j * 4294967296 * r.getD j 0 = 4294967296 * (4294967296 ^ j * r.getD j 0) := by rw [Nat.mul_comm (4294967296 ^ j) 4294967296, Nat.mul_assoc]
  have e2 : 4294967296 ^ j * 4294967296 * v = 4294967296 * (4294967296 ^ j * v) := by rw [Nat.mul_comm (4294967296 ^ j) 4294967296, Nat.mul_assoc]
  rw [e1, e2]; omega
theorem nl_set (l : List Nat) (j v : Nat) : (nl l).set j (v : Int) = nl (l.set j v) := by simp [nl, List.map_set]
theorem ok_set {l : List Nat} (h : ok l) (j : Nat) {v : Nat} (hv : v < 4294967296) : ok (l.set j v) := fun x hx => by
 rcases List.mem_or_eq_of_mem_set hx with h1 | h1
 ·exact h x h1
 ·rw [h1]; exact hv
theorem getD_set (l : List Nat) (i j v : Nat) (h : i ≠ j) : (l.set i v).getD j 0 = l.getD j 0 := by
 rw [List.getD_eq_getElem?_getD, List.getElem?_set_ne h, List.getD_eq_getElem?_getD]
theorem prod_lt {a b : Nat} (ha : a < 4294967296) (hb : b < 4294967296) : a * b ≤ 18446744065119617025 := by
 have : a * b ≤ 4294967295 * 4294967295 := Nat.mul_le_mul (by omega) (by omega)
 omega

theorem mul_in {s t : Bool} {x y : List Nat} {i ai N base : Nat} {o0 : List Int} (hN : N = x.length + y.length) (hi : i < x.length) (hb : N < 1073741824) (hai : ai < 4294967296) (hy : ok y) :
  ∀ (n k c : Nat) (out : List Nat), n = y.length - k → k ≤ y.length → out.length = N → ok out → c < 4294967296 → (∀ j, i + y.length ≤ j → out.getD j 0 = 0) →
  val out + 4294967296 ^ (i + k) * c = base + 4294967296 ^ i * (ai * val (y.take k)) → ∀ F, n < F →
  ∃ (c' : Nat) (out' : List Nat), iter (p_Whole_Mul_l4 ⟨s, nl x⟩ ⟨t, nl y⟩ ((i : Int), o0) (ai : Int)) F ((c : Int), (k : Int), nl out) = some (Sum.inl ((c' : Int), nl out')) ∧ out'.length = N ∧ ok out' ∧ c' < 4294967296 ∧
   (∀ j, i + y.length ≤ j → out'.getD j 0 = 0) ∧ val out' + 4294967296 ^ (i + y.length) * c' = base + 4294967296 ^ i * (ai * val y) := by
 intro n
 induction n with
 | zero =>
  intro k c out hn hk ho hok hc hz hv F hF
  obtain ⟨F, rfl⟩ : ∃ m, F = m + 1 := ⟨F - 1, by omega⟩
  have hky : k = y.length := by omega
  subst hky
  refine ⟨c, out, ?_, ho, hok, hc, hz, ?_⟩
  ·show p_Whole_Mul_l4 _ _ _ _ _ _ = _
   unfold p_Whole_Mul_l4
   rw [cond_f (by simp [nl_len])]
  ·rw [hv, List.take_of_length_le (Nat.le_refl _)]
 | succ n ih =>
  intro k c out hn hk ho hok hc hz hv F hF
  obtain ⟨F, rfl⟩ : ∃ m, F = m + 1 := ⟨F - 1, by omega⟩
  have hky : k < y.length := by omega
  have bY := okget hy k
  have bo := okget hok (i + k)
  have bp := prod_lt hai bY
  show ∃ (c' : Nat) (out' : List Nat), p_Whole_Mul_l4 _ _ _ _ _ _ = _ ∧ _
  generalize hK : iter (p_Whole_Mul_l4 ⟨s, nl x⟩ ⟨t, nl y⟩ ((i : Int), o0) (ai : Int)) F = K
  unfold p_Whole_Mul_l4
  simp only [nl_len]
  have e1 : ((ai : Nat) : Int) * ((y.getD k 0 : Nat) : Int) = ((ai * y.getD k 0 : Nat) : Int) := by rw [Int.natCast_mul]
  have e2 : ((i : Nat) : Int) + ((k : Nat) : Int) = ((i + k : Nat) : Int) := by omega
  have e3 : (((x.length : Nat) : Int) + ((y.length : Nat) : Int)).toNat = x.length + y.length := by omega
  have e4 : ((ai * y.getD k 0 : Nat) : Int) + ((out.getD (i + k) 0 : Nat) : Int) = ((ai * y.getD k 0 + out.getD (i + k) 0 : Nat) : Int) := by omega
  obtain ⟨S, hS⟩ : ∃ S, S = ai * y.getD k 0 + out.getD (i + k) 0 + c := ⟨_, rfl⟩
  have e5 : ((ai * y.getD k 0 + out.getD (i + k) 0 : Nat) : Int) + (c : Int) = (S : Int) := by omega
  have e6 : ((S : Nat) : Int) / 2 ^ 32 = ((S / 4294967296 : Nat) : Int) := by
   have : (2 : Int) ^ 32 = 4294967296 := by decide
   rw [this]; omega
  have e7 : ((k : Nat) : Int) + 1 = ((k + 1 : Nat) : Int) := by omega
  rw [cond_t (decide_eq_true (by omega)), idx_nl hky, Option.bind_some, w64 (by omega), w64 (by omega), e1, need_pos (inu64 (by omega) (by omega)), e2, need_pos (in64 (by omega) (by omega)), need_pos (by omega), idx_nl (by omega), Option.bind_some]
  rw [w64 (by omega), e4, need_pos (inu64 (by omega) (by omega)), e5, need_pos (inu64 (by omega) (by omega)), need_pos (in64 (by omega) (by omega)), need_pos (by omega), need_pos (by omega), need_pos (by omega), e7, need_pos (in64 (by omega) (by omega)), e6, w32]
  have e8 : (((i + k : Nat) : Int)).toNat = i + k := by omega
  rw [e8, nl_set, ← hK]
  have hlt : i + k < out.length := by omega
  refine ih (k + 1) (S / 4294967296) (out.set (i + k) (S % 4294967296)) (by omega) (by omega) (by simp [ho]) (ok_set hok _ (by omega)) (by omega) (fun j hj => ?_) ?_ F (by omega)
  ·rw [getD_set _ _ _ _ (by omega)]; exact hz j hj
  ·have h1 := val_set out (i + k) (S % 4294967296) hlt
   have h2 : S % 4294967296 + 4294967296 * (S / 4294967296) = S := Nat.mod_add_div _ _
   have h3 : 4294967296 ^ (i + (k + 1)) * (S / 4294967296) = 4294967296 ^ (i + k) * (4294967296 * (S / 4294967296)) := by rw [← Nat.add_assoc, Nat.pow_succ, Nat.mul_assoc]
   have h4 : 4294967296 ^ (i + k) * (S % 4294967296) + 4294967296 ^ (i + k) * (4294967296 * (S / 4294967296)) = 4294967296 ^ (i + k) * (ai * y.getD k 0) + 4294967296 ^ (i + k) * out.getD (i + k) 0 + 4294967296 ^ (i + k) * c := by rw [← Nat.mul_add, h2, hS, Nat.mul_add, Nat.mul_add]
   have h5 : 4294967296 ^ i * (ai * val (y.take (k + 1))) = 4294967296 ^ i * (ai * val (y.take k)) + 4294967296 ^ (i + k) * (ai * y.getD k 0) := by
    rw [val_take_any, Nat.mul_add, Nat.mul_add, Nat.pow_add]
    congr 1
    rw [Nat.mul_left_comm ai, Nat.mul_assoc]
   rw [h3, h5]
   omega

theorem mul_loop {s t : Bool} {x y : List Nat} {N : Nat} (hN : N = x.length + y.length) (hb : N < 1073741824) (hx : ok x) (hy : ok y) {G : Nat} (hG : 1073741826 ≤ G) :
  ∀ (n i : Nat) (out : List Nat), n = x.length - i → i ≤ x.length → out.length = N → ok out → (∀ j, i + y.length ≤ j → out.getD j 0 = 0) → val out = val (x.take i) * val y → ∀ F, n < F →
  ∃ (out' : List Nat), iter (p_Whole_Mul_l2 ⟨s, nl x⟩ ⟨t, nl y⟩ G) F ((i : Int), nl out) = some (Sum.inl (nl out')) ∧ out'.length = N ∧ ok out' ∧ val out' = val x * val y := by
 intro n
 induction n with
 | zero =>
  intro i out hn hi ho hok hz hv F hF
  obtain ⟨F, rfl⟩ : ∃ m, F = m + 1 := ⟨F - 1, by omega⟩
  have hix : i = x.length := by omega
  subst hix
  refine ⟨out, ?_, ho, hok, ?_⟩
  ·show p_Whole_Mul_l2 _ _ _ _ _ = _
   unfold p_Whole_Mul_l2
   rw [cond_f (by simp [nl_len])]
  ·rw [hv, List.take_of_length_le (Nat.le_refl _)]
 | succ n ih =>
  intro i out hn hi ho hok hz hv F hF
  obtain ⟨F, rfl⟩ : ∃ m, F = m + 1 := ⟨F - 1, by omega⟩
  have hix : i < x.length := by omega
  have bx := okget hx i
  show ∃ (out' : List Nat), p_Whole_Mul_l2 _ _ _ _ _ = _ ∧ _
  generalize hK : iter (p_Whole_Mul_l2 ⟨s, nl x⟩ ⟨t, nl y⟩ G) F = K
  unfold p_Whole_Mul_l2
  simp only [nl_len]
  rw [cond_t (decide_eq_true (by omega)), idx_nl hix, Option.bind_some]
  obtain ⟨c, o2, h1, h2, h3, h4, h5, h6⟩ := mul_in (s := s) (t := t) (o0 := nl out) (base := val out) hN hix hb bx hy y.length 0 0 out rfl (Nat.zero_le _) ho hok (by omega) hz (by simp [val]) G (by omega)
  have h1' : iter (p_Whole_Mul_l4 ⟨s, nl x⟩ ⟨t, nl y⟩ ((i : Int), nl out) ((x.getD i 0 : Nat) : Int)) G ((0 : Int), (0 : Int), nl out) = some (Sum.inl ((c : Int), nl o2)) := h1
  rw [h1', Option.bind_some]
  show ∃ (out' : List Nat), p_Whole_Mul_k3 _ _ _ _ _ = _ ∧ _
  unfold p_Whole_Mul_k3
  simp only [nl_len]
  have e2 : ((i : Nat) : Int) + ((y.length : Nat) : Int) = ((i + y.length : Nat) : Int) := by omega
  have e3 : (((x.length : Nat) : Int) + ((y.length : Nat) : Int)).toNat = x.length + y.length := by omega
  have e7 : ((i : Nat) : Int) + 1 = ((i + 1 : Nat) : Int) := by omega
  have e8 : (((i + y.length : Nat) : Int)).toNat = i + y.length := by omega
  rw [e2, need_pos (in64 (by omega) (by omega)), need_pos (by omega), need_pos (by omega), e7, need_pos (in64 (by omega) (by omega)), e8, w32, nl_set, ← hK]
  have hlt : i + y.length < o2.length := by omega
  have e9 : c % 4294967296 = c := by omega
  rw [e9]
  refine ih (i + 1) (o2.set (i + y.length) c) (by omega) (by omega) (by simp [h2]) (ok_set h3 _ h4) (fun j hj => ?_) ?_ F (by omega)
  ·rw [getD_set _ _ _ _ (by omega)]; exact h5 j (by omega)
  ·have g1 := val_set o2 (i + y.length) c hlt
   rw [h5 _ (Nat.le_refl _)] at g1
   have g2 : val (x.take (i + 1)) * val y = val (x.take i) * val y + 4294967296 ^ i * (x.getD i 0 * val y) := by
    rw [val_take_any, Nat.add_mul, Nat.mul_assoc]
   rw [g2]
   omega
theorem val_zeros (n : Nat) : val (List.replicate n 0) = 0 := by
 induction n with
 | zero => rfl
 | succ n ih => simp [List.replicate_succ, val, ih]
theorem ok_zeros (n : Nat) : ok (List.replicate n 0) := fun x hx => by rw [List.eq_of_mem_replicate hx]; omega
theorem nl_zeros (n : Nat) : List.replicate n (0 : Int) = nl (List.replicate n 0) := by simp [nl]

/-! ### numbers -/
/-- the reference's number n -/
def W (n : Int) : TSpec_Whole := ⟨decide (n < 0), nl (limbs n.natAbs)⟩
/-- how many limbs -/
def sz (n : Int) : Nat := (limbs n.natAbs).length
theorem sz_neg (n : Int) : sz (-n) = sz n := by unfold sz; rw [Int.natAbs_neg]
theorem sz_of {n : Int} {m : Nat} (h : n.natAbs < 4294967296 ^ m) : sz n ≤ m := by
 unfold sz
 generalize n.natAbs = a at h
 induction m generalizing a with
 | zero =>
  have : a = 0 := by simpa using h
  subst this; rw [limbs_zero]; simp
 | succ m ih =>
  by_cases ha : a = 0
  ·subst ha; rw [limbs_zero]; simp
  ·rw [limbs_pos ha]
   have := ih (a / 4294967296) (by rw [Nat.pow_succ] at h; exact Nat.div_lt_of_lt_mul (by rw [Nat.mul_comm]; exact h))
   simp; omega
theorem lt_sz (n : Int) : n.natAbs < 4294967296 ^ sz n := by
 have := val_lt (limbs_ok n.natAbs)
 rwa [val_limbs] at this
theorem sz_add (a b : Int) : sz (a + b) ≤ max (sz a) (sz b) + 1 := by
 refine sz_of ?_
 have h1 := lt_sz a
 have h2 := lt_sz b
 have h3 : 4294967296 ^ sz a ≤ 4294967296 ^ max (sz a) (sz b) := Nat.pow_le_pow_right (by omega) (by omega)
 have h4 : 4294967296 ^ sz b ≤ 4294967296 ^ max (sz a) (sz b) := Nat.pow_le_pow_right (by omega) (by omega)
 rw [Nat.pow_succ]
 have := Int.natAbs_add_le a b
 omega
theorem sz_mul (a b : Int) : sz (a * b) ≤ sz a + sz b := by
 refine sz_of ?_
 rw [Int.natAbs_mul, Nat.pow_add]
 exact Nat.mul_lt_mul'' (lt_sz a) (lt_sz b)
theorem limbs_nil {n : Nat} : limbs n = [] ↔ n = 0 := by
 constructor
 ·intro h
  have := val_limbs n
  rw [h] at this; exact this.symm
 ·rintro rfl; exact limbs_zero
theorem W_len (n : Int) : (W n).L.length = sz n := by unfold W sz; rw [nl_len]
theorem sign_p (n : Int) : p_Whole_Sign (W n) = some (if n = 0 then 0 else if n < 0 then -1 else 1) := by
 unfold p_Whole_Sign
 rw [W_len]
 by_cases h : n = 0
 ·subst h
  rw [if_pos rfl, cond_t (decide_eq_true (by unfold sz; rw [show (0 : Int).natAbs = 0 from rfl, limbs_zero]; rfl))]
 ·have : sz n ≠ 0 := fun e => h (by
   have : limbs n.natAbs = [] := List.eq_nil_of_length_eq_zero e
   rw [limbs_nil] at this; omega)
  rw [cond_f (decide_eq_false (by omega)), if_neg h]
  by_cases h0 : n < 0
  ·rw [if_pos h0, cond_t (by simp [W, h0])]
  ·rw [if_neg h0, cond_f (by simp [W]; omega)]
theorem W_zero : W 0 = ⟨false, []⟩ := by
 unfold W
 rw [show (0 : Int).natAbs = 0 from rfl, limbs_zero]; rfl
theorem add_p {a b : Int} (ha : sz a < 1073741824) (hb : sz b < 1073741824) {F : Nat} (hF : 1073741826 ≤ F) : p_Whole_Add F (W a) (W b) = some (W (a + b)) := by
 unfold p_Whole_Add
 have eL : ∀ n : Int, (W n).L = nl (limbs n.natAbs) := fun _ => rfl
 have eN : ∀ n : Int, (W n).Neg = decide (n < 0) := fun _ => rfl
 simp only [eL, eN]
 by_cases hs : (decide (a < 0)) = (decide (b < 0))
 ·rw [cond_t (by simp [hs]), addLimbs_p (limbs_ok _) (limbs_ok _) ha hb hF, Option.bind_some, val_limbs, val_limbs]
  have hs' : a < 0 ↔ b < 0 := decide_eq_decide.1 hs
  have h1 : (a + b).natAbs = a.natAbs + b.natAbs := by omega
  have h2 : decide (a + b < 0) = decide (a < 0) := decide_eq_decide.2 (by omega)
  unfold W
  rw [h1, h2]
 ·rw [cond_f (by simpa using hs), cmp_p ha hb hF, Option.bind_some]
  have hs' : ¬ (a < 0 ↔ b < 0) := fun h => hs (decide_eq_decide.2 h)
  by_cases h1 : a.natAbs = b.natAbs
  ·rw [if_pos h1, cond_t (by rfl)]
   have : a + b = 0 := by omega
   rw [this, W_zero]
  ·rw [if_neg h1]
   by_cases h2 : a.natAbs < b.natAbs
   ·rw [if_pos h2, cond_f (by rfl), cond_f (by rfl), subLimbs_p (limbs_ok _) (limbs_ok _) hb (by
     rcases Nat.lt_or_ge (limbs b.natAbs).length (limbs a.natAbs).length with h | h
     ·have := limbs_len_lt h; omega
     ·exact h) (by rw [val_limbs, val_limbs]; omega) hF, Option.bind_some, val_limbs, val_limbs]
    have h3 : (a + b).natAbs = b.natAbs - a.natAbs := by omega
    have h4 : decide (a + b < 0) = decide (b < 0) := decide_eq_decide.2 (by omega)
    unfold W
    rw [h3, h4]
   ·rw [if_neg h2, cond_f (by rfl), cond_t (by rfl), subLimbs_p (limbs_ok _) (limbs_ok _) ha (by
     rcases Nat.lt_or_ge (limbs a.natAbs).length (limbs b.natAbs).length with h | h
     ·have := limbs_len_lt h; omega
     ·exact h) (by rw [val_limbs, val_limbs]; omega) hF, Option.bind_some, val_limbs, val_limbs]
    have h3 : (a + b).natAbs = a.natAbs - b.natAbs := by omega
    have h4 : decide (a + b < 0) = decide (a < 0) := decide_eq_decide.2 (by omega)
    unfold W
    rw [h3, h4]
theorem mul_p {a b : Int} (h : sz a + sz b < 1073741824) {F : Nat} (hF : 1073741826 ≤ F) : p_Whole_Mul F (W a) (W b) = some (W (a * b)) := by
 obtain ⟨out, h1, h2, h3, h4⟩ := mul_loop (s := decide (a < 0)) (t := decide (b < 0)) (x := limbs a.natAbs) (y := limbs b.natAbs) (N := sz a + sz b) rfl h (limbs_ok _) (limbs_ok _) hF (limbs a.natAbs).length 0 (List.replicate (sz a + sz b) 0) rfl (Nat.zero_le _) (by simp) (ok_zeros _) (fun j hj => by
  rw [List.getD_eq_getElem?_getD, List.getElem?_replicate]; split <;> rfl) (by simp [val, val_zeros]) F (by unfold sz at h; omega)
 unfold p_Whole_Mul
 rw [W_len, W_len]
 have e3 : (((sz a : Nat) : Int) + ((sz b : Nat) : Int)).toNat = sz a + sz b := by omega
 rw [need_pos (in64 (by omega) (by omega)), need_pos (by omega), e3, nl_zeros]
 have h1' : iter (p_Whole_Mul_l2 (W a) (W b) F) F ((0 : Int), nl (List.replicate (sz a + sz b) 0)) = some (Sum.inl (nl out)) := h1
 rw [h1', Option.bind_some]
 show p_Whole_Mul_k1 (W a) (W b) F (nl out) = _
 unfold p_Whole_Mul_k1
 rw [W_len, W_len, e3, nl_len, need_pos h2.symm, trim_p (by omega) (by omega), Option.bind_some, trim_limbs _ h3, h4, val_limbs, val_limbs, nl_len]
 have ev : a.natAbs * b.natAbs = (a * b).natAbs := (Int.natAbs_mul a b).symm
 rw [ev]
 by_cases h0 : a * b = 0
 ·rw [h0]
  rw [cond_f (decide_eq_false (by rw [show (0 : Int).natAbs = 0 from rfl, limbs_zero]; simp)), W_zero, show (0 : Int).natAbs = 0 from rfl, limbs_zero]; rfl
 ·have hne : limbs (a * b).natAbs ≠ [] := fun e => h0 (by rw [limbs_nil] at e; omega)
  have hlen : 0 < (limbs (a * b).natAbs).length := List.length_pos_iff.2 hne
  rw [cond_t (decide_eq_true (by omega))]
  unfold W
  congr 2
  have ha : a ≠ 0 := fun e => h0 (by rw [e, Int.zero_mul])
  have hb : b ≠ 0 := fun e => h0 (by rw [e, Int.mul_zero])
  by_cases h5 : a < 0 <;> by_cases h6 : b < 0
  ·have := Int.mul_pos_of_neg_of_neg h5 h6
   simp [h5, h6]; omega
  ·have := Int.mul_neg_of_neg_of_pos h5 (show 0 < b by omega)
   simp [h5, h6, this]
  ·have := Int.mul_neg_of_pos_of_neg (show 0 < a by omega) h6
   simp [h5, h6, this]
  ·have := Int.mul_pos (show 0 < a by omega) (show 0 < b by omega)
   simp [h5, h6]; omega
end Go.Proofs.YtdchenbdnalbcaaGreatDoor.Wk

namespace Go.Proofs.YtdchenbdnalbcaaGreatDoor.Wk
open Go.Vm Limb
set_option linter.unusedVariables false
set_option linter.unusedSimpArgs false

theorem bits_or32 {a c : Nat} (ha : a < 4294967296) (hc : c < 4294967296) : bits .or .u32 (a : Int) (c : Int) = ((a ||| c : Nat) : Int) := by
 unfold bits
 have e0 : (BitVec.ofInt 32 (a : Int) ||| BitVec.ofInt 32 (c : Int)).toNat = a ||| c := by
  rw [BitVec.toNat_or, BitVec.toNat_ofInt, BitVec.toNat_ofInt]
  have e : ∀ z : Nat, z < 4294967296 → ((z : Int) % ((2 ^ 32 : Nat) : Int)).toNat = z := fun z hz => by omega
  rw [e a ha, e c hc]
 show IntKind.u32.wrap (((BitVec.ofInt 32 (a : Int) ||| BitVec.ofInt 32 (c : Int)).toNat : Nat) : Int) = _
 rw [e0]
 have hlt : a ||| c < 2 ^ 32 := Nat.or_lt_two_pow (by omega) (by omega)
 rw [w32, Nat.mod_eq_of_lt (by omega)]
theorem bits_and64 {a c : Nat} (ha : a < 18446744073709551616) (hc : c < 18446744073709551616) : bits .and .u64 (a : Int) (c : Int) = ((a &&& c : Nat) : Int) := by
 unfold bits
 have e0 : (BitVec.ofInt 64 (a : Int) &&& BitVec.ofInt 64 (c : Int)).toNat = a &&& c := by
  rw [BitVec.toNat_and, BitVec.toNat_ofInt, BitVec.toNat_ofInt]
  have e : ∀ z : Nat, z < 18446744073709551616 → ((z : Int) % ((2 ^ 64 : Nat) : Int)).toNat = z := fun z hz => by omega
  rw [e a ha, e c hc]
 show IntKind.u64.wrap (((BitVec.ofInt 64 (a : Int) &&& BitVec.ofInt 64 (c : Int)).toNat : Nat) : Int) = _
 rw [e0]
 have hle : a &&& c ≤ a := Nat.and_le_left
 rw [w64 (by omega)]

theorem tdiv32 (n : Nat) : Int.tdiv (n : Int) (32 : Int) = ((n / 32 : Nat) : Int) := by rw [Int.tdiv_eq_ediv_of_nonneg (by omega)]; omega
theorem tmod32 (n : Nat) : Int.tmod (n : Int) (32 : Int) = ((n % 32 : Nat) : Int) := by rw [Int.tmod_eq_emod_of_nonneg (by omega)]; omega

theorem up_loop {s : Bool} {x : List Nat} (hx : ok x) {n q r : Nat} (hq : n / 32 = q) (hr : n % 32 = r) (hb : q + x.length < 1073741824) : ∀ (m k c : Nat) (out : List Nat), m = x.length - k → k ≤ x.length → out.length = q + k → ok out → c < 2 ^ r →
  val out + 4294967296 ^ (q + k) * c = 4294967296 ^ q * (2 ^ r * val (x.take k)) → ∀ F, m < F →
  ∃ (c' : Nat) (out' : List Nat), iter (p_Whole_Up_l2 ⟨s, nl x⟩ (n : Int)) F ((c : Int), (k : Int), nl out) = some (Sum.inl ((c' : Int), nl out')) ∧ out'.length = q + x.length ∧ ok out' ∧ c' < 2 ^ r ∧ val out' + 4294967296 ^ (q + x.length) * c' = 4294967296 ^ q * (2 ^ r * val x) := by
 have hr32 : r < 32 := by omega
 have hp : 2 ^ r ≤ 2147483648 := Nat.le_trans (Nat.pow_le_pow_right (by omega) (show r ≤ 31 by omega)) (by decide)
 have hp0 : 0 < 2 ^ r := Nat.two_pow_pos r
 have hpp : 2 ^ r * 2 ^ (32 - r) = 4294967296 := by rw [← Nat.pow_add, show r + (32 - r) = 32 by omega]
 intro m
 induction m with
 | zero =>
  intro k c out hm hk ho hok hc hv F hF
  obtain ⟨F, rfl⟩ : ∃ m, F = m + 1 := ⟨F - 1, by omega⟩
  have hkx : k = x.length := by omega
  subst hkx
  refine ⟨c, out, ?_, ho, hok, hc, ?_⟩
  ·show p_Whole_Up_l2 _ _ _ _ = _
   unfold p_Whole_Up_l2
   rw [cond_f (by simp [nl_len])]
  ·rw [hv, List.take_of_length_le (Nat.le_refl _)]
 | succ m ih =>
  intro k c out hm hk ho hok hc hv F hF
  obtain ⟨F, rfl⟩ : ∃ m, F = m + 1 := ⟨F - 1, by omega⟩
  have hkx : k < x.length := by omega
  have bx := okget hx k
  show ∃ (c' : Nat) (out' : List Nat), p_Whole_Up_l2 _ _ _ _ = _ ∧ _
  generalize hK : iter (p_Whole_Up_l2 ⟨s, nl x⟩ (n : Int)) F = K
  unfold p_Whole_Up_l2
  simp only [nl_len]
  have hS : x.getD k 0 * 2 ^ r ≤ 4294967295 * 2147483648 := Nat.mul_le_mul (by omega) hp
  have eT : (Int.tmod (n : Int) (32 : Int)).toNat = r := by rw [tmod32, hr]; omega
  have hbits : 0 ≤ Int.tmod (n : Int) (32 : Int) ∧ Int.tmod (n : Int) (32 : Int) ≤ (IntKind.u64.bits : Int) := by
   have h64 : ((IntKind.u64.bits : Nat) : Int) = 64 := rfl
   rw [tmod32, h64]; omega
  have e1 : ((x.getD k 0 : Nat) : Int) * 2 ^ r = ((x.getD k 0 * 2 ^ r : Nat) : Int) := by rw [Int.natCast_mul, Int.natCast_pow]; rfl
  rw [cond_t (decide_eq_true (by omega)), idx_nl hkx, Option.bind_some, need_pos (by decide), need_pos hbits, eT, w64 (by omega), e1]
  obtain ⟨S, hSe⟩ : ∃ S, S = x.getD k 0 * 2 ^ r := ⟨_, rfl⟩
  rw [← hSe] at hS
  rw [← hSe, w64 (by omega), w32]
  have hy : S % 4294967296 = x.getD k 0 % 2 ^ (32 - r) * 2 ^ r := by rw [hSe, ← hpp, Nat.mul_comm (2 ^ r) (2 ^ (32 - r)), Nat.mul_mod_mul_right]
  have hor : S % 4294967296 ||| c = S % 4294967296 + c := by
   rw [hy, ← Nat.shiftLeft_eq, Nat.shiftLeft_add_eq_or_of_lt hc]
  have hm1 : S % 4294967296 + c < 4294967296 := by
   have h1 : x.getD k 0 % 2 ^ (32 - r) + 1 ≤ 2 ^ (32 - r) := Nat.mod_lt _ (Nat.two_pow_pos _)
   have h2 := Nat.mul_le_mul_right (2 ^ r) h1
   rw [Nat.add_mul, Nat.mul_comm (2 ^ (32 - r)) (2 ^ r), hpp, ← hy] at h2
   omega
  have e6 : ((S : Nat) : Int) / 2 ^ 32 = ((S / 4294967296 : Nat) : Int) := by
   have : (2 : Int) ^ 32 = 4294967296 := by decide
   rw [this]; omega
  have e7 : ((k : Nat) : Int) + 1 = ((k + 1 : Nat) : Int) := by omega
  have hd : S / 4294967296 < 2 ^ r := by
   rw [hSe]
   apply Nat.div_lt_of_lt_mul
   exact Nat.mul_lt_mul_of_pos_right bx hp0
  have hd2 : S / 4294967296 % 4294967296 = S / 4294967296 := Nat.mod_eq_of_lt (by omega)
  rw [bits_or32 (by omega) (by omega), hor, need_pos (by simp only [List.length_singleton]; omega), need_pos (by omega), e7, need_pos (in64 (by omega) (by omega)), e6, w32, hd2, nl_one, nl_append, ← hK]
  refine ih (k + 1) (S / 4294967296) (out ++ [S % 4294967296 + c]) (by omega) (by omega) (by simp [ho]; omega) (fun z hz => ?_) hd ?_ F (by omega)
  ·rcases List.mem_append.1 hz with h | h
   ·exact hok z h
   ·rw [List.mem_singleton.1 h]; exact hm1
  ·rw [val_append, ho, val_take_any]
   have h1 : val [S % 4294967296 + c] = S % 4294967296 + c := by simp [val]
   have h2 : S % 4294967296 + 4294967296 * (S / 4294967296) = S := Nat.mod_add_div _ _
   have h3 : 4294967296 ^ (q + (k + 1)) * (S / 4294967296) = 4294967296 ^ (q + k) * (4294967296 * (S / 4294967296)) := by rw [← Nat.add_assoc, Nat.pow_succ, Nat.mul_assoc]
   have h4 : 4294967296 ^ (q + k) * (S % 4294967296 + c) + 4294967296 ^ (q + k) * (4294967296 * (S / 4294967296)) = 4294967296 ^ (q + k) * S + 4294967296 ^ (q + k) * c := by rw [← Nat.mul_add, ← Nat.mul_add]; congr 1; omega
   have h5 : 4294967296 ^ q * (2 ^ r * (val (x.take k) + 4294967296 ^ k * x.getD k 0)) = 4294967296 ^ q * (2 ^ r * val (x.take k)) + 4294967296 ^ (q + k) * S := by
    rw [Nat.mul_add, Nat.mul_add, Nat.pow_add, hSe]
    congr 1
    rw [Nat.mul_left_comm (2 ^ r), Nat.mul_assoc, Nat.mul_comm (2 ^ r) (x.getD k 0)]
   rw [h1, h3, h5]
   omega
theorem up_p {a : Int} {n : Nat} (h : sz a + n / 32 < 1073741000) {F : Nat} (hF : 1073741826 ≤ F) : p_Whole_Up F (W a) (n : Int) = some (W (a * 2 ^ n)) := by
 unfold p_Whole_Up
 rw [W_len]
 by_cases h0 : sz a = 0
 ·have ha : a = 0 := by
   have : limbs a.natAbs = [] := List.eq_nil_of_length_eq_zero h0
   rw [limbs_nil] at this; omega
  subst ha
  rw [cond_t (decide_eq_true (by omega)), Int.zero_mul]
 ·have ha : a ≠ 0 := fun e => h0 (by subst e; unfold sz; rw [show (0 : Int).natAbs = 0 from rfl, limbs_zero]; rfl)
  obtain ⟨c, out, h1, h2, h3, h4, h5⟩ := up_loop (s := decide (a < 0)) (limbs_ok a.natAbs) (n := n) rfl rfl (show n / 32 + sz a < 1073741824 by omega) (limbs a.natAbs).length 0 0 (List.replicate (n / 32) 0) rfl (Nat.zero_le _) (by simp) (ok_zeros _) (Nat.two_pow_pos _) (by simp [val, val_zeros]) F (by unfold sz at h; omega)
  rw [cond_f (decide_eq_false (by omega)), tdiv32, need_pos ⟨by decide, in64 (by omega) (by omega)⟩, need_pos ⟨by decide, in64 (by omega) (by omega)⟩, need_pos (in64 (by omega) (by omega)), need_pos (in64 (by omega) (by omega)), need_pos (by omega)]
  have et : (((n / 32 : Nat) : Int)).toNat = n / 32 := by omega
  rw [et, nl_zeros]
  have h1' : iter (p_Whole_Up_l2 (W a) (n : Int)) F ((0 : Int), (0 : Int), nl (List.replicate (n / 32) 0)) = some (Sum.inl ((c : Int), nl out)) := h1
  rw [h1', Option.bind_some]
  show p_Whole_Up_k1 (W a) F ((c : Int), nl out) = _
  unfold p_Whole_Up_k1
  have hc : c < 4294967296 := Nat.lt_of_lt_of_le h4 (Nat.le_trans (Nat.pow_le_pow_right (by omega) (show n % 32 ≤ 31 by omega)) (by decide))
  have hl : (limbs a.natAbs).length = sz a := rfl
  rw [need_pos (by simp only [nl_len, List.length_singleton]; omega), nl_one, nl_append, trim_p (by simp; omega) (by simp; omega), Option.bind_some, trim_limbs _ (fun z hz => by
   rcases List.mem_append.1 hz with h | h
   ·exact h3 z h
   ·rw [List.mem_singleton.1 h]; exact hc)]
  have ev : val (out ++ [c]) = (a * 2 ^ n).natAbs := by
   have e1 : val [c] = c := by simp [val]
   rw [val_append, h2, e1, h5, val_limbs, Int.natAbs_mul, Int.natAbs_pow]
   have e2 : (2 : Int).natAbs = 2 := rfl
   have e3 : (4294967296 : Nat) = 2 ^ 32 := rfl
   rw [e2, e3, ← Nat.pow_mul, ← Nat.mul_assoc, ← Nat.pow_add, Nat.mul_comm, Nat.div_add_mod]
  rw [ev]
  have hpos : (0 : Int) < 2 ^ n := Int.pow_pos (by decide)
  have en : decide (a * 2 ^ n < 0) = decide (a < 0) := decide_eq_decide.2 ⟨fun h => by
   by_cases h' : a < 0
   ·exact h'
   ·have := Int.mul_nonneg (show 0 ≤ a by omega) (Int.le_of_lt hpos); omega, fun h => Int.mul_neg_of_neg_of_pos h hpos⟩
  show some (TSpec_Whole.mk (W a).Neg _) = some (W _)
  unfold W
  rw [en]
theorem sz_up (a : Int) (n : Nat) : sz (a * 2 ^ n) ≤ sz a + n / 32 + 1 := by
 refine sz_of ?_
 rw [Int.natAbs_mul, Int.natAbs_pow, show (2 : Int).natAbs = 2 from rfl, Nat.add_assoc, Nat.pow_add]
 have h1 := lt_sz a
 have h2 : 2 ^ n ≤ 4294967296 ^ (n / 32 + 1) := by
  rw [show (4294967296 : Nat) = 2 ^ 32 from rfl, ← Nat.pow_mul]
  exact Nat.pow_le_pow_right (by omega) (by omega)
 exact Nat.lt_of_lt_of_le (Nat.mul_lt_mul_of_pos_right h1 (Nat.two_pow_pos n)) (Nat.mul_le_mul_left _ h2)

/-! ### numbers of the machine -/
theorem two64 (u : Nat) (hu : u < 18446744073709551616) {F : Nat} (hF : 3 < F) : p_trim F [(IntKind.u32.wrap (u : Int)), (IntKind.u32.wrap ((u : Int) / 2 ^ 32))] = some (nl (limbs u)) := by
 have e6 : ((u : Nat) : Int) / 2 ^ 32 = ((u / 4294967296 : Nat) : Int) := by
  have : (2 : Int) ^ 32 = 4294967296 := by decide
  rw [this]; omega
 have e7 : u / 4294967296 % 4294967296 = u / 4294967296 := by omega
 rw [e6, w32, w32, e7]
 show p_trim F (nl [u % 4294967296, u / 4294967296]) = _
 rw [trim_p (by simp; omega) (by simp), trim_limbs _ (fun x hx => by simp at hx; omega)]
 have : val [u % 4294967296, u / 4294967296] = u := by simp [val]; omega
 rw [this]
theorem wholeOf_p {m : Int} (h1 : -9223372036854775808 ≤ m) (h2 : m ≤ 9223372036854775807) {F : Nat} (hF : 3 < F) : p_WholeOf F m = some (W m) := by
 unfold p_WholeOf
 have key : ∀ u : Nat, u = m.natAbs → p_WholeOf_k1 m F (u : Int) = some (W m) := fun u hu => by
  unfold p_WholeOf_k1
  rw [need_pos (by omega), two64 u (by omega) hF, Option.bind_some, hu]; rfl
 by_cases h : m < 0
 ·rw [cond_t (decide_eq_true h)]
  have e : IntKind.u64.wrap (-(IntKind.u64.wrap m)) = ((m.natAbs : Nat) : Int) := by
   simp only [IntKind.wrap, IntKind.bits, IntKind.signed, Bool.false_and]
   simp
   omega
  rw [e]; exact key _ rfl
 ·rw [cond_f (decide_eq_false h)]
  have e : IntKind.u64.wrap m = ((m.natAbs : Nat) : Int) := by
   rw [show m = ((m.natAbs : Nat) : Int) by omega, w64 (by omega)]; omega
  rw [e]; exact key _ rfl

/-- what a word stands for -/
theorem V_read {x : Nat} {q : Rat} (h : Flt.V x = some q) : x % 9223372036854775808 < 9218868437227405312 ∧
  q = Flt.sg (x / 9223372036854775808 % 2 == 1) (if x % 9223372036854775808 < 4503599627370496 then ((x % 9223372036854775808 : Nat) : Rat) * (2 : Rat) ^ (-1074 : Int)
   else ((4503599627370496 + x % 9223372036854775808 % 4503599627370496 : Nat) : Rat) * (2 : Rat) ^ ((-1074 : Int) + ((x % 9223372036854775808 / 4503599627370496 - 1 : Nat) : Int))) := by
 unfold Flt.V Ieee.Format.read at h
 simp only [Flt.double_sw, Flt.double_bn, Flt.double_ir, Flt.double_lp] at h
 by_cases h1 : x % 9223372036854775808 < 4503599627370496
 ·rw [if_pos h1] at h
  refine ⟨by omega, ?_⟩
  rw [if_pos h1]
  exact (Option.some.inj h).symm
 ·rw [if_neg h1] at h
  by_cases h2 : x % 9223372036854775808 < 9218868437227405312
  ·rw [if_pos h2] at h
   refine ⟨h2, ?_⟩
   rw [if_neg h1]
   exact (Option.some.inj h).symm
  ·rw [if_neg h2] at h
   split at h <;> cases h
theorem dyadicOf_p {x : Nat} {q : Rat} (hx : x < 18446744073709551616) (h : Flt.V x = some q) {F : Nat} (hF : 3 < F) :
  ∃ (n e : Int), p_DyadicOf F x = some ⟨W n, e⟩ ∧ q = (n : Rat) * (2 : Rat) ^ e ∧ n.natAbs < 9007199254740992 ∧ -1074 ≤ e ∧ e ≤ 1000 := by
 obtain ⟨hfin, hq⟩ := V_read h
 have eP : ∀ k : Nat, ((x : Nat) : Int) / 2 ^ k = ((x / 2 ^ k : Nat) : Int) := fun k => by rw [Int.natCast_ediv, Int.natCast_pow]; rfl
 have hE : bits .and .u64 (((x : Nat) : Int) / 2 ^ 52) (2047 : Int) = ((x / 4503599627370496 % 2048 : Nat) : Int) := by
  have := bits_and64 (a := x / 4503599627370496) (c := 2047) (by omega) (by omega)
  rw [show (2047 : Nat) = 2 ^ 11 - 1 from rfl, Nat.and_two_pow_sub_one_eq_mod] at this
  rw [eP]; exact this
 have hM : bits .and .u64 ((x : Nat) : Int) (4503599627370495 : Int) = ((x % 4503599627370496 : Nat) : Int) := by
  have := bits_and64 (a := x) (c := 4503599627370495) hx (by omega)
  rw [show (4503599627370495 : Nat) = 2 ^ 52 - 1 from rfl, Nat.and_two_pow_sub_one_eq_mod] at this
  exact this
 have wI : ∀ z : Nat, z < 9223372036854775808 → IntKind.i64.wrap (z : Int) = (z : Int) := fun z hz => wrap_in .i64 _ (by simp only [lo]; omega) (by simp only [hi]; omega)
 have key : ∀ (m : Nat) (e : Int), m < 9007199254740992 → 1 ≤ e → e ≤ 2046 → q = Flt.sg (x / 9223372036854775808 % 2 == 1) ((m : Rat) * (2 : Rat) ^ (e - 1075)) →
   ∃ (n e' : Int), p_DyadicOf_k1 x F ((m : Int), e) = some ⟨W n, e'⟩ ∧ q = (n : Rat) * (2 : Rat) ^ e' ∧ n.natAbs < 9007199254740992 ∧ -1074 ≤ e' ∧ e' ≤ 1000 := by
  intro m e hm he1 he2 hqe
  unfold p_DyadicOf_k1
  rw [need_pos (by omega), eP]
  by_cases hs : x / 9223372036854775808 = 1
  ·rw [cond_t (decide_eq_true (by show ((x / 9223372036854775808 : Nat) : Int) = 1; omega)), need_pos (in64m (by simp only; omega) (by simp only; omega)), wholeOf_p (by omega) (by omega) hF, Option.bind_some, need_pos (in64m (by simp only; omega) (by simp only; omega))]
   refine ⟨-(m : Int), e - 1075, rfl, ?_, by omega, by omega, by omega⟩
   rw [hqe, hs]
   simp [Flt.sg, Rat.intCast_neg, Rat.neg_mul, Rat.intCast_natCast]
  ·rw [cond_f (decide_eq_false (by show ¬ ((x / 9223372036854775808 : Nat) : Int) = 1; omega)), wholeOf_p (by simp only; omega) (by simp only; omega) hF, Option.bind_some, need_pos (in64m (by simp only; omega) (by simp only; omega))]
   refine ⟨(m : Int), e - 1075, rfl, ?_, by omega, by omega, by omega⟩
   have : x / 9223372036854775808 = 0 := by omega
   rw [hqe, this]
   simp [Flt.sg, Rat.intCast_natCast]
 unfold p_DyadicOf
 rw [need_pos (by omega), hE, wI _ (by omega), hM, wI _ (by omega), cond_f (decide_eq_false (by omega))]
 by_cases h0 : x / 4503599627370496 % 2048 = 0
 ·rw [cond_t (decide_eq_true (by omega))]
  refine key _ 1 (by omega) (by omega) (by omega) ?_
  rw [hq, if_pos (by omega)]
  have : x % 9223372036854775808 = x % 4503599627370496 := by omega
  rw [this]; rfl
 ·rw [cond_f (decide_eq_false (by omega)), need_pos (in64m (by omega) (by omega))]
  have e1 : ((x % 4503599627370496 : Nat) : Int) + 4503599627370496 = ((x % 4503599627370496 + 4503599627370496 : Nat) : Int) := by omega
  rw [e1]
  refine key _ ((x / 4503599627370496 % 2048 : Nat) : Int) (by omega) (by omega) (by omega) ?_
  rw [hq, if_neg (by omega)]
  have e2 : 4503599627370496 + x % 9223372036854775808 % 4503599627370496 = x % 4503599627370496 + 4503599627370496 := by omega
  have e3 : (-1074 : Int) + ((x % 9223372036854775808 / 4503599627370496 - 1 : Nat) : Int) = ((x / 4503599627370496 % 2048 : Nat) : Int) - 1075 := by omega
  rw [e2, e3]
end Go.Proofs.YtdchenbdnalbcaaGreatDoor.Wk

namespace Go.Proofs.YtdchenbdnalbcaaGreatDoor.Wk
open Go.Vm Limb
set_option linter.unusedVariables false
set_option linter.unusedSimpArgs false
/-- d is the number q, of m limbs at most, its exponent at most k -/
def Dyd (d : TSpec_Dyadic) (q : Rat) (m k : Nat) : Prop := ∃ (n e : Int), d = ⟨W n, e⟩ ∧ q = (n : Rat) * (2 : Rat) ^ e ∧ sz n ≤ m ∧ -(k : Int) ≤ e ∧ e ≤ k
def BigF (F : Nat) : Prop := 1073741826 ≤ F
def sgR (q : Rat) : Int := if q = 0 then 0 else if q < 0 then -1 else 1
theorem sg_dy {n e : Int} : sgR ((n : Rat) * (2 : Rat) ^ e) = if n = 0 then 0 else if n < 0 then -1 else 1 := by
 have hp : (0 : Rat) < (2 : Rat) ^ e := Flt.zpow_pos e
 have h0 : ((n : Rat) * (2 : Rat) ^ e = 0) ↔ n = 0 := by
  constructor
  ·intro h
   rcases Rat.mul_eq_zero.1 h with h | h
   ·exact Rat.intCast_inj.1 h
   ·grind
  ·rintro rfl; simp
 have h1 : ((n : Rat) * (2 : Rat) ^ e < 0) ↔ n < 0 := by
  constructor
  ·intro h
   by_cases hn : n < 0
   ·exact hn
   ·have : (0 : Rat) ≤ (n : Rat) := by
     have := Rat.intCast_le_intCast.2 (show 0 ≤ n by omega); simpa using this
    have := Rat.mul_nonneg this (Rat.le_of_lt hp); grind
  ·intro h
   have h2 : (n : Rat) < 0 := by have := Rat.intCast_lt_intCast.2 h; simpa using this
   have := Rat.mul_lt_mul_of_pos_right h2 hp
   simpa using this
 unfold sgR
 simp only [h0, h1]
theorem Dyd.mono {d : TSpec_Dyadic} {q : Rat} {m k m' k' : Nat} (h : Dyd d q m k) (hm : m ≤ m') (hk : k ≤ k') : Dyd d q m' k' := by
 obtain ⟨n, e, h1, h2, h3, h4, h5⟩ := h
 exact ⟨n, e, h1, h2, by omega, by omega, by omega⟩
theorem dyd_of {x : Nat} {q : Rat} (hx : x < 18446744073709551616) (h : Flt.V x = some q) {F : Nat} (hF : BigF F) : ∃ d, p_DyadicOf F x = some d ∧ Dyd d q 2 1074 := by
 obtain ⟨n, e, h1, h2, h3, h4, h5⟩ := dyadicOf_p hx h (F := F) (by unfold BigF at hF; omega)
 exact ⟨_, h1, n, e, rfl, h2, sz_of (by
  have : (4294967296 : Nat) ^ 2 = 18446744073709551616 := by decide
  omega), by omega, by omega⟩
theorem dyd_sign {d : TSpec_Dyadic} {q : Rat} {m k : Nat} (h : Dyd d q m k) : p_Dyadic_Sign d = some (sgR q) := by
 obtain ⟨n, e, rfl, rfl, _⟩ := h
 unfold p_Dyadic_Sign
 rw [sign_p, Option.bind_some, sg_dy]
theorem dyd_mul {a b : TSpec_Dyadic} {p q : Rat} {m k m' k' : Nat} (ha : Dyd a p m k) (hb : Dyd b q m' k') (hm : m + m' < 1000000) (hk : k + k' < 1000000) {F : Nat} (hF : BigF F) : ∃ d, p_Dyadic_Mul F a b = some d ∧ Dyd d (p * q) (m + m') (k + k') := by
 obtain ⟨n, e, rfl, rfl, h1, h2, h3⟩ := ha
 obtain ⟨n', e', rfl, rfl, h1', h2', h3'⟩ := hb
 unfold p_Dyadic_Mul
 rw [mul_p (by omega) hF, Option.bind_some, need_pos (in64m (by simp only; omega) (by simp only; omega))]
 refine ⟨_, rfl, n * n', e + e', rfl, ?_, ?_, by omega, by omega⟩
 ·rw [Rat.intCast_mul, Flt.zpow_add]; grind
 ·have := sz_mul n n'; omega
theorem dyd_add {a b : TSpec_Dyadic} {p q : Rat} {m k m' k' : Nat} (ha : Dyd a p m k) (hb : Dyd b q m' k') (hm : m + m' < 1000000) (hk : k + k' < 1000000) {F : Nat} (hF : BigF F) : ∃ d, p_Dyadic_Add F a b = some d ∧ Dyd d (p + q) (m + m' + (k + k') / 32 + 3) (k + k') := by
 have sa := dyd_sign ha
 have sb := dyd_sign hb
 unfold p_Dyadic_Add
 rw [sa, Option.bind_some]
 by_cases hp : p = 0
 ·rw [cond_t (decide_eq_true (by unfold sgR; rw [if_pos hp]))]
  refine ⟨b, rfl, ?_⟩
  rw [hp, Rat.zero_add]; exact hb.mono (by omega) (by omega)
 ·have hsp : ¬ sgR p = 0 := by unfold sgR; rw [if_neg hp]; split <;> decide
  rw [cond_f (decide_eq_false hsp), sb, Option.bind_some]
  by_cases hq : q = 0
  ·rw [cond_t (decide_eq_true (by unfold sgR; rw [if_pos hq]))]
   refine ⟨a, rfl, ?_⟩
   rw [hq, Rat.add_zero]; exact ha.mono (by omega) (by omega)
  ·have hsq : ¬ sgR q = 0 := by unfold sgR; rw [if_neg hq]; split <;> decide
   rw [cond_f (decide_eq_false hsq)]
   obtain ⟨n, e, rfl, rfl, h1, h2, h3⟩ := ha
   obtain ⟨n', e', rfl, rfl, h1', h2', h3'⟩ := hb
   have key : ∀ (x y : Int) (u v : Int), v ≤ u → u - v ≤ (k + k' : Nat) → sz x + sz y ≤ m + m' → ∃ N : Nat, u - v = (N : Int) ∧ p_Whole_Up F (W x) (u - v) = some (W (x * 2 ^ N)) ∧ p_Whole_Add F (W (x * 2 ^ N)) (W y) = some (W (x * 2 ^ N + y)) ∧
     ((x * 2 ^ N + y : Int) : Rat) * (2 : Rat) ^ v = (x : Rat) * (2 : Rat) ^ u + (y : Rat) * (2 : Rat) ^ v ∧ sz (x * 2 ^ N + y) ≤ m + m' + (k + k') / 32 + 3 := by
    intro x y u v huv hk2 hs
    obtain ⟨N, hN⟩ : ∃ N : Nat, u - v = (N : Int) := ⟨(u - v).toNat, by omega⟩
    have hsz := sz_up x N
    have hNk : N / 32 ≤ (k + k') / 32 := Nat.div_le_div_right (by omega)
    have hF' : 1073741826 ≤ F := hF
    refine ⟨N, hN, by rw [hN]; exact up_p (by omega) hF, add_p (by omega) (by omega) hF, ?_, ?_⟩
    ·have e1 : u = v + (N : Int) := by omega
     rw [e1, Flt.zpow_add, Flt.zpow_nat, Rat.intCast_add, Rat.intCast_mul, Rat.intCast_pow]
     have e2 : ((2 ^ N : Nat) : Rat) = (2 : Rat) ^ N := Rat.natCast_pow 2 N
     have e3 : ((2 : Int) : Rat) = 2 := rfl
     rw [e2, e3]; grind
    ·have := sz_add (x * 2 ^ N) y
     omega
   by_cases he : e' < e
   ·obtain ⟨N, k0, k1, k2, k3, k4⟩ := key n n' e e' (by omega) (by omega) (by omega)
    rw [cond_t (decide_eq_true he), need_pos (in64m (by simp only; omega) (by simp only; omega))]
    simp only
    rw [k1, Option.bind_some, k2, Option.bind_some]
    exact ⟨_, rfl, _, e', rfl, k3.symm, k4, by omega, by omega⟩
   ·obtain ⟨N, k0, k1, k2, k3, k4⟩ := key n' n e' e (by omega) (by omega) (by omega)
    rw [cond_f (decide_eq_false he), need_pos (in64m (by simp only; omega) (by simp only; omega))]
    simp only
    rw [k1, Option.bind_some, k2, Option.bind_some]
    refine ⟨_, rfl, _, e, rfl, ?_, k4, by omega, by omega⟩
    rw [k3, Rat.add_comm]
end Go.Proofs.YtdchenbdnalbcaaGreatDoor.Wk

namespace Go.Proofs.YtdchenbdnalbcaaGreatDoor.Wk
open Go.Vm Limb
set_option linter.unusedVariables false
set_option linter.unusedSimpArgs false
theorem minus_p (n : Int) : p_Whole_Minus (W n) = some (W (-n)) := by
 unfold p_Whole_Minus W
 simp only
 have hz : (nl (limbs n.natAbs)).length = 0 ↔ n = 0 := by
  rw [nl_len, List.length_eq_zero_iff, limbs_nil, Int.natAbs_eq_zero]
 by_cases h : n < 0
 ·rw [show (!decide (n < 0)) = false by simp [h], Int.natAbs_neg, show decide (-n < 0) = false by simp; omega]; rfl
 ·rw [show (!decide (n < 0)) = true by simp [h], Int.natAbs_neg]
  simp only [cond_true]
  congr 2
  apply decide_eq_decide.2
  constructor
  ·intro h1
   have : ¬ n = 0 := fun e => by have := hz.2 e; omega
   omega
  ·intro h1
   have : ¬ (nl (limbs n.natAbs)).length = 0 := fun e => by have := hz.1 e; omega
   omega
theorem dyd_minus {d : TSpec_Dyadic} {q : Rat} {m k : Nat} (h : Dyd d q m k) : ∃ d', p_Dyadic_Minus d = some d' ∧ Dyd d' (-q) m k := by
 obtain ⟨n, e, rfl, rfl, h1, h2, h3⟩ := h
 unfold p_Dyadic_Minus
 rw [minus_p, Option.bind_some]
 refine ⟨_, rfl, -n, e, rfl, ?_, by rw [sz_neg]; exact h1, h2, h3⟩
 rw [Rat.intCast_neg]; grind
theorem dyd_sub {a b : TSpec_Dyadic} {p q : Rat} {m k m' k' : Nat} (ha : Dyd a p m k) (hb : Dyd b q m' k') (hm : m + m' < 1000000) (hk : k + k' < 1000000) {F : Nat} (hF : BigF F) : ∃ d, p_Dyadic_Sub F a b = some d ∧ Dyd d (p - q) (m + m' + (k + k') / 32 + 3) (k + k') := by
 obtain ⟨b', h1, hb'⟩ := dyd_minus hb
 obtain ⟨d, h2, hd⟩ := dyd_add ha hb' hm hk hF
 refine ⟨d, ?_, ?_⟩
 ·unfold p_Dyadic_Sub; rw [h1, Option.bind_some, h2, Option.bind_some]
 ·rw [Rat.sub_eq_add_neg]; exact hd
theorem dyd_cmp {a b : TSpec_Dyadic} {p q : Rat} {m k m' k' : Nat} (ha : Dyd a p m k) (hb : Dyd b q m' k') (hm : m + m' < 1000000) (hk : k + k' < 1000000) {F : Nat} (hF : BigF F) : p_Dyadic_Cmp F a b = some (sgR (p - q)) := by
 obtain ⟨d, h1, hd⟩ := dyd_sub ha hb hm hk hF
 unfold p_Dyadic_Cmp
 rw [h1, Option.bind_some, dyd_sign hd, Option.bind_some]
theorem sgR_neg {q : Rat} : sgR q < 0 ↔ q < 0 := by
 unfold sgR
 split
 ·rename_i h; subst h; simp
 ·split
  ·rename_i h; simp [h]
  ·rename_i h; simp [h]
theorem sgR_int (n : Int) : sgR (n : Rat) = if n = 0 then 0 else if n < 0 then -1 else 1 := by
 have := @sg_dy n 0
 rw [Flt.zpow_zero', Rat.mul_one] at this
 exact this
end Go.Proofs.YtdchenbdnalbcaaGreatDoor.Wk

namespace Go.Proofs.YtdchenbdnalbcaaGreatDoor.Wk
open Go.Vm
set_option linter.unusedVariables false
set_option linter.unusedSimpArgs false
theorem wholeTo_p {F : Nat} (hF : BigF F) (m : Nat) (l : List Nat) (hl : l.length < 1000) : p_wholeTo F m l = some (l.all (Flt.wT m)) := by
 have hF' : 1073741826 ≤ F := hF
 unfold p_wholeTo
 have outer : iter (p_wholeTo_l2 m l) F (0 : Int) = some (if l.all (Flt.wT m) = true then Sum.inl () else Sum.inr false) := by
  refine scan_loop0 l _ _ _ (fun K k hk => ?_) (fun K k x hx => ?_) (by omega)
  ·unfold p_wholeTo_l2; rw [cond_f (decide_eq_false (by omega))]
  ·have hk := (List.getElem?_eq_some_iff.1 hx).1
   unfold p_wholeTo_l2
   rw [cond_t (decide_eq_true (by omega)), idx_get hx, Option.bind_some, succ_cast]
   cases g1 : feq x (Flt.truncN x) with
   | false => rw [cond_t (show (!false) = true from rfl), if_neg (by simp [Flt.wT, g1])]
   | true =>
    rw [cond_f (show (!true) = false from rfl)]
    cases g2 : fgt (Flt.fabs x) m with
    | true => rw [cond_t rfl, if_neg (by simp [Flt.wT, g2])]
    | false => rw [cond_f rfl, need_pos (in64 (by omega) (by omega)), if_pos (by simp [Flt.wT, g1, g2])]
 rw [outer, Option.bind_some]
 split
 ·rename_i h; rw [h, aft_inl]; rfl
 ·rename_i h; rw [aft_inr, show l.all (Flt.wT m) = false by simpa using h]
def planeOk (m : Nat) (p : TImpl_P2) : Bool := Flt.wT m p.X && Flt.wT m p.Y
theorem planeTo_p {F : Nat} (hF : BigF F) (m : Nat) (l : List TImpl_P2) (hl : l.length < 1000) : p_planeTo F m l = some (l.all (planeOk m)) := by
 have hF' : 1073741826 ≤ F := hF
 unfold p_planeTo
 have outer : iter (p_planeTo_l2 m l F) F (0 : Int) = some (if l.all (planeOk m) = true then Sum.inl () else Sum.inr false) := by
  refine scan_loop0 l _ _ _ (fun K k hk => ?_) (fun K k x hx => ?_) (by omega)
  ·unfold p_planeTo_l2; rw [cond_f (decide_eq_false (by omega))]
  ·have hk := (List.getElem?_eq_some_iff.1 hx).1
   unfold p_planeTo_l2
   rw [cond_t (decide_eq_true (by omega)), idx_get hx, Option.bind_some, succ_cast, wholeTo_p hF m _ (by simp), Option.bind_some]
   have e : [x.X, x.Y].all (Flt.wT m) = planeOk m x := by simp [planeOk]
   rw [e]
   cases planeOk m x with
   | false => rw [cond_t (show (!false) = true from rfl), if_neg (by simp)]
   | true => rw [cond_f (show (!true) = false from rfl), need_pos (in64 (by omega) (by omega)), if_pos rfl]
 rw [outer, Option.bind_some]
 split
 ·rename_i h; rw [h, aft_inl]; rfl
 ·rename_i h; rw [aft_inr, show l.all (planeOk m) = false by simpa using h]
/-- p is the place (x, y), whole -/
def At (p : TImpl_P2) (x y : Int) : Prop := Flt.I p.X x ∧ Flt.I p.Y y
theorem at_of {m : Nat} {k : Int} (hk : Flt.I m k) (hk0 : 0 ≤ k) (hk1 : k ≤ 4503599627370496) {p : TImpl_P2} (h : planeOk m p = true) : ∃ x y, At p x y ∧ (-k ≤ x ∧ x ≤ k) ∧ (-k ≤ y ∧ y ≤ k) := by
 simp only [planeOk, Bool.and_eq_true] at h
 obtain ⟨x, h1, h2⟩ := Flt.wT_int hk hk0 hk1 (Flt.fneg_int hk) h.1
 obtain ⟨y, h3, h4⟩ := Flt.wT_int hk hk0 hk1 (Flt.fneg_int hk) h.2
 exact ⟨x, y, ⟨h1, h3⟩, h2, h4⟩
/-- d is the exact point (x, y) -/
def DydAt (d : TSpec_Point) (x y : Rat) : Prop := Dyd d.X x 2 1074 ∧ Dyd d.Y y 2 1074
end Go.Proofs.YtdchenbdnalbcaaGreatDoor.Wk

set_option linter.unusedVariables false
set_option linter.unusedSimpArgs false
namespace Go.Proofs.YtdchenbdnalbcaaGreatDoor.Wk
open Go.Vm
/-- The same, where only the bound counts. -/
theorem fold_ex {α σ St V T : Type} (L : List α) (b : (St → Option (Sum V T)) → St → Option (Sum V T)) (mk : Nat → σ → St) (out : σ → V) (Inv : Nat → σ → Prop)
  (hend : ∀ K s, Inv L.length s → b K (mk L.length s) = some (.inl (out s)))
  (hstep : ∀ i x s, L[i]? = some x → Inv i s → ∃ s', Inv (i + 1) s' ∧ ∀ K, b K (mk i s) = K (mk (i + 1) s')) :
  ∀ (F i : Nat) (s : σ), L.length - i < F → i ≤ L.length → Inv i s → ∃ s', Inv L.length s' ∧ iter b F (mk i s) = some (.inl (out s')) := by
 intro F
 induction F with
 | zero => intro i s h; omega
 | succ F ih =>
  intro i s h hi hs
  show ∃ s', Inv L.length s' ∧ b (iter b F) (mk i s) = _
  by_cases hk : i < L.length
  ·have hx : L[i]? = some L[i] := List.getElem?_eq_getElem hk
   obtain ⟨s', h1, h2⟩ := hstep i _ s hx hs
   rw [h2]
   exact ih (i + 1) _ (by omega) (by omega) h1
  ·have : i = L.length := by omega
   subst this
   exact ⟨s, hs, hend _ s hs⟩
theorem dlt {i n : Nat} (h : i < n) : decide ((i : Int) < (n : Int)) = true := decide_eq_true (by omega)
theorem dge {n : Nat} : decide ((n : Int) < (n : Int)) = false := decide_eq_false (by omega)
theorem lt_get {α : Type} {l : List α} {i : Nat} {x : α} (h : l[i]? = some x) : i < l.length := (List.getElem?_eq_some_iff.1 h).1
theorem i64s {k : Nat} (h : k < 4611686018427387904) : inI .i64 ((k : Int) + 1) := in64 (by omega) (by omega)
end Go.Proofs.YtdchenbdnalbcaaGreatDoor.Wk

set_option linter.unusedVariables false
set_option linter.unusedSimpArgs false
namespace Go.Proofs.YtdchenbdnalbcaaGreatDoor.Wk
open Go.Vm
/-- A loop through a list that either ends, with an invariant, or is left with one value. -/
theorem fold_or {α σ St V T : Type} (L : List α) (b : (St → Option (Sum V T)) → St → Option (Sum V T)) (mk : Nat → σ → St) (out : σ → V) (badv : T) (Inv : Nat → σ → Prop)
  (hend : ∀ K s, Inv L.length s → b K (mk L.length s) = some (.inl (out s)))
  (hstep : ∀ i x s, L[i]? = some x → Inv i s → (∃ s', Inv (i + 1) s' ∧ ∀ K, b K (mk i s) = K (mk (i + 1) s')) ∨ ∀ K, b K (mk i s) = some (.inr badv)) :
  ∀ (F i : Nat) (s : σ), L.length - i < F → i ≤ L.length → Inv i s → (∃ s', Inv L.length s' ∧ iter b F (mk i s) = some (.inl (out s'))) ∨ iter b F (mk i s) = some (.inr badv) := by
 intro F
 induction F with
 | zero => intro i s h; omega
 | succ F ih =>
  intro i s h hi hs
  show (∃ s', Inv L.length s' ∧ b (iter b F) (mk i s) = _) ∨ b (iter b F) (mk i s) = _
  by_cases hk : i < L.length
  ·have hx : L[i]? = some L[i] := List.getElem?_eq_getElem hk
   rcases hstep i _ s hx hs with ⟨s', h1, h2⟩ | h2
   ·rw [h2]; exact ih (i + 1) _ (by omega) (by omega) h1
   ·rw [h2]; exact .inr rfl
  ·have : i = L.length := by omega
   subst this
   exact .inl ⟨s, hs, hend _ s hs⟩
def strideN (k : Int) : Nat := if k = 1 then 2 else if k = 2 then 3 else if k = 3 then 3 else k.toNat
theorem stride_p {k : Int} (h1 : 1 ≤ k) (h2 : k ≤ 8) : p_Stride k = some (strideN k : Int) ∧ p_Layout_Stride k = some (strideN k : Int) ∧ 2 ≤ strideN k ∧ strideN k ≤ 8 := by
 unfold p_Stride p_Layout_Stride strideN
 have : k = 1 ∨ k = 2 ∨ k = 3 ∨ k = 4 ∨ k = 5 ∨ k = 6 ∨ k = 7 ∨ k = 8 := by omega
 rcases this with rfl | rfl | rfl | rfl | rfl | rfl | rfl | rfl <;> exact ⟨rfl, rfl, by decide, by decide⟩
/-- place number i of a row -/
def plc (s : Nat) (l : List Nat) (i : Nat) : TImpl_P2 := ⟨l.getD (i * s) 0, l.getD (i * s + 1) 0⟩
theorem mul_lt' {s m i : Nat} (hi : i < m) (hs : 2 ≤ s) : i * s + s ≤ m * s := by
 have : (i + 1) * s ≤ m * s := Nat.mul_le_mul_right s hi
 rw [Nat.add_mul] at this
 omega
theorem flat_loop {l : List Nat} {s m : Nat} (hs : 2 ≤ s) (hl : l.length = m * s) (hb : l.length < 2147483648) : ∀ (F i : Nat), m - i < F → i ≤ m →
  iter (p_flatTo_l4 l (s : Int)) F ((((i * s : Nat) : Int), (List.range i).map (plc s l)) : Int × List TImpl_P2) = some (Sum.inl ((List.range m).map (plc s l))) := by
 intro F
 induction F with
 | zero => intro i h; omega
 | succ F ih =>
  intro i h him
  have hms : i * s ≤ m * s := Nat.mul_le_mul_right s him
  show p_flatTo_l4 l (s : Int) (iter (p_flatTo_l4 l (s : Int)) F) _ = _
  generalize hK : iter (p_flatTo_l4 l (s : Int)) F = K at *
  unfold p_flatTo_l4
  simp only
  by_cases hi : i < m
  ·have hle := mul_lt' hi hs
   have him2 : i ≤ i * s := Nat.le_mul_of_pos_right i (by omega)
   rw [cond_t (decide_eq_true (by omega)), idx_lt l (i * s) 0 (by omega), Option.bind_some, need_pos (in64 (by omega) (by omega)), succ_cast, idx_lt l (i * s + 1) 0 (by omega), Option.bind_some,
    need_pos (by simp; omega), need_pos (in64 (by omega) (by omega))]
   have e1 : (((i * s : Nat) : Int) + (s : Int)) = (((i + 1) * s : Nat) : Int) := by rw [Nat.add_mul]; omega
   have e2 : (List.range i).map (plc s l) ++ [(TImpl_P2.mk (l.getD (i * s) 0) (l.getD (i * s + 1) 0))] = (List.range (i + 1)).map (plc s l) := by
    rw [List.range_succ, List.map_append]; rfl
   rw [e1, e2]
   exact ih (i + 1) (by omega) hi
  ·have : i = m := by omega
   subst this
   rw [cond_f (decide_eq_false (by omega))]
theorem flat_p {F : Nat} (hF : BigF F) {l : List Nat} {k : Int} (h1 : 1 ≤ k) (h2 : k ≤ 8) :
  (p_flatTo F k l 4634204016564240384 100 = some ([], false)) ∨ ∃ m, l.length = m * strideN k ∧ m ≤ 100 ∧ p_flatTo F k l 4634204016564240384 100 = some ((List.range m).map (plc (strideN k) l), ((List.range m).map (plc (strideN k) l)).all (planeOk 4634204016564240384)) := by
 have hF' : 1073741826 ≤ F := hF
 obtain ⟨e1, _, hs, hs8⟩ := stride_p h1 h2
 generalize strideN k = s at *
 unfold p_flatTo
 rw [cond_f (decide_eq_false (by omega))]
 unfold p_flatTo_k1
 rw [cond_f (decide_eq_false (by omega)), e1, Option.bind_some, need_pos (by omega)]
 have et : Int.tmod ((l.length : Nat) : Int) (s : Int) = ((l.length % s : Nat) : Int) := by rw [Int.tmod_eq_emod_of_nonneg (by omega)]; rfl
 rw [et]
 by_cases hd : l.length % s = 0
 ·rw [cond_f (show (!decide (((l.length % s : Nat) : Int) = 0)) = false by simp [hd]), need_pos (in64 (by omega) (by omega))]
  unfold p_flatTo_k2
  by_cases h60 : ((s : Int) * 100) < ((l.length : Nat) : Int)
  ·rw [cond_t (decide_eq_true h60)]; exact .inl rfl
  ·rw [cond_f (decide_eq_false h60)]
   right
   have hl : l.length = l.length / s * s := by
    have := Nat.div_add_mod l.length s
    rw [hd, Nat.mul_comm] at this; omega
   generalize hm : l.length / s = m at *
   have hm100 : m ≤ 100 := by
    rcases Nat.lt_or_ge 100 m with h | h
    ·exfalso
     have := Nat.mul_le_mul_right s h
     have e : (Nat.succ 100) * s = 101 * s := rfl
     omega
    ·exact h
   have hb : m * s ≤ 100 * 8 := Nat.mul_le_mul hm100 hs8
   refine ⟨m, hl, hm100, ?_⟩
   have hlp := flat_loop hs hl (by omega) F 0 (by omega) (by omega)
   simp only [Nat.zero_mul, List.range_zero, List.map_nil] at hlp
   rw [show ((0 : Int), ([] : List TImpl_P2)) = (((0 : Nat) : Int), []) from rfl, hlp, Option.bind_some, aft_inl]
   unfold p_flatTo_k3
   rw [planeTo_p hF _ _ (by simp; omega), Option.bind_some]
 ·rw [cond_t (show (!decide (((l.length % s : Nat) : Int) = 0)) = true by simp; omega)]
  unfold p_flatTo_k2
  exact .inl rfl
theorem K6 : Flt.I 4634204016564240384 64 ∧ Flt.I (fneg 4634204016564240384) (-64) := Flt.wordI 64 (by decide) (by decide +kernel) (by decide +kernel)
def B64 (z : Int × Int) : Prop := (-64 ≤ z.1 ∧ z.1 ≤ 64) ∧ (-64 ≤ z.2 ∧ z.2 ≤ 64)
/-- a row of whole places, and these -/
def Whole2 (s : Nat) (l : List Nat) (P : List (Int × Int)) : Prop := l.length = P.length * s ∧ ∀ (i : Nat) z, P[i]? = some z → At (plc s l i) z.1 z.2 ∧ B64 z
theorem whole_of {s m : Nat} {l : List Nat} (hl : l.length = m * s) (h : ((List.range m).map (plc s l)).all (planeOk 4634204016564240384) = true) : ∃ P : List (Int × Int), P.length = m ∧ Whole2 s l P := by
 have H : ∀ i, i < m → ∃ z : Int × Int, At (plc s l i) z.1 z.2 ∧ B64 z := fun i hi => by
  have := List.all_eq_true.1 h (plc s l i) (List.mem_map.2 ⟨i, List.mem_range.2 hi, rfl⟩)
  obtain ⟨x, y, h1, h2, h3⟩ := at_of K6.1 (by omega) (by omega) this
  exact ⟨(x, y), h1, h2, h3⟩
 refine ⟨(List.range m).map fun i => if h : i < m then Classical.choose (H i h) else (0, 0), by simp, by simp [hl], fun i z hz => ?_⟩
 rw [List.getElem?_map, Option.map_eq_some_iff] at hz
 obtain ⟨j, hj, hz⟩ := hz
 have hi : i < m := by
  have := (List.getElem?_eq_some_iff.1 hj).1
  simpa using this
 rw [List.getElem?_range hi] at hj
 cases hj
 rw [dif_pos hi] at hz
 subst hz
 exact Classical.choose_spec (H i hi)
/-- d is the exact point (x, y) -/
def LineR (pts : List TSpec_Point) (P : List (Int × Int)) : Prop := pts.length = P.length ∧ ∀ (i : Nat) p z, pts[i]? = some p → P[i]? = some z → DydAt p z.1 z.2 ∧ B64 z
theorem getD_mem {l : List Nat} {B : Nat} (h : ∀ x, x ∈ l → x < B) (hB : 0 < B) (i : Nat) : l.getD i 0 < B := by
 rw [List.getD_eq_getElem?_getD]
 cases e : l[i]? with
 | none => exact hB
 | some x => exact h x (List.mem_of_getElem? e)
theorem places_p {F : Nat} (hF : BigF F) {s : Nat} {l : List Nat} {P : List (Int × Int)} (hs : 2 ≤ s) (hs8 : s ≤ 8) (h : Whole2 s l P) (hP : P.length ≤ 100) (hw : ∀ x, x ∈ l → x < 18446744073709551616) :
  ∃ pts, p_Places F l (s : Int) = some pts ∧ LineR pts P := by
 have hF' : 1073741826 ≤ F := hF
 obtain ⟨hl, hz⟩ := h
 have hb : P.length * s ≤ 100 * 8 := Nat.mul_le_mul hP hs8
 obtain ⟨pts, ⟨i1, i2⟩, h2⟩ := fold_ex P (p_Places_l2 l (s : Int) F) (fun i (st : List TSpec_Point) => (((i * s : Nat) : Int), st)) (fun st => st)
  (fun i st => st.length = i ∧ ∀ (j : Nat) p z, st[j]? = some p → P[j]? = some z → DydAt p z.1 z.2 ∧ B64 z)
  (fun K st hst => by
   unfold p_Places_l2
   rw [cond_t (decide_eq_true (by omega)), need_pos (in64 (by simp only; omega) (by simp only; omega))]
   unfold p_Places_k3
   rw [cond_f (decide_eq_false (by simp only; omega))])
  (fun i z st hx hst => by
   have hi := lt_get hx
   have hle := mul_lt' hi hs
   obtain ⟨⟨a1, a2⟩, hB⟩ := hz i z hx
   obtain ⟨d1, f1, k1⟩ := dyd_of (getD_mem hw (by omega) _) a1 hF
   obtain ⟨d2, f2, k2⟩ := dyd_of (getD_mem hw (by omega) _) a2 hF
   refine ⟨st ++ [⟨d1, d2⟩], ⟨by simp [hst.1], fun j p z' hp hz' => ?_⟩, fun K => ?_⟩
   ·rw [List.getElem?_append] at hp
    split at hp
    ·exact hst.2 j p z' hp hz'
    ·rename_i hj
     have hj0 : j - st.length = 0 := by
      have := (List.getElem?_eq_some_iff.1 hp).1
      simp at this; omega
     have hji : j = i := by have := hst.1; omega
     rw [hj0] at hp
     subst hji
     rw [hx] at hz'
     cases hz'
     simp at hp
     subst hp
     exact ⟨⟨k1, k2⟩, hB⟩
   ·unfold p_Places_l2
    rw [cond_t (decide_eq_true (by omega)), need_pos (in64 (by simp only; omega) (by simp only; omega))]
    unfold p_Places_k3
    have hl1 := hst.1
    have e2 : (((i * s : Nat) : Int) + (s : Int)) = (((i + 1) * s : Nat) : Int) := by rw [Nat.add_mul]; omega
    rw [cond_t (decide_eq_true (by simp only; omega))]
    simp only
    rw [idx_lt l (i * s) 0 (by omega), Option.bind_some, need_pos (in64 (by omega) (by omega)), succ_cast, idx_lt l (i * s + 1) 0 (by omega), Option.bind_some]
    have ep : p_PointOf F (l.getD (i * s) 0) (l.getD (i * s + 1) 0) = some ⟨d1, d2⟩ := by
     unfold p_PointOf
     rw [show p_DyadicOf F (l.getD (i * s) 0) = some d1 from f1, Option.bind_some, show p_DyadicOf F (l.getD (i * s + 1) 0) = some d2 from f2]
     rfl
    rw [ep, Option.bind_some, need_pos (by simp; omega), need_pos (in64 (by omega) (by omega)), e2])
  F 0 [] (by omega) (by omega) ⟨rfl, fun j p z h => by simp at h⟩
 refine ⟨pts, ?_, i1, i2⟩
 unfold p_Places
 rw [show ((0 : Int), ([] : List TSpec_Point)) = (((0 * s : Nat) : Int), []) by rw [Nat.zero_mul]; rfl, h2, Option.bind_some, aft_inl]
 rfl
end Go.Proofs.YtdchenbdnalbcaaGreatDoor.Wk

namespace Go.Proofs.YtdchenbdnalbcaaGreatDoor.Wk
open Go.Vm Limb
set_option linter.unusedVariables false
set_option linter.unusedSimpArgs false
theorem dyd_abs {d : TSpec_Dyadic} {q : Rat} {m k : Nat} (h : Dyd d q m k) : ∃ d', p_Dyadic_Abs d = some d' ∧ Dyd d' (Flt.ab q) m k := by
 unfold p_Dyadic_Abs
 rw [dyd_sign h, Option.bind_some]
 by_cases hq : q < 0
 ·obtain ⟨d', h1, h2⟩ := dyd_minus h
  rw [cond_t (decide_eq_true (sgR_neg.2 hq)), h1, Option.bind_some]
  refine ⟨d', rfl, ?_⟩
  unfold Flt.ab; rw [if_pos hq]; exact h2
 ·rw [cond_f (decide_eq_false (fun h => hq (sgR_neg.1 h)))]
  refine ⟨d, rfl, ?_⟩
  unfold Flt.ab; rw [if_neg hq]; exact h
end Go.Proofs.YtdchenbdnalbcaaGreatDoor.Wk

set_option linter.unusedVariables false
set_option linter.unusedSimpArgs false
namespace Go.Proofs.YtdchenbdnalbcaaGreatDoor.Wk
open Go.Vm Limb
theorem dyd_addm {a b : TSpec_Dyadic} {p q : Rat} {m k m' k' : Nat} (ha : Dyd a p m k) (hb : Dyd b q m' k') (hm : m + m' < 1000000) (hk : k + k' < 1000000) {F : Nat} (hF : BigF F) : ∃ d, p_Dyadic_Add F a b = some d ∧ Dyd d (p + q) (m + m' + (k + k') / 32 + 3) (max k k') := by
 have sa := dyd_sign ha
 have sb := dyd_sign hb
 unfold p_Dyadic_Add
 rw [sa, Option.bind_some]
 by_cases hp : p = 0
 ·rw [cond_t (decide_eq_true (by unfold sgR; rw [if_pos hp]))]
  refine ⟨b, rfl, ?_⟩
  rw [hp, Rat.zero_add]; exact hb.mono (by omega) (by omega)
 ·have hsp : ¬ sgR p = 0 := by unfold sgR; rw [if_neg hp]; split <;> decide
  rw [cond_f (decide_eq_false hsp), sb, Option.bind_some]
  by_cases hq : q = 0
  ·rw [cond_t (decide_eq_true (by unfold sgR; rw [if_pos hq]))]
   refine ⟨a, rfl, ?_⟩
   rw [hq, Rat.add_zero]; exact ha.mono (by omega) (by omega)
  ·have hsq : ¬ sgR q = 0 := by unfold sgR; rw [if_neg hq]; split <;> decide
   rw [cond_f (decide_eq_false hsq)]
   obtain ⟨n, e, rfl, rfl, h1, h2, h3⟩ := ha
   obtain ⟨n', e', rfl, rfl, h1', h2', h3'⟩ := hb
   have key : ∀ (x y : Int) (u v : Int), v ≤ u → u - v ≤ (k + k' : Nat) → sz x + sz y ≤ m + m' → ∃ N : Nat, u - v = (N : Int) ∧ p_Whole_Up F (W x) (u - v) = some (W (x * 2 ^ N)) ∧ p_Whole_Add F (W (x * 2 ^ N)) (W y) = some (W (x * 2 ^ N + y)) ∧
     ((x * 2 ^ N + y : Int) : Rat) * (2 : Rat) ^ v = (x : Rat) * (2 : Rat) ^ u + (y : Rat) * (2 : Rat) ^ v ∧ sz (x * 2 ^ N + y) ≤ m + m' + (k + k') / 32 + 3 := by
    intro x y u v huv hk2 hs
    obtain ⟨N, hN⟩ : ∃ N : Nat, u - v = (N : Int) := ⟨(u - v).toNat, by omega⟩
    have hsz := sz_up x N
    have hNk : N / 32 ≤ (k + k') / 32 := Nat.div_le_div_right (by omega)
    have hF' : 1073741826 ≤ F := hF
    refine ⟨N, hN, by rw [hN]; exact up_p (by omega) hF, add_p (by omega) (by omega) hF, ?_, ?_⟩
    ·have e1 : u = v + (N : Int) := by omega
     rw [e1, Flt.zpow_add, Flt.zpow_nat, Rat.intCast_add, Rat.intCast_mul, Rat.intCast_pow]
     have e2 : ((2 ^ N : Nat) : Rat) = (2 : Rat) ^ N := Rat.natCast_pow 2 N
     have e3 : ((2 : Int) : Rat) = 2 := rfl
     rw [e2, e3]; grind
    ·have := sz_add (x * 2 ^ N) y
     omega
   by_cases he : e' < e
   ·obtain ⟨N, k0, k1, k2, k3, k4⟩ := key n n' e e' (by omega) (by omega) (by omega)
    rw [cond_t (decide_eq_true he), need_pos (in64m (by simp only; omega) (by simp only; omega))]
    simp only
    rw [k1, Option.bind_some, k2, Option.bind_some]
    exact ⟨_, rfl, _, e', rfl, k3.symm, k4, by omega, by omega⟩
   ·obtain ⟨N, k0, k1, k2, k3, k4⟩ := key n' n e' e (by omega) (by omega) (by omega)
    rw [cond_f (decide_eq_false he), need_pos (in64m (by simp only; omega) (by simp only; omega))]
    simp only
    rw [k1, Option.bind_some, k2, Option.bind_some]
    refine ⟨_, rfl, _, e, rfl, ?_, k4, by omega, by omega⟩
    rw [k3, Rat.add_comm]
theorem dyd_tight {d : TSpec_Dyadic} {n : Int} {m k : Nat} (h : Dyd d (n : Rat) m k) (hn : n.natAbs < 4294967296) : Dyd d (n : Rat) (k / 32 + 2) k := by
 obtain ⟨c, e, rfl, h2, h3, h4, h5⟩ := h
 refine ⟨c, e, rfl, h2, sz_of ?_, h4, h5⟩
 have hp : (4294967296 : Nat) ^ (k / 32 + 2) = 2 ^ (32 * (k / 32 + 2)) := by rw [Nat.pow_mul]
 rw [hp]
 by_cases he : 0 ≤ e
 ·obtain ⟨N, rfl⟩ : ∃ N : Nat, e = (N : Int) := ⟨e.toNat, by omega⟩
  have h6 : n = c * ((2 ^ N : Nat) : Int) := by
   apply Rat.intCast_inj.1
   rw [h2, Flt.zpow_nat, Rat.intCast_mul]; rfl
  have h7 : n.natAbs = c.natAbs * 2 ^ N := by rw [h6, Int.natAbs_mul]; rfl
  have h8 : 0 < 2 ^ N := Nat.pow_pos (by omega)
  have h9 : c.natAbs ≤ c.natAbs * 2 ^ N := Nat.le_mul_of_pos_right _ h8
  have h10 : 2 ^ 32 ≤ 2 ^ (32 * (k / 32 + 2)) := Nat.pow_le_pow_right (by omega) (by omega)
  have h11 : (2 : Nat) ^ 32 = 4294967296 := by decide
  omega
 ·obtain ⟨N, rfl⟩ : ∃ N : Nat, e = -(N : Int) := ⟨(-e).toNat, by omega⟩
  have hz : (2 : Rat) ^ (-(N : Int)) * (2 : Rat) ^ (N : Int) = 1 := by rw [← Flt.zpow_add, show -(N : Int) + (N : Int) = 0 by omega]; rfl
  have h6 : c = n * ((2 ^ N : Nat) : Int) := by
   apply Rat.intCast_inj.1
   rw [Rat.intCast_mul, h2, Rat.mul_assoc]
   have : (((2 ^ N : Nat) : Int) : Rat) = (2 : Rat) ^ (N : Int) := by rw [Flt.zpow_nat]; rfl
   rw [this, hz, Rat.mul_one]
  have h7 : c.natAbs = n.natAbs * 2 ^ N := by rw [h6, Int.natAbs_mul]; rfl
  have h8 : 0 < 2 ^ N := Nat.pow_pos (by omega)
  have h9 : n.natAbs * 2 ^ N < 4294967296 * 2 ^ N := Nat.mul_lt_mul_of_pos_right hn h8
  have h10 : 4294967296 * 2 ^ N = 2 ^ (32 + N) := by rw [Nat.pow_add]
  have h11 : 2 ^ (32 + N) ≤ 2 ^ (32 * (k / 32 + 2)) := Nat.pow_le_pow_right (by omega) (by omega)
  omega
/-- the exact number n, not long -/
def DD (d : TSpec_Dyadic) (n : Int) : Prop := Dyd d (n : Rat) 102 3222
theorem dd_add {a b : TSpec_Dyadic} {x y : Int} {m k : Nat} (ha : DD a x) (hb : Dyd b (y : Rat) m k) (hm : m ≤ 1000) (hk : k ≤ 3222) (h : (x + y).natAbs < 4294967296) {F : Nat} (hF : BigF F) : ∃ d, p_Dyadic_Add F a b = some d ∧ DD d (x + y) := by
 obtain ⟨d, e, k'⟩ := dyd_addm ha hb (by omega) (by omega) hF
 rw [← Rat.intCast_add] at k'
 exact ⟨d, e, (dyd_tight k' h).mono (by omega) (by omega)⟩
theorem dd_zero : DD ⟨⟨false, []⟩, 0⟩ 0 := ⟨0, 0, by rw [W_zero], by simp, Nat.le_trans (sz_of (m := 1) (by decide)) (by omega), by omega, by omega⟩
end Go.Proofs.YtdchenbdnalbcaaGreatDoor.Wk

set_option linter.unusedVariables false
set_option linter.unusedSimpArgs false
namespace Go.Proofs.YtdchenbdnalbcaaGreatDoor.Wk
open Go.Vm
def GeoR (a0 : Int) (g : TImpl_Geom) (P : List (Int × Int)) : Prop := g.Kind = 8 ∧ g.Layout = a0 ∧ Whole2 (strideN a0) g.Flat P ∧ P.length ≤ 100 ∧ 1 ≤ P.length
def Kin (a0 : Int) (gs : List TImpl_Geom) (i : Nat) (s : Int × List (List TSpec_Point) × List (List (Int × Int))) : Prop :=
 s.2.2.length = i ∧ s.2.1.length = i ∧ (0 ≤ s.1 ∧ s.1 ≤ 100 * i) ∧ ∀ (j : Nat) pts P g, s.2.1[j]? = some pts → s.2.2[j]? = some P → gs[j]? = some g → LineR pts P ∧ GeoR a0 g P
end Go.Proofs.YtdchenbdnalbcaaGreatDoor.Wk

set_option linter.unusedVariables false
set_option linter.unusedSimpArgs false
namespace Go.Proofs.YtdchenbdnalbcaaGreatDoor.Wk
open Go.Vm Limb
def nth (P : List (Int × Int)) (i : Nat) : Int × Int := P.getD i (0, 0)
theorem nth_get {P : List (Int × Int)} {i : Nat} {z : Int × Int} (h : P[i]? = some z) : nth P i = z := by unfold nth; rw [List.getD_eq_getElem?_getD, h]; rfl
def dd (p q : Int × Int) : Int := ((q.1 - p.1).natAbs : Int) + ((q.2 - p.2).natAbs : Int)
def Ax (p q : Int × Int) : Prop := q.1 = p.1 ∨ q.2 = p.2
def sg3 (p q : Int × Int) : Int × Int × Int := (dd p q, dd p q * (q.1 + p.1), dd p q * (q.2 + p.2))
def add3 (a b : Int × Int × Int) : Int × Int × Int := (a.1 + b.1, a.2.1 + b.2.1, a.2.2 + b.2.2)
/-- the sums over the first k segments of a line, from others on -/
def run (P : List (Int × Int)) (t : Int × Int × Int) : Nat → Int × Int × Int
 | 0 => t
 | k + 1 => add3 (run P t k) (sg3 (nth P k) (nth P (k + 1)))
/-- the sums over the first lines -/
def runs (Ps : List (List (Int × Int))) : Nat → Int × Int × Int
 | 0 => (0, 0, 0)
 | j + 1 => run (Ps.getD j []) (runs Ps j) ((Ps.getD j []).length - 1)
def Bnd (N : Nat) (t : Int × Int × Int) : Prop := (0 ≤ t.1 ∧ t.1 ≤ 256 * N) ∧ (-(32768 * N) ≤ t.2.1 ∧ t.2.1 ≤ 32768 * N) ∧ (-(32768 * N) ≤ t.2.2 ∧ t.2.2 ≤ 32768 * N)
theorem mul_b {a b : Int} {K L : Int} (ha : 0 ≤ a) (ha' : a ≤ K) (hb : -L ≤ b) (hb' : b ≤ L) (hL : 0 ≤ L) : -(K * L) ≤ a * b ∧ a * b ≤ K * L := by
 have h1 : a * b ≤ a * L := Int.mul_le_mul_of_nonneg_left hb' ha
 have h2 : a * L ≤ K * L := Int.mul_le_mul_of_nonneg_right ha' hL
 have h3 : a * (-L) ≤ a * b := Int.mul_le_mul_of_nonneg_left hb ha
 have h4 : a * (-L) = -(a * L) := Int.mul_neg _ _
 omega
theorem bnd_seg {p q : Int × Int} (hp : B64 p) (hq : B64 q) : Bnd 1 (sg3 p q) := by
 obtain ⟨⟨p1, p2⟩, p3, p4⟩ := hp
 obtain ⟨⟨q1, q2⟩, q3, q4⟩ := hq
 have hd : 0 ≤ dd p q ∧ dd p q ≤ 256 := by unfold dd; omega
 have m1 := mul_b (K := 256) (L := 128) hd.1 hd.2 (b := q.1 + p.1) (by omega) (by omega) (by omega)
 have m2 := mul_b (K := 256) (L := 128) hd.1 hd.2 (b := q.2 + p.2) (by omega) (by omega) (by omega)
 exact ⟨⟨hd.1, hd.2⟩, ⟨by simp only [sg3]; omega, by simp only [sg3]; omega⟩, by simp only [sg3]; omega, by simp only [sg3]; omega⟩
theorem bnd_add {M N : Nat} {s t : Int × Int × Int} (hs : Bnd M s) (ht : Bnd N t) : Bnd (M + N) (add3 s t) := by
 unfold Bnd add3 at *
 simp only
 omega
theorem bnd_run {P : List (Int × Int)} (hP : ∀ i, i < P.length → B64 (nth P i)) {N : Nat} {t : Int × Int × Int} (ht : Bnd N t) : ∀ k, k < P.length → Bnd (N + k) (run P t k)
 | 0, _ => ht
 | k + 1, hk => show Bnd ((N + k) + 1) _ from bnd_add (bnd_run hP ht k (by omega)) (bnd_seg (hP k (by omega)) (hP (k + 1) hk))
def mkI (i : Nat) (s : TSpec_Dyadic × TSpec_Dyadic × TSpec_Dyadic) : Int × Bool × List Int × Int × Bool × List Int × Int × Bool × List Int × Int :=
 ((i : Int), s.1.N.Neg, s.1.N.L, s.1.E, s.2.1.N.Neg, s.2.1.N.L, s.2.1.E, s.2.2.N.Neg, s.2.2.N.L, s.2.2.E)
def outI (s : TSpec_Dyadic × TSpec_Dyadic × TSpec_Dyadic) : Bool × List Int × Int × Bool × List Int × Int × Bool × List Int × Int :=
 (s.1.N.Neg, s.1.N.L, s.1.E, s.2.1.N.Neg, s.2.1.N.L, s.2.1.E, s.2.2.N.Neg, s.2.2.N.L, s.2.2.E)
def D3 (s : TSpec_Dyadic × TSpec_Dyadic × TSpec_Dyadic) (t : Int × Int × Int) : Prop := DD s.1 t.1 ∧ DD s.2.1 t.2.1 ∧ DD s.2.2 t.2.2
def R0 : TSpec_Ratio := TSpec_Ratio.mk (TSpec_Dyadic.mk (TSpec_Whole.mk false []) (0 : Int)) (TSpec_Dyadic.mk (TSpec_Whole.mk false []) (0 : Int))
theorem line_p {F : Nat} (hF : BigF F) {pts : List TSpec_Point} {P : List (Int × Int)} (hp : LineR pts P) (h1 : 1 ≤ P.length) (h100 : P.length ≤ 100) {N : Nat} (hN : N ≤ 2000) {t0 : Int × Int × Int} (hb : Bnd N t0)
  {s0 : TSpec_Dyadic × TSpec_Dyadic × TSpec_Dyadic} (h0 : D3 s0 t0) :
  (∃ s, (D3 s (run P t0 (P.length - 1)) ∧ ∀ k, k + 1 < P.length → Ax (nth P k) (nth P (k + 1))) ∧ iter (p_LineCentroid_l4 F pts) F (mkI 1 s0) = some (.inl (outI s))) ∨ iter (p_LineCentroid_l4 F pts) F (mkI 1 s0) = some (.inr (R0, R0, false)) := by
 have hF' : 1073741826 ≤ F := hF
 have hl := hp.1
 have hB : ∀ i, i < P.length → B64 (nth P i) := fun i hi => by
  have e1 : P[i]? = some P[i] := List.getElem?_eq_getElem hi
  have e2 : pts[i]? = some (pts[i]'(by omega)) := List.getElem?_eq_getElem (by omega)
  rw [nth_get e1]
  exact (hp.2 i _ _ e2 e1).2
 have key := fold_or pts (p_LineCentroid_l4 F pts) mkI outI (R0, R0, false) (fun i s => 1 ≤ i ∧ D3 s (run P t0 (i - 1)) ∧ ∀ k, k + 1 < i → Ax (nth P k) (nth P (k + 1)))
  (fun K s hs => by unfold p_LineCentroid_l4 mkI; rw [cond_f dge]; rfl)
  (fun i x s hx hs => by
   obtain ⟨hi1, ⟨j1, j2, j3⟩, ha⟩ := hs
   have hi := lt_get hx
   obtain ⟨z, hz⟩ : ∃ z, P[i]? = some z := ⟨_, List.getElem?_eq_getElem (by omega)⟩
   obtain ⟨q, hq⟩ : ∃ q, pts[i - 1]? = some q := ⟨_, List.getElem?_eq_getElem (by omega)⟩
   obtain ⟨w, hw⟩ : ∃ w, P[i - 1]? = some w := ⟨_, List.getElem?_eq_getElem (by omega)⟩
   obtain ⟨⟨x1, x2⟩, bz⟩ := hp.2 i x z hx hz
   obtain ⟨⟨q1, q2⟩, bw⟩ := hp.2 (i - 1) q w hq hw
   obtain ⟨a1, f1, k1⟩ := dyd_sub x1 q1 (by omega) (by omega) hF
   rw [← Rat.intCast_sub] at k1
   obtain ⟨a2, f2, k2⟩ := dyd_abs k1
   rw [Flt.ab_int] at k2
   obtain ⟨b1, g1, l1⟩ := dyd_sub x2 q2 (by omega) (by omega) hF
   rw [← Rat.intCast_sub] at l1
   obtain ⟨b2, g2, l2⟩ := dyd_abs l1
   rw [Flt.ab_int] at l2
   have s1 := dyd_sign k2
   have s2 := dyd_sign l2
   have im : ((i : Int) - 1) = ((i - 1 : Nat) : Int) := by omega
   have iq : idx pts ((i : Int) - 1) = some q := by rw [im]; exact idx_get hq
   have n64 : inI .i64 ((i : Int) - 1) := in64 (by omega) (by omega)
   have hbody : ∀ K, p_LineCentroid_l4 F pts K (mkI i s) = p_LineCentroid_k5 F pts (mkI i s) K a2 b2 (!decide (z.1 = w.1) && !decide (z.2 = w.2)) := fun K => by
    unfold p_LineCentroid_l4 mkI
    rw [cond_t (dlt hi)]
    simp only
    rw [idx_get hx, Option.bind_some, need_pos n64, iq, Option.bind_some, f1, Option.bind_some, f2, Option.bind_some, Option.bind_some, need_pos n64, Option.bind_some, g1, Option.bind_some, g2, Option.bind_some, s1, Option.bind_some, sgR_int]
    by_cases c1 : z.1 = w.1
    ·rw [if_pos (by omega), cond_f (by rfl), decide_eq_true c1]; rfl
    ·rw [if_neg (by omega), if_neg (by omega), cond_t (by rfl), s2, Option.bind_some, sgR_int, decide_eq_false c1]
     by_cases c2 : z.2 = w.2
     ·rw [if_pos (by omega), decide_eq_true c2]; rfl
     ·rw [if_neg (by omega), if_neg (by omega), decide_eq_false c2]; rfl
   by_cases hax : Ax w z
   ·left
    have hg : (!decide (z.1 = w.1) && !decide (z.2 = w.2)) = false := by
     rcases hax with h | h <;> simp [h]
    have hrun : run P t0 i = add3 (run P t0 (i - 1)) (sg3 w z) := by
     obtain ⟨k, rfl⟩ : ∃ k, i = k + 1 := ⟨i - 1, by omega⟩
     show add3 (run P t0 k) (sg3 (nth P k) (nth P (k + 1))) = _
     rw [nth_get hz, show nth P k = w from nth_get hw]; rfl
    have hbr := bnd_run hB hb (i - 1) (by omega)
    have hbs := bnd_run hB hb i (by omega)
    rw [hrun] at hbs
    obtain ⟨c, e1, m1⟩ := dyd_addm k2 l2 (by omega) (by omega) hF
    rw [← Rat.intCast_add, show (((z.1 - w.1).natAbs : Int) + ((z.2 - w.2).natAbs : Int)) = dd w z from rfl] at m1
    obtain ⟨⟨u1, u2⟩, ⟨u3, u4⟩, u5, u6⟩ := hbs
    obtain ⟨y45, e45, m45⟩ := dd_add j1 m1 (by omega) (by omega) (by simp only [add3, sg3] at u1 u2; omega) hF
    obtain ⟨y52, e52, m52⟩ := dyd_addm x1 q1 (by omega) (by omega) hF
    rw [← Rat.intCast_add] at m52
    obtain ⟨y54, e54, m54⟩ := dyd_mul m1 m52 (by omega) (by omega) hF
    rw [← Rat.intCast_mul] at m54
    obtain ⟨y56, e56, m56⟩ := dd_add j2 m54 (by omega) (by omega) (by simp only [add3, sg3] at u3 u4; omega) hF
    obtain ⟨y63, e63, m63⟩ := dyd_addm x2 q2 (by omega) (by omega) hF
    rw [← Rat.intCast_add] at m63
    obtain ⟨y65, e65, m65⟩ := dyd_mul m1 m63 (by omega) (by omega) hF
    rw [← Rat.intCast_mul] at m65
    obtain ⟨y67, e67, m67⟩ := dd_add j3 m65 (by omega) (by omega) (by simp only [add3, sg3] at u5 u6; omega) hF
    refine ⟨(y45, y56, y67), ⟨by omega, ?_, fun k hk => ?_⟩, fun K => ?_⟩
    ·show D3 _ (run P t0 (i + 1 - 1))
     rw [Nat.add_sub_cancel, hrun]
     exact ⟨m45, m56, m67⟩
    ·by_cases hki : k + 1 < i
     ·exact ha k hki
     ·have : k = i - 1 := by omega
      subst this
      rw [show i - 1 + 1 = i by omega, nth_get hz, nth_get hw]; exact hax
    ·rw [hbody, hg]
     unfold p_LineCentroid_k5 mkI
     rw [cond_false, e1, Option.bind_some]
     simp only
     rw [show (TSpec_Dyadic.mk (TSpec_Whole.mk s.1.N.Neg s.1.N.L) s.1.E) = s.1 from rfl, show (TSpec_Dyadic.mk (TSpec_Whole.mk s.2.1.N.Neg s.2.1.N.L) s.2.1.E) = s.2.1 from rfl, show (TSpec_Dyadic.mk (TSpec_Whole.mk s.2.2.N.Neg s.2.2.N.L) s.2.2.E) = s.2.2 from rfl]
     rw [e45, Option.bind_some, idx_get hx, Option.bind_some, need_pos n64, iq, Option.bind_some, e52, Option.bind_some, e54, Option.bind_some, e56, Option.bind_some, Option.bind_some, need_pos n64, Option.bind_some, e63, Option.bind_some, e65, Option.bind_some, e67, Option.bind_some, need_pos (i64s (by omega)), succ_cast]
   ·right
    have hg : (!decide (z.1 = w.1) && !decide (z.2 = w.2)) = true := by
     unfold Ax at hax
     have c1 : ¬ z.1 = w.1 := fun h => hax (.inl h)
     have c2 : ¬ z.2 = w.2 := fun h => hax (.inr h)
     simp [c1, c2]
    intro K
    rw [hbody, hg]
    rfl)
  F 1 s0 (by omega) (by omega) ⟨by omega, h0, fun k hk => by omega⟩
 rcases key with ⟨s, ⟨_, hs, ha⟩, hk⟩ | hk
 ·left
  rw [hl] at hs ha
  exact ⟨s, ⟨hs, ha⟩, hk⟩
 ·right; exact hk
end Go.Proofs.YtdchenbdnalbcaaGreatDoor.Wk

set_option linter.unusedVariables false
set_option linter.unusedSimpArgs false
namespace Go.Proofs.YtdchenbdnalbcaaGreatDoor.Wk
open Go.Vm
mutual
def WfG : TImpl_Geom → Prop
 | .mk a b c f e es ks => (lo .i64 ≤ a ∧ a ≤ hi .i64) ∧ (lo .i64 ≤ b ∧ b ≤ hi .i64) ∧ (lo .i64 ≤ c ∧ c ≤ hi .i64) ∧ (f.length ≤ maxLen ∧ ∀ x ∈ f, (Lit.float .f64 x).wf = true) ∧ (e.length ≤ maxLen ∧ ∀ x ∈ e, lo .i64 ≤ x ∧ x ≤ hi .i64) ∧
  (es.length ≤ maxLen ∧ ∀ l ∈ es, l.length ≤ maxLen ∧ ∀ x ∈ l, lo .i64 ≤ x ∧ x ≤ hi .i64) ∧ ks.length ≤ maxLen ∧ WfGs ks
def WfGs : List TImpl_Geom → Prop
 | [] => True
 | g :: r => WfG g ∧ WfGs r
end
theorem wfGs_of : ∀ {l : List TImpl_Geom}, (∀ k ∈ l, WfG k) → WfGs l
 | [], _ => by simp only [WfGs]
 | g :: r, h => by simp only [WfGs]; exact ⟨h g (by simp), wfGs_of fun k hk => h k (by simp [hk])⟩
theorem wfG_flat {g : TImpl_Geom} (h : WfG g) : ∀ x, x ∈ g.Flat → x < 18446744073709551616 := by
 cases g
 simp only [WfG] at h
 exact fun x hx => wf64 (h.2.2.2.1.2 x hx)
end Go.Proofs.YtdchenbdnalbcaaGreatDoor.Wk

set_option linter.unusedVariables false
set_option linter.unusedSimpArgs false
namespace Go.Proofs.YtdchenbdnalbcaaGreatDoor.Wk
open Go.Vm Limb
/-- A loop through a list that either ends, with an invariant, or is left with a value of some kind. -/
theorem fold_or2 {α σ St V T : Type} (L : List α) (b : (St → Option (Sum V T)) → St → Option (Sum V T)) (mk : Nat → σ → St) (out : σ → V) (Bad : T → Prop) (Inv : Nat → σ → Prop)
  (hend : ∀ K s, Inv L.length s → b K (mk L.length s) = some (.inl (out s)))
  (hstep : ∀ i x s, L[i]? = some x → Inv i s → (∃ s', Inv (i + 1) s' ∧ ∀ K, b K (mk i s) = K (mk (i + 1) s')) ∨ ∃ v, Bad v ∧ ∀ K, b K (mk i s) = some (.inr v)) :
  ∀ (F i : Nat) (s : σ), L.length - i < F → i ≤ L.length → Inv i s → (∃ s', Inv L.length s' ∧ iter b F (mk i s) = some (.inl (out s'))) ∨ ∃ v, Bad v ∧ iter b F (mk i s) = some (.inr v) := by
 intro F
 induction F with
 | zero => intro i s h; omega
 | succ F ih =>
  intro i s h hi hs
  show (∃ s', Inv L.length s' ∧ b (iter b F) (mk i s) = _) ∨ ∃ v, Bad v ∧ b (iter b F) (mk i s) = _
  by_cases hk : i < L.length
  ·have hx : L[i]? = some L[i] := List.getElem?_eq_getElem hk
   rcases hstep i _ s hx hs with ⟨s', h1, h2⟩ | ⟨v, hv, h2⟩
   ·rw [h2]; exact ih (i + 1) _ (by omega) (by omega) h1
   ·rw [h2]; exact .inr ⟨v, hv, rfl⟩
  ·have : i = L.length := by omega
   subst this
   exact .inl ⟨s, hs, hend _ s hs⟩
/-- the j-th cut of a list of ends -/
def cutE (ends : List Int) : Nat → Nat
 | 0 => 0
 | j + 1 => (ends.getD j 0).toNat
def AscE (s : Nat) (ends : List Int) (n : Nat) : Prop := ∀ j, j < n → ends[j]? = some (cutE ends (j + 1) : Int) ∧ cutE ends j ≤ cutE ends (j + 1) ∧ (cutE ends (j + 1) - cutE ends j) % s = 0
theorem i64top {x : Int} (h : x ≤ hi .i64) : x ≤ 9223372036854775807 := h
theorem goodEnds_p {F : Nat} {ends : List Int} {s : Nat} (hs : 2 ≤ s) (hs8 : s ≤ 8) (hF : ends.length < F) (hl : ends.length < 2147483648) (hw : ∀ x, x ∈ ends → x ≤ 9223372036854775807) :
  (p_goodEnds F ends 0 (s : Int) false = some ((cutE ends ends.length : Int), true) ∧ AscE s ends ends.length) ∨ ∃ v, p_goodEnds F ends 0 (s : Int) false = some (v, false) := by
 have key := fold_or2 ends (p_goodEnds_l2 ends (s : Int) false) (fun i (_ : Unit) => ((cutE ends i : Int), (i : Int))) (fun _ => (cutE ends ends.length : Int)) (fun v => v.2 = false) (fun i _ => AscE s ends i)
  (fun K _ h => by unfold p_goodEnds_l2; rw [cond_f dge])
  (fun i x _ hx h => by
   have hi := lt_get hx
   have hx0 : ends.getD i 0 = x := by rw [List.getD_eq_getElem?_getD, hx]; rfl
   have w2 := hw x (List.mem_of_getElem? hx)
   have hs0 : (s : Int) ≠ 0 := by omega
   by_cases h1 : x < (cutE ends i : Int)
   ·exact .inr ⟨((cutE ends i : Int), false), rfl, fun K => by unfold p_goodEnds_l2; rw [cond_t (dlt hi)]; simp only; rw [idx_get hx, Option.bind_some]; rw [cond_t (decide_eq_true h1)]; rfl⟩
   ·have hin : inI .i64 (x - (cutE ends i : Int)) := in64 (by omega) (by omega)
    by_cases h2 : Int.tmod (x - (cutE ends i : Int)) (s : Int) = 0
    ·left
     have hc : cutE ends (i + 1) = x.toNat := by show (ends.getD i 0).toNat = _; rw [hx0]
     have hcx : (cutE ends (i + 1) : Int) = x := by rw [hc]; omega
     refine ⟨(), fun j hj => ?_, fun K => by unfold p_goodEnds_l2; rw [cond_t (dlt hi)]; simp only; rw [idx_get hx, Option.bind_some]; rw [cond_f (decide_eq_false h1), need_pos hin, need_pos hs0, cond_f (show (!decide (Int.tmod (x - (cutE ends i : Int)) (s : Int) = 0)) = false by simp [h2]), cond_false]; unfold p_goodEnds_k3; rw [cond_false]; simp only; rw [need_pos (i64s (by omega)), succ_cast, hcx]⟩
     by_cases hji : j < i
     ·exact h j hji
     ·have : j = i := by omega
      subst this
      refine ⟨by rw [hcx]; exact hx, by omega, ?_⟩
      rw [Int.tmod_eq_emod_of_nonneg (by omega)] at h2
      have : (((cutE ends (j + 1) - cutE ends j : Nat) : Int)) = x - (cutE ends j : Int) := by omega
      rw [← this] at h2
      exact_mod_cast h2
    ·exact .inr ⟨((cutE ends i : Int), false), rfl, fun K => by unfold p_goodEnds_l2; rw [cond_t (dlt hi)]; simp only; rw [idx_get hx, Option.bind_some]; rw [cond_f (decide_eq_false h1), need_pos hin, need_pos hs0, cond_t (show (!decide (Int.tmod (x - (cutE ends i : Int)) (s : Int) = 0)) = true by simp [h2])]; rfl⟩)
  F 0 () (by omega) (by omega) (fun j hj => by omega)
 unfold p_goodEnds
 rw [show (((0 : Int), (0 : Int)) : Int × Int) = ((cutE ends 0 : Int), ((0 : Nat) : Int)) from rfl]
 rcases key with ⟨_, h, e⟩ | ⟨v, hv, e⟩
 ·left
  rw [e, Option.bind_some, aft_inl]
  exact ⟨rfl, h⟩
 ·right
  rw [e, Option.bind_some, aft_inr]
  exact ⟨v.1, by rw [← hv]⟩
theorem good3_p {F : Nat} (hF : BigF F) {g : TImpl_Geom} (hk : g.Kind = 3) (h1 : 1 ≤ g.Layout) (h2 : g.Layout ≤ 8) (hE : g.Ends.length ≤ 1048576) (hw : WfG g) :
  p_Good F g = some false ∨ (p_Good F g = some true ∧ AscE (strideN g.Layout) g.Ends g.Ends.length ∧ cutE g.Ends g.Ends.length = g.Flat.length) := by
 have hF' : 1073741826 ≤ F := hF
 obtain ⟨G, rfl⟩ : ∃ G, F = G + 1 := ⟨F - 1, by omega⟩
 obtain ⟨e1, _, hs, hs8⟩ := stride_p h1 h2
 have hwe : ∀ x, x ∈ g.Ends → x ≤ 9223372036854775807 := by
  cases g; simp only [WfG] at hw; exact fun x hx => i64top (hw.2.2.2.2.1.2 x hx).2
 have hge := goodEnds_p hs hs8 (F := G) (by omega) (by omega) hwe
 have k4 : p_Good_k4 g G (strideN g.Layout : Int) () = (p_goodEnds G g.Ends (0 : Int) (strideN g.Layout : Int) false).bind fun y31 => ((cond y31.2 (some (decide (y31.1 = ((g.Flat.length : Nat) : Int)))) (some false))) := by
  unfold p_Good_k4 p_Good_k5 p_Good_k6
  rw [hk]; rfl
 show p_Good_b _ G g = some false ∨ (p_Good_b _ G g = some true ∧ _)
 unfold p_Good_b
 rw [e1, Option.bind_some, cond_f (by rw [hk]; rfl), cond_f (decide_eq_false (by omega)), need_pos (by omega), k4]
 cases (!decide ((Int.tmod ((g.Flat.length : Nat) : Int) (strideN g.Layout : Int)) = (0 : Int))) with
 | true => exact .inl rfl
 | false =>
  rw [cond_false]
  cases (decide ((0 : Int) < ((g.Kids.length : Nat) : Int))) with
  | true => exact .inl rfl
  | false =>
   rw [cond_false]
   have main : ((p_goodEnds G g.Ends (0 : Int) (strideN g.Layout : Int) false).bind fun y31 => ((cond y31.2 (some (decide (y31.1 = ((g.Flat.length : Nat) : Int)))) (some false)))) = some false ∨
     (((p_goodEnds G g.Ends (0 : Int) (strideN g.Layout : Int) false).bind fun y31 => ((cond y31.2 (some (decide (y31.1 = ((g.Flat.length : Nat) : Int)))) (some false)))) = some true ∧ AscE (strideN g.Layout) g.Ends g.Ends.length ∧ cutE g.Ends g.Ends.length = g.Flat.length) := by
    rcases hge with ⟨e, ha⟩ | ⟨v, e⟩
    ·rw [e, Option.bind_some]
     by_cases hq : cutE g.Ends g.Ends.length = g.Flat.length
     ·right
      refine ⟨?_, ha, hq⟩
      show (cond true (some (decide (((cutE g.Ends g.Ends.length : Nat) : Int) = _))) _) = _
      rw [cond_true, decide_eq_true (by omega)]
     ·left
      show (cond true (some (decide (((cutE g.Ends g.Ends.length : Nat) : Int) = _))) _) = _
      rw [cond_true, decide_eq_false (by omega)]
    ·left; rw [e]; rfl
   cases (decide ((0 : Int) < ((g.Endss.length : Nat) : Int))) with
   | true => rw [cond_true, cond_t (by rw [hk]; rfl)]; exact .inl rfl
   | false => exact main
/-- A piece of a row of whole places. -/
theorem whole_piece {s : Nat} {l : List Nat} {P : List (Int × Int)} (hs : 2 ≤ s) (h : Whole2 s l P) {a b : Nat} (hab : a ≤ b) (hb : b ≤ P.length) : Whole2 s ((l.drop (a * s)).take (b * s - a * s)) ((P.drop a).take (b - a)) := by
 obtain ⟨hl, hz⟩ := h
 have h1 : b * s ≤ P.length * s := Nat.mul_le_mul_right s hb
 have h2 : a * s ≤ b * s := Nat.mul_le_mul_right s hab
 refine ⟨?_, fun i z hi => ?_⟩
 ·have : ((P.drop a).take (b - a)).length = b - a := by simp; omega
  rw [this, Nat.sub_mul]
  simp; omega
 ·rw [List.getElem?_take] at hi
  split at hi
  ·rename_i hib
   rw [List.getElem?_drop] at hi
   obtain ⟨h3, h4⟩ := hz (a + i) z hi
   refine ⟨?_, h4⟩
   have hlt := mul_lt' (show a + i < b by omega) hs
   have e1 : (a + i) * s = a * s + i * s := Nat.add_mul _ _ _
   have g : ∀ k, k < 2 → ((l.drop (a * s)).take (b * s - a * s)).getD (i * s + k) 0 = l.getD ((a + i) * s + k) 0 := fun k hk => by
    simp only [List.getD_eq_getElem?_getD, List.getElem?_take, List.getElem?_drop]
    rw [if_pos (by omega), show a * s + (i * s + k) = (a + i) * s + k by omega]
   have g0 := g 0 (by omega)
   have g1 := g 1 (by omega)
   simp only [Nat.add_zero] at g0
   show At ⟨_, _⟩ _ _
   rw [g0, g1]
   exact h3
  ·cases hi
def LinesZ (lines : List (List TSpec_Point)) (Ps : List (List (Int × Int))) : Prop :=
 lines.length = Ps.length ∧ ∀ (j : Nat) pts P, lines[j]? = some pts → Ps[j]? = some P → LineR pts P ∧ P.length ≤ 100
/-- what a good polygon is -/
structure PolyR (a0 : Int) (g : TImpl_Geom) (Rs : List (List (Int × Int))) : Prop where
 kind : g.Kind = 3
 lay : g.Layout = a0
 len : g.Ends.length = Rs.length
 pos : 1 ≤ Rs.length
 flat : g.Flat.length ≤ 800 ∧ strideN a0 ≤ g.Flat.length
 ring : ∀ (j : Nat) R, Rs[j]? = some R → g.Ends[j]? = some (cutE g.Ends (j + 1) : Int) ∧ cutE g.Ends j ≤ cutE g.Ends (j + 1) ∧ cutE g.Ends (j + 1) ≤ g.Flat.length ∧
  Whole2 (strideN a0) ((g.Flat.drop (cutE g.Ends j)).take (cutE g.Ends (j + 1) - cutE g.Ends j)) R ∧ R.length ≤ 100
 base : ∃ z, At (plc (strideN a0) g.Flat 0) z.1 z.2 ∧ B64 z
/-- how many places some lines have -/
def tot (Ps : List (List (Int × Int))) (j : Nat) : Nat := ((Ps.take j).map List.length).sum
theorem tot_succ {Ps : List (List (Int × Int))} {j : Nat} {P : List (Int × Int)} (h : Ps[j]? = some P) : tot Ps (j + 1) = tot Ps j + P.length := by
 unfold tot; rw [List.take_add_one, h]; simp
theorem tot_le (Ps : List (List (Int × Int))) (j : Nat) : tot Ps j ≤ (Ps.map List.length).sum := by
 have : Ps.map List.length = (Ps.take j).map List.length ++ (Ps.drop j).map List.length := by rw [← List.map_append, List.take_append_drop]
 rw [this, List.sum_append]; unfold tot; omega
theorem asc_le {s : Nat} {ends : List Int} {n : Nat} (h : AscE s ends n) : ∀ i j, i ≤ j → j ≤ n → cutE ends i ≤ cutE ends j := by
 intro i j hij
 induction j with
 | zero =>
  intro _; have : i = 0 := by omega
  subst this; exact Nat.le_refl _
 | succ j ih =>
  intro hj
  by_cases hi : i = j + 1
  ·subst hi; exact Nat.le_refl _
  ·have := ih (by omega) (by omega)
   have := (h j (by omega)).2.1
   omega
theorem asc_mul {s : Nat} {ends : List Int} {n : Nat} (hs : 0 < s) (h : AscE s ends n) : ∀ j, j ≤ n → cutE ends j = cutE ends j / s * s := by
 intro j
 induction j with
 | zero => intro _; simp [cutE]
 | succ j ih =>
  intro hj
  have e1 := ih (by omega)
  obtain ⟨_, h1, h2⟩ := h j (by omega)
  have h3 : cutE ends (j + 1) % s = 0 := by
   have : cutE ends (j + 1) = cutE ends j + (cutE ends (j + 1) - cutE ends j) := by omega
   rw [this, Nat.add_mod, h2, e1, Nat.mul_mod_left]; simp
  have := Nat.div_add_mod (cutE ends (j + 1)) s
  rw [h3, Nat.mul_comm] at this; omega
end Go.Proofs.YtdchenbdnalbcaaGreatDoor.Wk

set_option linter.unusedVariables false
set_option linter.unusedSimpArgs false
namespace Go.Proofs.YtdchenbdnalbcaaGreatDoor.Wk
open Go.Vm Limb
def ringOf (s : Nat) (ends : List Int) (P : List (Int × Int)) (j : Nat) : List (Int × Int) := (P.drop (cutE ends j / s)).take (cutE ends (j + 1) / s - cutE ends j / s)
def ringsOf (s : Nat) (ends : List Int) (P : List (Int × Int)) : List (List (Int × Int)) := (List.range ends.length).map (ringOf s ends P)
theorem rings_get {s : Nat} {ends : List Int} {P : List (Int × Int)} {j : Nat} (h : j < ends.length) : (ringsOf s ends P)[j]? = some (ringOf s ends P j) := by
 unfold ringsOf; rw [List.getElem?_map, List.getElem?_range h]; rfl
theorem ring_len {s : Nat} {ends : List Int} {P : List (Int × Int)} {l : List Nat} (hs : 2 ≤ s) (hl : l.length = P.length * s) (ha : AscE s ends ends.length) (hc : cutE ends ends.length = l.length) {j : Nat} (hj : j < ends.length) :
  cutE ends (j + 1) / s ≤ P.length ∧ cutE ends j / s ≤ cutE ends (j + 1) / s ∧ (ringOf s ends P j).length = cutE ends (j + 1) / s - cutE ends j / s := by
 have h1 := asc_le ha (j + 1) ends.length (by omega) (by omega)
 have h2 := (ha j hj).2.1
 have h3 : cutE ends (j + 1) / s ≤ P.length := by
  have := Nat.div_le_div_right (c := s) (show cutE ends (j + 1) ≤ P.length * s by omega)
  rw [Nat.mul_div_cancel _ (by omega)] at this; exact this
 have h4 := Nat.div_le_div_right (c := s) h2
 exact ⟨h3, h4, by unfold ringOf; simp; omega⟩
theorem ring_le {s : Nat} {ends : List Int} {P : List (Int × Int)} {l : List Nat} (hs : 2 ≤ s) (hl : l.length = P.length * s) (ha : AscE s ends ends.length) (hc : cutE ends ends.length = l.length) {j : Nat} (hj : j < ends.length) : (ringOf s ends P j).length ≤ P.length := by
 obtain ⟨h1, _, h3⟩ := ring_len hs hl ha hc hj
 rw [h3]; exact Nat.le_trans (Nat.sub_le _ _) h1
theorem rings_tot {s : Nat} {ends : List Int} {P : List (Int × Int)} {l : List Nat} (hs : 2 ≤ s) (hl : l.length = P.length * s) (ha : AscE s ends ends.length) (hc : cutE ends ends.length = l.length) : ∀ j, j ≤ ends.length → tot (ringsOf s ends P) j = cutE ends j / s
 | 0, _ => by simp [tot, cutE]
 | j + 1, hj => by
  rw [tot_succ (rings_get (show j < ends.length by omega)), rings_tot hs hl ha hc j (by omega)]
  obtain ⟨_, h2, h3⟩ := ring_len hs hl ha hc (show j < ends.length by omega)
  omega
theorem ring_whole {s : Nat} {ends : List Int} {P : List (Int × Int)} {l : List Nat} (hs : 2 ≤ s) (h : Whole2 s l P) (ha : AscE s ends ends.length) (hc : cutE ends ends.length = l.length) {j : Nat} (hj : j < ends.length) :
  Whole2 s ((l.drop (cutE ends j)).take (cutE ends (j + 1) - cutE ends j)) (ringOf s ends P j) := by
 obtain ⟨h1, h2, _⟩ := ring_len hs h.1 ha hc hj
 have := whole_piece hs h h2 h1
 rw [← asc_mul (by omega) ha j (by omega), ← asc_mul (by omega) ha (j + 1) (by omega)] at this
 exact this
theorem lines3_p {F : Nat} (hF : BigF F) {s : Nat} {l : List Nat} {ends : List Int} {P : List (Int × Int)} (hs : 2 ≤ s) (hs8 : s ≤ 8) (h : Whole2 s l P) (hP : P.length ≤ 100) (hw : ∀ x, x ∈ l → x < 18446744073709551616)
  (hE : ends.length ≤ 1048576) (ha : AscE s ends ends.length) (hc : cutE ends ends.length = l.length) :
  ∃ out, p_Lines F l ends (s : Int) = some out ∧ LinesZ out (ringsOf s ends P) := by
 have hF' : 1073741826 ≤ F := hF
 obtain ⟨out, ⟨i1, i2⟩, e⟩ := fold_ex ends (p_Lines_l2 l ends (s : Int) F) (fun i (st : List (List TSpec_Point)) => ((cutE ends i : Int), (i : Int), st)) (fun st => st)
  (fun i st => st.length = i ∧ ∀ (j : Nat) pts, st[j]? = some pts → LineR pts (ringOf s ends P j))
  (fun K st hst => by unfold p_Lines_l2; rw [cond_f dge])
  (fun i x st hx hst => by
   have hi := lt_get hx
   obtain ⟨h1, h2, _⟩ := ha i hi
   have hxe : x = (cutE ends (i + 1) : Int) := by rw [hx] at h1; exact Option.some.inj h1
   have h3 := asc_le ha (i + 1) ends.length (by omega) (by omega)
   obtain ⟨h4, h5, h6⟩ := ring_len hs h.1 ha hc hi
   have hrl := ring_le hs h.1 ha hc hi
   obtain ⟨pts, ep, hp⟩ := places_p hF hs hs8 (ring_whole hs h ha hc hi) (by omega) (fun x hx => hw x (List.mem_of_mem_drop (List.mem_of_mem_take hx)))
   refine ⟨st ++ [pts], ⟨by simp [hst.1], fun j pts' hp' => ?_⟩, fun K => ?_⟩
   ·rw [List.getElem?_append] at hp'
    split at hp'
    ·exact hst.2 j pts' hp'
    ·rename_i hj
     have hj0 : j - st.length = 0 := by
      have := (List.getElem?_eq_some_iff.1 hp').1
      simp at this; omega
     have hji : j = i := by have := hst.1; omega
     rw [hj0] at hp'
     simp at hp'
     subst hp' hji
     exact hp
   ·unfold p_Lines_l2
    rw [cond_t (dlt hi)]
    simp only
    rw [idx_get hx, Option.bind_some, hxe, cond_t (decide_eq_true (by omega))]
    unfold p_Lines_k3
    have hl1 := hst.1
    have ed : (l.drop ((cutE ends i : Int)).toNat).take (((cutE ends (i + 1) : Int)).toNat - ((cutE ends i : Int)).toNat) = (l.drop (cutE ends i)).take (cutE ends (i + 1) - cutE ends i) := by simp only [Int.toNat_natCast]
    rw [cond_t (decide_eq_true (by omega)), need_pos ⟨⟨by simp only; omega, by omega⟩, by simp only [Int.toNat_natCast]; omega, by simp only [Int.toNat_natCast]; omega⟩]
    simp only
    rw [ed, ep, Option.bind_some, need_pos (by simp; omega), need_pos (i64s (by omega)), succ_cast]
    have ei : (if (cutE ends i : Int) < (cutE ends (i + 1) : Int) then (cutE ends (i + 1) : Int) else (cutE ends i : Int)) = (cutE ends (i + 1) : Int) := by split <;> omega
    rw [ei])
  F 0 [] (by omega) (by omega) ⟨rfl, fun j pts h => by simp at h⟩
 refine ⟨out, ?_, ?_, fun j pts R hp hR => ?_⟩
 ·unfold p_Lines
  rw [show (((0 : Int), (0 : Int), ([] : List (List TSpec_Point))) : Int × Int × List (List TSpec_Point)) = ((cutE ends 0 : Int), ((0 : Nat) : Int), []) from rfl, e, Option.bind_some, aft_inl]
  rfl
 ·rw [i1]; simp [ringsOf]
 ·have hj : j < ends.length := by have := (List.getElem?_eq_some_iff.1 hp).1; omega
  rw [rings_get hj] at hR
  cases hR
  obtain ⟨h4, h5, h6⟩ := ring_len hs h.1 ha hc hj
  have hrl := ring_le hs h.1 ha hc hj
  exact ⟨i2 j pts hp, by omega⟩
theorem linesZ_append {a b : List (List TSpec_Point)} {A B : List (List (Int × Int))} (h1 : LinesZ a A) (h2 : LinesZ b B) : LinesZ (a ++ b) (A ++ B) := by
 refine ⟨by simp [h1.1, h2.1], fun j pts P hp hP => ?_⟩
 rw [List.getElem?_append] at hp hP
 by_cases hj : j < a.length
 ·rw [if_pos hj] at hp
  rw [if_pos (by have := h1.1; omega)] at hP
  exact h1.2 j pts P hp hP
 ·rw [if_neg hj] at hp
  rw [if_neg (by have := h1.1; omega)] at hP
  rw [← h1.1] at hP
  exact h2.2 _ pts P hp hP
def Kin3 (a0 : Int) (gs : List TImpl_Geom) (i : Nat) (s : Int × List (List TSpec_Point) × List (List (List (Int × Int)))) : Prop :=
 s.2.2.length = i ∧ LinesZ s.2.1 s.2.2.flatten ∧ (0 ≤ s.1 ∧ s.1 ≤ 100 * i) ∧ (s.2.2.flatten.map List.length).sum ≤ 100 * i ∧ s.2.1.length ≤ 1048576 * i ∧ ∀ (j : Nat) Rs g, s.2.2[j]? = some Rs → gs[j]? = some g → PolyR a0 g Rs
theorem kindred3_p {F : Nat} (hF : BigF F) {a0 : Int} {gs : List TImpl_Geom} (hw : ∀ g, g ∈ gs → WfG g) (hE : ∀ g, g ∈ gs → g.Ends.length ≤ 1048576) :
  (p_kindred F 3 a0 gs = some ([], false)) ∨ ∃ s, p_kindred F 3 a0 gs = some (s.2.1, decide (s.1 ≤ 100)) ∧ (1 ≤ a0 ∧ a0 ≤ 8) ∧ gs.length ≤ 20 ∧ Kin3 a0 gs gs.length s := by
 have hF' : 1073741826 ≤ F := hF
 unfold p_kindred
 by_cases h1 : a0 < 1
 ·rw [cond_t (decide_eq_true h1)]; exact .inl rfl
 rw [cond_f (decide_eq_false h1)]
 by_cases h2 : 8 < a0
 ·rw [cond_t (decide_eq_true h2)]; exact .inl rfl
 rw [cond_f (decide_eq_false h2)]
 by_cases h3 : (20 : Int) < ((gs.length : Nat) : Int)
 ·rw [decide_eq_true h3]; exact .inl rfl
 rw [decide_eq_false h3]
 have a1 : 1 ≤ a0 := by omega
 have a8 : a0 ≤ 8 := by omega
 obtain ⟨e1, _, hs2, hs8⟩ := stride_p a1 a8
 unfold p_kindred_k1
 rw [cond_false, e1, Option.bind_some]
 have hl := fold_or gs (p_kindred_l3 3 a0 gs F (strideN a0 : Int)) (fun i (s : Int × List (List TSpec_Point) × List (List (List (Int × Int)))) => (s.1, (i : Int), s.2.1)) (fun s => (s.1, s.2.1)) (([] : List (List TSpec_Point)), false)
  (Kin3 a0 gs)
  (fun K s hs => by unfold p_kindred_l3; rw [cond_f dge])
  (fun i g s hx hs => by
   have hi := lt_get hx
   have hgm := List.mem_of_getElem? hx
   have hb : ∀ K, p_kindred_l3 3 a0 gs F (strideN a0 : Int) K (s.1, (i : Int), s.2.1) = (cond (!decide (g.Kind = 3)) ((p_kindred_k4 3 a0 F (strideN a0 : Int) (s.1, (i : Int), s.2.1) K g) true) (cond (!decide (g.Layout = a0)) ((p_kindred_k4 3 a0 F (strideN a0 : Int) (s.1, (i : Int), s.2.1) K g) true) ((p_Good F g).bind fun y31 => ((cond (!y31) ((p_kindred_k4 3 a0 F (strideN a0 : Int) (s.1, (i : Int), s.2.1) K g) true) ((p_kindred_k4 3 a0 F (strideN a0 : Int) (s.1, (i : Int), s.2.1) K g) (decide (((g.Flat.length : Nat) : Int) = (0 : Int))))))))) := fun K => by
    unfold p_kindred_l3
    rw [cond_t (dlt hi)]
    simp only
    rw [idx_get hx, Option.bind_some]
   have bad : ∀ K, p_kindred_k4 3 a0 F (strideN a0 : Int) (s.1, (i : Int), s.2.1) K g true = some (Sum.inr ([], false)) := fun K => rfl
   by_cases hk : g.Kind = 3
   ·by_cases hy : g.Layout = a0
    ·rcases good3_p hF hk (by omega) (by omega) (hE g hgm) (hw g hgm) with hg | ⟨hg, hasc, hcut⟩
     ·simp only [hb, hg, Option.bind_some, bad, nF hk, nF hy, cond_false, Bool.not_false, cond_true]; exact .inr fun K => trivial
     ·simp only [hb, hg, Option.bind_some, bad, nF hk, nF hy, cond_false, Bool.not_true]
      rw [hy] at hasc
      by_cases h0 : ((g.Flat.length : Nat) : Int) = 0
      ·simp only [decide_eq_true h0, bad]; exact .inr fun K => trivial
      ·simp only [decide_eq_false h0]
       unfold p_kindred_k4
       simp only [cond_false]
       rcases flat_p hF (l := g.Flat) a1 a8 with hfl | ⟨m, hlm, hm, hfl⟩
       ·simp only [hfl, Option.bind_some, Bool.not_false, cond_true]; exact .inr fun K => trivial
       ·rw [hfl]
        simp only [Option.bind_some]
        cases hall : ((List.range m).map (plc (strideN a0) g.Flat)).all (planeOk 4634204016564240384) with
        | false => simp only [Bool.not_false, cond_true]; exact .inr fun K => trivial
        | true =>
         obtain ⟨P, hPl, hP⟩ := whole_of hlm hall
         have hb2 : m * strideN a0 ≤ 100 * 8 := Nat.mul_le_mul hm hs8
         obtain ⟨out, el, hout⟩ := lines3_p hF hs2 hs8 hP (by omega) (wfG_flat (hw g hgm)) (hE g hgm) hasc hcut
         have hEl : 1 ≤ g.Ends.length := by
          rcases Nat.eq_zero_or_pos g.Ends.length with e | e
          ·exfalso; apply h0; rw [← hcut, e]; rfl
          ·exact e
         have hm1 : 1 ≤ m := by
          rcases Nat.eq_zero_or_pos m with e | e
          ·exfalso; apply h0; rw [hlm, e, Nat.zero_mul]; rfl
          ·exact e
         have hms : strideN a0 ≤ m * strideN a0 := Nat.le_mul_of_pos_left _ hm1
         have hol : out.length = g.Ends.length := by rw [hout.1]; simp [ringsOf]
         have hrt : ((ringsOf (strideN a0) g.Ends P).map List.length).sum ≤ 100 := by
          have := rings_tot hs2 hP.1 hasc hcut g.Ends.length (Nat.le_refl _)
          unfold tot at this
          rw [List.take_of_length_le (by simp [ringsOf]), hcut, hlm, Nat.mul_div_cancel _ (by omega)] at this
          omega
         have hdv : Int.tdiv ((g.Flat.length : Nat) : Int) (strideN a0 : Int) = (m : Int) := by
          rw [Int.tdiv_eq_ediv_of_nonneg (by omega), hlm]
          have : (((m * strideN a0 : Nat) : Int)) = (m : Int) * (strideN a0 : Int) := by simp
          rw [this, Int.mul_ediv_cancel _ (by omega)]
         have hpoly : PolyR a0 g (ringsOf (strideN a0) g.Ends P) := by
          refine ⟨hk, hy, by simp [ringsOf], by simp [ringsOf]; omega, ⟨by omega, by omega⟩, fun j R hR => ?_, ?_⟩
          ·have hj : j < g.Ends.length := by
            have := (List.getElem?_eq_some_iff.1 hR).1
            simpa [ringsOf] using this
           rw [rings_get hj] at hR
           cases hR
           obtain ⟨q1, q2, _⟩ := hasc j hj
           have hrl := ring_le hs2 hP.1 hasc hcut hj
           exact ⟨q1, q2, by have := asc_le hasc (j + 1) g.Ends.length (by omega) (by omega); omega, ring_whole hs2 hP hasc hcut hj, by omega⟩
          ·have e0 : P[0]? = some P[0] := List.getElem?_eq_getElem (by omega)
           exact ⟨_, hP.2 0 _ e0⟩
         obtain ⟨k1, k2, k3, k4, k5, k6⟩ := hs
         refine .inl ⟨(s.1 + (m : Int), s.2.1 ++ out, s.2.2 ++ [ringsOf (strideN a0) g.Ends P]), ⟨by simp [k1], ?_, by simp only; omega, ?_, ?_, fun j Rs g' q1 q3 => ?_⟩, fun K => ?_⟩
         ·simp only [List.flatten_append, List.flatten_cons, List.flatten_nil, List.append_nil]
          exact linesZ_append k2 hout
         ·simp only [List.flatten_append, List.flatten_cons, List.flatten_nil, List.append_nil, List.map_append, List.sum_append]
          omega
         ·have := hE g hgm
          simp only [List.length_append]
          omega
         ·simp only at q1
          rw [List.getElem?_append] at q1
          by_cases hj : j < i
          ·rw [if_pos (by omega)] at q1; exact k6 j Rs g' q1 q3
          ·rw [if_neg (by omega)] at q1
           have hj0 : j - s.2.2.length = 0 := by
            have := (List.getElem?_eq_some_iff.1 q1).1
            simp at this; omega
           have hji : j = i := by omega
           rw [hj0] at q1
           subst hji
           rw [hx] at q3
           cases q3
           simp at q1
           subst q1
           exact hpoly
         ·simp only [Bool.not_true, cond_false]
          rw [hdv, need_pos ⟨by omega, in64 (by omega) (by omega)⟩, need_pos (in64 (by omega) (by omega)), cond_f (by rfl), cond_f (by rfl), cond_f (by rfl)]
          unfold p_kindred_k5
          simp only
          have := hE g hgm
          rw [el, Option.bind_some, need_pos (by omega), need_pos (i64s (by omega)), succ_cast, hdv]
    ·simp only [hb, bad, nF hk, nT hy, cond_false, cond_true]; exact .inr fun K => trivial
   ·simp only [hb, bad, nT hk, cond_true]; exact .inr fun K => trivial)
  F 0 (0, [], []) (by omega) (by omega) ⟨rfl, ⟨rfl, fun j p P h => by simp at h⟩, by simp, by simp, by simp, fun j R g q => by simp at q⟩
 rcases hl with ⟨s, hs, hl⟩ | hl
 ·right
  refine ⟨s, ?_, ⟨a1, a8⟩, by omega, hs⟩
  rw [show (((0 : Int), (0 : Int), ([] : List (List TSpec_Point))) : Int × Int × List (List TSpec_Point)) = ((0 : Int), (((0 : Nat) : Int)), ([] : List (List TSpec_Point))) from rfl, hl, Option.bind_some, aft_inl]
  rfl
 ·left
  rw [show (((0 : Int), (0 : Int), ([] : List (List TSpec_Point))) : Int × Int × List (List TSpec_Point)) = ((0 : Int), (((0 : Nat) : Int)), ([] : List (List TSpec_Point))) from rfl, hl, Option.bind_some, aft_inr]
end Go.Proofs.YtdchenbdnalbcaaGreatDoor.Wk

set_option linter.unusedVariables false
set_option linter.unusedSimpArgs false
namespace Go.Proofs.YtdchenbdnalbcaaGreatDoor.Wk
open Go.Vm Limb
def AllAx (Ps : List (List (Int × Int))) (m : Nat) : Prop := ∀ j P, j < m → Ps[j]? = some P → ∀ k, k + 1 < P.length → Ax (nth P k) (nth P (k + 1))
theorem shift1_p {d : TSpec_Dyadic} {n : Int} {m k : Nat} (h : Dyd d (n : Rat) m k) (hk : k < 1000000) : ∃ d', p_Dyadic_Shift d 1 = some d' ∧ Dyd d' ((2 * n : Int) : Rat) m (k + 1) := by
 obtain ⟨c, e, rfl, h2, h3, h4, h5⟩ := h
 unfold p_Dyadic_Shift
 rw [need_pos (in64m (by simp only; omega) (by simp only; omega))]
 refine ⟨_, rfl, c, e + 1, rfl, ?_, h3, by omega, by omega⟩
 rw [Rat.intCast_mul, h2, Flt.zpow_add]
 have e1 : (2 : Rat) ^ (1 : Int) = 2 := by decide +kernel
 have e2 : ((2 : Int) : Rat) = 2 := rfl
 rw [e1, e2]; grind
theorem bnd_mono {M N : Nat} {t : Int × Int × Int} (h : Bnd M t) (hMN : M ≤ N) : Bnd N t := by
 unfold Bnd at *
 omega
theorem line_b64 {pts : List TSpec_Point} {P : List (Int × Int)} (hl : LineR pts P) : ∀ i, i < P.length → B64 (nth P i) := fun i hi => by
 have e1 : P[i]? = some P[i] := List.getElem?_eq_getElem hi
 have e2 : pts[i]? = some (pts[i]'(by have := hl.1; omega)) := List.getElem?_eq_getElem (by have := hl.1; omega)
 rw [nth_get e1]
 exact (hl.2 i _ _ e2 e1).2
theorem run_step {P : List (Int × Int)} (hP : ∀ i, i < P.length → B64 (nth P i)) {N : Nat} {t : Int × Int × Int} (h : Bnd N t) : Bnd (N + P.length) (run P t (P.length - 1)) := by
 by_cases h0 : P.length = 0
 ·rw [h0]; exact h
 ·exact bnd_mono (bnd_run hP h (P.length - 1) (by omega)) (by omega)
theorem runs_succ {Ps : List (List (Int × Int))} {j : Nat} {P : List (Int × Int)} (h : Ps[j]? = some P) : runs Ps (j + 1) = run P (runs Ps j) (P.length - 1) := by
 show run (Ps.getD j []) (runs Ps j) ((Ps.getD j []).length - 1) = _
 rw [List.getD_eq_getElem?_getD, h]; rfl
theorem runsZ_bnd {Ps : List (List (Int × Int))} (h : ∀ P, P ∈ Ps → ∀ i, i < P.length → B64 (nth P i)) : ∀ j, j ≤ Ps.length → Bnd (tot Ps j) (runs Ps j)
 | 0, _ => by show Bnd (tot Ps 0) (0, 0, 0); unfold Bnd; simp only; omega
 | j + 1, hj => by
  obtain ⟨P, hP⟩ : ∃ P, Ps[j]? = some P := ⟨_, List.getElem?_eq_getElem (by omega)⟩
  rw [runs_succ hP, tot_succ hP]
  exact run_step (h P (List.mem_of_getElem? hP)) (runsZ_bnd h j (by omega))
theorem linesZ_b64 {lines : List (List TSpec_Point)} {Ps : List (List (Int × Int))} (h : LinesZ lines Ps) : ∀ P, P ∈ Ps → ∀ i, i < P.length → B64 (nth P i) := fun P hP => by
 obtain ⟨j, hj⟩ := List.getElem?_of_mem hP
 obtain ⟨pts, hp⟩ : ∃ p, lines[j]? = some p := ⟨_, List.getElem?_eq_getElem (by have := h.1; have := (List.getElem?_eq_some_iff.1 hj).1; omega)⟩
 exact line_b64 (h.2 j pts P hp hj).1
theorem centroid3_p {F : Nat} (hF : BigF F) {lines : List (List TSpec_Point)} {Ps : List (List (Int × Int))} (h : LinesZ lines Ps) (hn : lines.length ≤ 20971520) (h2000 : (Ps.map List.length).sum ≤ 2000) :
  (∃ N1 N2 D, p_LineCentroid F lines = some (⟨N1, D⟩, ⟨N2, D⟩, true) ∧ (runs Ps Ps.length).1 ≠ 0 ∧ DD N1 (runs Ps Ps.length).2.1 ∧ DD N2 (runs Ps Ps.length).2.2 ∧ Dyd D ((2 * (runs Ps Ps.length).1 : Int) : Rat) 102 3223 ∧ AllAx Ps Ps.length) ∨
   ∃ a b, p_LineCentroid F lines = some (a, b, false) := by
 have hF' : 1073741826 ≤ F := hF
 have hl := h.1
 have key := fold_or lines (p_LineCentroid_l2 lines F) mkI outI (R0, R0, false) (fun j s => D3 s (runs Ps j) ∧ AllAx Ps j)
  (fun K s hs => by unfold p_LineCentroid_l2 mkI; rw [cond_f dge]; rfl)
  (fun j pts s hx hs => by
   have hj := lt_get hx
   obtain ⟨P, hP⟩ : ∃ P, Ps[j]? = some P := ⟨_, List.getElem?_eq_getElem (by omega)⟩
   obtain ⟨hL, h100⟩ := h.2 j pts P hx hP
   have hb := runsZ_bnd (linesZ_b64 h) j (by omega)
   have htot := tot_le Ps j
   have hbody : ∀ K, p_LineCentroid_l2 lines F K (mkI j s) = (iter (p_LineCentroid_l4 F pts) F (mkI 1 s)).bind fun o => aft o (fun r => some (Sum.inr r)) (p_LineCentroid_k3 (mkI j s) K) := fun K => by
    unfold p_LineCentroid_l2 mkI
    rw [cond_t (dlt hj)]
    simp only
    rw [idx_get hx, Option.bind_some]
    rfl
   have hline : (∃ s', (D3 s' (run P (runs Ps j) (P.length - 1)) ∧ ∀ k, k + 1 < P.length → Ax (nth P k) (nth P (k + 1))) ∧ iter (p_LineCentroid_l4 F pts) F (mkI 1 s) = some (.inl (outI s'))) ∨ iter (p_LineCentroid_l4 F pts) F (mkI 1 s) = some (.inr (R0, R0, false)) := by
    by_cases h0 : P.length = 0
    ·left
     refine ⟨s, ⟨by rw [h0]; exact hs.1, fun k hk => by omega⟩, ?_⟩
     obtain ⟨G, rfl⟩ : ∃ G, F = G + 1 := ⟨F - 1, by omega⟩
     show p_LineCentroid_l4 (G + 1) pts (iter (p_LineCentroid_l4 (G + 1) pts) G) (mkI 1 s) = _
     generalize iter (p_LineCentroid_l4 (G + 1) pts) G = K
     unfold p_LineCentroid_l4 mkI
     rw [cond_f (decide_eq_false (by have := hL.1; simp only; omega))]; rfl
    ·exact line_p hF hL (by omega) h100 (by omega) hb hs.1
   rcases hline with ⟨s', ⟨hs', ha⟩, e⟩ | e
   ·left
    refine ⟨s', ⟨by rw [runs_succ hP]; exact hs', fun i P' hi hP' => ?_⟩, fun K => ?_⟩
    ·by_cases hij : i < j
     ·exact hs.2 i P' hij hP'
     ·have : i = j := by omega
      subst this
      rw [hP] at hP'; cases hP'
      exact ha
    ·rw [hbody, e, Option.bind_some, aft_inl]
     unfold p_LineCentroid_k3 mkI outI
     simp only
     rw [need_pos (i64s (by omega)), succ_cast]
   ·right
    intro K
    rw [hbody, e, Option.bind_some, aft_inr])
  F 0 (⟨⟨false, []⟩, 0⟩, ⟨⟨false, []⟩, 0⟩, ⟨⟨false, []⟩, 0⟩) (by omega) (by omega) ⟨⟨dd_zero, dd_zero, dd_zero⟩, fun j P hj => by omega⟩
 have hini : (((0 : Int), false, [], (0 : Int), false, [], (0 : Int), false, [], (0 : Int)) : Int × Bool × List Int × Int × Bool × List Int × Int × Bool × List Int × Int) = mkI 0 (⟨⟨false, []⟩, 0⟩, ⟨⟨false, []⟩, 0⟩, ⟨⟨false, []⟩, 0⟩) := rfl
 unfold p_LineCentroid
 rw [hini]
 rcases key with ⟨s, ⟨⟨j1, j2, j3⟩, ha⟩, e⟩ | e
 ·rw [e, Option.bind_some, aft_inl]
  unfold p_LineCentroid_k1 outI
  simp only
  rw [show (TSpec_Dyadic.mk (TSpec_Whole.mk s.1.N.Neg s.1.N.L) s.1.E) = s.1 from rfl, show (TSpec_Dyadic.mk (TSpec_Whole.mk s.2.1.N.Neg s.2.1.N.L) s.2.1.E) = s.2.1 from rfl, show (TSpec_Dyadic.mk (TSpec_Whole.mk s.2.2.N.Neg s.2.2.N.L) s.2.2.E) = s.2.2 from rfl]
  rw [hl] at j1 j2 j3 ha
  rw [dyd_sign j1, Option.bind_some, sgR_int]
  by_cases h0 : (runs Ps Ps.length).1 = 0
  ·right
   rw [if_pos h0]
   exact ⟨_, _, rfl⟩
  ·left
   have hne : (if (runs Ps Ps.length).1 = 0 then (0 : Int) else if (runs Ps Ps.length).1 < 0 then -1 else 1) ≠ 0 := by rw [if_neg h0]; split <;> decide
   obtain ⟨D, eD, kD⟩ := shift1_p j1 (by omega)
   rw [cond_f (decide_eq_false hne), eD, Option.bind_some]
   exact ⟨s.2.1, s.2.2, D, rfl, h0, j2, j3, kD, ha⟩
 ·right
  rw [e, Option.bind_some, aft_inr]
  exact ⟨_, _, rfl⟩
/-- a ring that goes there and back along a level or an upright line -/
def Flatt (P : List (Int × Int)) : Prop := 4 ≤ P.length ∧ nth P 0 = nth P (P.length - 1) ∧ ((∀ i, i < P.length → (nth P i).2 = (nth P 0).2) ∨ ∀ i, i < P.length → (nth P i).1 = (nth P 0).1)
theorem decz {a b : Int} : decide (sgR ((a : Rat) - (b : Rat)) = 0) = decide (a = b) := by
 rw [← Rat.intCast_sub, sgR_int]
 by_cases h : a = b
 ·rw [if_pos (by omega), decide_eq_true h]; rfl
 ·rw [if_neg (by omega), decide_eq_false h]
  by_cases h2 : a - b < 0
  ·rw [if_pos h2]; rfl
  ·rw [if_neg h2]; rfl
/-- The loop along a ring. -/
theorem along_p {F : Nat} (hF : BigF F) {pts : List TSpec_Point} {P : List (Int × Int)} (hp : LineR pts P) (h1 : 1 ≤ P.length) (h100 : P.length ≤ 100) :
  ∃ a b, iter (p_FnPolygonsFlat_l6 F pts) F ((true, true, (0 : Int)) : Bool × Bool × Int) = some (.inl (a, b)) ∧ (a = true → ∀ i, i < P.length → (nth P i).2 = (nth P 0).2) ∧ (b = true → ∀ i, i < P.length → (nth P i).1 = (nth P 0).1) := by
 have hF' : 1073741826 ≤ F := hF
 have hl := hp.1
 obtain ⟨q, hq⟩ : ∃ q, pts[0]? = some q := ⟨_, List.getElem?_eq_getElem (by omega)⟩
 obtain ⟨w, hw⟩ : ∃ w, P[0]? = some w := ⟨_, List.getElem?_eq_getElem (by omega)⟩
 obtain ⟨⟨q1, q2⟩, _⟩ := hp.2 0 q w hq hw
 have iq : idx pts (0 : Int) = some q := idx_get (k := 0) hq
 obtain ⟨st, hst, e⟩ := fold_ex pts (p_FnPolygonsFlat_l6 F pts) (fun i (st : Bool × Bool) => (st.1, st.2, (i : Int))) (fun st => (st.1, st.2))
  (fun i st => (st.1 = true → ∀ j, j < i → (nth P j).2 = (nth P 0).2) ∧ (st.2 = true → ∀ j, j < i → (nth P j).1 = (nth P 0).1))
  (fun K st hst => by unfold p_FnPolygonsFlat_l6; rw [cond_f dge])
  (fun i x st hx hst => by
   have hi := lt_get hx
   obtain ⟨z, hz⟩ : ∃ z, P[i]? = some z := ⟨_, List.getElem?_eq_getElem (by omega)⟩
   obtain ⟨⟨x1, x2⟩, _⟩ := hp.2 i x z hx hz
   have c2 := dyd_cmp x2 q2 (by omega) (by omega) hF
   have c1 := dyd_cmp x1 q1 (by omega) (by omega) hF
   have hn0 : nth P 0 = w := nth_get hw
   have hni : nth P i = z := nth_get hz
   refine ⟨(st.1 && decide (z.2 = w.2), st.2 && decide (z.1 = w.1)), ⟨fun h j hj => ?_, fun h j hj => ?_⟩, fun K => ?_⟩
   ·simp only [Bool.and_eq_true, decide_eq_true_eq] at h
    by_cases hji : j < i
    ·exact hst.1 h.1 j hji
    ·have : j = i := by omega
     subst this
     rw [hn0, hni]; exact h.2
   ·simp only [Bool.and_eq_true, decide_eq_true_eq] at h
    by_cases hji : j < i
    ·exact hst.2 h.1 j hji
    ·have : j = i := by omega
     subst this
     rw [hn0, hni]; exact h.2
   ·unfold p_FnPolygonsFlat_l6
    rw [cond_t (dlt hi)]
    simp only
    rw [idx_get hx, Option.bind_some, iq]
    obtain ⟨sa, sb⟩ := st
    have hin : inI .i64 ((i + 1 : Nat) : Int) := in64 (by omega) (by omega)
    cases sa <;> cases sb <;> simp only [cond_true, cond_false, Option.bind_some, c1, c2, decz, need_pos hin, succ_cast, Bool.true_and, Bool.false_and])
  F 0 (true, true) (by omega) (by omega) ⟨fun _ j hj => by omega, fun _ j hj => by omega⟩
 refine ⟨st.1, st.2, e, fun h i hi => hst.1 h i (by omega), fun h i hi => hst.2 h i (by omega)⟩
end Go.Proofs.YtdchenbdnalbcaaGreatDoor.Wk

set_option linter.unusedVariables false
set_option linter.unusedSimpArgs false
namespace Go.Proofs.YtdchenbdnalbcaaGreatDoor.Wk
open Go.Vm
theorem half_sum {x y : Nat} {m n : Int} (hx : Flt.I x m) (hy : Flt.I y n) (hb : (m + n).natAbs ≤ 9007199254740992) : ∃ s z, floatBits .add .f64 x y = some s ∧ floatBits .quo .f64 s 4611686018427387904 = some z ∧ Flt.J (-1) z (m + n) := by
 obtain ⟨s, e1, i1⟩ := Flt.add_int hx hy hb
 have i2 : Flt.I 4611686018427387904 2 := by
  have e : (4611686018427387904 : Nat) = ofInt 2 := by decide +kernel
  rw [e]; exact Flt.ofInt_int (by decide)
 have half : (2 : Rat) ^ (-1 : Int) = 1 / 2 := by decide +kernel
 have hq : (((m + n : Int)) : Rat) / ((2 : Int) : Rat) = ((m + n : Int) : Rat) * 2 ^ (-1 : Int) := by
  rw [half, Rat.div_def]
  have : (((2 : Int) : Rat))⁻¹ = 1 / 2 := by decide +kernel
  rw [this]
 obtain ⟨z, e2, hz⟩ := Flt.quo_exact i1 i2 (by decide) hq hb (by decide) (by decide)
 exact ⟨s, z, e1, e2, by unfold Flt.J; rw [hz, hq]⟩
theorem cut0 {l : List Nat} {a : Nat} (h : a + 2 ≤ l.length) : idx ((l.drop (((a : Nat) : Int)).toNat).take ((((a : Nat) : Int) + 2).toNat - (((a : Nat) : Int)).toNat)) (0 : Int) = some (l.getD a 0) ∧ idx ((l.drop (((a : Nat) : Int)).toNat).take ((((a : Nat) : Int) + 2).toNat - (((a : Nat) : Int)).toNat)) (1 : Int) = some (l.getD (a + 1) 0) := by
 have e1 : (((a : Nat) : Int)).toNat = a := by omega
 have e2 : (((a : Nat) : Int) + 2).toNat - a = 2 := by omega
 rw [e1, e2]
 have g : ∀ k, k < 2 → ((l.drop a).take 2)[k]? = some (l.getD (a + k) 0) := fun k hk => by
  rw [List.getElem?_take, if_pos hk, List.getElem?_drop, List.getD_eq_getElem?_getD, List.getElem?_eq_getElem (by omega)]; rfl
 exact ⟨idx_get (k := 0) (g 0 (by omega)), idx_get (k := 1) (g 1 (by omega))⟩
theorem sq_ax {w z : Int × Int} (h : Ax w z) : ∃ k : Nat, dd w z = (k : Int) ∧ (w.1 - z.1) * (w.1 - z.1) + (w.2 - z.2) * (w.2 - z.2) = ((k * k : Nat) : Int) := by
 have sq : ∀ n : Int, n * n = ((n.natAbs * n.natAbs : Nat) : Int) := fun n => by rw [Int.natCast_mul, ← Int.natAbs_mul_self' n]
 unfold dd
 rcases h with h | h
 ·refine ⟨(z.2 - w.2).natAbs, by omega, ?_⟩
  rw [h, Int.sub_self, sq (w.2 - z.2), show (w.2 - z.2).natAbs = (z.2 - w.2).natAbs by omega]; omega
 ·refine ⟨(z.1 - w.1).natAbs, by omega, ?_⟩
  rw [h, Int.sub_self, sq (w.1 - z.1), show (w.1 - z.1).natAbs = (z.1 - w.1).natAbs by omega]; omega
theorem dist_p {A B : List Nat} {ax ay bx b_y : Nat} {w z : Int × Int} (a0 : idx A (0 : Int) = some ax) (a1 : idx A (1 : Int) = some ay) (b0 : idx B (0 : Int) = some bx) (b1 : idx B (1 : Int) = some b_y)
  (i1 : Flt.I ax w.1) (i2 : Flt.I ay w.2) (i3 : Flt.I bx z.1) (i4 : Flt.I b_y z.2) (hw : B64 w) (hz : B64 z) (h : Ax w z) : ∃ y, p_Distance2D A B = some y ∧ Flt.I y (dd w z) := by
 obtain ⟨⟨w1, w2⟩, w3, w4⟩ := hw
 obtain ⟨⟨z1, z2⟩, z3, z4⟩ := hz
 obtain ⟨x5, e5, j5⟩ := Flt.sub_int i1 i3 (by omega)
 obtain ⟨x11, e11, j11⟩ := Flt.sub_int i2 i4 (by omega)
 have nab : ∀ n : Int, n.natAbs ≤ 128 → (n * n).natAbs ≤ 16384 := fun n hn => by rw [Int.natAbs_mul]; exact Nat.mul_le_mul hn hn
 have n1 := nab (w.1 - z.1) (by omega)
 have n2 := nab (w.2 - z.2) (by omega)
 obtain ⟨x13, e13, j13⟩ := Flt.mul_int j5 j5 (by omega)
 obtain ⟨x15, e15, j15⟩ := Flt.mul_int j11 j11 (by omega)
 obtain ⟨x17, e17, j17⟩ := Flt.add_int j13 j15 (by omega)
 obtain ⟨k, hk, hs⟩ := sq_ax h
 have hd : dd w z ≤ 256 := by unfold dd; omega
 rw [hs] at j17
 obtain ⟨y, ey, jy⟩ := Flt.sqrt_int j17 (by omega)
 refine ⟨y, ?_, by rw [hk]; exact jy⟩
 unfold p_Distance2D
 have hS : p_Sqrt x17 = some y := by unfold p_Sqrt; rw [show FloatKind.f64.format.sqrt x17 = some y from ey]; rfl
 simp only [a0, a1, b0, b1, Option.bind_some, e5, e11, e13, e15, e17, hS]
/-- what the calculator holds -/
def FS (s : Nat) (st : List Nat × Nat) (t : Int × Int × Int) : Prop :=
 st.1.length = s ∧ Flt.J (-1) (st.1.getD 0 0) t.2.1 ∧ Flt.J (-1) (st.1.getD 1 0) t.2.2 ∧ (∀ k, 2 ≤ k → st.1.getD k 0 = 0) ∧ Flt.I st.2 t.1
theorem idxD {l : List Nat} {k : Nat} (h : k < l.length) : idx l (k : Int) = some (l.getD k 0) := idx_lt l k 0 h
theorem getD_set' (l : List Nat) (i k v : Nat) : (l.set i v).getD k 0 = if i = k ∧ i < l.length then v else l.getD k 0 := by
 simp only [List.getD_eq_getElem?_getD, List.getElem?_set]
 by_cases h : i = k
 ·subst h
  by_cases h2 : i < l.length
  ·simp [h2]
  ·simp [h2]
 ·simp [h]
theorem seg15_loop {F : Nat} (hF : BigF F) {s : Nat} {l : List Nat} {P : List (Int × Int)} {y : TGeom_LinearRing} (hy : y.geom1.geom0.flatCoords = l) (hs : 2 ≤ s) (hs8 : s ≤ 8) (h : Whole2 s l P) (h1 : 1 ≤ P.length) (h100 : P.length ≤ 100)
  (hax : ∀ k, k + 1 < P.length → Ax (nth P k) (nth P (k + 1))) {N : Nat} (hN : N ≤ 2000) {t0 : Int × Int × Int} (hb : Bnd N t0) {st0 : List Nat × Nat} (h0 : FS s st0 t0) :
  ∃ st, FS s st (run P t0 (P.length - 1)) ∧ iter (p_PolygonsCentroid_l15 (s : Int) (s : Int) y) F ((0 : Int), st0.1, st0.2) = some (.inl (st.1, st.2)) := by
 have hF' : 1073741826 ≤ F := hF
 obtain ⟨hl, hz⟩ := h
 have hbl : P.length * s ≤ 100 * 8 := Nat.mul_le_mul h100 hs8
 have hB : ∀ i, i < P.length → At (plc s l i) (nth P i).1 (nth P i).2 ∧ B64 (nth P i) := fun i hi => by
  have e1 : P[i]? = some P[i] := List.getElem?_eq_getElem hi
  have := hz i _ e1
  rw [nth_get e1]; exact this
 have hlast : (P.length - 1) * s + s = P.length * s := by
  obtain ⟨m, hm⟩ : ∃ m, P.length = m + 1 := ⟨P.length - 1, by omega⟩
  rw [hm, Nat.add_sub_cancel, Nat.add_mul, Nat.one_mul]
 have hlen : (P.drop 1).length = P.length - 1 := by simp
 obtain ⟨st, hst, e⟩ := fold_ex (P.drop 1) (p_PolygonsCentroid_l15 (s : Int) (s : Int) y) (fun i (st : List Nat × Nat) => (((i * s : Nat) : Int), st.1, st.2)) (fun st => (st.1, st.2))
  (fun i st => FS s st (run P t0 i))
  (fun K st hst => by
   unfold p_PolygonsCentroid_l15
   rw [hy, hlen, need_pos (in64m (by omega) (by omega))]
   rw [cond_f (decide_eq_false (by simp only; omega))])
  (fun i x st hx hst => by
   have hi := lt_get hx
   rw [hlen] at hi
   obtain ⟨⟨a1, a2⟩, aB⟩ := hB i (by omega)
   obtain ⟨⟨b1, b2⟩, bB⟩ := hB (i + 1) (by omega)
   simp only [plc] at a1 a2 b1 b2
   have hle : (i + 1) * s + s ≤ P.length * s := mul_lt' (by omega) hs
   have hi1 : (i + 1) * s = i * s + s := by rw [Nat.add_mul, Nat.one_mul]
   rw [hi1] at b1 b2
   have hx' := hax i (by omega)
   obtain ⟨d, ed, jd⟩ := dist_p (cut0 (l := l) (a := i * s) (by omega)).1 (cut0 (l := l) (a := i * s) (by omega)).2 (cut0 (l := l) (a := i * s + s) (by omega)).1 (cut0 (l := l) (a := i * s + s) (by omega)).2 a1 a2 b1 b2 aB bB hx'
   have hbr := bnd_run (fun i hi => (hB i hi).2) hb (i + 1) (by omega)
   have hbs := bnd_seg aB bB
   have hrun : run P t0 (i + 1) = add3 (run P t0 i) (sg3 (nth P i) (nth P (i + 1))) := rfl
   obtain ⟨q1, q2, q3, q4, q5⟩ := hst
   rw [hrun] at hbr
   obtain ⟨⟨u1, u2⟩, ⟨u3, u4⟩, u5, u6⟩ := hbr
   obtain ⟨⟨v1, v2⟩, ⟨v3, v4⟩, v5, v6⟩ := hbs
   simp only [add3, sg3] at u1 u2 u3 u4 u5 u6 v1 v2 v3 v4 v5 v6
   have hmid : ((nth P i).1 + (nth P (i + 1)).1).natAbs ≤ 128 ∧ ((nth P i).2 + (nth P (i + 1)).2).natAbs ≤ 128 := by
    obtain ⟨⟨c1, c2⟩, c3, c4⟩ := aB
    obtain ⟨⟨c5, c6⟩, c7, c8⟩ := bB
    omega
   obtain ⟨z66, e66, j66⟩ := Flt.add_int q5 jd (by omega)
   obtain ⟨z73, z75, e73, e75, j75⟩ := half_sum a1 b1 (by omega)
   obtain ⟨z93, z95, e93, e95, j95⟩ := half_sum a2 b2 (by omega)
   rw [Int.add_comm] at j75 j95
   obtain ⟨z80, e80, j80⟩ := Flt.mul_dy jd.J j75 (by omega) (by decide) (by decide)
   obtain ⟨z100, e100, j100⟩ := Flt.mul_dy jd.J j95 (by omega) (by decide) (by decide)
   have j80' : Flt.J (-1) z80 (dd (nth P i) (nth P (i + 1)) * ((nth P (i + 1)).1 + (nth P i).1)) := j80
   have j100' : Flt.J (-1) z100 (dd (nth P i) (nth P (i + 1)) * ((nth P (i + 1)).2 + (nth P i).2)) := j100
   obtain ⟨z82, e82, j82⟩ := Flt.add_dy q2 j80' (by omega) (by decide) (by decide)
   obtain ⟨z102, e102, j102⟩ := Flt.add_dy q3 j100' (by omega) (by decide) (by decide)
   refine ⟨((st.1.set 0 z82).set 1 z102, z66), ?_, fun K => ?_⟩
   ·refine ⟨by simp [q1], ?_, ?_, fun k hk => ?_, j66⟩
    ·show Flt.J (-1) (((st.1.set 0 z82).set 1 z102).getD 0 0) _
     rw [getD_set', if_neg (by omega), getD_set', if_pos (by omega)]; exact j82
    ·show Flt.J (-1) (((st.1.set 0 z82).set 1 z102).getD 1 0) _
     rw [getD_set', if_pos ⟨rfl, by simp; omega⟩]; exact j102
    ·show ((st.1.set 0 z82).set 1 z102).getD k 0 = 0
     rw [getD_set', if_neg (by omega), getD_set', if_neg (by omega)]; exact q4 k hk
   ·unfold p_PolygonsCentroid_l15
    rw [hy, hl]
    have ei : (((i * s : Nat) : Int) + (s : Int)) = (((i * s + s : Nat)) : Int) := by omega
    rw [need_pos (in64m (by omega) (by omega)), cond_t (decide_eq_true (by simp only; omega))]
    simp only [ei]
    rw [need_pos (in64 (by omega) (by omega)), need_pos (by omega), need_pos (in64 (by omega) (by omega)), need_pos (in64 (by omega) (by omega)), need_pos (in64 (by omega) (by omega)), need_pos (by omega)]
    rw [ed, Option.bind_some, e66, Option.bind_some, idxD (show i * s < l.length by omega), Option.bind_some, need_pos (in64 (by omega) (by omega)), idxD (show i * s + s < l.length by omega), Option.bind_some, e73, Option.bind_some, e75, Option.bind_some]
    rw [need_pos (by omega), show idx st.1 (0 : Int) = some (st.1.getD 0 0) from idxD (k := 0) (by omega), Option.bind_some, e80, Option.bind_some, e82, Option.bind_some, need_pos (by omega), need_pos (show ((0 : Int)).toNat < st.1.length by omega)]
    rw [need_pos (in64 (by omega) (by omega)), succ_cast, idxD (show i * s + 1 < l.length by omega), Option.bind_some, need_pos (in64 (by omega) (by omega)), need_pos (in64 (by omega) (by omega)), succ_cast, idxD (show i * s + s + 1 < l.length by omega), Option.bind_some, e93, Option.bind_some, e95, Option.bind_some]
    rw [show ((0 : Int)).toNat = 0 from rfl, show ((1 : Int)).toNat = 1 from rfl]
    have i1 : idx (st.1.set 0 z82) (1 : Int) = some (st.1.getD 1 0) := by
     rw [show idx (st.1.set 0 z82) (1 : Int) = some ((st.1.set 0 z82).getD 1 0) from idxD (k := 1) (by simp; omega), getD_set', if_neg (by omega)]
    rw [need_pos (by omega), i1, Option.bind_some, e100, Option.bind_some, e102, Option.bind_some, need_pos (by omega), need_pos (by simp; omega), need_pos (in64 (by omega) (by omega)), hi1])
  F 0 st0 (by omega) (by omega) h0
 rw [hlen] at hst
 refine ⟨st, hst, ?_⟩
 rw [show (((0 : Int), st0.1, st0.2) : Int × List Nat × Nat) = ((((0 * s : Nat)) : Int), st0.1, st0.2) by rw [Nat.zero_mul]; rfl]
 exact e
theorem seg12_loop {F : Nat} (hF : BigF F) {s : Nat} {l : List Nat} {P : List (Int × Int)} {y : TGeom_LinearRing} (hy : y.geom1.geom0.flatCoords = l) (hs : 2 ≤ s) (hs8 : s ≤ 8) (h : Whole2 s l P) (h1 : 1 ≤ P.length) (h100 : P.length ≤ 100)
  (hax : ∀ k, k + 1 < P.length → Ax (nth P k) (nth P (k + 1))) {N : Nat} (hN : N ≤ 2000) {t0 : Int × Int × Int} (hb : Bnd N t0) {st0 : List Nat × Nat} (h0 : FS s st0 t0) :
  ∃ st, FS s st (run P t0 (P.length - 1)) ∧ iter (p_PolygonsCentroid_l12 (s : Int) (s : Int) y) F ((0 : Int), st0.1, st0.2) = some (.inl (st.1, st.2)) := by
 have hF' : 1073741826 ≤ F := hF
 obtain ⟨hl, hz⟩ := h
 have hbl : P.length * s ≤ 100 * 8 := Nat.mul_le_mul h100 hs8
 have hB : ∀ i, i < P.length → At (plc s l i) (nth P i).1 (nth P i).2 ∧ B64 (nth P i) := fun i hi => by
  have e1 : P[i]? = some P[i] := List.getElem?_eq_getElem hi
  have := hz i _ e1
  rw [nth_get e1]; exact this
 have hlast : (P.length - 1) * s + s = P.length * s := by
  obtain ⟨m, hm⟩ : ∃ m, P.length = m + 1 := ⟨P.length - 1, by omega⟩
  rw [hm, Nat.add_sub_cancel, Nat.add_mul, Nat.one_mul]
 have hlen : (P.drop 1).length = P.length - 1 := by simp
 obtain ⟨st, hst, e⟩ := fold_ex (P.drop 1) (p_PolygonsCentroid_l12 (s : Int) (s : Int) y) (fun i (st : List Nat × Nat) => (((i * s : Nat) : Int), st.1, st.2)) (fun st => (st.1, st.2))
  (fun i st => FS s st (run P t0 i))
  (fun K st hst => by
   unfold p_PolygonsCentroid_l12
   rw [hy, hlen, need_pos (in64m (by omega) (by omega))]
   rw [cond_f (decide_eq_false (by simp only; omega))])
  (fun i x st hx hst => by
   have hi := lt_get hx
   rw [hlen] at hi
   obtain ⟨⟨a1, a2⟩, aB⟩ := hB i (by omega)
   obtain ⟨⟨b1, b2⟩, bB⟩ := hB (i + 1) (by omega)
   simp only [plc] at a1 a2 b1 b2
   have hle : (i + 1) * s + s ≤ P.length * s := mul_lt' (by omega) hs
   have hi1 : (i + 1) * s = i * s + s := by rw [Nat.add_mul, Nat.one_mul]
   rw [hi1] at b1 b2
   have hx' := hax i (by omega)
   obtain ⟨d, ed, jd⟩ := dist_p (cut0 (l := l) (a := i * s) (by omega)).1 (cut0 (l := l) (a := i * s) (by omega)).2 (cut0 (l := l) (a := i * s + s) (by omega)).1 (cut0 (l := l) (a := i * s + s) (by omega)).2 a1 a2 b1 b2 aB bB hx'
   have hbr := bnd_run (fun i hi => (hB i hi).2) hb (i + 1) (by omega)
   have hbs := bnd_seg aB bB
   have hrun : run P t0 (i + 1) = add3 (run P t0 i) (sg3 (nth P i) (nth P (i + 1))) := rfl
   obtain ⟨q1, q2, q3, q4, q5⟩ := hst
   rw [hrun] at hbr
   obtain ⟨⟨u1, u2⟩, ⟨u3, u4⟩, u5, u6⟩ := hbr
   obtain ⟨⟨v1, v2⟩, ⟨v3, v4⟩, v5, v6⟩ := hbs
   simp only [add3, sg3] at u1 u2 u3 u4 u5 u6 v1 v2 v3 v4 v5 v6
   have hmid : ((nth P i).1 + (nth P (i + 1)).1).natAbs ≤ 128 ∧ ((nth P i).2 + (nth P (i + 1)).2).natAbs ≤ 128 := by
    obtain ⟨⟨c1, c2⟩, c3, c4⟩ := aB
    obtain ⟨⟨c5, c6⟩, c7, c8⟩ := bB
    omega
   obtain ⟨z66, e66, j66⟩ := Flt.add_int q5 jd (by omega)
   obtain ⟨z73, z75, e73, e75, j75⟩ := half_sum a1 b1 (by omega)
   obtain ⟨z93, z95, e93, e95, j95⟩ := half_sum a2 b2 (by omega)
   rw [Int.add_comm] at j75 j95
   obtain ⟨z80, e80, j80⟩ := Flt.mul_dy jd.J j75 (by omega) (by decide) (by decide)
   obtain ⟨z100, e100, j100⟩ := Flt.mul_dy jd.J j95 (by omega) (by decide) (by decide)
   have j80' : Flt.J (-1) z80 (dd (nth P i) (nth P (i + 1)) * ((nth P (i + 1)).1 + (nth P i).1)) := j80
   have j100' : Flt.J (-1) z100 (dd (nth P i) (nth P (i + 1)) * ((nth P (i + 1)).2 + (nth P i).2)) := j100
   obtain ⟨z82, e82, j82⟩ := Flt.add_dy q2 j80' (by omega) (by decide) (by decide)
   obtain ⟨z102, e102, j102⟩ := Flt.add_dy q3 j100' (by omega) (by decide) (by decide)
   refine ⟨((st.1.set 0 z82).set 1 z102, z66), ?_, fun K => ?_⟩
   ·refine ⟨by simp [q1], ?_, ?_, fun k hk => ?_, j66⟩
    ·show Flt.J (-1) (((st.1.set 0 z82).set 1 z102).getD 0 0) _
     rw [getD_set', if_neg (by omega), getD_set', if_pos (by omega)]; exact j82
    ·show Flt.J (-1) (((st.1.set 0 z82).set 1 z102).getD 1 0) _
     rw [getD_set', if_pos ⟨rfl, by simp; omega⟩]; exact j102
    ·show ((st.1.set 0 z82).set 1 z102).getD k 0 = 0
     rw [getD_set', if_neg (by omega), getD_set', if_neg (by omega)]; exact q4 k hk
   ·unfold p_PolygonsCentroid_l12
    rw [hy, hl]
    have ei : (((i * s : Nat) : Int) + (s : Int)) = (((i * s + s : Nat)) : Int) := by omega
    rw [need_pos (in64m (by omega) (by omega)), cond_t (decide_eq_true (by simp only; omega))]
    simp only [ei]
    rw [need_pos (in64 (by omega) (by omega)), need_pos (by omega), need_pos (in64 (by omega) (by omega)), need_pos (in64 (by omega) (by omega)), need_pos (in64 (by omega) (by omega)), need_pos (by omega)]
    rw [ed, Option.bind_some, e66, Option.bind_some, idxD (show i * s < l.length by omega), Option.bind_some, need_pos (in64 (by omega) (by omega)), idxD (show i * s + s < l.length by omega), Option.bind_some, e73, Option.bind_some, e75, Option.bind_some]
    rw [need_pos (by omega), show idx st.1 (0 : Int) = some (st.1.getD 0 0) from idxD (k := 0) (by omega), Option.bind_some, e80, Option.bind_some, e82, Option.bind_some, need_pos (by omega), need_pos (show ((0 : Int)).toNat < st.1.length by omega)]
    rw [need_pos (in64 (by omega) (by omega)), succ_cast, idxD (show i * s + 1 < l.length by omega), Option.bind_some, need_pos (in64 (by omega) (by omega)), need_pos (in64 (by omega) (by omega)), succ_cast, idxD (show i * s + s + 1 < l.length by omega), Option.bind_some, e93, Option.bind_some, e95, Option.bind_some]
    rw [show ((0 : Int)).toNat = 0 from rfl, show ((1 : Int)).toNat = 1 from rfl]
    have i1 : idx (st.1.set 0 z82) (1 : Int) = some (st.1.getD 1 0) := by
     rw [show idx (st.1.set 0 z82) (1 : Int) = some ((st.1.set 0 z82).getD 1 0) from idxD (k := 1) (by simp; omega), getD_set', if_neg (by omega)]
    rw [need_pos (by omega), i1, Option.bind_some, e100, Option.bind_some, e102, Option.bind_some, need_pos (by omega), need_pos (by simp; omega), need_pos (in64 (by omega) (by omega)), hi1])
  F 0 st0 (by omega) (by omega) h0
 rw [hlen] at hst
 refine ⟨st, hst, ?_⟩
 rw [show (((0 : Int), st0.1, st0.2) : Int × List Nat × Nat) = ((((0 * s : Nat)) : Int), st0.1, st0.2) by rw [Nat.zero_mul]; rfl]
 exact e
end Go.Proofs.YtdchenbdnalbcaaGreatDoor.Wk

set_option linter.unusedVariables false
set_option linter.unusedSimpArgs false
namespace Go.Proofs.YtdchenbdnalbcaaGreatDoor.Wk
open Go.Vm
theorem equal_p {l : List Nat} {i j : Nat} (hi : i + 1 < l.length) (hj : j + 1 < l.length) (hb : l.length < 2147483648) : ∃ b, p_Equal l (i : Int) l (j : Int) = some b := by
 unfold p_Equal
 rw [idxD (show i < l.length by omega), Option.bind_some, idxD (show j < l.length by omega), Option.bind_some]
 cases (!feq (l.getD i 0) (l.getD j 0)) with
 | true => exact ⟨_, rfl⟩
 | false =>
  rw [cond_false, need_pos (in64 (by omega) (by omega)), succ_cast, idxD (show i + 1 < l.length by omega), Option.bind_some, need_pos (in64 (by omega) (by omega)), succ_cast, idxD (show j + 1 < l.length by omega), Option.bind_some]
  cases (!feq (l.getD (i + 1) 0) (l.getD (j + 1) 0)) with
  | true => exact ⟨_, rfl⟩
  | false => exact ⟨_, rfl⟩
theorem orient0_p {A B C : List Nat} {a0 a1 b0 b1 c0 c1 : Nat} {u v w : Int × Int} (h1 : idx A (0 : Int) = some a0) (h2 : idx A (1 : Int) = some a1) (h3 : idx B (0 : Int) = some b0) (h4 : idx B (1 : Int) = some b1) (h5 : idx C (0 : Int) = some c0) (h6 : idx C (1 : Int) = some c1)
  (i1 : Flt.I a0 u.1) (i2 : Flt.I a1 u.2) (i3 : Flt.I b0 v.1) (i4 : Flt.I b1 v.2) (i5 : Flt.I c0 w.1) (i6 : Flt.I c1 w.2) (bu : B64 u) (bv : B64 v) (bw : B64 w) (h : (u.2 = w.2 ∧ v.2 = w.2) ∨ (u.1 = w.1 ∧ v.1 = w.1)) : p_OrientationIndex A B C = some 0 := by
 obtain ⟨⟨u1, u2⟩, u3, u4⟩ := bu
 obtain ⟨⟨v1, v2⟩, v3, v4⟩ := bv
 obtain ⟨⟨w1, w2⟩, w3, w4⟩ := bw
 have p1 : (u.1 - w.1) * (v.2 - w.2) = 0 := by
  rcases h with ⟨h, h'⟩ | ⟨h, h'⟩
  ·rw [h', Int.sub_self, Int.mul_zero]
  ·rw [h, Int.sub_self, Int.zero_mul]
 have p2 : (u.2 - w.2) * (v.1 - w.1) = 0 := by
  rcases h with ⟨h, h'⟩ | ⟨h, h'⟩
  ·rw [h, Int.sub_self, Int.zero_mul]
  ·rw [h', Int.sub_self, Int.mul_zero]
 obtain ⟨z5, e5, j5⟩ := Flt.sub_int i1 i5 (by omega)
 obtain ⟨z11, e11, j11⟩ := Flt.sub_int i4 i6 (by omega)
 obtain ⟨z13, e13, j13⟩ := Flt.mul_int j5 j11 (by rw [p1]; decide)
 obtain ⟨z19, e19, j19⟩ := Flt.sub_int i2 i6 (by omega)
 obtain ⟨z25, e25, j25⟩ := Flt.sub_int i3 i5 (by omega)
 obtain ⟨z27, e27, j27⟩ := Flt.mul_int j19 j25 (by rw [p2]; decide)
 rw [p1] at j13
 rw [p2] at j27
 obtain ⟨z29, e29, j29⟩ := Flt.sub_int j13 j27 (by decide)
 have j29' : Flt.I z29 0 := j29
 have hs : p_orientationBasedOnSign z29 = some 0 := by
  unfold p_orientationBasedOnSign
  rw [Flt.fgt_int j29' Flt.zero_int, Flt.flt_int j29' Flt.zero_int]; rfl
 have hf : p_orientationIndexFilter A B C = some 0 := by
  unfold p_orientationIndexFilter
  simp only [h1, h2, h3, h4, h5, h6, Option.bind_some, e5, e11, e13, e19, e25, e27, e29, hs]
  rw [Flt.fgt_int j13 Flt.zero_int, Flt.flt_int j13 Flt.zero_int]; rfl
 unfold p_OrientationIndex
 rw [hf]; rfl
/-- steps back from place k, with n places, to place h -/
def back (n h k : Nat) : Nat := if k ≤ h then k + 1 + (n - 1 - h) else k - h
theorem prev_loop {l : List Nat} {s n h : Nat} (hs : 2 ≤ s) (hl : l.length = n * s) (hb : l.length < 2147483648) (hh : h + 2 ≤ n) :
  ∀ (F k : Nat), k < n → back n h k ≤ F → ∃ k', k' < n ∧ iter (p_IsRingCounterClockwise_l6 l (s : Int) ((h * s : Nat) : Int)) F ((k * s : Nat) : Int) = some (.inl ((k' * s : Nat) : Int)) := by
 have hat : ∀ m, m < n → m * s + s ≤ n * s := fun m hm => mul_lt' hm hs
 intro F
 induction F with
 | zero => intro k hk hm; unfold back at hm; split at hm <;> omega
 | succ F ih =>
  intro k hk hm
  show ∃ k', k' < n ∧ p_IsRingCounterClockwise_l6 l (s : Int) ((h * s : Nat) : Int) (iter (p_IsRingCounterClockwise_l6 l (s : Int) ((h * s : Nat) : Int)) F) ((k * s : Nat) : Int) = _
  generalize hK : iter (p_IsRingCounterClockwise_l6 l (s : Int) ((h * s : Nat) : Int)) F = K at *
  have h1 := hat k hk
  have hh1 := hat h (by omega)
  -- the next place
  have next : ∃ k2, k2 < n ∧ (k2 = h ∨ back n h k2 ≤ F) ∧ p_IsRingCounterClockwise_l6 l (s : Int) ((h * s : Nat) : Int) K ((k * s : Nat) : Int) = p_IsRingCounterClockwise_k7 l ((h * s : Nat) : Int) K ((k2 * s : Nat) : Int) := by
   by_cases h0 : k = 0
   ·refine ⟨n - 1, by omega, ?_, ?_⟩
    ·right; unfold back at hm ⊢; rw [if_pos (by omega)] at hm; rw [if_neg (by omega)]; omega
    ·unfold p_IsRingCounterClockwise_l6
     have e1 : ((l.length : Nat) : Int) - (s : Int) = (((n - 1) * s : Nat) : Int) := by rw [hl, Nat.sub_mul, Nat.one_mul]; omega
     rw [h0, need_pos (in64m (by omega) (by omega)), cond_t (decide_eq_true (by omega)), e1]
   ·refine ⟨k - 1, by omega, ?_, ?_⟩
    ·by_cases hkh : k - 1 = h
     ·exact .inl hkh
     ·right
      unfold back at hm ⊢
      by_cases hle : k ≤ h
      ·rw [if_pos hle] at hm; rw [if_pos (by omega)]; omega
      ·rw [if_neg hle] at hm; rw [if_neg (by omega)]; omega
    ·unfold p_IsRingCounterClockwise_l6
     have e1 : ((k * s : Nat) : Int) - (s : Int) = (((k - 1) * s : Nat) : Int) := by
      have : k * s = (k - 1) * s + s := by
       obtain ⟨m, rfl⟩ : ∃ m, k = m + 1 := ⟨k - 1, by omega⟩
       rw [Nat.add_sub_cancel, Nat.add_mul, Nat.one_mul]
      omega
     rw [need_pos (in64m (by omega) (by omega)), e1, cond_f (decide_eq_false (by omega))]
  obtain ⟨k2, hk2, hd, e⟩ := next
  have h2 := hat k2 hk2
  obtain ⟨b, eb⟩ := equal_p (l := l) (i := k2 * s) (j := h * s) (by omega) (by omega) hb
  rw [e]
  unfold p_IsRingCounterClockwise_k7
  rw [eb, Option.bind_some]
  cases b with
  | false => exact ⟨k2, hk2, rfl⟩
  | true =>
   rw [show (!true) = false from rfl, cond_false]
   by_cases hkh : k2 = h
   ·rw [cond_t (decide_eq_true (by rw [hkh]))]; exact ⟨k2, hk2, rfl⟩
   ·rw [cond_f (decide_eq_false (fun hc => hkh (Nat.eq_of_mul_eq_mul_right (show 0 < s by omega) (by omega))))]
    exact ih k2 hk2 (hd.resolve_left hkh)
/-- steps on from place k to place h, among m places -/
def fore (m h k : Nat) : Nat := if h ≤ k then (m - k) + h else h - k
theorem next_loop {l : List Nat} {s n h : Nat} (hs : 2 ≤ s) (hl : l.length = n * s) (hb : l.length < 2147483648) (hh : h + 2 ≤ n) :
  ∀ (F k : Nat), k + 2 ≤ n → fore (n - 1) h k ≤ F → ∃ k', k' < n ∧ iter (p_IsRingCounterClockwise_l5 l (s : Int) ((h * s : Nat) : Int)) F ((k * s : Nat) : Int) = some (.inl ((k' * s : Nat) : Int)) := by
 have hat : ∀ m, m < n → m * s + s ≤ n * s := fun m hm => mul_lt' hm hs
 have e0 : ((l.length : Nat) : Int) - (s : Int) = (((n - 1) * s : Nat) : Int) := by rw [hl, Nat.sub_mul, Nat.one_mul]; have := hat 0 (by omega); omega
 have hpos : 1 ≤ (n - 1) * s := Nat.le_trans (by omega) (Nat.mul_le_mul (show 1 ≤ n - 1 by omega) (show 1 ≤ s by omega))
 intro F
 induction F with
 | zero => intro k hk hm; unfold fore at hm; split at hm <;> omega
 | succ F ih =>
  intro k hk hm
  show ∃ k', k' < n ∧ p_IsRingCounterClockwise_l5 l (s : Int) ((h * s : Nat) : Int) (iter (p_IsRingCounterClockwise_l5 l (s : Int) ((h * s : Nat) : Int)) F) ((k * s : Nat) : Int) = _
  generalize hK : iter (p_IsRingCounterClockwise_l5 l (s : Int) ((h * s : Nat) : Int)) F = K at *
  have h1 := hat k (by omega)
  have hh1 := hat h (by omega)
  have e1 : ((k * s : Nat) : Int) + (s : Int) = (((k + 1) * s : Nat) : Int) := by rw [Nat.add_mul, Nat.one_mul]; omega
  have next : ∃ k2, k2 + 2 ≤ n ∧ (k2 = h ∨ fore (n - 1) h k2 ≤ F) ∧ Int.tmod (((k * s : Nat) : Int) + (s : Int)) (((l.length : Nat) : Int) - (s : Int)) = ((k2 * s : Nat) : Int) := by
   rw [e1, e0, Int.tmod_eq_emod_of_nonneg (by omega)]
   by_cases hlast : k + 1 = n - 1
   ·refine ⟨0, by omega, ?_, ?_⟩
    ·by_cases h0 : 0 = h
     ·exact .inl h0
     ·right; unfold fore at hm ⊢; rw [if_neg (by omega)]; split at hm <;> omega
    ·rw [hlast, Int.emod_self]; simp
   ·refine ⟨k + 1, by omega, ?_, ?_⟩
    ·by_cases h0 : k + 1 = h
     ·exact .inl h0
     ·right
      unfold fore at hm ⊢
      by_cases hle : h ≤ k
      ·rw [if_pos hle] at hm; rw [if_pos (by omega)]; omega
      ·rw [if_neg hle] at hm; rw [if_neg (by omega)]; omega
    ·have hlt : (k + 1) * s < (n - 1) * s := Nat.mul_lt_mul_of_pos_right (by omega) (by omega)
     exact Int.emod_eq_of_lt (by omega) (by omega)
  obtain ⟨k2, hk2, hd, e⟩ := next
  have h2 := hat k2 (by omega)
  obtain ⟨b, eb⟩ := equal_p (l := l) (i := k2 * s) (j := h * s) (by omega) (by omega) hb
  unfold p_IsRingCounterClockwise_l5
  rw [need_pos (in64 (by omega) (by omega)), need_pos (by omega), e, eb, Option.bind_some]
  cases b with
  | false => exact ⟨k2, by omega, rfl⟩
  | true =>
   rw [show (!true) = false from rfl, cond_false]
   by_cases hkh : k2 = h
   ·rw [cond_t (decide_eq_true (by rw [hkh]))]; exact ⟨k2, by omega, rfl⟩
   ·rw [cond_f (decide_eq_false (fun hc => hkh (Nat.eq_of_mul_eq_mul_right (show 0 < s by omega) (by omega))))]
    exact ih k2 hk2 (hd.resolve_left hkh)
theorem top_loop {F : Nat} (hF : BigF F) {l : List Nat} {s : Nat} {P : List (Int × Int)} (hs : 2 ≤ s) (hs8 : s ≤ 8) (hW : Whole2 s l P) (h100 : P.length ≤ 100) (hf : Flatt P) :
  ∃ h, h + 2 ≤ P.length ∧ iter (p_IsRingCounterClockwise_l8 l (s : Int)) F (((0 : Int), (s : Int)) : Int × Int) = some (.inl ((h * s : Nat) : Int)) := by
 have hF' : 1073741826 ≤ F := hF
 obtain ⟨h4, hcl, _⟩ := hf
 obtain ⟨hl, hz⟩ := hW
 have hbl : P.length * s ≤ 100 * 8 := Nat.mul_le_mul h100 hs8
 have hat : ∀ m, m < P.length → m * s + s ≤ P.length * s := fun m hm => mul_lt' hm hs
 have hY : ∀ i, i < P.length → Flt.I (l.getD (i * s + 1) 0) (nth P i).2 := fun i hi => by
  have e1 : P[i]? = some P[i] := List.getElem?_eq_getElem hi
  rw [nth_get e1]; exact (hz i _ e1).1.2
 have hlen : (P.drop 1).length = P.length - 1 := by simp
 have hs1 := hat 0 (by omega)
 obtain ⟨st, ⟨i1, i2⟩, e⟩ := fold_ex (P.drop 1) (p_IsRingCounterClockwise_l8 l (s : Int)) (fun i (st : Nat) => (((st * s : Nat) : Int), (((i + 1) * s : Nat) : Int))) (fun st => ((st * s : Nat) : Int))
  (fun i st => st + 2 ≤ P.length ∧ (nth P 0).2 ≤ (nth P st).2)
  (fun K st hst => by
   unfold p_IsRingCounterClockwise_l8
   rw [hlen, need_pos (in64m (by omega) (by omega)), cond_f (decide_eq_false (by
    have : (P.length - 1 + 1) * s = P.length * s := by rw [show P.length - 1 + 1 = P.length by omega]
    simp only; omega))])
  (fun i x st hx hst => by
   have hi := lt_get hx
   rw [hlen] at hi
   have h1 := hat (i + 1) (by omega)
   have h2 := hat st (by omega)
   have e1 : (((i + 1) * s : Nat) : Int) + (s : Int) = (((i + 1 + 1) * s : Nat) : Int) := by rw [Nat.add_mul (i + 1) 1 s, Nat.one_mul]; omega
   have hgt := Flt.fgt_int (hY (i + 1) (by omega)) (hY st (by omega))
   have hbody : ∀ K, p_IsRingCounterClockwise_l8 l (s : Int) K (((st * s : Nat) : Int), (((i + 1) * s : Nat) : Int)) = (cond (decide ((nth P st).2 < (nth P (i + 1)).2)) (K ((((i + 1) * s : Nat) : Int), (((i + 1 + 1) * s : Nat) : Int))) (K (((st * s : Nat) : Int), (((i + 1 + 1) * s : Nat) : Int)))) := fun K => by
    unfold p_IsRingCounterClockwise_l8
    rw [need_pos (in64m (by omega) (by omega)), cond_t (decide_eq_true (by simp only; omega))]
    simp only
    rw [need_pos (in64 (by omega) (by omega)), succ_cast, idxD (show (i + 1) * s + 1 < l.length by omega), Option.bind_some, need_pos (in64 (by omega) (by omega)), succ_cast, idxD (show st * s + 1 < l.length by omega), Option.bind_some, hgt, e1, need_pos (in64 (by omega) (by omega)), need_pos (in64 (by omega) (by omega))]
   by_cases hlt : (nth P st).2 < (nth P (i + 1)).2
   ·refine ⟨i + 1, ⟨?_, by omega⟩, fun K => by rw [hbody, cond_t (decide_eq_true hlt)]⟩
    rcases Nat.lt_or_ge (i + 1) (P.length - 1) with h | h
    ·omega
    ·exfalso
     have : i + 1 = P.length - 1 := by omega
     rw [this, ← hcl] at hlt
     have := hst.2
     omega
   ·exact ⟨st, hst, fun K => by rw [hbody, cond_f (decide_eq_false hlt)]⟩)
  F 0 0 (by omega) (by omega) ⟨by omega, Int.le_refl _⟩
 refine ⟨st, i1, ?_⟩
 have e0 : (((0 : Int), (s : Int)) : Int × Int) = (((0 * s : Nat) : Int), (((0 + 1) * s : Nat) : Int)) := by rw [Nat.zero_mul, Nat.zero_add, Nat.one_mul]; rfl
 rw [e0]
 exact e
theorem ccw_p {F : Nat} (hF : BigF F) {a0 : Int} {l : List Nat} {P : List (Int × Int)} (h1 : 1 ≤ a0) (h8 : a0 ≤ 8) (hW : Whole2 (strideN a0) l P) (h100 : P.length ≤ 100) (hf : Flatt P) : ∃ b, p_IsRingCounterClockwise F a0 l = some b := by
 have hF' : 1073741826 ≤ F := hF
 obtain ⟨_, e2, hs, hs8⟩ := stride_p h1 h8
 obtain ⟨h, hh, eh⟩ := top_loop hF hs hs8 hW h100 hf
 obtain ⟨h4, hcl, hline⟩ := hf
 obtain ⟨hl, hz⟩ := hW
 generalize strideN a0 = s at *
 have hbl : P.length * s ≤ 100 * 8 := Nat.mul_le_mul h100 hs8
 have hat : ∀ m, m < P.length → m * s + s ≤ P.length * s := fun m hm => mul_lt' hm hs
 have hs1 := hat 0 (by omega)
 obtain ⟨kp, hkp, ekp⟩ := prev_loop hs hl (by omega) hh F h (by omega) (by unfold back; rw [if_pos (by omega)]; omega)
 obtain ⟨kn, hkn, ekn⟩ := next_loop hs hl (by omega) hh F h hh (by unfold fore; rw [if_pos (by omega)]; omega)
 have hA : ∀ i, i < P.length → (Flt.I (l.getD (i * s) 0) (nth P i).1 ∧ Flt.I (l.getD (i * s + 1) 0) (nth P i).2) ∧ B64 (nth P i) := fun i hi => by
  have e1 : P[i]? = some P[i] := List.getElem?_eq_getElem hi
  rw [nth_get e1]; exact hz i _ e1
 have hk4 : ∀ g, ∃ b, p_IsRingCounterClockwise_k4 l ((h * s : Nat) : Int) ((kp * s : Nat) : Int) ((kn * s : Nat) : Int) g = some b := fun g => by
  unfold p_IsRingCounterClockwise_k4
  cases g with
  | true => exact ⟨_, rfl⟩
  | false =>
   have q1 := hat kp hkp
   have q2 := hat h (by omega)
   have q3 := hat kn hkn
   obtain ⟨⟨p1, p2⟩, pB⟩ := hA kp hkp
   obtain ⟨⟨t1, t2⟩, tB⟩ := hA h (by omega)
   obtain ⟨⟨n1, n2⟩, nB⟩ := hA kn hkn
   have ho := orient0_p (cut0 (l := l) (a := kp * s) (by omega)).1 (cut0 (l := l) (a := kp * s) (by omega)).2 (cut0 (l := l) (a := h * s) (by omega)).1 (cut0 (l := l) (a := h * s) (by omega)).2 (cut0 (l := l) (a := kn * s) (by omega)).1 (cut0 (l := l) (a := kn * s) (by omega)).2
    p1 p2 t1 t2 n1 n2 pB tB nB (by
     rcases hline with hc | hc
     ·left; exact ⟨by rw [hc kp hkp, hc kn hkn], by rw [hc h (by omega), hc kn hkn]⟩
     ·right; exact ⟨by rw [hc kp hkp, hc kn hkn], by rw [hc h (by omega), hc kn hkn]⟩)
   rw [cond_false, need_pos (in64 (by omega) (by omega)), need_pos (by omega), need_pos (in64 (by omega) (by omega)), need_pos (by omega), need_pos (in64 (by omega) (by omega)), need_pos (by omega), ho, Option.bind_some, cond_t (by rfl), idxD (show kp * s < l.length by omega), Option.bind_some, idxD (show kn * s < l.length by omega), Option.bind_some]
   exact ⟨_, rfl⟩
 have q1 := hat kp hkp
 have q2 := hat h (by omega)
 have q3 := hat kn hkn
 have hk3 : ∃ b, p_IsRingCounterClockwise_k3 l ((h * s : Nat) : Int) ((kp * s : Nat) : Int) ((kn * s : Nat) : Int) = some b := by
  obtain ⟨b1, eb1⟩ := equal_p (l := l) (i := kp * s) (j := h * s) (by omega) (by omega) (by omega)
  obtain ⟨b2, eb2⟩ := equal_p (l := l) (i := kn * s) (j := h * s) (by omega) (by omega) (by omega)
  obtain ⟨b3, eb3⟩ := equal_p (l := l) (i := kp * s) (j := kn * s) (by omega) (by omega) (by omega)
  unfold p_IsRingCounterClockwise_k3
  rw [eb1, Option.bind_some]
  cases b1 with
  | true => rw [cond_true]; exact hk4 true
  | false =>
   rw [cond_false, eb2, Option.bind_some]
   cases b2 with
   | true => rw [cond_true]; exact hk4 true
   | false => rw [cond_false, eb3, Option.bind_some]; exact hk4 b3
 have e0 : ((l.length : Nat) : Int) - (s : Int) = (((P.length - 1) * s : Nat) : Int) := by rw [hl, Nat.sub_mul, Nat.one_mul]; omega
 have hdv : Int.tdiv ((((P.length - 1) * s : Nat) : Int)) (s : Int) = ((P.length - 1 : Nat) : Int) := by
  rw [Int.tdiv_eq_ediv_of_nonneg (by omega)]
  have : (((P.length - 1) * s : Nat) : Int) = ((P.length - 1 : Nat) : Int) * (s : Int) := by simp
  rw [this, Int.mul_ediv_cancel _ (by omega)]
 have hm1 : (P.length - 1) * s ≤ P.length * s := Nat.mul_le_mul_right s (by omega)
 unfold p_IsRingCounterClockwise
 rw [e2, Option.bind_some, e0, need_pos (in64 (by omega) (by omega)), hdv, need_pos ⟨by omega, in64 (by omega) (by omega)⟩, cond_f (decide_eq_false (by omega)), eh, Option.bind_some, aft_inl]
 unfold p_IsRingCounterClockwise_k1
 rw [ekp, Option.bind_some, aft_inl]
 unfold p_IsRingCounterClockwise_k2
 rw [ekn, Option.bind_some, aft_inl]
 exact hk3
end Go.Proofs.YtdchenbdnalbcaaGreatDoor.Wk

set_option linter.unusedVariables false
set_option linter.unusedSimpArgs false
namespace Go.Proofs.YtdchenbdnalbcaaGreatDoor.Wk
open Go.Vm
theorem need_g {α : Type} {p : Prop} {i : Decidable p} (h : p) (k : Option α) : @need α p i k = k := @need_pos α p i h k
theorem ix0 (p q : Nat) : idx [p, q] (0 : Int) = some p := rfl
theorem ix1 (p q : Nat) : idx [p, q] (1 : Int) = some q := rfl
/-- twice the area of a triangle -/
def ar (b p q : Int × Int) : Int := (p.1 - b.1) * (q.2 - b.2) - (q.1 - b.1) * (p.2 - b.2)
theorem ar_self (b p : Int × Int) : ar b p p = 0 := by unfold ar; omega
theorem ar_line {b p q r : Int × Int} (h : (q.2 = p.2 ∧ r.2 = p.2) ∨ (q.1 = p.1 ∧ r.1 = p.1)) : ar b p q + ar b q r = ar b p r := by
 unfold ar
 rcases h with ⟨h1, h2⟩ | ⟨h1, h2⟩
 ·rw [h1, h2]; grind
 ·rw [h1, h2]; grind
theorem mul_n {a b : Int} {K L : Nat} (ha : a.natAbs ≤ K) (hb : b.natAbs ≤ L) : (a * b).natAbs ≤ K * L := by rw [Int.natAbs_mul]; exact Nat.mul_le_mul ha hb
theorem ar_b {b p q : Int × Int} (hb : B64 b) (hp : B64 p) (hq : B64 q) : ((p.1 - b.1) * (q.2 - b.2)).natAbs ≤ 16384 ∧ ((q.1 - b.1) * (p.2 - b.2)).natAbs ≤ 16384 := by
 obtain ⟨⟨b1, b2⟩, b3, b4⟩ := hb
 obtain ⟨⟨p1, p2⟩, p3, p4⟩ := hp
 obtain ⟨⟨q1, q2⟩, q3, q4⟩ := hq
 exact ⟨mul_n (K := 128) (L := 128) (by omega) (by omega), mul_n (K := 128) (L := 128) (by omega) (by omega)⟩
/-- what the calculator of areas holds along a ring -/
def TS (s N : Nat) (A : Int) (p1 p2 tc cg : List Nat) (area : Nat) : Prop :=
 (∃ a b, p1 = [a, b]) ∧ (∃ a b, p2 = [a, b]) ∧ tc.length = s ∧ cg.length = s ∧ (∃ c0 c1 : Int, Flt.I (cg.getD 0 0) c0 ∧ Flt.I (cg.getD 1 0) c1 ∧ c0.natAbs ≤ 6291456 * N ∧ c1.natAbs ≤ 6291456 * N) ∧ Flt.I area A
theorem sgn_p {c : Bool} : ∃ sg : Int, Flt.I (cond c 13830554455654793216 4607182418800017408) sg ∧ (sg = 1 ∨ sg = -1) := by
 cases c with
 | false => exact ⟨1, (Flt.wordI 1 (by decide) (by decide +kernel) (by decide +kernel)).1, .inl rfl⟩
 | true => exact ⟨-1, (Flt.wordI (-1) (by decide) (by decide +kernel) (by decide +kernel)).1, .inr rfl⟩

set_option maxHeartbeats 2000000 in
theorem tri16 {s N : Nat} {i : Int} {base : Option (List Nat)} {bx b_y : Nat} {b w z : Int × Int} (hb0 : idx (base.getD []) (0 : Int) = some bx) (hb1 : idx (base.getD []) (1 : Int) = some b_y) (ib0 : Flt.I bx b.1) (ib1 : Flt.I b_y b.2) (bB : B64 b)
  {x0 y0 x1 y1 g : Nat} (i0 : Flt.I x0 w.1) (i1 : Flt.I y0 w.2) (i2 : Flt.I x1 z.1) (i3 : Flt.I y1 z.2) (bw : B64 w) (bz : B64 z) {sg A : Int} (hg : Flt.I g sg) (hsg : sg = 1 ∨ sg = -1) (hs : 2 ≤ s) (hN : N ≤ 4000) (hA : A.natAbs ≤ 100000)
  {p1 p2 tc cg : List Nat} {area : Nat} (h : TS s N A p1 p2 tc cg area) (hin : inI .i64 (i + (s : Int))) :
  ∃ tc' cg' area', TS s (N + 1) (A + sg * ar b w z) [x0, y0] [x1, y1] tc' cg' area' ∧ ∀ K, p_PolygonsCentroid_k17 (s : Int) (s : Int) (s : Int) base (i, p1, tc, cg, area, p2) K x0 y0 x1 y1 g = K (i + (s : Int), [x0, y0], tc', cg', area', [x1, y1]) := by
 obtain ⟨⟨u0, u1, rfl⟩, ⟨v0, v1, rfl⟩, htc, hcg, ⟨c0, c1, ic0, ic1, bc0, bc1⟩, iA⟩ := h
 obtain ⟨m1, m2⟩ := ar_b bB bw bz
 have hB := bB; have hW := bw; have hZ := bz
 obtain ⟨⟨b1, b2⟩, b3, b4⟩ := hB
 obtain ⟨⟨w1, w2⟩, w3, w4⟩ := hW
 obtain ⟨⟨q1, q2⟩, q3, q4⟩ := hZ
 obtain ⟨z400, e400, j400⟩ := Flt.add_int ib0 i0 (by omega)
 obtain ⟨z405, e405, j405⟩ := Flt.add_int j400 i2 (by omega)
 obtain ⟨z414, e414, j414⟩ := Flt.add_int ib1 i1 (by omega)
 obtain ⟨z419, e419, j419⟩ := Flt.add_int j414 i3 (by omega)
 obtain ⟨z429, e429, j429⟩ := Flt.sub_int i0 ib0 (by omega)
 obtain ⟨z436, e436, j436⟩ := Flt.sub_int i3 ib1 (by omega)
 obtain ⟨z438, e438, j438⟩ := Flt.mul_int j429 j436 (by omega)
 obtain ⟨z445, e445, j445⟩ := Flt.sub_int i2 ib0 (by omega)
 obtain ⟨z452, e452, j452⟩ := Flt.sub_int i1 ib1 (by omega)
 obtain ⟨z454, e454, j454⟩ := Flt.mul_int j445 j452 (by omega)
 obtain ⟨z456, e456, j456⟩ := Flt.sub_int j438 j454 (by omega)
 have hab : ((w.1 - b.1) * (z.2 - b.2) - (z.1 - b.1) * (w.2 - b.2)).natAbs ≤ 32768 := by omega
 have hsa : (sg * ((w.1 - b.1) * (z.2 - b.2) - (z.1 - b.1) * (w.2 - b.2))).natAbs ≤ 32768 := by
  rcases hsg with h | h <;> rw [h] <;> omega
 obtain ⟨z461, e461, j461⟩ := Flt.mul_int hg j456 (by omega)
 have hc0 : (sg * ((w.1 - b.1) * (z.2 - b.2) - (z.1 - b.1) * (w.2 - b.2)) * (b.1 + w.1 + z.1)).natAbs ≤ 32768 * 192 := mul_n hsa (by omega)
 have hc1 : (sg * ((w.1 - b.1) * (z.2 - b.2) - (z.1 - b.1) * (w.2 - b.2)) * (b.2 + w.2 + z.2)).natAbs ≤ 32768 * 192 := mul_n hsa (by omega)
 obtain ⟨z466, e466, j466⟩ := Flt.mul_int j461 j405 (by omega)
 obtain ⟨z468, e468, j468⟩ := Flt.add_int ic0 j466 (by omega)
 obtain ⟨z480, e480, j480⟩ := Flt.mul_int j461 j419 (by omega)
 obtain ⟨z482, e482, j482⟩ := Flt.add_int ic1 j480 (by omega)
 obtain ⟨z488, e488, j488⟩ := Flt.add_int iA j461 (by omega)
 refine ⟨(tc.set 0 z405).set 1 z419, (cg.set 0 z468).set 1 z482, z488, ⟨⟨_, _, rfl⟩, ⟨_, _, rfl⟩, by simp [htc], by simp [hcg], ⟨c0 + sg * ((w.1 - b.1) * (z.2 - b.2) - (z.1 - b.1) * (w.2 - b.2)) * (b.1 + w.1 + z.1), c1 + sg * ((w.1 - b.1) * (z.2 - b.2) - (z.1 - b.1) * (w.2 - b.2)) * (b.2 + w.2 + z.2), ?_, ?_, ?_, ?_⟩, j488⟩, fun K => ?_⟩
 ·rw [getD_set', if_neg (by omega), getD_set', if_pos ⟨rfl, by omega⟩]; exact j468
 ·rw [getD_set', if_pos ⟨rfl, by simp; omega⟩]; exact j482
 ·omega
 ·omega
 ·have l1 : ([u0, u1].set 0 x0).set 1 y0 = [x0, y0] := rfl
  have l2 : ([v0, v1].set 0 x1).set 1 y1 = [x1, y1] := rfl
  have z0 : ((0 : Int)).toNat = 0 := rfl
  have z1 : ((1 : Int)).toNat = 1 := rfl
  have k0 : ∀ p q : Nat, (0 ≤ (0 : Int) ∧ (0 : Int) < (([p, q].length : Nat) : Int)) := fun p q => ⟨by omega, by show (0 : Int) < ((2 : Nat) : Int); omega⟩
  have k1 : ∀ p q : Nat, (0 ≤ (1 : Int) ∧ (1 : Int) < (([p, q].length : Nat) : Int)) := fun p q => ⟨by omega, by show (1 : Int) < ((2 : Nat) : Int); omega⟩
  have n0 : (0 ≤ (0 : Int) ∧ (0 : Int) < ((((s : Int)).toNat : Nat) : Int)) := ⟨by omega, by omega⟩
  have n1 : (0 ≤ (1 : Int) ∧ (1 : Int) < ((((s : Int)).toNat : Nat) : Int)) := ⟨by omega, by omega⟩
  have t0 : 0 < tc.length := by omega
  have t1 : 1 < (tc.set 0 z405).length := by simp; omega
  have t2 : 0 < cg.length := by omega
  have t3 : 1 < (cg.set 0 z468).length := by simp; omega
  have a0 : idx cg (0 : Int) = some (cg.getD 0 0) := idxD (k := 0) t2
  have a1 : idx (cg.set 0 z468) (1 : Int) = some (cg.getD 1 0) := by rw [show idx (cg.set 0 z468) (1 : Int) = some ((cg.set 0 z468).getD 1 0) from idxD (k := 1) t3, getD_set', if_neg (by omega)]
  have a2 : idx ((tc.set 0 z405).set 1 z419) (0 : Int) = some z405 := by rw [show idx ((tc.set 0 z405).set 1 z419) (0 : Int) = some (((tc.set 0 z405).set 1 z419).getD 0 0) from idxD (k := 0) (by simp; omega), getD_set', if_neg (by omega), getD_set', if_pos ⟨rfl, t0⟩]
  have a3 : idx ((tc.set 0 z405).set 1 z419) (1 : Int) = some z419 := by rw [show idx ((tc.set 0 z405).set 1 z419) (1 : Int) = some (((tc.set 0 z405).set 1 z419).getD 1 0) from idxD (k := 1) (by simp; omega), getD_set', if_pos ⟨rfl, t1⟩]
  unfold p_PolygonsCentroid_k17
  simp only [z0, z1, l1, l2, ix0, ix1, hb0, hb1, Option.bind_some, need_g (k0 x0 y0), need_g (k0 x1 y1), need_g (k1 x0 y0), need_g (k1 x1 y1), need_g n0, need_g n1, need_g t0, need_g t1, need_g t2, need_g t3, need_g hin, a0, a1, a2, a3,
   e400, e405, e414, e419, e429, e436, e438, e445, e452, e454, e456, e461, e466, e468, e480, e482, e488]
theorem tri16_loop {F : Nat} (hF : BigF F) {s : Nat} {l : List Nat} {P : List (Int × Int)} {y : TGeom_LinearRing} (hy : y.geom1.geom0.flatCoords = l) {q : Bool} (hs : 2 ≤ s) (hs8 : s ≤ 8) (h : Whole2 s l P) (h100 : P.length ≤ 100) (hf : Flatt P)
  {base : Option (List Nat)} {bx b_y : Nat} {b : Int × Int} (hb0 : idx (base.getD []) (0 : Int) = some bx) (hb1 : idx (base.getD []) (1 : Int) = some b_y) (ib0 : Flt.I bx b.1) (ib1 : Flt.I b_y b.2) (bB : B64 b) {N : Nat} (hN : N ≤ 3000)
  {tc cg : List Nat} {area : Nat} (h0 : TS s N 0 [0, 0] [0, 0] tc cg area) :
  ∃ st : List Nat × List Nat × List Nat × Nat × List Nat, TS s (N + (P.length - 1)) 0 st.1 st.2.2.2.2 st.2.1 st.2.2.1 st.2.2.2.1 ∧ iter (p_PolygonsCentroid_l16 (s : Int) (s : Int) (s : Int) base y q) F ((0 : Int), [0, 0], tc, cg, area, [0, 0]) = some (.inl (st.2.1, st.2.2.1, st.2.2.2.1, st.1, st.2.2.2.2)) := by
 have hF' : 1073741826 ≤ F := hF
 obtain ⟨hl, hz⟩ := h
 obtain ⟨h4, hcl, hline⟩ := hf
 have hbl : P.length * s ≤ 100 * 8 := Nat.mul_le_mul h100 hs8
 have hB : ∀ i, i < P.length → At (plc s l i) (nth P i).1 (nth P i).2 ∧ B64 (nth P i) := fun i hi => by
  have e1 : P[i]? = some P[i] := List.getElem?_eq_getElem hi
  have := hz i _ e1
  rw [nth_get e1]; exact this
 have hlast : (P.length - 1) * s + s = P.length * s := by
  obtain ⟨m, hm⟩ : ∃ m, P.length = m + 1 := ⟨P.length - 1, by omega⟩
  rw [hm, Nat.add_sub_cancel, Nat.add_mul, Nat.one_mul]
 have hlen : (P.drop 1).length = P.length - 1 := by simp
 obtain ⟨sg, hg, hsg⟩ := sgn_p (c := !q)
 obtain ⟨st, hst, e⟩ := fold_ex (P.drop 1) (p_PolygonsCentroid_l16 (s : Int) (s : Int) (s : Int) base y q) (fun i (st : List Nat × List Nat × List Nat × Nat × List Nat) => (((i * s : Nat) : Int), st)) (fun st => (st.2.1, st.2.2.1, st.2.2.2.1, st.1, st.2.2.2.2))
  (fun i st => TS s (N + i) (sg * ar b (nth P 0) (nth P i)) st.1 st.2.2.2.2 st.2.1 st.2.2.1 st.2.2.2.1)
  (fun K st hst => by
   unfold p_PolygonsCentroid_l16
   rw [hy, hlen, need_pos (in64m (by omega) (by omega))]
   rw [cond_f (decide_eq_false (by simp only; omega))])
  (fun i x st hx hst => by
   obtain ⟨s1, s2, s3, s4, s5⟩ := st
   simp only at hst
   have hi := lt_get hx
   rw [hlen] at hi
   obtain ⟨⟨a1, a2⟩, aB⟩ := hB i (by omega)
   obtain ⟨⟨b1, b2⟩, bB'⟩ := hB (i + 1) (by omega)
   have pB := (hB 0 (by omega)).2
   simp only [plc] at a1 a2 b1 b2
   have hle : (i + 1) * s + s ≤ P.length * s := mul_lt' (by omega) hs
   have hi1 : (i + 1) * s = i * s + s := by rw [Nat.add_mul, Nat.one_mul]
   rw [hi1] at b1 b2
   have hA : (sg * ar b (nth P 0) (nth P i)).natAbs ≤ 100000 := by
    obtain ⟨m1, m2⟩ := ar_b bB pB aB
    have : (ar b (nth P 0) (nth P i)).natAbs ≤ 32768 := by unfold ar; omega
    rcases hsg with h | h <;> rw [h] <;> omega
   obtain ⟨tc', cg', area', hT, hk⟩ := tri16 (i := ((i * s : Nat) : Int)) hb0 hb1 ib0 ib1 bB a1 a2 b1 b2 aB bB' hg hsg hs (by omega) hA hst (in64 (by omega) (by omega))
   have hsum : sg * ar b (nth P 0) (nth P i) + sg * ar b (nth P i) (nth P (i + 1)) = sg * ar b (nth P 0) (nth P (i + 1)) := by
    rw [← Int.mul_add, ar_line (by
     rcases hline with h | h
     ·left; exact ⟨h i (by omega), h (i + 1) (by omega)⟩
     ·right; exact ⟨h i (by omega), h (i + 1) (by omega)⟩)]
   rw [hsum] at hT
   refine ⟨([l.getD (i * s) 0, l.getD (i * s + 1) 0], tc', cg', area', [l.getD (i * s + s) 0, l.getD (i * s + s + 1) 0]), hT, fun K => ?_⟩
   obtain ⟨⟨u0, u1, hp1⟩, ⟨v0, v1, hp2⟩, _⟩ := hst
   subst hp1 hp2
   have k0 : ∀ p q : Nat, (0 ≤ (0 : Int) ∧ (0 : Int) < (([p, q].length : Nat) : Int)) := fun p q => ⟨by omega, by show (0 : Int) < ((2 : Nat) : Int); omega⟩
   have k1 : ∀ p q r : Nat, (0 ≤ (1 : Int) ∧ (1 : Int) < ((([p, q].set ((0 : Int)).toNat r).length : Nat) : Int)) := fun p q r => ⟨by omega, by show (1 : Int) < ((2 : Nat) : Int); omega⟩
   have k2 : ∀ p q : Nat, ((0 : Int)).toNat < [p, q].length := fun p q => by show 0 < 2; omega
   have k3 : ∀ p q r : Nat, ((1 : Int)).toNat < ([p, q].set ((0 : Int)).toNat r).length := fun p q r => by show 1 < 2; omega
   have m1 : inI .i64 (((P.length * s : Nat) : Int) - (s : Int)) := in64m (by omega) (by omega)
   have m2 : inI .i64 ((((i * s : Nat)) : Int) + 1) := in64 (by omega) (by omega)
   have m3 : inI .i64 ((((i * s + s : Nat)) : Int)) := in64 (by omega) (by omega)
   have m4 : inI .i64 ((((i * s + s : Nat)) : Int) + 1) := in64 (by omega) (by omega)
   have ei : (((i * s : Nat) : Int) + (s : Int)) = (((i * s + s : Nat)) : Int) := by omega
   have x1' := idxD (show i * s < l.length by omega)
   have x2' : idx l ((((i * s : Nat)) : Int) + 1) = some (l.getD (i * s + 1) 0) := by rw [succ_cast]; exact idxD (by omega)
   have x3' := idxD (show i * s + s < l.length by omega)
   have x4' : idx l ((((i * s + s : Nat)) : Int) + 1) = some (l.getD (i * s + s + 1) 0) := by rw [succ_cast]; exact idxD (by omega)
   have hc : ((((i * s : Nat)) : Int) < (((P.length * s : Nat) : Int) - (s : Int))) := by omega
   rw [hi1]
   have hk' := hk K
   rw [ei] at hk'
   rw [← hk']
   unfold p_PolygonsCentroid_l16
   simp only [hy, hl, decide_eq_true hc, cond_true, ei]
   simp only [need_g m1, need_g m2, need_g m3, need_g m4, need_g (k0 _ _), need_g (k1 _ _ _), need_g (k2 _ _), need_g (k3 _ _ _), x1', x2', x3', x4', Option.bind_some]
   cases q <;> rfl)
  F 0 ([0, 0], tc, cg, area, [0, 0]) (by omega) (by omega) (by rw [ar_self, Int.mul_zero]; exact h0)
 rw [hlen] at hst
 have hz0 : sg * ar b (nth P 0) (nth P (P.length - 1)) = 0 := by rw [← hcl, ar_self, Int.mul_zero]
 rw [hz0] at hst
 refine ⟨st, hst, ?_⟩
 rw [show (((0 : Int), [0, 0], tc, cg, area, [0, 0]) : Int × List Nat × List Nat × List Nat × Nat × List Nat) = ((((0 * s : Nat)) : Int), [0, 0], tc, cg, area, [0, 0]) by rw [Nat.zero_mul]; rfl]
 exact e

set_option maxHeartbeats 2000000 in
theorem tri13 {s N : Nat} {i : Int} {base : Option (List Nat)} {bx b_y : Nat} {b w z : Int × Int} (hb0 : idx (base.getD []) (0 : Int) = some bx) (hb1 : idx (base.getD []) (1 : Int) = some b_y) (ib0 : Flt.I bx b.1) (ib1 : Flt.I b_y b.2) (bB : B64 b)
  {x0 y0 x1 y1 g : Nat} (i0 : Flt.I x0 w.1) (i1 : Flt.I y0 w.2) (i2 : Flt.I x1 z.1) (i3 : Flt.I y1 z.2) (bw : B64 w) (bz : B64 z) {sg A : Int} (hg : Flt.I g sg) (hsg : sg = 1 ∨ sg = -1) (hs : 2 ≤ s) (hN : N ≤ 4000) (hA : A.natAbs ≤ 100000)
  {p1 p2 tc cg : List Nat} {area : Nat} (h : TS s N A p1 p2 tc cg area) (hin : inI .i64 (i + (s : Int))) :
  ∃ tc' cg' area', TS s (N + 1) (A + sg * ar b w z) [x0, y0] [x1, y1] tc' cg' area' ∧ ∀ K, p_PolygonsCentroid_k14 (s : Int) (s : Int) (s : Int) base (i, tc, cg, area, p1, p2) K x0 y0 x1 y1 g = K (i + (s : Int), tc', cg', area', [x0, y0], [x1, y1]) := by
 obtain ⟨⟨u0, u1, rfl⟩, ⟨v0, v1, rfl⟩, htc, hcg, ⟨c0, c1, ic0, ic1, bc0, bc1⟩, iA⟩ := h
 obtain ⟨m1, m2⟩ := ar_b bB bw bz
 have hB := bB; have hW := bw; have hZ := bz
 obtain ⟨⟨b1, b2⟩, b3, b4⟩ := hB
 obtain ⟨⟨w1, w2⟩, w3, w4⟩ := hW
 obtain ⟨⟨q1, q2⟩, q3, q4⟩ := hZ
 obtain ⟨z400, e400, j400⟩ := Flt.add_int ib0 i0 (by omega)
 obtain ⟨z405, e405, j405⟩ := Flt.add_int j400 i2 (by omega)
 obtain ⟨z414, e414, j414⟩ := Flt.add_int ib1 i1 (by omega)
 obtain ⟨z419, e419, j419⟩ := Flt.add_int j414 i3 (by omega)
 obtain ⟨z429, e429, j429⟩ := Flt.sub_int i0 ib0 (by omega)
 obtain ⟨z436, e436, j436⟩ := Flt.sub_int i3 ib1 (by omega)
 obtain ⟨z438, e438, j438⟩ := Flt.mul_int j429 j436 (by omega)
 obtain ⟨z445, e445, j445⟩ := Flt.sub_int i2 ib0 (by omega)
 obtain ⟨z452, e452, j452⟩ := Flt.sub_int i1 ib1 (by omega)
 obtain ⟨z454, e454, j454⟩ := Flt.mul_int j445 j452 (by omega)
 obtain ⟨z456, e456, j456⟩ := Flt.sub_int j438 j454 (by omega)
 have hab : ((w.1 - b.1) * (z.2 - b.2) - (z.1 - b.1) * (w.2 - b.2)).natAbs ≤ 32768 := by omega
 have hsa : (sg * ((w.1 - b.1) * (z.2 - b.2) - (z.1 - b.1) * (w.2 - b.2))).natAbs ≤ 32768 := by
  rcases hsg with h | h <;> rw [h] <;> omega
 obtain ⟨z461, e461, j461⟩ := Flt.mul_int hg j456 (by omega)
 have hc0 : (sg * ((w.1 - b.1) * (z.2 - b.2) - (z.1 - b.1) * (w.2 - b.2)) * (b.1 + w.1 + z.1)).natAbs ≤ 32768 * 192 := mul_n hsa (by omega)
 have hc1 : (sg * ((w.1 - b.1) * (z.2 - b.2) - (z.1 - b.1) * (w.2 - b.2)) * (b.2 + w.2 + z.2)).natAbs ≤ 32768 * 192 := mul_n hsa (by omega)
 obtain ⟨z466, e466, j466⟩ := Flt.mul_int j461 j405 (by omega)
 obtain ⟨z468, e468, j468⟩ := Flt.add_int ic0 j466 (by omega)
 obtain ⟨z480, e480, j480⟩ := Flt.mul_int j461 j419 (by omega)
 obtain ⟨z482, e482, j482⟩ := Flt.add_int ic1 j480 (by omega)
 obtain ⟨z488, e488, j488⟩ := Flt.add_int iA j461 (by omega)
 refine ⟨(tc.set 0 z405).set 1 z419, (cg.set 0 z468).set 1 z482, z488, ⟨⟨_, _, rfl⟩, ⟨_, _, rfl⟩, by simp [htc], by simp [hcg], ⟨c0 + sg * ((w.1 - b.1) * (z.2 - b.2) - (z.1 - b.1) * (w.2 - b.2)) * (b.1 + w.1 + z.1), c1 + sg * ((w.1 - b.1) * (z.2 - b.2) - (z.1 - b.1) * (w.2 - b.2)) * (b.2 + w.2 + z.2), ?_, ?_, ?_, ?_⟩, j488⟩, fun K => ?_⟩
 ·rw [getD_set', if_neg (by omega), getD_set', if_pos ⟨rfl, by omega⟩]; exact j468
 ·rw [getD_set', if_pos ⟨rfl, by simp; omega⟩]; exact j482
 ·omega
 ·omega
 ·have l1 : ([u0, u1].set 0 x0).set 1 y0 = [x0, y0] := rfl
  have l2 : ([v0, v1].set 0 x1).set 1 y1 = [x1, y1] := rfl
  have z0 : ((0 : Int)).toNat = 0 := rfl
  have z1 : ((1 : Int)).toNat = 1 := rfl
  have k0 : ∀ p q : Nat, (0 ≤ (0 : Int) ∧ (0 : Int) < (([p, q].length : Nat) : Int)) := fun p q => ⟨by omega, by show (0 : Int) < ((2 : Nat) : Int); omega⟩
  have k1 : ∀ p q : Nat, (0 ≤ (1 : Int) ∧ (1 : Int) < (([p, q].length : Nat) : Int)) := fun p q => ⟨by omega, by show (1 : Int) < ((2 : Nat) : Int); omega⟩
  have n0 : (0 ≤ (0 : Int) ∧ (0 : Int) < ((((s : Int)).toNat : Nat) : Int)) := ⟨by omega, by omega⟩
  have n1 : (0 ≤ (1 : Int) ∧ (1 : Int) < ((((s : Int)).toNat : Nat) : Int)) := ⟨by omega, by omega⟩
  have t0 : 0 < tc.length := by omega
  have t1 : 1 < (tc.set 0 z405).length := by simp; omega
  have t2 : 0 < cg.length := by omega
  have t3 : 1 < (cg.set 0 z468).length := by simp; omega
  have a0 : idx cg (0 : Int) = some (cg.getD 0 0) := idxD (k := 0) t2
  have a1 : idx (cg.set 0 z468) (1 : Int) = some (cg.getD 1 0) := by rw [show idx (cg.set 0 z468) (1 : Int) = some ((cg.set 0 z468).getD 1 0) from idxD (k := 1) t3, getD_set', if_neg (by omega)]
  have a2 : idx ((tc.set 0 z405).set 1 z419) (0 : Int) = some z405 := by rw [show idx ((tc.set 0 z405).set 1 z419) (0 : Int) = some (((tc.set 0 z405).set 1 z419).getD 0 0) from idxD (k := 0) (by simp; omega), getD_set', if_neg (by omega), getD_set', if_pos ⟨rfl, t0⟩]
  have a3 : idx ((tc.set 0 z405).set 1 z419) (1 : Int) = some z419 := by rw [show idx ((tc.set 0 z405).set 1 z419) (1 : Int) = some (((tc.set 0 z405).set 1 z419).getD 1 0) from idxD (k := 1) (by simp; omega), getD_set', if_pos ⟨rfl, t1⟩]
  unfold p_PolygonsCentroid_k14
  simp only [z0, z1, l1, l2, ix0, ix1, hb0, hb1, Option.bind_some, need_g (k0 x0 y0), need_g (k0 x1 y1), need_g (k1 x0 y0), need_g (k1 x1 y1), need_g n0, need_g n1, need_g t0, need_g t1, need_g t2, need_g t3, need_g hin, a0, a1, a2, a3,
   e400, e405, e414, e419, e429, e436, e438, e445, e452, e454, e456, e461, e466, e468, e480, e482, e488]
theorem tri13_loop {F : Nat} (hF : BigF F) {s : Nat} {l : List Nat} {P : List (Int × Int)} {y : TGeom_LinearRing} (hy : y.geom1.geom0.flatCoords = l) {q : Bool} (hs : 2 ≤ s) (hs8 : s ≤ 8) (h : Whole2 s l P) (h100 : P.length ≤ 100) (hf : Flatt P)
  {base : Option (List Nat)} {bx b_y : Nat} {b : Int × Int} (hb0 : idx (base.getD []) (0 : Int) = some bx) (hb1 : idx (base.getD []) (1 : Int) = some b_y) (ib0 : Flt.I bx b.1) (ib1 : Flt.I b_y b.2) (bB : B64 b) {N : Nat} (hN : N ≤ 3000)
  {tc cg : List Nat} {area : Nat} (h0 : TS s N 0 [0, 0] [0, 0] tc cg area) :
  ∃ st : List Nat × List Nat × Nat × List Nat × List Nat, TS s (N + (P.length - 1)) 0 st.2.2.2.1 st.2.2.2.2 st.1 st.2.1 st.2.2.1 ∧ iter (p_PolygonsCentroid_l13 (s : Int) (s : Int) (s : Int) base y q) F ((0 : Int), tc, cg, area, [0, 0], [0, 0]) = some (.inl (st.1, st.2.1, st.2.2.1, st.2.2.2.1, st.2.2.2.2)) := by
 have hF' : 1073741826 ≤ F := hF
 obtain ⟨hl, hz⟩ := h
 obtain ⟨h4, hcl, hline⟩ := hf
 have hbl : P.length * s ≤ 100 * 8 := Nat.mul_le_mul h100 hs8
 have hB : ∀ i, i < P.length → At (plc s l i) (nth P i).1 (nth P i).2 ∧ B64 (nth P i) := fun i hi => by
  have e1 : P[i]? = some P[i] := List.getElem?_eq_getElem hi
  have := hz i _ e1
  rw [nth_get e1]; exact this
 have hlast : (P.length - 1) * s + s = P.length * s := by
  obtain ⟨m, hm⟩ : ∃ m, P.length = m + 1 := ⟨P.length - 1, by omega⟩
  rw [hm, Nat.add_sub_cancel, Nat.add_mul, Nat.one_mul]
 have hlen : (P.drop 1).length = P.length - 1 := by simp
 obtain ⟨sg, hg, hsg⟩ := sgn_p (c := q)
 obtain ⟨st, hst, e⟩ := fold_ex (P.drop 1) (p_PolygonsCentroid_l13 (s : Int) (s : Int) (s : Int) base y q) (fun i (st : List Nat × List Nat × Nat × List Nat × List Nat) => (((i * s : Nat) : Int), st)) (fun st => (st.1, st.2.1, st.2.2.1, st.2.2.2.1, st.2.2.2.2))
  (fun i st => TS s (N + i) (sg * ar b (nth P 0) (nth P i)) st.2.2.2.1 st.2.2.2.2 st.1 st.2.1 st.2.2.1)
  (fun K st hst => by
   unfold p_PolygonsCentroid_l13
   rw [hy, hlen, need_pos (in64m (by omega) (by omega))]
   rw [cond_f (decide_eq_false (by simp only; omega))])
  (fun i x st hx hst => by
   obtain ⟨s1, s2, s3, s4, s5⟩ := st
   simp only at hst
   have hi := lt_get hx
   rw [hlen] at hi
   obtain ⟨⟨a1, a2⟩, aB⟩ := hB i (by omega)
   obtain ⟨⟨b1, b2⟩, bB'⟩ := hB (i + 1) (by omega)
   have pB := (hB 0 (by omega)).2
   simp only [plc] at a1 a2 b1 b2
   have hle : (i + 1) * s + s ≤ P.length * s := mul_lt' (by omega) hs
   have hi1 : (i + 1) * s = i * s + s := by rw [Nat.add_mul, Nat.one_mul]
   rw [hi1] at b1 b2
   have hA : (sg * ar b (nth P 0) (nth P i)).natAbs ≤ 100000 := by
    obtain ⟨m1, m2⟩ := ar_b bB pB aB
    have : (ar b (nth P 0) (nth P i)).natAbs ≤ 32768 := by unfold ar; omega
    rcases hsg with h | h <;> rw [h] <;> omega
   obtain ⟨tc', cg', area', hT, hk⟩ := tri13 (i := ((i * s : Nat) : Int)) hb0 hb1 ib0 ib1 bB a1 a2 b1 b2 aB bB' hg hsg hs (by omega) hA hst (in64 (by omega) (by omega))
   have hsum : sg * ar b (nth P 0) (nth P i) + sg * ar b (nth P i) (nth P (i + 1)) = sg * ar b (nth P 0) (nth P (i + 1)) := by
    rw [← Int.mul_add, ar_line (by
     rcases hline with h | h
     ·left; exact ⟨h i (by omega), h (i + 1) (by omega)⟩
     ·right; exact ⟨h i (by omega), h (i + 1) (by omega)⟩)]
   rw [hsum] at hT
   refine ⟨(tc', cg', area', [l.getD (i * s) 0, l.getD (i * s + 1) 0], [l.getD (i * s + s) 0, l.getD (i * s + s + 1) 0]), hT, fun K => ?_⟩
   obtain ⟨⟨u0, u1, hp1⟩, ⟨v0, v1, hp2⟩, _⟩ := hst
   subst hp1 hp2
   have k0 : ∀ p q : Nat, (0 ≤ (0 : Int) ∧ (0 : Int) < (([p, q].length : Nat) : Int)) := fun p q => ⟨by omega, by show (0 : Int) < ((2 : Nat) : Int); omega⟩
   have k1 : ∀ p q r : Nat, (0 ≤ (1 : Int) ∧ (1 : Int) < ((([p, q].set ((0 : Int)).toNat r).length : Nat) : Int)) := fun p q r => ⟨by omega, by show (1 : Int) < ((2 : Nat) : Int); omega⟩
   have k2 : ∀ p q : Nat, ((0 : Int)).toNat < [p, q].length := fun p q => by show 0 < 2; omega
   have k3 : ∀ p q r : Nat, ((1 : Int)).toNat < ([p, q].set ((0 : Int)).toNat r).length := fun p q r => by show 1 < 2; omega
   have m1 : inI .i64 (((P.length * s : Nat) : Int) - (s : Int)) := in64m (by omega) (by omega)
   have m2 : inI .i64 ((((i * s : Nat)) : Int) + 1) := in64 (by omega) (by omega)
   have m3 : inI .i64 ((((i * s + s : Nat)) : Int)) := in64 (by omega) (by omega)
   have m4 : inI .i64 ((((i * s + s : Nat)) : Int) + 1) := in64 (by omega) (by omega)
   have ei : (((i * s : Nat) : Int) + (s : Int)) = (((i * s + s : Nat)) : Int) := by omega
   have x1' := idxD (show i * s < l.length by omega)
   have x2' : idx l ((((i * s : Nat)) : Int) + 1) = some (l.getD (i * s + 1) 0) := by rw [succ_cast]; exact idxD (by omega)
   have x3' := idxD (show i * s + s < l.length by omega)
   have x4' : idx l ((((i * s + s : Nat)) : Int) + 1) = some (l.getD (i * s + s + 1) 0) := by rw [succ_cast]; exact idxD (by omega)
   have hc : ((((i * s : Nat)) : Int) < (((P.length * s : Nat) : Int) - (s : Int))) := by omega
   rw [hi1]
   have hk' := hk K
   rw [ei] at hk'
   rw [← hk']
   unfold p_PolygonsCentroid_l13
   simp only [hy, hl, decide_eq_true hc, cond_true, ei]
   simp only [need_g m1, need_g m2, need_g m3, need_g m4, need_g (k0 _ _), need_g (k1 _ _ _), need_g (k2 _ _), need_g (k3 _ _ _), x1', x2', x3', x4', Option.bind_some]
   cases q <;> rfl)
  F 0 (tc, cg, area, [0, 0], [0, 0]) (by omega) (by omega) (by rw [ar_self, Int.mul_zero]; exact h0)
 rw [hlen] at hst
 have hz0 : sg * ar b (nth P 0) (nth P (P.length - 1)) = 0 := by rw [← hcl, ar_self, Int.mul_zero]
 rw [hz0] at hst
 refine ⟨st, hst, ?_⟩
 rw [show (((0 : Int), tc, cg, area, [0, 0], [0, 0]) : Int × List Nat × List Nat × Nat × List Nat × List Nat) = ((((0 * s : Nat)) : Int), tc, cg, area, [0, 0], [0, 0]) by rw [Nat.zero_mul]; rfl]
 exact e
end Go.Proofs.YtdchenbdnalbcaaGreatDoor.Wk

set_option linter.unusedVariables false
set_option linter.unusedSimpArgs false
namespace Go.Proofs.YtdchenbdnalbcaaGreatDoor.Wk
open Go.Vm
theorem flatt_ax {P : List (Int × Int)} (h : Flatt P) : ∀ k, k + 1 < P.length → Ax (nth P k) (nth P (k + 1)) := fun k hk => by
 obtain ⟨_, _, h | h⟩ := h
 ·exact .inr (by rw [h (k + 1) hk, h k (by omega)])
 ·exact .inl (by rw [h (k + 1) hk, h k (by omega)])
/-- the sums over the first rings, from others on -/
def rf (Rs : List (List (Int × Int))) (t : Int × Int × Int) : Nat → Int × Int × Int
 | 0 => t
 | j + 1 => run (Rs.getD j []) (rf Rs t j) ((Rs.getD j []).length - 1)
theorem rf_succ {Rs : List (List (Int × Int))} {t : Int × Int × Int} {j : Nat} {R : List (Int × Int)} (h : Rs[j]? = some R) : rf Rs t (j + 1) = run R (rf Rs t j) (R.length - 1) := by
 show run (Rs.getD j []) (rf Rs t j) ((Rs.getD j []).length - 1) = _
 rw [List.getD_eq_getElem?_getD, h]; rfl
theorem runs_rf (Ps : List (List (Int × Int))) : ∀ j, runs Ps j = rf Ps (0, 0, 0) j
 | 0 => rfl
 | j + 1 => by show run _ (runs Ps j) _ = run _ (rf Ps (0, 0, 0) j) _; rw [runs_rf Ps j]
theorem rf_left (A B : List (List (Int × Int))) (t : Int × Int × Int) : ∀ j, j ≤ A.length → rf (A ++ B) t j = rf A t j
 | 0, _ => rfl
 | j + 1, hj => by
  show run _ (rf (A ++ B) t j) _ = run _ (rf A t j) _
  rw [rf_left A B t j (by omega)]
  have : (A ++ B).getD j [] = A.getD j [] := by
   rw [List.getD_eq_getElem?_getD, List.getElem?_append_left (by omega), ← List.getD_eq_getElem?_getD]
  rw [this]
theorem rf_right (A B : List (List (Int × Int))) (t : Int × Int × Int) : ∀ j, rf (A ++ B) t (A.length + j) = rf B (rf A t A.length) j
 | 0 => rf_left A B t A.length (Nat.le_refl _)
 | j + 1 => by
  show run ((A ++ B).getD (A.length + j) []) (rf (A ++ B) t (A.length + j)) (((A ++ B).getD (A.length + j) []).length - 1) = run (B.getD j []) (rf B (rf A t A.length) j) ((B.getD j []).length - 1)
  rw [rf_right A B t j]
  have : (A ++ B).getD (A.length + j) [] = B.getD j [] := by
   rw [List.getD_eq_getElem?_getD, List.getElem?_append_right (by omega), show A.length + j - A.length = j by omega, ← List.getD_eq_getElem?_getD]
  rw [this]
theorem rf_bnd {Rs : List (List (Int × Int))} (h : ∀ P, P ∈ Rs → ∀ i, i < P.length → B64 (nth P i)) {M : Nat} {t : Int × Int × Int} (ht : Bnd M t) : ∀ j, j ≤ Rs.length → Bnd (M + tot Rs j) (rf Rs t j)
 | 0, _ => bnd_mono ht (by omega)
 | j + 1, hj => by
  obtain ⟨P, hP⟩ : ∃ P, Rs[j]? = some P := ⟨_, List.getElem?_eq_getElem (by omega)⟩
  rw [rf_succ hP, tot_succ hP, ← Nat.add_assoc]
  exact run_step (h P (List.mem_of_getElem? hP)) (rf_bnd h ht j (by omega))
/-- what the calculator of areas holds between rings -/
def CS (s N : Nat) (cs tc cg : List Nat) (area total : Nat) (t : Int × Int × Int) : Prop :=
 FS s (cs, total) t ∧ tc.length = s ∧ cg.length = s ∧ (∃ c0 c1 : Int, Flt.I (cg.getD 0 0) c0 ∧ Flt.I (cg.getD 1 0) c1 ∧ c0.natAbs ≤ 6291456 * N ∧ c1.natAbs ≤ 6291456 * N) ∧ Flt.I area 0
theorem CS.ts {s N : Nat} {cs tc cg : List Nat} {area total : Nat} {t : Int × Int × Int} (h : CS s N cs tc cg area total t) : TS s N 0 [0, 0] [0, 0] tc cg area :=
 ⟨⟨_, _, rfl⟩, ⟨_, _, rfl⟩, h.2.1, h.2.2.1, h.2.2.2.1, h.2.2.2.2⟩
theorem cs_of {s N M : Nat} {p1 p2 cs tc cg : List Nat} {area total : Nat} {t : Int × Int × Int} (h : TS s N 0 p1 p2 tc cg area) (hf : FS s (cs, total) t) (hN : N ≤ M) : CS s M cs tc cg area total t := by
 obtain ⟨_, _, h1, h2, ⟨c0, c1, i0, i1, b0, b1⟩, h3⟩ := h
 exact ⟨hf, h1, h2, ⟨c0, c1, i0, i1, by omega, by omega⟩, h3⟩
/-- the place from which the triangles are told -/
def Base (base : Option (List Nat)) : Prop := ∃ bx b_y b, idx (base.getD []) (0 : Int) = some bx ∧ idx (base.getD []) (1 : Int) = some b_y ∧ Flt.I bx b.1 ∧ Flt.I b_y b.2 ∧ B64 b
abbrev lrOf (g : TImpl_Geom) (s : Nat) (l : List Nat) : TGeom_LinearRing := TGeom_LinearRing.mk (TGeom_geom1.mk (TGeom_geom0.mk g.Layout (s : Int) l (0 : Int)))
abbrev pgOf (g : TImpl_Geom) (s : Nat) : TGeom_Polygon := TGeom_Polygon.mk (TGeom_geom2.mk (TGeom_geom1.mk (TGeom_geom0.mk g.Layout (s : Int) g.Flat (0 : Int))) g.Ends)
set_option maxHeartbeats 1000000 in
theorem poly_p {F : Nat} (hF : BigF F) {a0 : Int} {g : TImpl_Geom} {Rs : List (List (Int × Int))} (h1 : 1 ≤ a0) (h8 : a0 ≤ 8) (hE : g.Ends.length ≤ 1048576) (hp : PolyR a0 g Rs) (hfl : ∀ R, R ∈ Rs → Flatt R) {base : Option (List Nat)} (hb : Base base)
  {N M : Nat} {t : Int × Int × Int} {cs tc cg : List Nat} {area total : Nat} (hcs : CS (strideN a0) N cs tc cg area total t) (hM : Bnd M t) (hMt : M + (Rs.map List.length).sum ≤ 2000) (hNt : N + (Rs.map List.length).sum ≤ 2000) :
  ∃ cs' tc' cg' area' total', CS (strideN a0) (N + tot Rs Rs.length) cs' tc' cg' area' total' (rf Rs t Rs.length) ∧ ∀ (i : Nat) b0 K, i < 1000 →
   p_PolygonsCentroid_k3 a0 F (strideN a0 : Int) (strideN a0 : Int) (strideN a0 : Int) (strideN a0 : Int) ((i : Int), cs, tc, cg, b0, area, total) K (pgOf g (strideN a0)) base = K (((i + 1 : Nat) : Int), cs', tc', cg', base, area', total') := by
 have hF' : 1073741826 ≤ F := hF
 obtain ⟨_, e2, hs, hs8⟩ := stride_p h1 h8
 obtain ⟨bx, b_y, b, hb0, hb1, ib0, ib1, bB⟩ := hb
 have hring : ∀ (j : Nat) R, Rs[j]? = some R → g.Ends[j]? = some (cutE g.Ends (j + 1) : Int) ∧ cutE g.Ends j ≤ cutE g.Ends (j + 1) ∧ cutE g.Ends (j + 1) ≤ g.Flat.length ∧ Whole2 (strideN a0) ((g.Flat.drop (cutE g.Ends j)).take (cutE g.Ends (j + 1) - cutE g.Ends j)) R ∧ R.length ≤ 100 := hp.ring
 have hlr : ∀ l, p_NewLinearRingFlat g.Layout l = some (lrOf g (strideN a0) l) := fun l => by
  unfold p_NewLinearRingFlat; rw [show p_Layout_Stride g.Layout = some (strideN a0 : Int) by rw [hp.lay]; exact e2]; rfl
 have hB : ∀ P, P ∈ Rs → ∀ i, i < P.length → B64 (nth P i) := fun P hP i hi => by
  obtain ⟨j, hj⟩ := List.getElem?_of_mem hP
  have e1 : P[i]? = some P[i] := List.getElem?_eq_getElem hi
  rw [nth_get e1]
  exact ((hring j P hj).2.2.2.1.2 i _ e1).2
 have htl := fun j => tot_le Rs j
 have hccw : ∀ (j : Nat) R, Rs[j]? = some R → ∃ b, p_IsRingCounterClockwise F a0 ((g.Flat.drop (cutE g.Ends j)).take (cutE g.Ends (j + 1) - cutE g.Ends j)) = some b := fun j R hj => ccw_p hF h1 h8 (hring j R hj).2.2.2.1 (hring j R hj).2.2.2.2 (hfl R (List.mem_of_getElem? hj))
 have hlen := hp.len
 have hpos := hp.pos
 generalize strideN a0 = s at *
 -- the first ring
 obtain ⟨R0, hR0⟩ : ∃ R, Rs[0]? = some R := ⟨_, List.getElem?_eq_getElem (by have := hp.pos; omega)⟩
 obtain ⟨q1, q2, q3, q4, q5⟩ := hring 0 R0 hR0
 have f0 := hfl R0 (List.mem_of_getElem? hR0)
 obtain ⟨y93, e93⟩ := hccw 0 R0 hR0
 have f4 := f0.1
 have t1 : tot Rs (0 + 1) = R0.length := by rw [tot_succ hR0]; simp [tot]
 have htl1 := htl (0 + 1)
 obtain ⟨st, hst, et⟩ := tri16_loop hF (y := lrOf g s ((g.Flat.drop (cutE g.Ends 0)).take (cutE g.Ends (0 + 1) - cutE g.Ends 0))) rfl (q := y93) hs hs8 q4 q5 f0 hb0 hb1 ib0 ib1 bB (N := N) (by omega) hcs.ts
 obtain ⟨sg, hsg, es⟩ := seg15_loop hF (y := lrOf g s ((g.Flat.drop (cutE g.Ends 0)).take (cutE g.Ends (0 + 1) - cutE g.Ends 0))) rfl hs hs8 q4 (by omega) q5 (flatt_ax f0) (N := M) (by omega) hM hcs.1
 have hc1 : CS s (N + tot Rs (0 + 1)) sg.1 st.2.1 st.2.2.1 st.2.2.2.1 sg.2 (rf Rs t (0 + 1)) := by
  rw [rf_succ hR0]; exact cs_of hst hsg (by omega)
 -- the others
 obtain ⟨w, ⟨hw1, hw⟩, ew⟩ := fold_ex Rs (p_PolygonsCentroid_l8 a0 F (s : Int) (s : Int) (s : Int) (s : Int) (pgOf g s) base) (fun j (st : List Nat × List Nat × List Nat × Nat × Nat) => ((j : Int), st)) (fun st => st)
  (fun j st => 1 ≤ j ∧ CS s (N + tot Rs j) st.1 st.2.1 st.2.2.1 st.2.2.2.1 st.2.2.2.2 (rf Rs t j))
  (fun K st hst => by
   unfold p_PolygonsCentroid_l8
   rw [show (pgOf g s).geom2.ends = g.Ends from rfl, hlen, cond_f dge])
  (fun j R st hx hst => by
   obtain ⟨c1, c2, c3, c4, c5⟩ := st
   obtain ⟨hj1, hst⟩ := hst
   simp only at hst
   have hj := lt_get hx
   obtain ⟨r1, r2, r3, r4, r5⟩ := hring j R hx
   obtain ⟨Rp, hRp⟩ : ∃ R, Rs[j - 1]? = some R := ⟨_, List.getElem?_eq_getElem (by omega)⟩
   have rp := (hring (j - 1) Rp hRp).1
   rw [show j - 1 + 1 = j by omega] at rp
   have fR := hfl R (List.mem_of_getElem? hx)
   have fR4 := fR.1
   have tj : tot Rs (j + 1) = tot Rs j + R.length := tot_succ hx
   have htlj := htl (j + 1)
   obtain ⟨y, ey⟩ := hccw j R hx
   have hMj := rf_bnd hB hM j (by omega)
   obtain ⟨st', hst', et'⟩ := tri13_loop hF (y := lrOf g s ((g.Flat.drop (cutE g.Ends j)).take (cutE g.Ends (j + 1) - cutE g.Ends j))) rfl (q := y) hs hs8 r4 r5 fR hb0 hb1 ib0 ib1 bB (N := N + tot Rs j) (by omega) hst.ts
   obtain ⟨sg', hsg', es'⟩ := seg12_loop hF (y := lrOf g s ((g.Flat.drop (cutE g.Ends j)).take (cutE g.Ends (j + 1) - cutE g.Ends j))) rfl hs hs8 r4 (by omega) r5 (flatt_ax fR) (N := M + tot Rs j) (by omega) hMj hst.1
   refine ⟨(sg'.1, st'.1, st'.2.1, st'.2.2.1, sg'.2), ⟨by omega, ?_⟩, fun K => ?_⟩
   ·show CS s (N + tot Rs (j + 1)) sg'.1 st'.1 st'.2.1 st'.2.2.1 sg'.2 (rf Rs t (j + 1))
    rw [rf_succ hx]; exact cs_of hst' hsg' (by omega)
   ·unfold p_PolygonsCentroid_l8
    have ij : ((j : Int) - 1) = ((j - 1 : Nat) : Int) := by omega
    rw [show (pgOf g s).geom2.ends = g.Ends from rfl, cond_t (decide_eq_true (by simp only; omega)), cond_t (decide_eq_true (by simp only; omega))]
    simp only
    rw [need_pos (in64 (by omega) (by omega)), ij, idx_get rp, Option.bind_some]
    unfold p_PolygonsCentroid_k9
    rw [show (pgOf g s).geom2.ends = g.Ends from rfl, show (pgOf g s).geom2.geom1.geom0.flatCoords = g.Flat from rfl, show (pgOf g s).geom2.geom1.geom0.layout = g.Layout from rfl]
    simp only
    rw [idx_get r1, Option.bind_some, need_pos ⟨⟨by omega, by omega⟩, by simp only [Int.toNat_natCast]; omega, by simp only [Int.toNat_natCast]; omega⟩]
    simp only [Int.toNat_natCast]
    rw [hlr, Option.bind_some, show (lrOf g s ((g.Flat.drop (cutE g.Ends j)).take (cutE g.Ends (j + 1) - cutE g.Ends j))).geom1.geom0.flatCoords = (g.Flat.drop (cutE g.Ends j)).take (cutE g.Ends (j + 1) - cutE g.Ends j) from rfl, ey, Option.bind_some, et', Option.bind_some, aft_inl]
    unfold p_PolygonsCentroid_k10
    simp only
    rw [es', Option.bind_some, aft_inl]
    unfold p_PolygonsCentroid_k11
    simp only
    rw [need_pos (i64s (by omega)), succ_cast])
  F (0 + 1) (sg.1, st.2.1, st.2.2.1, st.2.2.2.1, sg.2) (by omega) (by omega) ⟨by omega, hc1⟩
 refine ⟨w.1, w.2.1, w.2.2.1, w.2.2.2.1, w.2.2.2.2, hw, fun i b0 K hi => ?_⟩
 unfold p_PolygonsCentroid_k3
 rw [cond_f (by rfl)]
 unfold p_PolygonsCentroid_k4
 have x0 : idx g.Ends (0 : Int) = some (cutE g.Ends (0 + 1) : Int) := idx_get (k := 0) q1
 rw [show (pgOf g s).geom2.ends = g.Ends from rfl, show (pgOf g s).geom2.geom1.geom0.flatCoords = g.Flat from rfl, show (pgOf g s).geom2.geom1.geom0.layout = g.Layout from rfl]
 have c0 : cutE g.Ends 0 = 0 := rfl
 rw [x0, Option.bind_some, need_pos ⟨⟨by omega, by omega⟩, by simp only [Int.toNat_natCast]; omega, by simp only [Int.toNat_natCast]; omega⟩]
 have z0 : ((0 : Int)).toNat = cutE g.Ends 0 := rfl
 simp only [Int.toNat_natCast, z0]
 rw [hlr, Option.bind_some, show (lrOf g s ((g.Flat.drop (cutE g.Ends 0)).take (cutE g.Ends (0 + 1) - cutE g.Ends 0))).geom1.geom0.flatCoords = (g.Flat.drop (cutE g.Ends 0)).take (cutE g.Ends (0 + 1) - cutE g.Ends 0) from rfl, e93, Option.bind_some, et, Option.bind_some, aft_inl]
 unfold p_PolygonsCentroid_k5
 simp only
 rw [es, Option.bind_some, aft_inl]
 unfold p_PolygonsCentroid_k6
 simp only
 rw [show (((1 : Int), sg.1, st.2.1, st.2.2.1, st.2.2.2.1, sg.2) : Int × List Nat × List Nat × List Nat × Nat × Nat) = (((0 + 1 : Nat) : Int), (sg.1, st.2.1, st.2.2.1, st.2.2.2.1, sg.2)) from rfl, ew, Option.bind_some, aft_inl]
 unfold p_PolygonsCentroid_k7
 simp only
 rw [need_pos (i64s (by omega)), succ_cast]
end Go.Proofs.YtdchenbdnalbcaaGreatDoor.Wk

set_option linter.unusedVariables false
set_option linter.unusedSimpArgs false
namespace Go.Proofs.YtdchenbdnalbcaaGreatDoor.Wk
open Go.Vm Limb
theorem quo_lt64 {x y z : Nat} (h : floatBits .quo .f64 x y = some z) : z < 18446744073709551616 := Ieee.Format.div_lt Ieee.double h
theorem rep0 (n k : Nat) : (List.replicate n (0 : Nat)).getD k 0 = 0 := by
 simp only [List.getD_eq_getElem?_getD, List.getElem?_replicate]
 split <;> rfl
theorem quo_p {x y : Nat} {A L : Int} (hx : Flt.J (-1) x A) (hy : Flt.I y L) (hL : 0 < L) (hA : -65536000 ≤ A ∧ A ≤ 65536000) : ∃ z r, floatBits .quo .f64 x y = some z ∧ Flt.V z = some r ∧ r - (A : Rat) / ((2 * L : Int) : Rat) < 1 / 1048576 ∧ (A : Rat) / ((2 * L : Int) : Rat) - r < 1 / 1048576 := by
 have e1 : (2 : Rat) ^ (-1 : Int) = 1 / 2 := by decide +kernel
 have hLr : (1 : Rat) ≤ (L : Rat) := by have : ((1 : Int) : Rat) ≤ (L : Rat) := Rat.intCast_le_intCast.2 (by omega); exact this
 have hinv := Rat.mul_inv_cancel (L : Rat) (by grind)
 have hi0 : 0 < (L : Rat)⁻¹ := Rat.inv_pos.2 (by grind)
 have hi1 : (L : Rat)⁻¹ ≤ 1 := by
  have := Rat.mul_le_mul_of_nonneg_right hLr (Rat.le_of_lt hi0)
  rw [hinv, Rat.one_mul] at this; exact this
 unfold Flt.J at hx
 rw [e1] at hx
 have h2L : (((2 * L : Int) : Rat))⁻¹ = (L : Rat)⁻¹ * (1 / 2) := by
  have e5 : ((2 : Int) : Rat) = 2 := rfl
  have h3 : ((2 * L : Int) : Rat) = 2 * (L : Rat) := by rw [Rat.intCast_mul, e5]
  have h4 := Rat.mul_inv_cancel ((2 * L : Int) : Rat) (by rw [h3]; grind)
  rw [h3] at h4 ⊢
  grind
 obtain ⟨Q, hQ⟩ : ∃ Q : Rat, Q = (A : Rat) * (1 / 2) * (L : Rat)⁻¹ := ⟨_, rfl⟩
 have hR : (A : Rat) / ((2 * L : Int) : Rat) = Q := by rw [Rat.div_def, h2L, hQ]; grind
 have hdiv : (A : Rat) * (1 / 2) / (L : Rat) = Q := by rw [Rat.div_def, hQ]
 have a1 : (-65536000 : Rat) ≤ (A : Rat) := by have : ((-65536000 : Int) : Rat) ≤ (A : Rat) := Rat.intCast_le_intCast.2 hA.1; exact this
 have a2 : (A : Rat) ≤ (65536000 : Rat) := by have : (A : Rat) ≤ ((65536000 : Int) : Rat) := Rat.intCast_le_intCast.2 hA.2; exact this
 have bQ : Flt.Bd Q 32768000 := by
  unfold Flt.Bd
  have m1 := Rat.mul_le_mul_of_nonneg_right (show (-32768000 : Rat) ≤ (A : Rat) * (1 / 2) by grind) (Rat.le_of_lt hi0)
  have m2 := Rat.mul_le_mul_of_nonneg_right (show (A : Rat) * (1 / 2) ≤ 32768000 by grind) (Rat.le_of_lt hi0)
  rw [← hQ] at m1 m2
  constructor <;> grind
 have abQ := Flt.ab_le bQ
 have big : (32768000 : Rat) < 2 ^ (1022 : Int) := by decide +kernel
 obtain ⟨z, r, ez, hz, near⟩ := Flt.div_rnd hx hy (by grind) (by rw [hdiv]; grind)
 rw [hdiv] at near
 have e52 : (2 : Rat) ^ (-52 : Int) = 1 / 4503599627370496 := by decide +kernel
 have n1 := near.lo
 have n2 := near.hi
 have tl := Flt.tiny_le
 rw [e52] at n1 n2
 have t0 : Flt.tiny ≤ 1 / 1099511627776 := by decide +kernel
 rw [hR]
 exact ⟨z, r, ez, hz, by grind, by grind⟩
theorem shift20_p {d : TSpec_Dyadic} {q : Rat} {m k : Nat} (h : Dyd d q m k) (hk : k < 1000000) : ∃ d', p_Dyadic_Shift d (-20) = some d' ∧ Dyd d' (q * (1 / 1048576)) m (k + 20) := by
 obtain ⟨n, e, rfl, rfl, h1, h2, h3⟩ := h
 unfold p_Dyadic_Shift
 rw [need_pos (in64m (by simp only; omega) (by simp only; omega))]
 refine ⟨_, rfl, n, e + -20, rfl, ?_, h1, by omega, by omega⟩
 have e20 : (2 : Rat) ^ (-20 : Int) = 1 / 1048576 := by decide +kernel
 rw [Flt.zpow_add, e20]; grind
theorem near20_p {F : Nat} (hF : BigF F) {v : Nat} {r R d : Rat} {N D : TSpec_Dyadic} (hv : Flt.V v = some r) (hw : v < 18446744073709551616) (hd : 0 < d) (hD : Dyd D d 102 3223) (hN : Dyd N (R * d) 102 3222) (h1 : r - R < 1 / 1048576) (h2 : R - r < 1 / 1048576) : p_nearRatio F v ⟨N, D⟩ (-20) = some true := by
 have hfin : Flt.isFin v = true := by unfold Flt.isFin; rw [hv]; rfl
 obtain ⟨d1, e1, k1⟩ := dyd_of hw hv hF
 obtain ⟨d2, e2, k2⟩ := dyd_mul k1 hD (by omega) (by omega) hF
 obtain ⟨d3, e3, k3⟩ := dyd_sub k2 hN (by omega) (by omega) hF
 obtain ⟨d4, e4, k4⟩ := dyd_abs k3
 obtain ⟨d5, e5, k5⟩ := shift20_p hD (by omega)
 have e6 := dyd_cmp k4 k5 (by omega) (by omega) hF
 unfold p_nearRatio
 rw [cond_t hfin, e1, Option.bind_some, e2, Option.bind_some, e3, Option.bind_some, e4, Option.bind_some, e5, Option.bind_some, e6, Option.bind_some]
 congr 1
 refine decide_eq_true (sgR_neg.2 ?_)
 have a1 := Rat.mul_lt_mul_of_pos_right h1 hd
 have a2 := Rat.mul_lt_mul_of_pos_right h2 hd
 unfold Flt.ab
 split <;> grind
theorem centred_p {F : Nat} (hF : BigF F) {l : List Nat} {s : Nat} {r1 r2 : TSpec_Ratio} (hl : l.length = s) (hs : 2 ≤ s) (hs8 : s ≤ 8) (n1 : p_nearRatio F (l.getD 0 0) r1 (-20) = some true) (n2 : p_nearRatio F (l.getD 1 0) r2 (-20) = some true) (hz : ∀ k, 2 ≤ k → l.getD k 0 = 0) :
  p_centred F l r1 r2 (s : Int) = some true := by
 have hF' : 1073741826 ≤ F := hF
 unfold p_centred
 rw [cond_f (show (!decide (((l.length : Nat) : Int) = (s : Int))) = false by simp [hl]), cond_f (decide_eq_false (by omega)), show idx l (0 : Int) = some (l.getD 0 0) from idxD (k := 0) (by omega), Option.bind_some, n1, Option.bind_some, Bool.not_true, cond_false,
  show idx l (1 : Int) = some (l.getD 1 0) from idxD (k := 1) (by omega), Option.bind_some, n2, Option.bind_some, Bool.not_true]
 unfold p_centred_k1
 rw [cond_false, need_pos ⟨by simp, by omega, by omega⟩]
 have e : iter (p_centred_l3 l) F (0 : Int) = some (if ((l.drop ((2 : Int)).toNat).take (l.length - ((2 : Int)).toNat)).all (fun x => feq x 0) = true then Sum.inl () else Sum.inr false) := by
  refine scan_loop0 ((l.drop ((2 : Int)).toNat).take (l.length - ((2 : Int)).toNat)) _ _ _ (fun K k hk => ?_) (fun K k x hx => ?_) (by simp; omega)
  ·unfold p_centred_l3; rw [cond_f (decide_eq_false (by omega))]
  ·have hk := (List.getElem?_eq_some_iff.1 hx).1
   have hk2 : k < 8 := by simp at hk; omega
   unfold p_centred_l3
   rw [cond_t (decide_eq_true (by omega)), idx_get hx, Option.bind_some, succ_cast]
   cases feq x 0 with
   | false => rw [Bool.not_false, cond_true, if_neg (by simp)]
   | true => rw [Bool.not_true, cond_false, need_pos (in64 (by omega) (by omega)), if_pos rfl]
 have hall : ((l.drop ((2 : Int)).toNat).take (l.length - ((2 : Int)).toNat)).all (fun x => feq x 0) = true := by
  rw [List.all_eq_true]
  intro x hx
  obtain ⟨k, hk⟩ := List.getElem?_of_mem hx
  rw [List.getElem?_take] at hk
  split at hk
  ·rw [List.getElem?_drop] at hk
   have : l.getD (((2 : Int)).toNat + k) 0 = x := by rw [List.getD_eq_getElem?_getD, hk]; rfl
   rw [← this, hz _ (by omega)]; decide +kernel
  ·cases hk
 rw [e, if_pos hall, Option.bind_some, aft_inl]
 rfl
theorem sum_take (G : List (List (List (Int × Int)))) (i : Nat) : (((G.take i).flatten).map List.length).sum ≤ (G.flatten.map List.length).sum := by
 have : G.flatten = (G.take i).flatten ++ (G.drop i).flatten := by rw [← List.flatten_append, List.take_append_drop]
 rw [this, List.map_append, List.sum_append]; omega
theorem tot_all (Ps : List (List (Int × Int))) : tot Ps Ps.length = (Ps.map List.length).sum := by unfold tot; rw [List.take_length]
theorem polys_p {F : Nat} (hF : BigF F) {a0 : Int} {gs : List TImpl_Geom} {Gs : List (List (List (Int × Int)))} (h1 : 1 ≤ a0) (h8 : a0 ≤ 8) (hlen : Gs.length = gs.length) (h20 : gs.length ≤ 20) (hE : ∀ g, g ∈ gs → g.Ends.length ≤ 1048576)
  (hR : ∀ (j : Nat) Rs g, Gs[j]? = some Rs → gs[j]? = some g → PolyR a0 g Rs) (hfl : ∀ R, R ∈ Gs.flatten → Flatt R) (h2000 : (Gs.flatten.map List.length).sum ≤ 2000) :
  ∃ st : List Nat × List Nat × List Nat × Option (List Nat) × Nat × Nat, CS (strideN a0) (Gs.flatten.map List.length).sum st.1 st.2.1 st.2.2.1 st.2.2.2.2.1 st.2.2.2.2.2 (runs Gs.flatten Gs.flatten.length) ∧ Bnd (Gs.flatten.map List.length).sum (runs Gs.flatten Gs.flatten.length) ∧
   iter (p_PolygonsCentroid_l2 a0 gs F (strideN a0 : Int) (strideN a0 : Int) (strideN a0 : Int) (strideN a0 : Int)) F ((0 : Int), List.replicate ((strideN a0 : Int)).toNat (0 : Nat), List.replicate ((strideN a0 : Int)).toNat (0 : Nat), List.replicate ((strideN a0 : Int)).toNat (0 : Nat), none, (0 : Nat), (0 : Nat)) = some (.inl st) := by
 have hF' : 1073741826 ≤ F := hF
 obtain ⟨_, e2, hs, hs8⟩ := stride_p h1 h8
 have hrep : CS (strideN a0) 0 (List.replicate (strideN a0) 0) (List.replicate (strideN a0) 0) (List.replicate (strideN a0) 0) 0 0 (0, 0, 0) := by
  have hJ : Flt.J (-1) 0 0 := Flt.zero_int.J.less
  refine ⟨⟨by simp, ?_, ?_, fun k hk => rep0 _ _, Flt.zero_int⟩, by simp, by simp, ⟨0, 0, ?_, ?_, by simp, by simp⟩, Flt.zero_int⟩
  ·show Flt.J (-1) ((List.replicate (strideN a0) 0).getD 0 0) 0; rw [rep0]; exact hJ
  ·show Flt.J (-1) ((List.replicate (strideN a0) 0).getD 1 0) 0; rw [rep0]; exact hJ
  ·rw [rep0]; exact Flt.zero_int
  ·rw [rep0]; exact Flt.zero_int
 obtain ⟨st, ⟨hst, hbn, _⟩, e⟩ := fold_ex gs (p_PolygonsCentroid_l2 a0 gs F (strideN a0 : Int) (strideN a0 : Int) (strideN a0 : Int) (strideN a0 : Int)) (fun i (st : List Nat × List Nat × List Nat × Option (List Nat) × Nat × Nat) => ((i : Int), st)) (fun st => st)
  (fun i st => CS (strideN a0) (((Gs.take i).flatten).map List.length).sum st.1 st.2.1 st.2.2.1 st.2.2.2.2.1 st.2.2.2.2.2 (rf (Gs.take i).flatten (0, 0, 0) (Gs.take i).flatten.length) ∧ Bnd (((Gs.take i).flatten).map List.length).sum (rf (Gs.take i).flatten (0, 0, 0) (Gs.take i).flatten.length) ∧ (st.2.2.2.1 = none ∨ (neO st.2.2.2.1 = true ∧ st.2.2.2.1.isNone = false ∧ Base st.2.2.2.1)))
  (fun K st hst => by unfold p_PolygonsCentroid_l2; rw [cond_f dge])
  (fun i g st hx hst => by
   obtain ⟨cs, tc, cg, base, area, total⟩ := st
   simp only at hst
   obtain ⟨hcs, hbd, hbase⟩ := hst
   have hi := lt_get hx
   have hgm := List.mem_of_getElem? hx
   obtain ⟨Rs, hRs⟩ : ∃ Rs, Gs[i]? = some Rs := ⟨_, List.getElem?_eq_getElem (by omega)⟩
   have hp := hR i Rs g hRs hx
   have htk : (Gs.take (i + 1)).flatten = (Gs.take i).flatten ++ Rs := by rw [List.take_add_one, hRs]; simp
   have hsum : (((Gs.take (i + 1)).flatten).map List.length).sum = (((Gs.take i).flatten).map List.length).sum + (Rs.map List.length).sum := by rw [htk, List.map_append, List.sum_append]
   have hle := sum_take Gs (i + 1)
   have hflR : ∀ R, R ∈ Rs → Flatt R := fun R hR' => hfl R (List.mem_flatten.2 ⟨Rs, List.mem_of_getElem? hRs, hR'⟩)
   have hrun : rf (Gs.take (i + 1)).flatten (0, 0, 0) (Gs.take (i + 1)).flatten.length = rf Rs (rf (Gs.take i).flatten (0, 0, 0) (Gs.take i).flatten.length) Rs.length := by
    rw [htk, List.length_append, rf_right]
   have hB : ∀ P, P ∈ Rs → ∀ i, i < P.length → B64 (nth P i) := fun P hP k hk => by
    obtain ⟨j, hj⟩ := List.getElem?_of_mem hP
    have e1 : P[k]? = some P[k] := List.getElem?_eq_getElem hk
    rw [nth_get e1]
    exact ((hp.ring j P hj).2.2.2.1.2 k _ e1).2
   have hbd2 := rf_bnd hB hbd Rs.length (Nat.le_refl _)
   rw [tot_all, ← hsum, ← hrun] at hbd2
   obtain ⟨hfl1, hfl2⟩ := hp.flat
   -- the polygon's first place
   obtain ⟨bl, hbl⟩ : ∃ bl, bl = (g.Flat.drop (((0 : Int) * (strideN a0 : Int))).toNat).take (((((0 : Int) + (1 : Int)) * (strideN a0 : Int))).toNat - (((0 : Int) * (strideN a0 : Int))).toNat) := ⟨_, rfl⟩
   have hblget : ∀ k, k < 2 → bl[k]? = some (g.Flat.getD k 0) := fun k hk => by
    have z0 : (((0 : Int) * (strideN a0 : Int))).toNat = 0 := by rw [Int.zero_mul]; rfl
    have z1 : ((((0 : Int) + (1 : Int)) * (strideN a0 : Int))).toNat = strideN a0 := by rw [Int.zero_add, Int.one_mul]; omega
    rw [hbl, z0, z1, List.getElem?_take, if_pos (by omega), List.getElem?_drop, Nat.zero_add, List.getD_eq_getElem?_getD, List.getElem?_eq_getElem (by omega)]; rfl
   have hbaseN : neO (some bl) = true ∧ (some bl : Option (List Nat)).isNone = false ∧ Base (some bl) := by
    refine ⟨?_, rfl, ?_⟩
    ·have := hblget 0 (by omega)
     cases hbb : bl with
     | nil => rw [hbb] at this; cases this
     | cons a b => rfl
    ·obtain ⟨z, ⟨a1, a2⟩, aB⟩ := hp.base
     refine ⟨_, _, z, idx_get (k := 0) (hblget 0 (by omega)), idx_get (k := 1) (hblget 1 (by omega)), ?_, ?_, aB⟩
     ·simp only [plc, Nat.zero_mul] at a1; exact a1
     ·simp only [plc, Nat.zero_mul, Nat.zero_add] at a2; exact a2
   -- the place that counts
   have hnew : ∃ nb, (neO nb = true ∧ nb.isNone = false ∧ Base nb) ∧ neO base = true ∧ ∀ (X : Option (List Nat) → Option (Sum (List Nat × List Nat × List Nat × Option (List Nat) × Nat × Nat) (List Nat × Bool))), (cond base.isNone (X (some bl)) (X base)) = X nb := by
    rcases hbase with rfl | ⟨b1, b2, b3⟩
    ·exact ⟨some bl, hbaseN, rfl, fun X => rfl⟩
    ·exact ⟨base, ⟨b1, b2, b3⟩, b1, fun X => by rw [b2]; rfl⟩
   obtain ⟨nb, hnb, hne, hX⟩ := hnew
   obtain ⟨cs', tc', cg', area', total', hc', hk⟩ := poly_p hF h1 h8 (hE g hgm) hp hflR hnb.2.2 hcs hbd (by omega) (by omega)
   rw [tot_all, ← hsum, ← hrun] at hc'
   refine ⟨(cs', tc', cg', nb, area', total'), ⟨hc', hbd2, .inr hnb⟩, fun K => ?_⟩
   have hk' := hk i base K (by omega)
   rw [← hk']
   unfold p_PolygonsCentroid_l2
   rw [cond_t (dlt hi)]
   simp only
   have hEg := hE g hgm
   have ef : p_floats g.Flat = some g.Flat := by unfold p_floats; rw [need_pos (by omega)]
   have ei : p_ints g.Ends = some g.Ends := by unfold p_ints; rw [need_pos (by omega)]
   have en : p_NewPolygonFlat g.Layout g.Flat g.Ends = some (pgOf g (strideN a0)) := by
    unfold p_NewPolygonFlat; rw [show p_Layout_Stride g.Layout = some (strideN a0 : Int) by rw [hp.lay]; exact e2]; rfl
   have hK := hp.kind
   have m0 : ((0 : Int) * (strideN a0 : Int)) = 0 := Int.zero_mul _
   have m1 : (((0 : Int) + (1 : Int)) * (strideN a0 : Int)) = (strideN a0 : Int) := by rw [Int.zero_add, Int.one_mul]
   rw [idx_get hx, Option.bind_some, ef, Option.bind_some, cond_f (by rw [hK]; rfl), cond_f (by rw [hK]; rfl), cond_f (by rw [hK]; rfl), cond_t (by rw [hK]; rfl), ei, Option.bind_some, en, Option.bind_some]
   rw [show (pgOf g (strideN a0)).geom2.geom1.geom0.stride = (strideN a0 : Int) from rfl, show (pgOf g (strideN a0)).geom2.geom1.geom0.flatCoords = g.Flat from rfl]
   rw [need_pos (in64 (by omega) (by omega)), need_pos (in64 (by omega) (by omega)), need_pos (in64 (by omega) (by omega)), need_pos ⟨⟨by omega, by omega⟩, by omega, by omega⟩, need_pos hne, ← hbl]
   exact hX fun nb => p_PolygonsCentroid_k3 a0 F (strideN a0 : Int) (strideN a0 : Int) (strideN a0 : Int) (strideN a0 : Int) ((i : Int), cs, tc, cg, base, area, total) K (pgOf g (strideN a0)) nb)
  F 0 (List.replicate (strideN a0) 0, List.replicate (strideN a0) 0, List.replicate (strideN a0) 0, none, 0, 0) (by omega) (by omega) ⟨hrep, by simp [Bnd, rf], .inl rfl⟩
 rw [← hlen, List.take_length, ← runs_rf] at hst hbn
 refine ⟨st, hst, hbn, ?_⟩
 rw [show ((strideN a0 : Int)).toNat = strideN a0 by omega]
 exact e
theorem same_p {F : Nat} (hF : BigF F) {p q : TSpec_Point} {z w : Int × Int} (hp : DydAt p z.1 z.2) (hq : DydAt q w.1 w.2) : ∃ b, p_Same F p q = some b ∧ (b = true → z = w) := by
 have c1 := dyd_cmp hp.1 hq.1 (by omega) (by omega) hF
 have c2 := dyd_cmp hp.2 hq.2 (by omega) (by omega) hF
 unfold p_Same
 rw [c1, Option.bind_some, decz]
 by_cases h1 : z.1 = w.1
 ·rw [decide_eq_true h1, cond_true, c2, Option.bind_some, decz]
  exact ⟨_, rfl, fun h => Prod.ext h1 (by simpa using h)⟩
 ·rw [decide_eq_false h1, cond_false]
  exact ⟨_, rfl, fun h => by cases h⟩
theorem rings_ok {F : Nat} (hF : BigF F) {y2 : List (List TSpec_Point) × Bool} {Ps : List (List (Int × Int))} (h : LinesZ y2.1 Ps) (hn : y2.1.length ≤ 20971520) :
  (iter (p_FnPolygonsFlat_l3 F y2) F (0 : Int) = some (.inl ()) ∧ ∀ R, R ∈ Ps → Flatt R) ∨ iter (p_FnPolygonsFlat_l3 F y2) F (0 : Int) = some (.inr true) := by
 have hF' : 1073741826 ≤ F := hF
 have hl := h.1
 have key := fold_or y2.1 (p_FnPolygonsFlat_l3 F y2) (fun j (_ : Unit) => (j : Int)) (fun _ => ()) true (fun j _ => ∀ i R, i < j → Ps[i]? = some R → Flatt R)
  (fun K s hs => by unfold p_FnPolygonsFlat_l3; rw [cond_f dge])
  (fun j pts s hx hs => by
   have hj := lt_get hx
   obtain ⟨P, hP⟩ : ∃ P, Ps[j]? = some P := ⟨_, List.getElem?_eq_getElem (by omega)⟩
   obtain ⟨hL, h100⟩ := h.2 j pts P hx hP
   have hpl := hL.1
   have hin : inI .i64 ((j + 1 : Nat) : Int) := in64 (by omega) (by omega)
   by_cases h4 : ((pts.length : Nat) : Int) < 4
   ·right
    intro K
    unfold p_FnPolygonsFlat_l3
    rw [cond_t (dlt hj), idx_get hx, Option.bind_some, cond_t (decide_eq_true h4)]
    rfl
   ·obtain ⟨p, hp⟩ : ∃ p, pts[0]? = some p := ⟨_, List.getElem?_eq_getElem (by omega)⟩
    obtain ⟨q, hq⟩ : ∃ q, pts[pts.length - 1]? = some q := ⟨_, List.getElem?_eq_getElem (by omega)⟩
    obtain ⟨z, hz⟩ : ∃ z, P[0]? = some z := ⟨_, List.getElem?_eq_getElem (by omega)⟩
    obtain ⟨w, hw⟩ : ∃ w, P[pts.length - 1]? = some w := ⟨_, List.getElem?_eq_getElem (by omega)⟩
    obtain ⟨b, eb, hb⟩ := same_p hF (hL.2 0 p z hp hz).1 (hL.2 _ q w hq hw).1
    have im : (((pts.length : Nat) : Int) - 1) = ((pts.length - 1 : Nat) : Int) := by omega
    have hbody : ∀ K, p_FnPolygonsFlat_l3 F y2 K (j : Int) = p_FnPolygonsFlat_k4 F (j : Int) K pts (!b) := fun K => by
     unfold p_FnPolygonsFlat_l3
     rw [cond_t (dlt hj), idx_get hx, Option.bind_some, cond_f (decide_eq_false h4), show idx pts (0 : Int) = some p from idx_get (k := 0) hp, Option.bind_some, need_pos (in64 (by omega) (by omega)), im, idx_get hq, Option.bind_some, eb, Option.bind_some]
    cases b with
    | false => exact .inr fun K => by rw [hbody]; rfl
    | true =>
     obtain ⟨ra, rb, er, ha, hb'⟩ := along_p hF hL (by omega) h100
     have hk : ∀ K, p_FnPolygonsFlat_l3 F y2 K (j : Int) = p_FnPolygonsFlat_k5 (j : Int) K (ra, rb) := fun K => by
      rw [hbody]
      unfold p_FnPolygonsFlat_k4
      rw [show (!true) = false from rfl, cond_false, er, Option.bind_some, aft_inl]
     have hcl : nth P 0 = nth P (P.length - 1) := by
      rw [nth_get hz, ← hpl, nth_get hw]; exact hb rfl
     have ok : (ra = true ∨ rb = true) → (∃ s', (∀ i R, i < j + 1 → Ps[i]? = some R → Flatt R) ∧ ∀ K, p_FnPolygonsFlat_l3 F y2 K (j : Int) = K ((j + 1 : Nat) : Int)) := fun hor => by
      refine ⟨(), fun i R hi hR => ?_, fun K => ?_⟩
      ·by_cases hij : i < j
       ·exact hs i R hij hR
       ·have : i = j := by omega
        subst this
        rw [hP] at hR; cases hR
        refine ⟨by omega, hcl, ?_⟩
        rcases hor with hh | hh
        ·exact .inl (ha hh)
        ·exact .inr (hb' hh)
      ·rw [hk]
       unfold p_FnPolygonsFlat_k5
       rw [succ_cast, need_pos hin]
       rcases hor with hh | hh
       ·subst hh; rfl
       ·subst hh; cases ra <;> rfl
     cases ra with
     | true => exact .inl (let ⟨s', a, b⟩ := ok (.inl rfl); ⟨(), a, b⟩)
     | false =>
      cases rb with
      | true => exact .inl (let ⟨s', a, b⟩ := ok (.inr rfl); ⟨(), a, b⟩)
      | false => exact .inr fun K => by rw [hk]; rfl)
  F 0 () (by omega) (by omega) (fun i R hi => by omega)
 rcases key with ⟨_, hs, e⟩ | e
 ·left
  refine ⟨e, fun R hR => ?_⟩
  obtain ⟨i, hi⟩ := List.getElem?_of_mem hR
  exact hs i R (by have := (List.getElem?_eq_some_iff.1 hi).1; omega) hi
 ·right; exact e
theorem law_polys {F : Nat} (hF : 1073741826 ≤ F) (a0 : Int) (gs : List TImpl_Geom) (hw : ∀ g, g ∈ gs → WfG g) (hE : ∀ g, g ∈ gs → g.Ends.length ≤ 1048576) : p_FnPolygonsFlat F a0 gs = some true := by
 have hk1 : ∀ y2 y4, p_FnPolygonsFlat_k1 a0 gs F y2 y4 true = some true := fun y2 y4 => rfl
 unfold p_FnPolygonsFlat
 by_cases hz : (2147483647 : Int) < ((gs.length : Nat) : Int)
 ·rw [cond_t (decide_eq_true hz)]
 rw [cond_f (decide_eq_false hz)]
 rcases kindred3_p (F := F) hF (a0 := a0) hw hE with e | ⟨s, e, ⟨h1, h8⟩, h20, q1, q2, q3, q4, q5, q6⟩
 ·rw [e, Option.bind_some]
  have : ∃ y, p_LineCentroid F [] = some y := by
   rcases centroid3_p hF (lines := []) (Ps := []) ⟨rfl, fun j p P h => by simp at h⟩ (by simp) (by simp) with ⟨_, _, _, h, _⟩ | ⟨_, _, h⟩ <;> exact ⟨_, h⟩
  obtain ⟨y, hy⟩ := this
  show (p_LineCentroid F []).bind _ = _
  rw [hy, Option.bind_some]
  rfl
 ·rw [e, Option.bind_some]
  have hk2 : ∀ (y2 : List (List TSpec_Point) × Bool) (y : TSpec_Ratio × TSpec_Ratio × Bool), p_FnPolygonsFlat_k1 a0 gs F y2 y (!y.2.2) = some true → (cond (!y2.2) (p_FnPolygonsFlat_k1 a0 gs F y2 y true) (p_FnPolygonsFlat_k1 a0 gs F y2 y (!y.2.2))) = some true := fun y2 y h => by
   cases (!y2.2) with
   | true => rfl
   | false => exact h
  rcases centroid3_p hF q2 (by omega) (by omega) with ⟨N1, N2, D, ec, hne, k1, k2, kD, hax⟩ | ⟨a, b, ec⟩
  ·show (p_LineCentroid F s.2.1).bind _ = _
   rw [ec, Option.bind_some]
   refine hk2 _ _ ?_
   show p_FnPolygonsFlat_k1 a0 gs F (s.2.1, decide (s.1 ≤ 100)) (⟨N1, D⟩, ⟨N2, D⟩, true) false = some true
   unfold p_FnPolygonsFlat_k1
   rw [cond_false]
   rcases rings_ok hF (y2 := (s.2.1, decide (s.1 ≤ 100))) q2 (by simp only; omega) with ⟨er, hfl⟩ | er
   ·rw [er, Option.bind_some, aft_inl]
    obtain ⟨e1, e2, hs, hs8⟩ := stride_p h1 h8
    obtain ⟨st, ⟨⟨f1, f2, f3, f4, f5⟩, _, _, _, f9⟩, ⟨⟨b1, b2⟩, ⟨b3, b4⟩, b5, b6⟩, el⟩ := polys_p hF h1 h8 q1 h20 hE q6 hfl (by omega)
    have f1' : st.1.length = strideN a0 := f1
    have hpos : 0 < (runs s.2.2.flatten s.2.2.flatten.length).1 := by omega
    obtain ⟨z17, r17, ez17, v17, n17, n17'⟩ := quo_p f2 f5 hpos (by omega)
    obtain ⟨z24, r24, ez24, v24, n24, n24'⟩ := quo_p f3 f5 hpos (by omega)
    obtain ⟨out, hout⟩ : ∃ o, o = ((List.replicate (strideN a0) (0 : Nat)).set 0 z17).set 1 z24 := ⟨_, rfl⟩
    have hz0 : Flt.V 0 = some (((0 : Int)) : Rat) := Flt.zero_int
    have hgt : fgt (Flt.fabs st.2.2.2.2.1) 0 = false := by
     rw [Flt.fgt_val (Flt.fabs_V f9) hz0]
     exact decide_eq_false (by decide)
    have epc : p_PolygonsCentroid F a0 gs = some (out, true) := by
     unfold p_PolygonsCentroid
     rw [e2, Option.bind_some, Option.bind_some, need_pos (by omega), Option.bind_some, need_pos (by omega), Option.bind_some, need_pos (by omega), el, Option.bind_some, aft_inl]
     unfold p_PolygonsCentroid_k1
     rw [need_pos (by omega), cond_f hgt, need_pos (by omega), show idx st.1 (0 : Int) = some (st.1.getD 0 0) from idxD (k := 0) (by omega), Option.bind_some, ez17, Option.bind_some, need_pos (by omega), need_pos (by simp; omega), need_pos (by omega),
      show idx st.1 (1 : Int) = some (st.1.getD 1 0) from idxD (k := 1) (by omega), Option.bind_some, ez24, Option.bind_some, need_pos (by omega), need_pos (by simp; omega), need_pos (by simp)]
     rw [show ((strideN a0 : Int)).toNat = strideN a0 by omega, show ((0 : Int)).toNat = 0 from rfl, show ((1 : Int)).toNat = 1 from rfl, ← hout]
     unfold p_floats
     rw [need_pos (by rw [hout]; simp; omega)]
     rfl
    have hol : out.length = strideN a0 := by rw [hout]; simp
    have o0 : out.getD 0 0 = z17 := by rw [hout, getD_set', if_neg (by omega), getD_set', if_pos ⟨rfl, by simp; omega⟩]
    have o1 : out.getD 1 0 = z24 := by rw [hout, getD_set', if_pos ⟨rfl, by simp; omega⟩]
    have o2 : ∀ k, 2 ≤ k → out.getD k 0 = 0 := fun k hk => by
     rw [hout, getD_set', if_neg (by omega), getD_set', if_neg (by omega), rep0]
    unfold p_FnPolygonsFlat_k2
    rw [epc, Option.bind_some]
    have d0 : (0 : Rat) < ((2 * (runs s.2.2.flatten s.2.2.flatten.length).1 : Int) : Rat) := by
     have : ((0 : Int) : Rat) < ((2 * (runs s.2.2.flatten s.2.2.flatten.length).1 : Int) : Rat) := Rat.intCast_lt_intCast.2 (by omega)
     simpa using this
    have hq : ∀ A : Int, (A : Rat) / ((2 * (runs s.2.2.flatten s.2.2.flatten.length).1 : Int) : Rat) * ((2 * (runs s.2.2.flatten s.2.2.flatten.length).1 : Int) : Rat) = (A : Rat) := fun A => by
     have := Rat.mul_inv_cancel ((2 * (runs s.2.2.flatten s.2.2.flatten.length).1 : Int) : Rat) (by grind)
     rw [Rat.div_def]; grind
    have g1 := near20_p hF v17 (quo_lt64 ez17) d0 kD (R := ((runs s.2.2.flatten s.2.2.flatten.length).2.1 : Rat) / ((2 * (runs s.2.2.flatten s.2.2.flatten.length).1 : Int) : Rat)) (by rw [hq]; exact k1) n17 n17'
    have g2 := near20_p hF v24 (quo_lt64 ez24) d0 kD (R := ((runs s.2.2.flatten s.2.2.flatten.length).2.2 : Rat) / ((2 * (runs s.2.2.flatten s.2.2.flatten.length).1 : Int) : Rat)) (by rw [hq]; exact k2) n24 n24'
    have hc := centred_p hF (r1 := ⟨N1, D⟩) (r2 := ⟨N2, D⟩) hol hs hs8 (by rw [o0]; exact g1) (by rw [o1]; exact g2) o2
    show (cond true _ _) = _
    rw [cond_true, e1, Option.bind_some]
    show (p_centred F out ⟨N1, D⟩ ⟨N2, D⟩ _).bind _ = _
    rw [hc]
    rfl
   ·rw [er, Option.bind_some, aft_inr]
  ·show (p_LineCentroid F s.2.1).bind _ = _
   rw [ec, Option.bind_some]
   exact hk2 _ _ rfl
end Go.Proofs.YtdchenbdnalbcaaGreatDoor.Wk

namespace Go.Proofs.YtdchenbdnalbcaaGreatDoor.Wk
open Go.Vm
theorem ends_bulk {gs : List TImpl_Geom} {g : TImpl_Geom} (h : g ∈ gs) : g.Ends.length ≤ bulkD (.ds 7 (gs.flatMap c0_TImpl_Geom)) := by
 have h1 : eS2 g.Ends ∈ gs.flatMap c0_TImpl_Geom := List.mem_flatMap.2 ⟨g, h, by rw [c0_TImpl_Geom_eq]; simp⟩
 have h2 := bulk_mem h1
 have h3 : g.Ends.length ≤ bulkDs (g.Ends.map keS2) := by have := bulk_len (g.Ends.map keS2); simpa using this
 have h4 : bulkD (eS2 g.Ends) = bulkDs (g.Ends.map keS2) + 1 := rfl
 have h5 : bulkD (.ds 7 (gs.flatMap c0_TImpl_Geom)) = bulkDs (gs.flatMap c0_TImpl_Geom) + 1 := rfl
 omega
end Go.Proofs.YtdchenbdnalbcaaGreatDoor.Wk
