/- Proved: loops over the axes of a box. -/
import Derived.Test.YtcckkfdlhakkmaaGrid
namespace Go.Proofs.Ytcckkfdlhakkmaa.Wk
open Go.Vm
set_option linter.unusedVariables false
set_option linter.unusedSimpArgs false
def kr (n : Nat) (f : Nat → Nat) : List Nat := (List.range n).map f
theorem kr_len (n : Nat) (f : Nat → Nat) : (kr n f).length = n := by simp [kr]
theorem kr_get {n : Nat} {f : Nat → Nat} {i : Nat} (h : i < n) : (kr n f)[i]? = some (f i) := by simp [kr, h]
theorem kr_idx {n : Nat} {f : Nat → Nat} {i : Nat} (h : i < n) : idx (kr n f) (i : Int) = some (f i) := idx_get (kr_get h)
theorem kr_congr {n : Nat} {f g : Nat → Nat} (h : ∀ j, j < n → f j = g j) : kr n f = kr n g := by
  unfold kr
  exact List.map_congr_left fun j hj => h j (List.mem_range.1 hj)
theorem kr_set {n : Nat} (f : Nat → Nat) (i v : Nat) : (kr n f).set i v = kr n fun j => if j = i then v else f j := by
  apply List.ext_getElem?
  intro j
  rw [List.getElem?_set]
  by_cases hj : j < n
  · rw [kr_get hj, kr_len]
    by_cases h : i = j
    · subst h; rw [if_pos rfl, if_pos hj, kr_get hj, if_pos rfl]
    · rw [if_neg h, kr_get hj, if_neg (fun e => h e.symm)]
  · rw [List.getElem?_eq_none (by rw [kr_len]; omega), List.getElem?_eq_none (by rw [kr_len]; omega), kr_len]
    split
    · rw [if_neg (by omega)]
    · rfl
theorem kr_self (l : List Nat) : l = kr l.length fun j => l.getD j 0 := by
  apply List.ext_getElem?
  intro j
  by_cases hj : j < l.length
  · rw [kr_get hj, List.getD_eq_getElem?_getD, List.getElem?_eq_getElem hj]; rfl
  · rw [List.getElem?_eq_none (by omega), List.getElem?_eq_none (by rw [kr_len]; omega)]
def stp (f : Nat → Nat → Nat) (a b : Nat → Nat) (i j : Nat) : Nat := if j < i then f (a j) (b j) else a j
theorem stp_at (f : Nat → Nat → Nat) (a b : Nat → Nat) (i : Nat) : stp f a b i i = a i := by unfold stp; rw [if_neg (by omega)]
theorem stp_0 (f : Nat → Nat → Nat) (a b : Nat → Nat) : stp f a b 0 = a := by funext j; unfold stp; rw [if_neg (by omega)]
theorem stp_set {n : Nat} (f : Nat → Nat → Nat) (a b : Nat → Nat) (i : Nat) : (kr n (stp f a b i)).set i (f (a i) (b i)) = kr n (stp f a b (i + 1)) := by
  rw [kr_set]
  refine kr_congr fun j hj => ?_
  unfold stp
  by_cases h : j = i
  · subst h; rw [if_pos rfl, if_pos (by omega)]
  · rw [if_neg h]
    by_cases h2 : j < i
    · rw [if_pos h2, if_pos (by omega)]
    · rw [if_neg h2, if_neg (by omega)]
theorem stp_m {n : Nat} (f : Nat → Nat → Nat) (a b : Nat → Nat) : kr n (stp f a b n) = kr n fun j => f (a j) (b j) := kr_congr fun j hj => by unfold stp; rw [if_pos hj]
theorem ke_loop {m : Nat} (hm : m ≤ 6) (a b c : Nat → Nat) : ∀ n i, m - i < n → i ≤ m → iter (p_KExtend_l2 (kr m b)) n ((i : Int), kr m (stp Flt.amin a b i), kr m (stp Flt.amax c b i)) = some (.inl (kr m (stp Flt.amin a b m), kr m (stp Flt.amax c b m))) := by
  intro n
  induction n with
  | zero => intro i h; omega
  | succ n ih =>
    intro i h hi
    show p_KExtend_l2 _ (iter (p_KExtend_l2 (kr m b)) n) _ = _
    obtain ⟨K, hK⟩ : ∃ K, K = iter (p_KExtend_l2 (kr m b)) n := ⟨_, rfl⟩
    rw [← hK] at ih ⊢
    unfold p_KExtend_l2
    simp only [kr_len]
    by_cases hil : i < m
    · rw [cond_t (decide_eq_true (by omega)), kr_idx hil, Option.bind_some, need_pos (by omega), kr_idx hil, Option.bind_some, need_pos (by omega), need_pos (by omega), need_pos (by omega), kr_idx hil, Option.bind_some, need_pos (by omega), need_pos (by omega), need_pos (in64 (by omega) (by omega)), succ_cast, stp_at, stp_at, Int.toNat_natCast, stp_set, stp_set]
      exact ih (i + 1) (by omega) (by omega)
    · rw [cond_f (decide_eq_false (by omega)), show i = m by omega]
theorem lb_loop {m : Nat} (hm : m ≤ 6) (a b c : Nat → Nat) (va : ∀ j, j < m → ∃ q, Flt.V (a j) = some q) (vb : ∀ j, j < m → ∃ q, Flt.V (b j) = some q) (vc : ∀ j, j < m → ∃ q, Flt.V (c j) = some q) : ∀ n i, m - i < n → i ≤ m →
    iter (p_LeastBox_l5 (kr m b)) n ((i : Int), kr m (stp bmin a b i), kr m (stp bmax c b i)) = some (.inl (kr m (stp bmin a b m), kr m (stp bmax c b m))) := by
  intro n
  induction n with
  | zero => intro i h; omega
  | succ n ih =>
    intro i h hi
    show p_LeastBox_l5 _ (iter (p_LeastBox_l5 (kr m b)) n) _ = _
    obtain ⟨K, hK⟩ : ∃ K, K = iter (p_LeastBox_l5 (kr m b)) n := ⟨_, rfl⟩
    rw [← hK] at ih ⊢
    unfold p_LeastBox_l5
    simp only [kr_len]
    by_cases hil : i < m
    · obtain ⟨qa, ha⟩ := va i hil
      obtain ⟨qb, hb⟩ := vb i hil
      obtain ⟨qc, hc⟩ := vc i hil
      rw [cond_t (decide_eq_true (by omega)), kr_idx hil, Option.bind_some, need_pos (by omega), kr_idx hil, Option.bind_some, stp_at, need_pos (Flt.ord_some ha hb), need_pos (by omega), kr_idx hil, Option.bind_some, stp_at, need_pos (Flt.ord_some hc hb), need_pos (by omega), need_pos (by omega), need_pos (by omega), need_pos (by omega), need_pos (in64 (by omega) (by omega)), succ_cast, Int.toNat_natCast, stp_set, stp_set]
      exact ih (i + 1) (by omega) (by omega)
    · rw [cond_f (decide_eq_false (by omega)), show i = m by omega]
theorem sp_p {m : Nat} (hm : m ≤ 6) {F : Nat} (hF : 10 ≤ F) (u v : Nat → Nat) (h : ∀ j, j < m → feq (u j) (v j) = true) : p_SamePoint F (kr m u) (kr m v) = some true := by
  unfold p_SamePoint
  rw [cond_f (nF (show (((kr m u).length : Nat) : Int) = (((kr m v).length : Nat) : Int) by rw [kr_len, kr_len]))]
  have key : ∀ (n i : Nat), m - i < n → i ≤ m → iter (p_SamePoint_l2 (kr m u) (kr m v)) n (i : Int) = some (.inl ()) := by
    intro n
    induction n with
    | zero => intro i h; omega
    | succ n ih =>
      intro i hn hi
      show p_SamePoint_l2 _ _ (iter (p_SamePoint_l2 (kr m u) (kr m v)) n) _ = _
      obtain ⟨K, hK⟩ : ∃ K, K = iter (p_SamePoint_l2 (kr m u) (kr m v)) n := ⟨_, rfl⟩
      rw [← hK] at ih ⊢
      unfold p_SamePoint_l2
      simp only [kr_len]
      by_cases hil : i < m
      · rw [cond_t (decide_eq_true (by omega)), kr_idx hil, Option.bind_some, kr_idx hil, Option.bind_some, h i hil, cond_f (rfl : (!true) = false), need_pos (in64 (by omega) (by omega)), succ_cast]
        exact ih (i + 1) (by omega) (by omega)
      · rw [cond_f (decide_eq_false (by omega))]
  have hk := key F 0 (by omega) (by omega)
  rw [show (0 : Int) = ((0 : Nat) : Int) from rfl, hk]
  rfl
end Go.Proofs.Ytcckkfdlhakkmaa.Wk
