/- Proved: the law of flat lines in lists of lines, turned about. -/
import Derived.Test.YtdpkjmoeapibnaaRev
namespace Go.Proofs.Ytdpkjmoeapibnaa.Wk
open Go.Vm
set_option linter.unusedVariables false
set_option linter.unusedSimpArgs false
/-- ends, of numbers of places -/
def endsR (t : Nat) : Nat → List Nat → List Int
  | _, [] => []
  | a, n :: r => ((a + n * t : Nat) : Int) :: endsR t (a + n * t) r
def lastR (t : Nat) : Nat → List Nat → Nat
  | a, [] => a
  | a, n :: r => lastR t (a + n * t) r
theorem lastR_le {t : Nat} : ∀ (ns : List Nat) (a : Nat), a ≤ lastR t a ns
  | [], a => Nat.le_refl _
  | n :: r, a => Nat.le_trans (Nat.le_add_right _ _) (lastR_le r (a + n * t))
theorem endsR_len {t : Nat} : ∀ (ns : List Nat) (a : Nat), (endsR t a ns).length = ns.length
  | [], a => rfl
  | n :: r, a => by simp [endsR, endsR_len r]
theorem EndsG.natR {t : Nat} (ht : 2 ≤ t) {q : Int} : ∀ (e : List Int) (a : Nat), EndsG (t : Int) q (a : Int) e → ∃ ns, e = endsR t a ns ∧ q = (lastR t a ns : Int)
  | [], a, h => ⟨[], rfl, h.symm⟩
  | x :: r, a, h => by
    obtain ⟨h1, h2, h3⟩ := h
    obtain ⟨k, hk⟩ : ∃ k : Nat, x - a = k := ⟨(x - a).toNat, by omega⟩
    rw [hk] at h2
    have h4 : k % t = 0 := by
      have : ((k % t : Nat) : Int) = 0 := by rw [← h2]; rfl
      omega
    obtain ⟨n, rfl⟩ : ∃ n, k = n * t := ⟨k / t, by rw [Nat.div_mul_cancel (Nat.dvd_of_mod_eq_zero h4)]⟩
    have hx : x = ((a + n * t : Nat) : Int) := by omega
    subst hx
    obtain ⟨ns, e1, e2⟩ := EndsG.natR ht r _ h3
    exact ⟨n :: ns, by rw [e1]; rfl, e2⟩
/-- lists of ends -/
def endsRR (t : Nat) : Nat → List (List Nat) → List (List Int)
  | _, [] => []
  | a, ns :: r => endsR t a ns :: endsRR t (lastR t a ns) r
theorem endsR_split {t : Nat} : ∀ (x y : List Int) (ns : List Nat) (a : Nat), x ++ y = endsR t a ns → ∃ m r, x = endsR t a m ∧ y = endsR t (lastR t a m) r ∧ ns = m ++ r
  | [], y, ns, a, h => ⟨[], ns, rfl, h, rfl⟩
  | z :: x, y, [], a, h => by cases h
  | z :: x, y, n :: ns, a, h => by
    simp only [List.cons_append, endsR, List.cons.injEq] at h
    obtain ⟨m, r, h1, h2, h3⟩ := endsR_split x y ns _ h.2
    exact ⟨n :: m, r, by rw [h.1, h1]; rfl, h2, by rw [h3]; rfl⟩
theorem endsRR_of {t : Nat} : ∀ (e : List (List Int)) (ns : List Nat) (a : Nat), e.flatten = endsR t a ns → ∃ nss, e = endsRR t a nss ∧ ns = nss.flatten
  | [], ns, a, h => by
    cases ns with
    | nil => exact ⟨[], rfl, rfl⟩
    | cons n r => simp [endsR] at h
  | x :: e, ns, a, h => by
    rw [List.flatten_cons] at h
    obtain ⟨m, r, h1, h2, h3⟩ := endsR_split x e.flatten ns a h
    obtain ⟨nss, h4, h5⟩ := endsRR_of e r _ h2
    exact ⟨m :: nss, by rw [h1, h4]; rfl, by rw [h3, h5]; rfl⟩
theorem lastR_app {t : Nat} : ∀ (x y : List Nat) (a : Nat), lastR t a (x ++ y) = lastR t (lastR t a x) y
  | [], y, a => rfl
  | n :: x, y, a => lastR_app x y _
/-! ### rows -/
def row (n : Nat) (f : Nat → Nat) : List Nat := (List.range n).map f
theorem row_len (n : Nat) (f : Nat → Nat) : (row n f).length = n := by simp [row]
theorem row_get {n : Nat} {f : Nat → Nat} {i : Nat} (h : i < n) : (row n f)[i]? = some (f i) := by simp [row, h]
theorem row_idx {n : Nat} {f : Nat → Nat} {i : Nat} (h : i < n) : idx (row n f) (i : Int) = some (f i) := idx_get (row_get h)
theorem row_set {n : Nat} (f : Nat → Nat) (i v : Nat) : (row n f).set i v = row n fun j => if j = i then v else f j := by
  apply List.ext_getElem?
  intro j
  rw [List.getElem?_set]
  by_cases hj : j < n
  · rw [row_get hj, row_len]
    by_cases h : i = j
    · subst h; rw [if_pos rfl, if_pos hj, row_get hj, if_pos rfl]
    · rw [if_neg h, row_get hj, if_neg (fun e => h e.symm)]
  · rw [List.getElem?_eq_none (by rw [row_len]; omega), List.getElem?_eq_none (by rw [row_len]; omega), row_len]
    split
    · rw [if_neg (by omega)]
    · rfl
theorem row_congr {n : Nat} {f g : Nat → Nat} (h : ∀ j, j < n → f j = g j) : row n f = row n g := by
  unfold row
  exact List.map_congr_left fun j hj => h j (List.mem_range.1 hj)
theorem row_self (l : List Nat) : l = row l.length fun j => l.getD j 0 := by
  apply List.ext_getElem?
  intro j
  by_cases hj : j < l.length
  · rw [row_get hj, List.getD_eq_getElem?_getD, List.getElem?_eq_getElem hj]; rfl
  · rw [List.getElem?_eq_none (by omega), List.getElem?_eq_none (by rw [row_len]; omega)]
/-- the place that faces j, of m places of t numbers from a on -/
def face (a m t j : Nat) : Nat := a + (m - 1 - (j - a) / t) * t + (j - a) % t
/-- p places at either end are turned about, and k numbers of the next one -/
def swk (f : Nat → Nat) (a m t p k : Nat) (j : Nat) : Nat :=
  if a ≤ j ∧ j < a + m * t ∧ ((j - a) / t < p ∨ m - p ≤ (j - a) / t ∨ (((j - a) / t = p ∨ (j - a) / t = m - 1 - p) ∧ (j - a) % t < k)) then f (face a m t j) else f j
def rvp (f : Nat → Nat) (a m t : Nat) (j : Nat) : Nat := if a ≤ j ∧ j < a + m * t then f (face a m t j) else f j
theorem qr {a t q r : Nat} (ht : 0 < t) (hr : r < t) : (a + q * t + r - a) / t = q ∧ (a + q * t + r - a) % t = r := by
  have e : a + q * t + r - a = r + t * q := by rw [Nat.mul_comm t q]; omega
  rw [e]
  exact ⟨by rw [Nat.add_mul_div_left _ _ ht, Nat.div_eq_of_lt hr, Nat.zero_add], by rw [Nat.add_mul_mod_self_left, Nat.mod_eq_of_lt hr]⟩
theorem rq {a t j : Nat} (ht : 0 < t) (h : a ≤ j) : j = a + (j - a) / t * t + (j - a) % t := by
  have := Nat.div_add_mod (j - a) t
  rw [Nat.mul_comm] at this
  omega
theorem qlt {a t m j : Nat} (ht : 0 < t) (h : a ≤ j) (h2 : j < a + m * t) : (j - a) / t < m := (Nat.div_lt_iff_lt_mul ht).2 (by omega)
theorem sw_step {f : Nat → Nat} {a m t p k : Nat} (ht : 0 < t) (hk : k < t) (hp : 2 * p + 1 ≤ m) (j : Nat) :
    (if j = a + (m - 1 - p) * t + k then swk f a m t p k (a + p * t + k) else if j = a + p * t + k then swk f a m t p k (a + (m - 1 - p) * t + k) else swk f a m t p k j) = swk f a m t p (k + 1) j := by
  have hm1 : (p + 1) * t ≤ m * t := Nat.mul_le_mul_right t (by omega)
  have hs1 : (p + 1) * t = p * t + t := Nat.succ_mul p t
  have hm2 : (m - 1 - p + 1) * t ≤ m * t := Nat.mul_le_mul_right t (by omega)
  have hs2 : (m - 1 - p + 1) * t = (m - 1 - p) * t + t := Nat.succ_mul _ t
  obtain ⟨q1, r1⟩ := qr (a := a) (q := p) ht hk
  obtain ⟨q2, r2⟩ := qr (a := a) (q := m - 1 - p) ht hk
  have v1 : swk f a m t p k (a + p * t + k) = f (a + p * t + k) := by
    unfold swk
    rw [q1, r1, if_neg (by omega)]
  have v2 : swk f a m t p k (a + (m - 1 - p) * t + k) = f (a + (m - 1 - p) * t + k) := by
    unfold swk
    rw [q2, r2, if_neg (by omega)]
  rw [v1, v2]
  by_cases h2 : j = a + (m - 1 - p) * t + k
  · rw [if_pos h2]
    unfold swk
    rw [h2, q2, r2, if_pos ⟨by omega, by omega, by omega⟩]
    unfold face
    have e9 : m - 1 - (m - 1 - p) = p := by omega
    rw [q2, r2, e9]
  · rw [if_neg h2]
    by_cases h1 : j = a + p * t + k
    · rw [if_pos h1]
      unfold swk
      rw [h1, q1, r1, if_pos ⟨by omega, by omega, by omega⟩]
      unfold face
      rw [q1, r1]
    · rw [if_neg h1]
      unfold swk
      by_cases hin : a ≤ j ∧ j < a + m * t
      · have hj := rq (a := a) ht hin.1
        generalize hQ : (j - a) / t = Q at *
        generalize hR : (j - a) % t = R at *
        have hne1 : ¬ (Q = p ∧ R = k) := fun ⟨e1, e2⟩ => h1 (by rw [hj, e1, e2])
        have hne2 : ¬ (Q = m - 1 - p ∧ R = k) := fun ⟨e1, e2⟩ => h2 (by rw [hj, e1, e2])
        congr 1
        apply propext
        constructor
        · rintro ⟨a1, a2, a3⟩; exact ⟨a1, a2, by omega⟩
        · rintro ⟨a1, a2, a3⟩; exact ⟨a1, a2, by omega⟩
      · rw [if_neg (fun h => hin ⟨h.1, h.2.1⟩), if_neg (fun h => hin ⟨h.1, h.2.1⟩)]
theorem sw_next {f : Nat → Nat} {a m t p : Nat} (ht : 0 < t) (hp : 2 * p + 1 ≤ m) (j : Nat) : swk f a m t p t j = swk f a m t (p + 1) 0 j := by
  unfold swk
  have hR := Nat.mod_lt (j - a) ht
  by_cases hin : a ≤ j ∧ j < a + m * t
  · have hQ := qlt ht hin.1 hin.2
    congr 1
    apply propext
    constructor
    · rintro ⟨a1, a2, a3⟩; exact ⟨a1, a2, by omega⟩
    · rintro ⟨a1, a2, a3⟩; exact ⟨a1, a2, by omega⟩
  · rw [if_neg (fun h => hin ⟨h.1, h.2.1⟩), if_neg (fun h => hin ⟨h.1, h.2.1⟩)]
theorem sw_zero {f : Nat → Nat} {a m t : Nat} (ht : 0 < t) (j : Nat) : swk f a m t 0 0 j = f j := by
  unfold swk
  by_cases hin : a ≤ j ∧ j < a + m * t
  · have hQ := qlt ht hin.1 hin.2
    generalize (j - a) / t = Q at *
    generalize (j - a) % t = R at *
    rw [if_neg (by omega)]
  · rw [if_neg (fun h => hin ⟨h.1, h.2.1⟩)]
theorem sw_end {f : Nat → Nat} {a m t p : Nat} (ht : 0 < t) (hp : m < 2 * p + 1) (hpm : p ≤ m) (j : Nat) : swk f a m t p 0 j = rvp f a m t j := by
  unfold swk rvp
  by_cases hin : a ≤ j ∧ j < a + m * t
  · have hQ := qlt ht hin.1 hin.2
    rw [if_pos ⟨hin.1, hin.2, by omega⟩, if_pos hin]
  · rw [if_neg (fun h => hin ⟨h.1, h.2.1⟩), if_neg hin]
section
variable {n t : Nat}
theorem inner_loop (h2 : 2 ≤ t) (h9 : t ≤ 9) (hn : n ≤ 2000) {f : Nat → Nat} {a m p : Nat} (ha : a + m * t ≤ n) (hp : 2 * p + 1 ≤ m) {w : List Nat} : ∀ (F k : Nat), t - k < F → k ≤ t →
    iter (p_ReverseFlat3_l8 (t : Int) (((a + (p + 1) * t : Nat) : Int), ((a + (m - p) * t : Nat) : Int), w)) F ((k : Int), row n (swk f a m t p k)) = some (.inl (row n (swk f a m t p t))) := by
  intro F
  induction F with
  | zero => intro k h; omega
  | succ F ih =>
    intro k h hk
    have hm1 : (p + 1) * t ≤ m * t := Nat.mul_le_mul_right t (by omega)
    have hs1 : (p + 1) * t = p * t + t := Nat.succ_mul p t
    have hm2 : (m - p) * t ≤ m * t := Nat.mul_le_mul_right t (by omega)
    have hs2 : (m - 1 - p + 1) * t = (m - 1 - p) * t + t := Nat.succ_mul _ t
    have hs3 : m - 1 - p + 1 = m - p := by omega
    rw [hs3] at hs2
    show p_ReverseFlat3_l8 _ _ (iter (p_ReverseFlat3_l8 _ _) F) _ = _
    generalize hK : iter (p_ReverseFlat3_l8 (t : Int) (((a + (p + 1) * t : Nat) : Int), ((a + (m - p) * t : Nat) : Int), w)) F = K at *
    unfold p_ReverseFlat3_l8
    dsimp only
    by_cases hkt : k < t
    · have c1 : ((a + (p + 1) * t : Nat) : Int) - (t : Int) + (k : Int) = ((a + p * t + k : Nat) : Int) := by omega
      have c2 : ((a + (m - p) * t : Nat) : Int) - (t : Int) + (k : Int) = ((a + (m - 1 - p) * t + k : Nat) : Int) := by omega
      have b1 : a + p * t + k < n := by omega
      have b2 : a + (m - 1 - p) * t + k < n := by omega
      have e1 : ∀ z : Nat, (z : Int).toNat = z := fun z => by omega
      rw [cond_t (decide_eq_true (by omega)), need_pos (in64m (by omega) (by omega)), c1, need_pos (in64m (by omega) (by omega)), need_pos (in64m (by omega) (by omega)), c2, need_pos (in64m (by omega) (by omega)), need_pos (in64m (by omega) (by omega)), need_pos (in64m (by omega) (by omega)),
        row_len, need_pos ⟨by omega, by omega⟩, row_idx b2, Option.bind_some, need_pos (in64m (by omega) (by omega)), need_pos (in64m (by omega) (by omega)), need_pos ⟨by omega, by omega⟩, row_idx b1, Option.bind_some, need_pos ⟨by omega, by omega⟩, e1, e1, need_pos b1, row_set, row_len, need_pos ⟨by omega, by omega⟩, need_pos b2, row_set, succ_cast, need_pos (in64m (by omega) (by omega))]
      rw [row_congr (g := swk f a m t p (k + 1)) fun j _ => sw_step (by omega) hkt hp j]
      exact ih (k + 1) (by omega) (by omega)
    · have : k = t := by omega
      subst this
      rw [cond_f (decide_eq_false (by omega))]
theorem part_loop (h2 : 2 ≤ t) (h9 : t ≤ 9) (hn : n ≤ 2000) {f : Nat → Nat} {a m : Nat} (ha : a + m * t ≤ n) {G : Nat} (hG : 20 < G) : ∀ (F p : Nat), m - p < F → p ≤ m →
    iter (p_ReverseFlat3_l6 (t : Int) G) F (((a + (p + 1) * t : Nat) : Int), ((a + (m - p) * t : Nat) : Int), row n (swk f a m t p 0)) = some (.inl (row n (rvp f a m t))) := by
  intro F
  induction F with
  | zero => intro p h; omega
  | succ F ih =>
    intro p h hp
    have hm1 : (p + 1) * t ≤ (m + 1) * t := Nat.mul_le_mul_right t (by omega)
    have hs0 : (m + 1) * t = m * t + t := Nat.succ_mul m t
    have hs1 : (p + 1) * t = p * t + t := Nat.succ_mul p t
    have hs1' : (p + 1 + 1) * t = (p + 1) * t + t := Nat.succ_mul (p + 1) t
    have hm2 : (m - p) * t ≤ m * t := Nat.mul_le_mul_right t (by omega)
    show p_ReverseFlat3_l6 _ _ (iter (p_ReverseFlat3_l6 _ _) F) _ = _
    generalize hK : iter (p_ReverseFlat3_l6 (t : Int) G) F = K at *
    unfold p_ReverseFlat3_l6
    dsimp only
    by_cases hpm : 2 * p + 1 ≤ m
    · have hle : (p + 1) * t ≤ (m - p) * t := Nat.mul_le_mul_right t (by omega)
      have hs2 : (m - 1 - p + 1) * t = (m - 1 - p) * t + t := Nat.succ_mul _ t
      have hs3 : m - 1 - p + 1 = m - p := by omega
      have hs4 : m - 1 - p = m - (p + 1) := by omega
      rw [hs3, hs4] at hs2
      have hl := inner_loop h2 h9 hn (f := f) ha hpm (w := row n (swk f a m t p 0)) G 0 (by omega) (by omega)
      have hl' : iter (p_ReverseFlat3_l8 (t : Int) (((a + (p + 1) * t : Nat) : Int), ((a + (m - p) * t : Nat) : Int), row n (swk f a m t p 0))) G ((0 : Int), row n (swk f a m t p 0)) = some (.inl (row n (swk f a m t p t))) := hl
      rw [cond_t (decide_eq_true (by omega)), hl', Option.bind_some, aft_inl]
      unfold p_ReverseFlat3_k7
      dsimp only
      rw [need_pos (in64m (by omega) (by omega)), need_pos (in64m (by omega) (by omega))]
      have c1 : ((a + (p + 1) * t : Nat) : Int) + (t : Int) = ((a + (p + 1 + 1) * t : Nat) : Int) := by omega
      have c2 : ((a + (m - p) * t : Nat) : Int) - (t : Int) = ((a + (m - (p + 1)) * t : Nat) : Int) := by omega
      rw [c1, c2, row_congr (g := swk f a m t (p + 1) 0) fun j _ => sw_next (by omega) hpm j]
      exact ih (p + 1) (by omega) (by omega)
    · have hlt : (m - p) * t < (p + 1) * t := (Nat.mul_lt_mul_right (by omega)).2 (by omega)
      rw [cond_f (decide_eq_false (by omega)), row_congr (g := rvp f a m t) fun j _ => sw_end (by omega) (by omega) hp j]
/-- all parts are turned about -/
def mir (t : Nat) : Nat → List Nat → (Nat → Nat) → Nat → Nat
  | _, [], f => f
  | a, m :: r, f => mir t (a + m * t) r (rvp f a m t)
theorem mir_app : ∀ (x y : List Nat) (a : Nat) (f : Nat → Nat), mir t a (x ++ y) f = mir t (lastR t a x) y (mir t a x f)
  | [], y, a, f => rfl
  | m :: x, y, a, f => mir_app x y _ _
theorem ends_loop (h2 : 2 ≤ t) (h9 : t ≤ 9) (hn : n ≤ 2000) {x : List Int} (hx : x.length ≤ 2000) {G : Nat} (hG : 2010 < G) : ∀ (rem : List Nat) (F i a : Nat) (f : Nat → Nat), x.drop i = endsR t a rem → rem.length < F → lastR t a rem ≤ n →
    iter (p_ReverseFlat3_l4 (t : Int) G x) F ((a : Int), (i : Int), row n f) = some (.inl (row n (mir t a rem f))) := by
  intro rem
  induction rem with
  | nil =>
    intro F i a f hd hF hl
    obtain ⟨F, rfl⟩ : ∃ H, F = H + 1 := ⟨F - 1, by simp at hF; omega⟩
    have : x.length ≤ i := List.drop_eq_nil_iff.1 hd
    show p_ReverseFlat3_l4 _ _ _ (iter (p_ReverseFlat3_l4 _ _ _) F) _ = _
    unfold p_ReverseFlat3_l4
    rw [cond_f (decide_eq_false (by simp only; omega))]
    rfl
  | cons m rem ih =>
    intro F i a f hd hF hl
    obtain ⟨F, rfl⟩ : ∃ H, F = H + 1 := ⟨F - 1, by simp at hF; omega⟩
    have hxi : x[i]? = some ((a + m * t : Nat) : Int) := by
      have := congrArg (fun z => z[0]?) hd
      simpa [List.getElem?_drop, endsR] using this
    have hi := (List.getElem?_eq_some_iff.1 hxi).1
    have ham : a + m * t ≤ n := Nat.le_trans (lastR_le rem _) hl
    have hmm : m ≤ 2000 := Nat.le_trans (Nat.le_mul_of_pos_right m (by omega : 0 < t)) (by omega)
    show p_ReverseFlat3_l4 _ _ _ (iter (p_ReverseFlat3_l4 _ _ _) F) _ = _
    generalize hK : iter (p_ReverseFlat3_l4 (t : Int) G x) F = K at *
    unfold p_ReverseFlat3_l4
    dsimp only
    have hp := part_loop h2 h9 hn (f := f) ham (G := G) (by omega) G 0 (by omega) (by omega)
    rw [row_congr (f := swk f a m t 0 0) (g := f) fun j _ => sw_zero (by omega) j] at hp
    have c1 : ((a + (0 + 1) * t : Nat) : Int) = (a : Int) + (t : Int) := by omega
    have c2 : ((a + (m - 0) * t : Nat) : Int) = ((a + m * t : Nat) : Int) := by rw [Nat.sub_zero]
    rw [c1, c2] at hp
    rw [cond_t (decide_eq_true (by omega)), idx_get hxi, Option.bind_some, need_pos (in64m (by omega) (by omega)), hp, Option.bind_some, aft_inl]
    unfold p_ReverseFlat3_k5
    dsimp only
    rw [succ_cast, need_pos (in64m (by omega) (by omega)), ← hK]
    exact ih F (i + 1) (a + m * t) _ (by rw [← List.drop_drop, hd]; rfl) (by simp at hF; omega) hl
theorem endsR_last {a : Nat} : ∀ (ns : List Nat) (a : Nat), ns ≠ [] → (endsR t a ns)[ns.length - 1]? = some ((lastR t a ns : Nat) : Int)
  | [], a, h => absurd rfl h
  | [m], a, h => rfl
  | m :: k :: r, a, h => by
    have := endsR_last (a := a) (k :: r) (a + m * t) (by simp)
    simpa [endsR, lastR] using this
theorem lists_loop (h2 : 2 ≤ t) (h9 : t ≤ 9) (hn : n ≤ 2000) {e : List (List Int)} (he : e.length ≤ 2000) (hee : ∀ x ∈ e, x.length ≤ 2000) {G : Nat} (hG : 2010 < G) : ∀ (rem : List (List Nat)) (F i a : Nat) (f : Nat → Nat), e.drop i = endsRR t a rem → rem.length < F → lastR t a rem.flatten ≤ n →
    iter (p_ReverseFlat3_l2 e (t : Int) G) F ((a : Int), (i : Int), row n f) = some (.inl (row n (mir t a rem.flatten f))) := by
  intro rem
  induction rem with
  | nil =>
    intro F i a f hd hF hl
    obtain ⟨F, rfl⟩ : ∃ H, F = H + 1 := ⟨F - 1, by simp at hF; omega⟩
    have : e.length ≤ i := List.drop_eq_nil_iff.1 hd
    show p_ReverseFlat3_l2 _ _ _ (iter (p_ReverseFlat3_l2 _ _ _) F) _ = _
    unfold p_ReverseFlat3_l2
    rw [cond_f (decide_eq_false (by simp only; omega))]
    rfl
  | cons ns rem ih =>
    intro F i a f hd hF hl
    obtain ⟨F, rfl⟩ : ∃ H, F = H + 1 := ⟨F - 1, by simp at hF; omega⟩
    have hxi : e[i]? = some (endsR t a ns) := by
      have := congrArg (fun z => z[0]?) hd
      simpa [List.getElem?_drop, endsRR] using this
    have hi := (List.getElem?_eq_some_iff.1 hxi).1
    have hxl := hee _ (List.mem_of_getElem? hxi)
    rw [endsR_len] at hxl
    rw [List.flatten_cons, lastR_app] at hl
    have hl1 : lastR t a ns ≤ n := Nat.le_trans (lastR_le rem.flatten _) hl
    have hd2 : e.drop (i + 1) = endsRR t (lastR t a ns) rem := by rw [← List.drop_drop, hd]; rfl
    show p_ReverseFlat3_l2 _ _ _ (iter (p_ReverseFlat3_l2 _ _ _) F) _ = _
    generalize hK : iter (p_ReverseFlat3_l2 e (t : Int) G) F = K at *
    unfold p_ReverseFlat3_l2
    dsimp only
    rw [cond_t (decide_eq_true (by omega)), idx_get hxi, Option.bind_some, endsR_len]
    by_cases h0 : ns = []
    · subst h0
      rw [cond_t (by rfl), succ_cast, need_pos (in64m (by omega) (by omega)), ← hK, ih F (i + 1) a f hd2 (by simp at hF; omega) hl]
      rfl
    · have hl0 : 0 < ns.length := List.length_pos_iff.2 h0
      have hend := ends_loop h2 h9 hn (x := endsR t a ns) (by rw [endsR_len]; omega) hG ns G 0 a f rfl (by omega) hl1
      have hend' : iter (p_ReverseFlat3_l4 (t : Int) G (endsR t a ns)) G ((a : Int), (0 : Int), row n f) = some (.inl (row n (mir t a ns f))) := hend
      rw [cond_f (decide_eq_false (by omega)), hend', Option.bind_some, aft_inl]
      unfold p_ReverseFlat3_k3
      dsimp only
      rw [endsR_len]
      have c1 : ((ns.length : Nat) : Int) - 1 = ((ns.length - 1 : Nat) : Int) := by omega
      rw [need_pos (in64m (by omega) (by omega)), c1, idx_get (endsR_last (a := a) ns a h0), Option.bind_some, succ_cast, need_pos (in64m (by omega) (by omega)), ← hK, ih F (i + 1) _ _ hd2 (by simp at hF; omega) hl, List.flatten_cons, mir_app]
theorem reverse_p (h2 : 2 ≤ t) (h9 : t ≤ 9) {l : List Nat} (hl : l.length ≤ 2000) {nss : List (List Nat)} (hn : nss.length ≤ 2000) (hee : ∀ x ∈ endsRR t 0 nss, x.length ≤ 2000) (hlast : lastR t 0 nss.flatten ≤ l.length) {F : Nat} (hF : 2010 < F) (hlen : (endsRR t 0 nss).length ≤ 2000) :
    p_ReverseFlat3 F l (endsRR t 0 nss) (t : Int) = some (row l.length (mir t 0 nss.flatten fun j => l.getD j 0), true) := by
  have h := lists_loop h2 h9 hl hlen hee hF nss F 0 0 (fun j => l.getD j 0) rfl (by omega) hlast
  rw [← row_self] at h
  have h' : iter (p_ReverseFlat3_l2 (endsRR t 0 nss) (t : Int) F) F ((0 : Int), (0 : Int), l) = some (.inl (row l.length (mir t 0 nss.flatten fun j => l.getD j 0))) := h
  unfold p_ReverseFlat3
  rw [need_pos (by omega), h', Option.bind_some, aft_inl]
  rfl
/-! ### what the law tells -/
def revl (f : Nat → Nat) (a m t : Nat) : List Nat := (List.range (m * t)).map fun x => f (a + (m - 1 - x / t) * t + x % t)
theorem range_mul {g : Nat → Nat} (p : Nat) : (List.range ((p + 1) * t)).map g = (List.range (p * t)).map g ++ (List.range t).map fun r => g (p * t + r) := by
  rw [Nat.succ_mul, List.range_add, List.map_append, List.map_map]
  rfl
theorem back_part (h2 : 2 ≤ t) (h9 : t ≤ 9) {l : List Nat} (hl : l.length ≤ 2000) {g : TImpl_Geom} (hg : g.Flat = l) {a m : Nat} (ha : a + m * t ≤ l.length) {out : List Nat} (ho : out.length ≤ 2000) {w : Int × List Nat} : ∀ (F p : Nat), m - p < F → p ≤ m →
    iter (p_Backward_l6 g (t : Int) ((a : Int), w)) F (((a + m * t : Nat) : Int) - (t : Int) - ((p * t : Nat) : Int), out ++ (List.range (p * t)).map fun x => l.getD (a + (m - 1 - x / t) * t + x % t) 0) = some (.inl (out ++ revl (fun j => l.getD j 0) a m t)) := by
  intro F
  induction F with
  | zero => intro p h; omega
  | succ F ih =>
    intro p h hp
    have hm1 : p * t ≤ m * t := Nat.mul_le_mul_right t hp
    show p_Backward_l6 _ _ _ (iter (p_Backward_l6 _ _ _) F) _ = _
    generalize hK : iter (p_Backward_l6 g (t : Int) ((a : Int), w)) F = K at *
    unfold p_Backward_l6
    dsimp only
    rw [hg]
    by_cases hpm : p < m
    · have hs1 : (p + 1) * t = p * t + t := Nat.succ_mul p t
      have hm2 : (p + 1) * t ≤ m * t := Nat.mul_le_mul_right t hpm
      have e0 : (m - 1 - p) * t + (p * t + t) = m * t := by
        rw [← hs1, ← Nat.add_mul]
        congr 1
        omega
      have c1 : ((a + m * t : Nat) : Int) - (t : Int) - ((p * t : Nat) : Int) = ((a + (m - 1 - p) * t : Nat) : Int) := by omega
      rw [c1, cond_t (decide_eq_true (by omega)), need_pos (in64m (by omega) (by omega)), need_pos ⟨⟨by omega, by omega⟩, by omega, by omega⟩]
      have e1 : (((a + (m - 1 - p) * t : Nat) : Int) + (t : Int)).toNat - (((a + (m - 1 - p) * t : Nat) : Int)).toNat = t := by omega
      have e2 : (((a + (m - 1 - p) * t : Nat) : Int)).toNat = a + (m - 1 - p) * t := by omega
      rw [e1, e2, need_pos (by simp; omega), need_pos (in64m (by omega) (by omega))]
      have c3 : ((a + (m - 1 - p) * t : Nat) : Int) - (t : Int) = ((a + m * t : Nat) : Int) - (t : Int) - (((p + 1) * t : Nat) : Int) := by omega
      have e3 : (l.drop (a + (m - 1 - p) * t)).take t = (List.range t).map fun r => l.getD (a + (m - 1 - (p * t + r) / t) * t + (p * t + r) % t) 0 := by
        apply List.ext_getElem?
        intro r
        by_cases hr : r < t
        · have q1 : (p * t + r) / t = p ∧ (p * t + r) % t = r := by
            have := qr (a := 0) (q := p) (by omega) hr
            simpa using this
          rw [List.getElem?_take, if_pos hr, List.getElem?_drop, List.getElem?_map, List.getElem?_range hr, Option.map_some, q1.1, q1.2, List.getD_eq_getElem?_getD, List.getElem?_eq_getElem (by omega)]
          rfl
        · rw [List.getElem?_eq_none (by simp; omega), List.getElem?_eq_none (by simp; omega)]
      rw [c3, e3, List.append_assoc, ← range_mul (g := fun x => l.getD (a + (m - 1 - x / t) * t + x % t) 0) p]
      exact ih (p + 1) (by omega) hpm
    · have : p = m := by omega
      subst this
      rw [cond_f (decide_eq_false (by omega))]
      rfl
def outs (t : Nat) (f : Nat → Nat) : Nat → List Nat → List Nat
  | _, [] => []
  | a, m :: r => revl f a m t ++ outs t f (a + m * t) r
theorem outs_len {f : Nat → Nat} : ∀ (ns : List Nat) (a : Nat), a + (outs t f a ns).length = lastR t a ns
  | [], a => rfl
  | m :: r, a => by
    have := outs_len (f := f) r (a + m * t)
    simp only [outs, lastR, List.length_append, revl, List.length_map, List.length_range]
    omega
theorem back_loop (h2 : 2 ≤ t) (h9 : t ≤ 9) {l : List Nat} (hl : l.length ≤ 2000) {g : TImpl_Geom} (hg : g.Flat = l) {x : List Int} (hx : x.length ≤ 2000) {G : Nat} (hG : 2010 < G) : ∀ (rem : List Nat) (F i a : Nat) (out : List Nat), x.drop i = endsR t a rem → rem.length < F → lastR t a rem ≤ l.length → out.length = a →
    iter (p_Backward_l4 g G x (t : Int)) F ((a : Int), (i : Int), out) = some (.inl (out ++ outs t (fun j => l.getD j 0) a rem)) := by
  intro rem
  induction rem with
  | nil =>
    intro F i a out hd hF hlast ho
    obtain ⟨F, rfl⟩ : ∃ H, F = H + 1 := ⟨F - 1, by simp at hF; omega⟩
    have : x.length ≤ i := List.drop_eq_nil_iff.1 hd
    show p_Backward_l4 _ _ _ _ (iter (p_Backward_l4 _ _ _ _) F) _ = _
    unfold p_Backward_l4
    rw [cond_f (decide_eq_false (by simp only; omega))]
    simp [outs]
  | cons m rem ih =>
    intro F i a out hd hF hlast ho
    obtain ⟨F, rfl⟩ : ∃ H, F = H + 1 := ⟨F - 1, by simp at hF; omega⟩
    have hxi : x[i]? = some ((a + m * t : Nat) : Int) := by
      have := congrArg (fun z => z[0]?) hd
      simpa [List.getElem?_drop, endsR] using this
    have hi := (List.getElem?_eq_some_iff.1 hxi).1
    have ham : a + m * t ≤ l.length := Nat.le_trans (lastR_le rem _) hlast
    have hmm : m ≤ 2000 := Nat.le_trans (Nat.le_mul_of_pos_right m (by omega : 0 < t)) (by omega)
    show p_Backward_l4 _ _ _ _ (iter (p_Backward_l4 _ _ _ _) F) _ = _
    generalize hK : iter (p_Backward_l4 g G x (t : Int)) F = K at *
    unfold p_Backward_l4
    dsimp only
    have hp := back_part h2 h9 hl hg ham (out := out) (by omega) (w := ((i : Int), out)) G 0 (by omega) (by omega)
    have c1 : ((a + m * t : Nat) : Int) - (t : Int) - ((0 * t : Nat) : Int) = ((a + m * t : Nat) : Int) - (t : Int) := by omega
    have c2 : (List.range (0 * t)).map (fun x => l.getD (a + (m - 1 - x / t) * t + x % t) 0) = [] := by simp
    rw [c1, c2, List.append_nil] at hp
    rw [cond_t (decide_eq_true (by omega)), idx_get hxi, Option.bind_some, need_pos (in64m (by omega) (by omega)), hp, Option.bind_some, aft_inl]
    unfold p_Backward_k5
    dsimp only
    rw [succ_cast, need_pos (in64m (by omega) (by omega)), ← hK, ih F (i + 1) (a + m * t) _ (by rw [← List.drop_drop, hd]; rfl) (by simp at hF; omega) hlast (by simp [revl]; omega)]
    rw [List.append_assoc]
    rfl
/-- Turned about in place, and put in a row from behind, is the same. -/
theorem mir_before : ∀ (ns : List Nat) (a : Nat) (f : Nat → Nat) (j : Nat), j < a → mir t a ns f j = f j
  | [], a, f, j, h => rfl
  | m :: r, a, f, j, h => by
    simp only [mir]
    rw [mir_before r _ _ j (by omega)]
    unfold rvp
    rw [if_neg (by omega)]
theorem mir_ext : ∀ (ns : List Nat) (a : Nat) (f g : Nat → Nat), (∀ j, a ≤ j → f j = g j) → ∀ j, a ≤ j → mir t a ns f j = mir t a ns g j
  | [], a, f, g, h, j, hj => h j hj
  | m :: r, a, f, g, h, j, hj => by
    simp only [mir]
    by_cases hj2 : a + m * t ≤ j
    · refine mir_ext r _ _ _ (fun k hk => ?_) j hj2
      unfold rvp
      rw [if_neg (by omega), if_neg (by omega)]
      exact h k (by omega)
    · rw [mir_before r _ _ j (by omega), mir_before r _ _ j (by omega)]
      unfold rvp
      rw [if_pos ⟨hj, by omega⟩, if_pos ⟨hj, by omega⟩]
      exact h _ (by unfold face; omega)
theorem outs_eq (ht : 0 < t) (f : Nat → Nat) : ∀ (ns : List Nat) (a : Nat), outs t f a ns = (List.range (lastR t a ns - a)).map fun x => mir t a ns f (a + x)
  | [], a => by simp [outs, lastR]
  | m :: r, a => by
    have hle : a + m * t ≤ lastR t (a + m * t) r := lastR_le r _
    have ih := outs_eq ht f r (a + m * t)
    have e1 : lastR t a (m :: r) - a = m * t + (lastR t (a + m * t) r - (a + m * t)) := by simp only [lastR]; omega
    rw [e1, List.range_add, List.map_append, List.map_map]
    simp only [outs]
    congr 1
    · unfold revl
      refine List.map_congr_left fun x hx => ?_
      have hx : x < m * t := List.mem_range.1 hx
      simp only [mir]
      rw [mir_before r _ _ _ (by omega)]
      unfold rvp
      rw [if_pos ⟨by omega, by omega⟩]
      unfold face
      have : a + x - a = x := by omega
      rw [this]
    · rw [ih]
      refine List.map_congr_left fun x hx => ?_
      simp only [Function.comp, mir]
      have e2 : a + (m * t + x) = a + m * t + x := by omega
      rw [e2]
      refine mir_ext r _ _ _ (fun j hj => ?_) _ (by omega)
      unfold rvp
      rw [if_neg (by omega)]
end
theorem same_p {F : Nat} (l : List Nat) (hl : l.length ≤ 2000) (hF : 2010 < F) : p_SameFloats F l l = some true := by
  unfold p_SameFloats
  rw [cond_f (nF rfl)]
  have hs := scan_loop0 l (p_SameFloats_l2 l l) (fun _ => true) false
    (fun K k hk => by unfold p_SameFloats_l2; rw [cond_f (decide_eq_false (by omega))])
    (fun K k x hx => by
      have hk := (List.getElem?_eq_some_iff.1 hx).1
      unfold p_SameFloats_l2
      rw [cond_t (decide_eq_true (by omega)), idx_get hx, Option.bind_some, Option.bind_some, cond_f (nF rfl), succ_cast, need_pos (in64m (by omega) (by omega)), if_pos rfl]) (F := F) (by omega)
  have : (l.all fun _ => true) = true := by simp
  rw [if_pos this] at hs
  rw [hs, Option.bind_some, aft_inl]
  rfl
theorem flat_loop {g : TImpl_Geom} {e : List (List Int)} (hg : g.Endss = e) (he : e.length ≤ 2000) (hf : e.flatten.length ≤ 2000) : ∀ (F i : Nat), e.length - i < F → i ≤ e.length →
    iter (p_Backward_l7 g) F ((i : Int), (e.take i).flatten) = some (.inl e.flatten) := by
  intro F
  induction F with
  | zero => intro i h; omega
  | succ F ih =>
    intro i h hi
    show p_Backward_l7 _ (iter (p_Backward_l7 _) F) _ = _
    generalize hK : iter (p_Backward_l7 g) F = K at *
    unfold p_Backward_l7
    dsimp only
    rw [hg]
    by_cases hlt : i < e.length
    · obtain ⟨x, hx⟩ : ∃ x, e[i]? = some x := ⟨_, List.getElem?_eq_getElem hlt⟩
      have e1 : (e.take i).flatten ++ x = (e.take (i + 1)).flatten := by rw [List.take_add_one, hx]; simp
      have e2 : ((e.take (i + 1)).flatten).length ≤ e.flatten.length := by
        have : e.flatten = (e.take (i + 1)).flatten ++ (e.drop (i + 1)).flatten := by rw [← List.flatten_append, List.take_append_drop]
        rw [this, List.length_append]; omega
      have e3 : ((e.take i).flatten).length + x.length ≤ 2000 := by rw [← List.length_append, e1]; omega
      rw [cond_t (decide_eq_true (by omega)), idx_get hx, Option.bind_some, need_pos (by omega), succ_cast, need_pos (in64m (by omega) (by omega)), e1]
      exact ih (i + 1) (by omega) hlt
    · have : i = e.length := by omega
      subst this
      rw [cond_f (decide_eq_false (by omega)), List.take_length]
theorem rev3_holds {F : Nat} (hF : 2147483660 ≤ F) (l : List Nat) (e : List (List Int)) (s : Int) (he : ∀ x ∈ e, ∀ y ∈ x, inI .i64 y) : p_FnReverseFlat3 F l e s = some true := by
  unfold p_FnReverseFlat3
  have ends : ∀ y3, p_FnReverseFlat3_k2 l e s F y3 true = some true := fun y3 => rfl
  by_cases h1 : (2147483647 : Int) < (l.length : Int)
  · rw [cond_t (decide_eq_true h1)]; rfl
  · rw [cond_f (decide_eq_false h1)]
    obtain ⟨b, hb, hfit⟩ := zzFits3_p e he (F := F) (by omega)
    rw [hb, Option.bind_some]
    cases b with
    | false => rfl
    | true =>
      have hfit := hfit rfl
      unfold p_FnReverseFlat3_k1
      rw [cond_f (by rfl)]
      obtain ⟨G, rfl⟩ : ∃ G, F = G + 2 := ⟨F - 2, by omega⟩
      obtain ⟨g, b, hg, hb⟩ := fRowss_p (F := G) l e s hfit (by omega) (by omega)
      rw [hg, Option.bind_some]
      cases b with
      | false => rw [cond_t (by rfl)]; rfl
      | true =>
        obtain ⟨rfl, r⟩ := hb rfl
        rw [cond_f (by rfl)]
        obtain ⟨t, rfl⟩ : ∃ t : Nat, s = t := ⟨s.toNat, by have := r.lo; omega⟩
        have h2 : 2 ≤ t := by have := r.lo; omega
        have h9 : t ≤ 9 := by have := r.hi; omega
        have hfew := r.few
        obtain ⟨ns, hfl, hq⟩ := EndsG.natR h2 e.flatten 0 r.ends
        obtain ⟨nss, rfl, rfl⟩ := endsRR_of e ns 0 hfl
        have hlast : lastR t 0 nss.flatten = l.length := by omega
        have hlenE : (endsRR t 0 nss).length = nss.length := by
          have : ∀ (z : List (List Nat)) (a : Nat), (endsRR t a z).length = z.length := by
            intro z
            induction z with
            | nil => intro a; rfl
            | cons x z ih => intro a; simp [endsRR, ih]
          exact this nss 0
        have hee : ∀ x ∈ endsRR t 0 nss, x.length ≤ 2000 := fun x hx => by
          have : x.length ≤ (endsRR t 0 nss).flatten.length := by
            obtain ⟨i, hi⟩ := List.getElem?_of_mem hx
            have hlt := (List.getElem?_eq_some_iff.1 hi).1
            have h3 : (endsRR t 0 nss) = (endsRR t 0 nss).take i ++ x :: (endsRR t 0 nss).drop (i + 1) := by
              have h4 := List.drop_eq_getElem_cons hlt
              rw [List.getElem?_eq_getElem hlt] at hi
              rw [Option.some.inj hi] at h4
              rw [← h4, List.take_append_drop]
            rw [h3]; simp; omega
          omega
        obtain ⟨bh, hh⟩ : ∃ bh, p_gHollow (G + 2) (gFF l (endsRR t 0 nss) (t : Int)) = some bh := by
          have hs := scan_loop0 (endsRR t 0 nss) (p_gHollow_l2 (gFF l (endsRR t 0 nss) (t : Int))) (fun x => !decide (((x.length : Nat) : Int) = 0)) true
            (fun K k hk => by unfold p_gHollow_l2; rw [cond_f (decide_eq_false (by simp only; omega))])
            (fun K k x hx => by
              have hk := (List.getElem?_eq_some_iff.1 hx).1
              unfold p_gHollow_l2
              rw [cond_t (decide_eq_true (by simp only; omega))]
              dsimp only
              rw [idx_get hx, Option.bind_some]
              by_cases hx0 : ((x.length : Nat) : Int) = 0
              · rw [cond_t (decide_eq_true hx0), if_neg (by simp [hx0])]
              · rw [cond_f (decide_eq_false hx0), succ_cast, need_pos (in64m (by omega) (by omega)), if_pos (by rw [decide_eq_false hx0]; rfl)]) (F := G + 2) (by omega)
          unfold p_gHollow
          rw [hs, Option.bind_some]
          split <;> exact ⟨_, rfl⟩
        rw [hh, Option.bind_some]
        cases bh with
        | true => rfl
        | false =>
          unfold p_FnReverseFlat3_k2
          rw [cond_f rfl, reverse_p h2 h9 (by omega) (by omega) hee (by omega) (by omega) (by omega), Option.bind_some, cond_t rfl]
          have hback : p_Backward (G + 2) (gFF l (endsRR t 0 nss) (t : Int)) = some ⟨6, layF (t : Int), 0, outs t (fun j => l.getD j 0) 0 nss.flatten, [], endsRR t 0 nss, []⟩ := by
            unfold p_Backward
            have hfl2 := flat_loop (g := gFF l (endsRR t 0 nss) (t : Int)) (e := endsRR t 0 nss) rfl (by omega) (by omega) (G + 2) 0 (by omega) (by omega)
            have hfl3 : iter (p_Backward_l7 (gFF l (endsRR t 0 nss) (t : Int))) (G + 2) ((0 : Int), (gFF l (endsRR t 0 nss) (t : Int)).Ends) = some (.inl (endsRR t 0 nss).flatten) := hfl2
            rw [need_pos (by simp), hfl3, Option.bind_some, aft_inl]
            unfold p_Backward_k1
            rw [cond_f (by rfl), cond_f (by rfl), cond_f (by rfl)]
            unfold p_Backward_k2
            show (p_Stride (layF (t : Int))).bind _ = _
            rw [(strideF (by omega) (by omega)).1, Option.bind_some]
            have hbl := back_loop h2 h9 (l := l) (by omega) (g := gFF l (endsRR t 0 nss) (t : Int)) rfl (x := (endsRR t 0 nss).flatten) (by omega) (G := G + 2) (by omega) nss.flatten (G + 2) 0 0 [] (by rw [hfl]; rfl) (by
              rw [hfl, endsR_len] at hfew; omega) (by omega) rfl
            have hbl2 : iter (p_Backward_l4 (gFF l (endsRR t 0 nss) (t : Int)) (G + 2) (endsRR t 0 nss).flatten (t : Int)) (G + 2) ((0 : Int), (0 : Int), []) = some (.inl (outs t (fun j => l.getD j 0) 0 nss.flatten)) := hbl
            rw [hbl2, Option.bind_some, aft_inl]
            rfl
          rw [hback, Option.bind_some]
          dsimp only
          have heq : outs t (fun j => l.getD j 0) 0 nss.flatten = row l.length (mir t 0 nss.flatten fun j => l.getD j 0) := by
            rw [outs_eq (by omega), hlast]
            unfold row
            simp
          rw [heq, same_p _ (by rw [row_len]; omega) (by omega)]
          rfl
theorem wfI {x : Int} (h : (Lit.int .i64 x).wf = true) : inI .i64 x := by
  simp only [Lit.wf, Bool.and_eq_true, decide_eq_true_eq] at h
  exact h
end Go.Proofs.Ytdpkjmoeapibnaa.Wk
