/- Proved: flat lines and their places. -/
import Derived.Test.YtdpkjmoeapibnaaFRows2
namespace Go.Proofs.Ytdpkjmoeapibnaa.Wk
open Go.Vm
set_option linter.unusedVariables false
set_option linter.unusedSimpArgs false
/-- the place at a -/
abbrev plcF (t : Nat) (l : List Nat) (a : Nat) : List Nat := (l.drop a).take t
abbrev plcsF (t : Nat) (l : List Nat) (a n : Nat) : List (List Nat) := (List.range n).map fun k => plcF t l (a + k * t)
/-- ends, of numbers of places -/
def endsF (t : Nat) : Nat → List Nat → List Int
  | _, [] => []
  | a, n :: r => ((a + n * t : Nat) : Int) :: endsF t (a + n * t) r
def lastF (t : Nat) : Nat → List Nat → Nat
  | a, [] => a
  | a, n :: r => lastF t (a + n * t) r
theorem lastF_le {t : Nat} : ∀ (ns : List Nat) (a : Nat), a ≤ lastF t a ns
  | [], a => Nat.le_refl _
  | n :: r, a => Nat.le_trans (Nat.le_add_right _ _) (lastF_le r (a + n * t))
theorem endsF_len {t : Nat} : ∀ (ns : List Nat) (a : Nat), (endsF t a ns).length = ns.length
  | [], a => rfl
  | n :: r, a => by simp [endsF, endsF_len r]
theorem EndsG.nat {t : Nat} (ht : 2 ≤ t) {q : Int} : ∀ (e : List Int) (a : Nat), EndsG (t : Int) q (a : Int) e → ∃ ns, e = endsF t a ns ∧ q = (lastF t a ns : Int)
  | [], a, h => ⟨[], rfl, h.symm⟩
  | x :: r, a, h => by
    obtain ⟨h1, h2, h3⟩ := h
    obtain ⟨k, hk⟩ : ∃ k : Nat, x - a = k := ⟨(x - a).toNat, by omega⟩
    rw [hk] at h2
    have h4 : k % t = 0 := by
      have : ((k % t : Nat) : Int) = 0 := by rw [← h2]; rfl
      omega
    obtain ⟨n, rfl⟩ : ∃ n, k = n * t := ⟨k / t, by rw [Nat.div_mul_cancel (Nat.dvd_of_mod_eq_zero h4)]⟩
    have hx : x = ((a + n * t : Nat) : Int) := by omega
    subst hx
    obtain ⟨ns, e1, e2⟩ := EndsG.nat ht r _ h3
    exact ⟨n :: ns, by rw [e1]; rfl, e2⟩
def linesF (t : Nat) (l : List Nat) : Nat → List Nat → List (List (List Nat))
  | _, [] => []
  | a, n :: r => plcsF t l a n :: linesF t l (a + n * t) r
theorem linesF_len {t : Nat} {l : List Nat} : ∀ (ns : List Nat) (a : Nat), (linesF t l a ns).length = ns.length
  | [], a => rfl
  | n :: r, a => by simp [linesF, linesF_len r]
/-- where line number i begins -/
def fromF (t : Nat) : Nat → List Nat → Nat → Nat
  | a, [], _ => a
  | a, _ :: _, 0 => a
  | a, n :: r, i + 1 => fromF t (a + n * t) r i
theorem at_F {t : Nat} {l : List Nat} : ∀ (ns : List Nat) (a i n : Nat), ns[i]? = some n →
    (endsF t a ns)[i]? = some ((fromF t a ns i + n * t : Nat) : Int) ∧ (linesF t l a ns)[i]? = some (plcsF t l (fromF t a ns i) n) ∧ fromF t a ns (i + 1) = fromF t a ns i + n * t ∧ fromF t a ns i + n * t ≤ lastF t a ns
  | [], a, i, n, h => by simp at h
  | m :: r, a, 0, n, h => by
    simp at h; subst h
    refine ⟨rfl, rfl, ?_, lastF_le r _⟩
    cases r <;> rfl
  | m :: r, a, i + 1, n, h => at_F r (a + m * t) i n (by simpa using h)
theorem from0 {t a : Nat} : ∀ ns : List Nat, fromF t a ns 0 = a
  | [] => rfl
  | _ :: _ => rfl
theorem rows_loop {l : List Nat} {t n : Nat} (h2 : 2 ≤ t) (h9 : t ≤ 9) (hl : l.length = n * t) (hb : l.length ≤ 2000) : ∀ (F i : Nat), n - i < F → i ≤ n →
    iter (p_Rows_l2 l (t : Int)) F (((i * t : Nat) : Int), plcsF t l 0 i) = some (.inl (plcsF t l 0 n)) := by
  intro F
  induction F with
  | zero => intro i h; omega
  | succ F ih =>
    intro i h hi
    have hms : i * t ≤ n * t := Nat.mul_le_mul_right t hi
    have hni : i ≤ 2000 := Nat.le_trans (Nat.le_mul_of_pos_right i (by omega : 0 < t)) (by omega)
    show p_Rows_l2 l _ (iter (p_Rows_l2 l _) F) _ = _
    generalize hK : iter (p_Rows_l2 l (t : Int)) F = K at *
    unfold p_Rows_l2
    simp only
    by_cases hin : i < n
    · have hm : (i + 1) * t ≤ n * t := Nat.mul_le_mul_right t hin
      have hs : (i + 1) * t = i * t + t := Nat.succ_mul i t
      rw [need_pos (in64 (by omega) (by omega)), cond_t (decide_eq_true (by omega))]
      unfold p_Rows_k3
      simp only
      have hlen : (plcsF t l 0 i).length = i := by simp [plcsF]
      rw [decide_eq_true (by omega : (0 : Int) < (t : Int)), cond_t rfl, need_pos (in64 (by omega) (by omega)), need_pos ⟨⟨by omega, by omega⟩, by omega, by omega⟩, need_pos (by rw [hlen]; simp; omega), need_pos (in64 (by omega) (by omega))]
      have e1 : (((i * t : Nat) : Int) + (t : Int)).toNat - (((i * t : Nat) : Int)).toNat = t := by omega
      have e2 : ((i * t : Nat) : Int) + (t : Int) = (((i + 1) * t : Nat) : Int) := by omega
      have e3 : (((i * t : Nat) : Int)).toNat = 0 + i * t := by omega
      rw [e1, e2, e3]
      have e4 : plcsF t l 0 i ++ [(l.drop (0 + i * t)).take t] = plcsF t l 0 (i + 1) := by
        unfold plcsF
        rw [List.range_succ, List.map_append]
        rfl
      rw [e4]
      exact ih (i + 1) (by omega) hin
    · have : i = n := by omega
      subst this
      rw [need_pos (in64 (by omega) (by omega)), cond_f (decide_eq_false (by omega))]
      unfold p_Rows_k3
      rw [cond_f rfl]
/-- line number i -/
theorem part_p {F : Nat} {l : List Nat} {s : Int} {t : Nat} {ns : List Nat} (hb : l.length ≤ 2000) (ha : lastF t 0 ns ≤ l.length) {i n : Nat} (hn : ns[i]? = some n) (hil : i ≤ 2000) :
    p_Part F (gF l (endsF t 0 ns) s) (i : Int) = some ⟨8, layF s, 0, (l.drop (fromF t 0 ns i)).take (n * t), [], [], []⟩ := by
  obtain ⟨e1, _, e3, e4⟩ := at_F (t := t) (l := l) ns 0 i n hn
  unfold p_Part
  rw [cond_f (by rfl), cond_f (by rfl)]
  have key : p_Part_k5 (gF l (endsF t 0 ns) s) (i : Int) (fromF t 0 ns i : Int) = some ⟨8, layF s, 0, (l.drop (fromF t 0 ns i)).take (n * t), [], [], []⟩ := by
    unfold p_Part_k5
    rw [cond_f (by rfl)]
    unfold p_Part_k6
    show (idx (endsF t 0 ns) (i : Int)).bind _ = _
    rw [idx_get e1, Option.bind_some]
    have e5 : (((fromF t 0 ns i + n * t : Nat) : Int)).toNat - ((fromF t 0 ns i : Int)).toNat = n * t := by omega
    dsimp only [gF]
    rw [need_pos (by omega), need_pos (by simp; omega), e5]
    rfl
  by_cases h0 : i = 0
  · subst h0
    rw [cond_f (by rfl)]
    rw [from0] at key
    rw [from0]
    exact key
  · obtain ⟨j, rfl⟩ : ∃ j, i = j + 1 := ⟨i - 1, by omega⟩
    have hj : j < ns.length := by have := (List.getElem?_eq_some_iff.1 hn).1; omega
    obtain ⟨m, hm⟩ : ∃ m, ns[j]? = some m := ⟨_, List.getElem?_eq_getElem hj⟩
    obtain ⟨f1, _, f3, f4⟩ := at_F (t := t) (l := l) ns 0 j m hm
    have ej : ((j + 1 : Nat) : Int) - 1 = (j : Int) := by omega
    rw [cond_t (decide_eq_true (by omega)), ej, need_pos (in64 (by omega) (by omega))]
    show (idx (endsF t 0 ns) (j : Int)).bind _ = _
    rw [idx_get f1, Option.bind_some, ← f3]
    exact key
/-- a loop that builds a list -/
theorem build_loop {β T : Type} (M : List β) (b : ((Int × List β) → Option (Sum (List β) T)) → (Int × List β) → Option (Sum (List β) T))
    (hend : ∀ K (k : Nat) o, M.length ≤ k → b K ((k : Int), o) = some (.inl o)) (hstep : ∀ K (k : Nat) y o, M[k]? = some y → o.length = k → b K ((k : Int), o) = K (((k + 1 : Nat) : Int), o ++ [y])) :
    ∀ (F k : Nat), M.length - k < F → k ≤ M.length → iter b F ((k : Int), M.take k) = some (.inl M) := by
  intro F
  induction F with
  | zero => intro k h; omega
  | succ F ih =>
    intro k h hk
    show b (iter b F) _ = _
    by_cases hlt : k < M.length
    · obtain ⟨x, hx⟩ : ∃ x, M[k]? = some x := ⟨_, List.getElem?_eq_getElem hlt⟩
      rw [hstep _ k x _ hx (by simp; omega)]
      have : M.take k ++ [x] = M.take (k + 1) := by rw [List.take_add_one, hx]; rfl
      rw [this]
      exact ih (k + 1) (by omega) hlt
    · rw [hend _ k _ (by omega), List.take_of_length_le (by omega)]
abbrev partF (l : List Nat) (s : Int) (t : Nat) (ns : List Nat) (i : Nat) : TImpl_Geom := ⟨8, layF s, 0, (l.drop (fromF t 0 ns i)).take (ns.getD i 0 * t), [], [], []⟩
theorem parts_p {F : Nat} {l : List Nat} {s : Int} {t : Nat} {ns : List Nat} (hb : l.length ≤ 2000) (hns : ns.length ≤ 2000) (ha : lastF t 0 ns ≤ l.length) (hF : 2001 < F) :
    p_Parts F (gF l (endsF t 0 ns) s) = some ((List.range ns.length).map (partF l s t ns)) := by
  have hM : ((List.range ns.length).map (partF l s t ns)).length = ns.length := by simp
  have hl := build_loop ((List.range ns.length).map (partF l s t ns)) (p_Parts_l2 (gF l (endsF t 0 ns) s) F (ns.length : Int)) (fun K k o hk => by
    unfold p_Parts_l2
    rw [cond_f (decide_eq_false (by simp only; omega))]) (fun K k x o hx ho => by
    have hk := (List.getElem?_eq_some_iff.1 hx).1
    rw [hM] at hk
    obtain ⟨n, hn⟩ : ∃ n, ns[k]? = some n := ⟨_, List.getElem?_eq_getElem hk⟩
    have hxe : x = ⟨8, layF s, 0, (l.drop (fromF t 0 ns k)).take (n * t), [], [], []⟩ := by
      rw [List.getElem?_map, List.getElem?_range hk] at hx
      have := Option.some.inj hx
      rw [← this]
      simp [partF, List.getD_eq_getElem?_getD, hn]
    unfold p_Parts_l2
    simp only
    rw [cond_t (decide_eq_true (by omega)), part_p hb ha hn (by omega), Option.bind_some, need_pos (by simp; omega), succ_cast, need_pos (in64 (by omega) (by omega)), hxe]) F 0 (by omega) (by omega)
  have h' : iter (p_Parts_l2 (gF l (endsF t 0 ns) s) F (ns.length : Int)) F ((0 : Int), []) = some (.inl ((List.range ns.length).map (partF l s t ns))) := hl
  unfold p_Parts
  have hnp : p_NumParts (gF l (endsF t 0 ns) s) = some (ns.length : Int) := by
    unfold p_NumParts p_NumParts_k1
    rw [cond_t (by rfl), cond_t (by rfl)]
    simp only [gF, endsF_len]
  rw [hnp, Option.bind_some, h', Option.bind_some, aft_inl]
  rfl
theorem plcs_part {t n a : Nat} (l : List Nat) : plcsF t ((l.drop a).take (n * t)) 0 n = plcsF t l a n := by
  unfold plcsF
  refine List.map_congr_left fun k hk => ?_
  have hk : k < n := List.mem_range.1 hk
  have hm : (k + 1) * t ≤ n * t := Nat.mul_le_mul_right t hk
  have hs : (k + 1) * t = k * t + t := Nat.succ_mul k t
  show (((l.drop a).take (n * t)).drop (0 + k * t)).take t = (l.drop (a + k * t)).take t
  rw [List.drop_take, List.take_take, List.drop_drop, Nat.min_eq_left (by omega), Nat.zero_add]
end Go.Proofs.Ytdpkjmoeapibnaa.Wk
