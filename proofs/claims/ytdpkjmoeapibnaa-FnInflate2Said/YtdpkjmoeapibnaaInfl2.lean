/- Proved: flat lines, put up as places, lines of them. -/
import Derived.Test.YtdpkjmoeapibnaaInfl
namespace Go.Proofs.Ytdpkjmoeapibnaa.Wk
open Go.Vm
set_option linter.unusedVariables false
set_option linter.unusedSimpArgs false
/-- lines of places -/
def linesF (t : Nat) (l : List Nat) : Nat → List Nat → List (List (List Nat))
  | _, [] => []
  | a, n :: r => plcsF t l a n :: linesF t l (a + n * t) r
theorem linesF_len {t : Nat} {l : List Nat} : ∀ (ns : List Nat) (a : Nat), (linesF t l a ns).length = ns.length
  | [], a => rfl
  | n :: r, a => by simp [linesF, linesF_len r]
/-- where line number i begins -/
def fromF (t : Nat) : Nat → List Nat → Nat → Nat
  | a, [], _ => a
  | a, _ :: _, 0 => a
  | a, n :: r, i + 1 => fromF t (a + n * t) r i
theorem at_F {t : Nat} {l : List Nat} : ∀ (ns : List Nat) (a i n : Nat), ns[i]? = some n →
    (endsF t a ns)[i]? = some ((fromF t a ns i + n * t : Nat) : Int) ∧ (linesF t l a ns)[i]? = some (plcsF t l (fromF t a ns i) n) ∧ fromF t a ns (i + 1) = fromF t a ns i + n * t ∧ fromF t a ns i + n * t ≤ lastF t a ns
  | [], a, i, n, h => by simp at h
  | m :: r, a, 0, n, h => by
    simp at h; subst h
    refine ⟨rfl, rfl, ?_, lastF_le r _⟩
    cases r <;> rfl
  | m :: r, a, i + 1, n, h => at_F r (a + m * t) i n (by simpa using h)
theorem from0 {t a : Nat} : ∀ ns : List Nat, fromF t a ns 0 = a
  | [] => rfl
  | _ :: _ => rfl
theorem set_next {α : Type} {L : List α} {z x : α} {i n : Nat} (hi : i < n) (hx : L[i]? = some x) : (L.take i ++ List.replicate (n - i) z).set i x = L.take (i + 1) ++ List.replicate (n - (i + 1)) z := by
  have hl : (L.take i).length = i := by
    have := (List.getElem?_eq_some_iff.1 hx).1
    simp; omega
  have : n - i = (n - (i + 1)) + 1 := by omega
  rw [this, List.replicate_succ, List.set_append_right _ _ (Nat.le_of_eq hl), hl, Nat.sub_self, List.set_cons_zero, List.take_add_one, hx]
  simp
theorem inflate2_loop {G : Nat} {l : List Nat} {t : Nat} {ns : List Nat} (h2 : 2 ≤ t) (h9 : t ≤ 9) (hl : l.length ≤ 2000) (hns : ns.length ≤ 2000) (ha : lastF t 0 ns ≤ l.length) (hG : 2001 < G) : ∀ (F i : Nat), ns.length - i < F → i ≤ ns.length →
    iter (p_inflate2_l2 l (endsF t 0 ns) (t : Int) G) F ((fromF t 0 ns i : Int), (i : Int), (linesF t l 0 ns).take i ++ List.replicate (ns.length - i) []) = some (.inl (linesF t l 0 ns)) := by
  intro F
  induction F with
  | zero => intro i h; omega
  | succ F ih =>
    intro i h hi
    show p_inflate2_l2 l _ _ _ (iter (p_inflate2_l2 l _ _ _) F) _ = _
    generalize hK : iter (p_inflate2_l2 l (endsF t 0 ns) (t : Int) G) F = K at *
    unfold p_inflate2_l2
    simp only [endsF_len]
    have en : ((ns.length : Int)).toNat = ns.length := rfl
    rw [en]
    by_cases hin : i < ns.length
    · obtain ⟨n, hn⟩ : ∃ n, ns[i]? = some n := ⟨_, List.getElem?_eq_getElem hin⟩
      obtain ⟨e1, e2, e3, e4⟩ := at_F (l := l) ns 0 i n hn
      rw [cond_t (decide_eq_true (by omega)), idx_get e1, Option.bind_some, inflate1_p h2 h9 hl (by omega) hG, Option.bind_some, need_pos (by omega)]
      have hll : ((linesF t l 0 ns).take i).length = i := by simp [linesF_len]; omega
      rw [need_pos (by rw [List.length_append, hll]; simp; omega), succ_cast, need_pos (in64 (by omega) (by omega)), show ((i : Int)).toNat = i from rfl, set_next hin e2, ← e3]
      exact ih (i + 1) (by omega) hin
    · have : i = ns.length := by omega
      subst this
      rw [cond_f (decide_eq_false (by omega))]
      have : (linesF t l 0 ns).take ns.length = linesF t l 0 ns := List.take_of_length_le (by rw [linesF_len]; exact Nat.le_refl _)
      simp [this]
theorem inflate2_p {F : Nat} {l : List Nat} {t : Nat} {ns : List Nat} (h2 : 2 ≤ t) (h9 : t ≤ 9) (hl : l.length ≤ 2000) (hns : ns.length ≤ 2000) (ha : lastF t 0 ns ≤ l.length) (hF : 2001 < F) :
    p_inflate2 F l (0 : Int) (endsF t 0 ns) (t : Int) = some (linesF t l 0 ns) := by
  have hloop := inflate2_loop h2 h9 hl hns ha hF F 0 (by omega) (by omega)
  simp only [List.take_zero, List.nil_append, Nat.sub_zero, from0] at hloop
  unfold p_inflate2
  rw [endsF_len, need_pos (by omega)]
  have hloop' : iter (p_inflate2_l2 l (endsF t 0 ns) (t : Int) F) F ((0 : Int), (0 : Int), List.replicate ns.length []) = some (.inl (linesF t l 0 ns)) := hloop
  rw [show ((ns.length : Int)).toNat = ns.length from rfl, hloop', Option.bind_some, aft_inl]
  unfold p_inflate2_k1
  rw [endsF_len, need_pos (by rw [linesF_len]; rfl)]
/-- a loop that copies -/
theorem copy_loop {α β : Type} (L : List α) (b : ((Int × List β) → Option (Sum (List β) (List β))) → (Int × List β) → Option (Sum (List β) (List β))) (f : α → β)
    (hend : ∀ K (k : Nat) o, L.length ≤ k → b K ((k : Int), o) = some (.inl o)) (hstep : ∀ K (k : Nat) x o, L[k]? = some x → o.length = k → b K ((k : Int), o) = K (((k + 1 : Nat) : Int), o ++ [f x])) :
    ∀ (F k : Nat), L.length - k < F → k ≤ L.length → iter b F ((k : Int), (L.take k).map f) = some (.inl (L.map f)) := by
  intro F
  induction F with
  | zero => intro k h; omega
  | succ F ih =>
    intro k h hk
    show b (iter b F) _ = _
    by_cases hlt : k < L.length
    · obtain ⟨x, hx⟩ : ∃ x, L[k]? = some x := ⟨_, List.getElem?_eq_getElem hlt⟩
      rw [hstep _ k x _ hx (by simp; omega)]
      have : (L.take k).map f ++ [f x] = (L.take (k + 1)).map f := by rw [List.take_add_one, hx]; simp
      rw [this]
      exact ih (k + 1) (by omega) hlt
    · rw [hend _ k _ (by omega), List.take_of_length_le (by omega)]
theorem plain1_p {F : Nat} (L : List (List Nat)) (hL : L.length ≤ 2000) (h1 : ∀ x ∈ L, x.length ≤ 2000) (hF : 2001 < F) : p_plain1 F L = some L := by
  have := copy_loop L (p_plain1_l2 L) id (fun K k o hk => by
    unfold p_plain1_l2
    rw [cond_f (decide_eq_false (by simp only; omega))]) (fun K k x o hx ho => by
    have hk := (List.getElem?_eq_some_iff.1 hx).1
    have := h1 x (List.mem_of_getElem? hx)
    unfold p_plain1_l2 p_floats
    simp only
    rw [cond_t (decide_eq_true (by omega)), idx_get hx, Option.bind_some, need_pos (by omega), Option.bind_some, need_pos (by simp; omega), succ_cast, need_pos (in64 (by omega) (by omega))]
    rfl) F 0 (by omega) (by omega)
  have h' : iter (p_plain1_l2 L) F ((0 : Int), []) = some (.inl L) := by simpa using this
  unfold p_plain1
  rw [h', Option.bind_some]
  rfl
theorem plain2_p {F : Nat} (L : List (List (List Nat))) (hL : L.length ≤ 2000) (h1 : ∀ x ∈ L, x.length ≤ 2000 ∧ ∀ y ∈ x, y.length ≤ 2000) (hF : 2001 < F) : p_plain2 F L = some L := by
  have := copy_loop L (p_plain2_l2 L F) id (fun K k o hk => by
    unfold p_plain2_l2
    rw [cond_f (decide_eq_false (by simp only; omega))]) (fun K k x o hx ho => by
    have hk := (List.getElem?_eq_some_iff.1 hx).1
    have := h1 x (List.mem_of_getElem? hx)
    unfold p_plain2_l2
    simp only
    rw [cond_t (decide_eq_true (by omega)), idx_get hx, Option.bind_some, plain1_p x this.1 this.2 hF, Option.bind_some, need_pos (by simp; omega), succ_cast, need_pos (in64 (by omega) (by omega))]
    rfl) F 0 (by omega) (by omega)
  have h' : iter (p_plain2_l2 L F) F ((0 : Int), []) = some (.inl L) := by simpa using this
  unfold p_plain2
  rw [h', Option.bind_some]
  rfl
end Go.Proofs.Ytdpkjmoeapibnaa.Wk
