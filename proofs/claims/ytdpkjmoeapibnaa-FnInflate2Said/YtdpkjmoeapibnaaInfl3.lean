/- Proved: the law of flat lines, put up as places. -/
import Derived.Test.YtdpkjmoeapibnaaInfl2
namespace Go.Proofs.Ytdpkjmoeapibnaa.Wk
open Go.Vm
set_option linter.unusedVariables false
set_option linter.unusedSimpArgs false
theorem rows_loop {l : List Nat} {t n : Nat} (h2 : 2 ≤ t) (h9 : t ≤ 9) (hl : l.length = n * t) (hb : l.length ≤ 2000) : ∀ (F i : Nat), n - i < F → i ≤ n →
    iter (p_Rows_l2 l (t : Int)) F (((i * t : Nat) : Int), plcsF t l 0 i) = some (.inl (plcsF t l 0 n)) := by
  intro F
  induction F with
  | zero => intro i h; omega
  | succ F ih =>
    intro i h hi
    have hms : i * t ≤ n * t := Nat.mul_le_mul_right t hi
    have hni : i ≤ 2000 := Nat.le_trans (Nat.le_mul_of_pos_right i (by omega : 0 < t)) (by omega)
    show p_Rows_l2 l _ (iter (p_Rows_l2 l _) F) _ = _
    generalize hK : iter (p_Rows_l2 l (t : Int)) F = K at *
    unfold p_Rows_l2
    simp only
    by_cases hin : i < n
    · have hm : (i + 1) * t ≤ n * t := Nat.mul_le_mul_right t hin
      have hs : (i + 1) * t = i * t + t := Nat.succ_mul i t
      rw [need_pos (in64 (by omega) (by omega)), cond_t (decide_eq_true (by omega))]
      unfold p_Rows_k3
      simp only
      have hlen : (plcsF t l 0 i).length = i := by simp [plcsF]
      rw [decide_eq_true (by omega : (0 : Int) < (t : Int)), cond_t rfl, need_pos (in64 (by omega) (by omega)), need_pos ⟨⟨by omega, by omega⟩, by omega, by omega⟩, need_pos (by rw [hlen]; simp; omega), need_pos (in64 (by omega) (by omega))]
      have e1 : (((i * t : Nat) : Int) + (t : Int)).toNat - (((i * t : Nat) : Int)).toNat = t := by omega
      have e2 : ((i * t : Nat) : Int) + (t : Int) = (((i + 1) * t : Nat) : Int) := by omega
      have e3 : (((i * t : Nat) : Int)).toNat = 0 + i * t := by omega
      rw [e1, e2, e3]
      have e4 : plcsF t l 0 i ++ [(l.drop (0 + i * t)).take t] = plcsF t l 0 (i + 1) := by
        unfold plcsF
        rw [List.range_succ, List.map_append]
        rfl
      rw [e4]
      exact ih (i + 1) (by omega) hin
    · have : i = n := by omega
      subst this
      rw [need_pos (in64 (by omega) (by omega)), cond_f (decide_eq_false (by omega))]
      unfold p_Rows_k3
      rw [cond_f rfl]
theorem gPlaces_p {F : Nat} {l : List Nat} {s : Int} {t n : Nat} (hst : s = (t : Int)) (h2 : 2 ≤ t) (h9 : t ≤ 9) (hl : l.length = n * t) (hb : l.length ≤ 2000) (hF : 2001 < F) :
    p_gPlaces F ⟨8, layF s, 0, l, [], [], []⟩ = some (plcsF t l 0 n) := by
  subst hst
  have hn : n ≤ 2000 := Nat.le_trans (Nat.le_mul_of_pos_right n (by omega : 0 < t)) (by omega)
  unfold p_gPlaces
  rw [cond_t (by rfl)]
  show (p_Stride (layF (t : Int))).bind _ = _
  rw [(strideF (by omega) (by omega)).1, Option.bind_some]
  unfold p_Rows
  have h := rows_loop h2 h9 hl hb F 0 (by omega) (by omega)
  simp only [Nat.zero_mul] at h
  have h' : iter (p_Rows_l2 l (t : Int)) F ((0 : Int), []) = some (.inl (plcsF t l 0 n)) := h
  show ((iter (p_Rows_l2 l (t : Int)) F ((0 : Int), [])).bind _).bind _ = _
  rw [h', Option.bind_some, aft_inl]
  rfl
/-- line number i -/
theorem part_p {F : Nat} {l : List Nat} {s : Int} {t : Nat} {ns : List Nat} (hb : l.length ≤ 2000) (ha : lastF t 0 ns ≤ l.length) {i n : Nat} (hn : ns[i]? = some n) (hil : i ≤ 2000) :
    p_Part F (gF l (endsF t 0 ns) s) (i : Int) = some ⟨8, layF s, 0, (l.drop (fromF t 0 ns i)).take (n * t), [], [], []⟩ := by
  obtain ⟨e1, _, e3, e4⟩ := at_F (t := t) (l := l) ns 0 i n hn
  unfold p_Part
  rw [cond_f (by rfl), cond_f (by rfl)]
  have key : p_Part_k5 (gF l (endsF t 0 ns) s) (i : Int) (fromF t 0 ns i : Int) = some ⟨8, layF s, 0, (l.drop (fromF t 0 ns i)).take (n * t), [], [], []⟩ := by
    unfold p_Part_k5
    rw [cond_f (by rfl)]
    unfold p_Part_k6
    show (idx (endsF t 0 ns) (i : Int)).bind _ = _
    rw [idx_get e1, Option.bind_some]
    have e5 : (((fromF t 0 ns i + n * t : Nat) : Int)).toNat - ((fromF t 0 ns i : Int)).toNat = n * t := by omega
    dsimp only [gF]
    rw [need_pos (by omega), need_pos (by simp; omega), e5]
    rfl
  by_cases h0 : i = 0
  · subst h0
    rw [cond_f (by rfl)]
    rw [from0] at key
    rw [from0]
    exact key
  · obtain ⟨j, rfl⟩ : ∃ j, i = j + 1 := ⟨i - 1, by omega⟩
    have hj : j < ns.length := by have := (List.getElem?_eq_some_iff.1 hn).1; omega
    obtain ⟨m, hm⟩ : ∃ m, ns[j]? = some m := ⟨_, List.getElem?_eq_getElem hj⟩
    obtain ⟨f1, _, f3, f4⟩ := at_F (t := t) (l := l) ns 0 j m hm
    have ej : ((j + 1 : Nat) : Int) - 1 = (j : Int) := by omega
    rw [cond_t (decide_eq_true (by omega)), ej, need_pos (in64 (by omega) (by omega))]
    show (idx (endsF t 0 ns) (j : Int)).bind _ = _
    rw [idx_get f1, Option.bind_some, ← f3]
    exact key
end Go.Proofs.Ytdpkjmoeapibnaa.Wk
