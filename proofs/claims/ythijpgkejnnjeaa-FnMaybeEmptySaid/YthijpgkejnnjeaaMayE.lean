/- Proved: the law of points that may be empty. -/
import Derived.Test.YthijpgkejnnjeaaPMe
namespace Go.Proofs.Ythijpgkejnnjeaa.Wk
open Go.Vm
set_option linter.unusedVariables false
set_option linter.unusedSimpArgs false
theorem feqE : feq 9221120237041090560 9221120237041090560 = false := by decide +kernel
theorem me1 (l : List Nat) (hl : l.length ≤ 9) : ∀ (F i : Nat) (acc : List Nat), l.length - i < F → i ≤ l.length →
    ∃ o, iter (p_FnMaybeEmpty_l2 l) F ((i : Int), acc) = some o ∧ (o = .inr true ∨ (o = .inl acc ∧ ∀ x ∈ l.drop i, x = 9221120237041090560) ∨ (o = .inl l ∧ ∃ x ∈ l.drop i, x ≠ 9221120237041090560)) := by
  intro F
  induction F with
  | zero => intro i acc h; omega
  | succ F ih =>
    intro i acc h hi
    show ∃ o, p_FnMaybeEmpty_l2 l (iter (p_FnMaybeEmpty_l2 l) F) _ = _ ∧ _
    obtain ⟨K, hK⟩ : ∃ K, K = iter (p_FnMaybeEmpty_l2 l) F := ⟨_, rfl⟩
    rw [← hK] at ih ⊢
    unfold p_FnMaybeEmpty_l2
    simp only
    by_cases hil : i < l.length
    · obtain ⟨x, hx⟩ : ∃ x, l[i]? = some x := ⟨_, List.getElem?_eq_getElem hil⟩
      have hd : l.drop i = x :: l.drop (i + 1) := by
        rw [List.drop_eq_getElem_cons hil]
        rw [List.getElem?_eq_getElem hil] at hx
        rw [Option.some.inj hx]
      rw [cond_t (decide_eq_true (by omega)), idx_get hx, Option.bind_some, hd]
      unfold p_gNumber
      rw [Option.bind_some]
      rw [need_pos (in64 (by omega) (by omega)), need_pos (in64 (by omega) (by omega)), succ_cast]
      by_cases hf : feq x x = true
      · rw [cond_t hf]
        have hxe : x ≠ 9221120237041090560 := fun e => by rw [e, feqE] at hf; cases hf
        obtain ⟨o, h1, h2⟩ := ih (i + 1) l (by omega) (by omega)
        refine ⟨o, h1, ?_⟩
        rcases h2 with h2 | ⟨h2, _⟩ | ⟨h2, _⟩
        · exact .inl h2
        · exact .inr (.inr ⟨h2, x, List.mem_cons_self .., hxe⟩)
        · exact .inr (.inr ⟨h2, x, List.mem_cons_self .., hxe⟩)
      · rw [cond_f (by cases hq : feq x x <;> simp_all)]
        by_cases hxe : ((x : Nat) : Int) = 9221120237041090560
        · rw [cond_f (nF hxe)]
          obtain ⟨o, h1, h2⟩ := ih (i + 1) acc (by omega) (by omega)
          refine ⟨o, h1, ?_⟩
          rcases h2 with h2 | ⟨h2, h3⟩ | ⟨h2, y, hy, h3⟩
          · exact .inl h2
          · refine .inr (.inl ⟨h2, fun y hy => ?_⟩)
            rcases List.mem_cons.1 hy with e | hy
            · subst e; omega
            · exact h3 y hy
          · exact .inr (.inr ⟨h2, y, List.mem_cons_of_mem _ hy, h3⟩)
        · rw [cond_t (nT hxe)]
          exact ⟨_, rfl, .inl rfl⟩
    · rw [cond_f (decide_eq_false (by omega)), List.drop_eq_nil_of_le (by omega)]
      exact ⟨_, rfl, .inr (.inl ⟨rfl, fun _ h => by cases h⟩)⟩
theorem me2 (l : List Nat) (hl : l.length ≤ 9) : ∀ (F i : Nat), l.length - i < F → i ≤ l.length →
    ∃ b, iter (p_NewPointFlatMaybeEmpty_l2 l) F (true, (i : Int)) = some (.inl b) ∧ (b = true → ∀ x ∈ l.drop i, x = 9221120237041090560) ∧ (b = false → ∃ x ∈ l.drop i, x ≠ 9221120237041090560) := by
  intro F
  induction F with
  | zero => intro i h; omega
  | succ F ih =>
    intro i h hi
    show ∃ b, p_NewPointFlatMaybeEmpty_l2 l (iter (p_NewPointFlatMaybeEmpty_l2 l) F) _ = _ ∧ _
    obtain ⟨K, hK⟩ : ∃ K, K = iter (p_NewPointFlatMaybeEmpty_l2 l) F := ⟨_, rfl⟩
    rw [← hK] at ih ⊢
    unfold p_NewPointFlatMaybeEmpty_l2
    simp only
    by_cases hil : i < l.length
    · obtain ⟨x, hx⟩ : ∃ x, l[i]? = some x := ⟨_, List.getElem?_eq_getElem hil⟩
      have hd : l.drop i = x :: l.drop (i + 1) := by
        rw [List.drop_eq_getElem_cons hil]
        rw [List.getElem?_eq_getElem hil] at hx
        rw [Option.some.inj hx]
      rw [cond_t (decide_eq_true (by omega)), idx_get hx, Option.bind_some, hd]
      by_cases hxe : ((x : Nat) : Int) = 9221120237041090560
      · rw [cond_f (nF hxe), need_pos (in64 (by omega) (by omega)), succ_cast]
        obtain ⟨b, h1, h2, h3⟩ := ih (i + 1) (by omega) (by omega)
        refine ⟨b, h1, fun hb y hy => ?_, fun hb => ?_⟩
        · rcases List.mem_cons.1 hy with e | hy
          · subst e; omega
          · exact h2 hb y hy
        · obtain ⟨y, hy, h4⟩ := h3 hb
          exact ⟨y, List.mem_cons_of_mem _ hy, h4⟩
      · rw [cond_t (nT hxe)]
        exact ⟨false, rfl, (fun h => by cases h), fun _ => ⟨x, List.mem_cons_self .., by omega⟩⟩
    · rw [cond_f (decide_eq_false (by omega)), List.drop_eq_nil_of_le (by omega)]
      exact ⟨true, rfl, (fun _ _ h => by cases h), fun h => by cases h⟩
theorem meStride {s : Int} (h1 : 1 ≤ s) (h9 : s ≤ 9) : ∃ n, p_Stride s = some n ∧ 2 ≤ n ∧ n ≤ 9 ∧ p_Layout_Stride s = some n := by
  have : s = 1 ∨ s = 2 ∨ s = 3 ∨ s = 4 ∨ s = 5 ∨ s = 6 ∨ s = 7 ∨ s = 8 ∨ s = 9 := by omega
  rcases this with rfl | rfl | rfl | rfl | rfl | rfl | rfl | rfl | rfl <;> exact ⟨_, rfl, by decide, by decide, rfl⟩
theorem meSame {F : Nat} (l : List Nat) (hl : l.length ≤ 9) (hF : 20 < F) : p_SameFloats F l l = some true := by
  unfold p_SameFloats
  rw [cond_f (nF rfl)]
  have key : ∀ (n i : Nat), l.length - i < n → i ≤ l.length → iter (p_SameFloats_l2 l l) n (i : Int) = some (.inl ()) := by
    intro n
    induction n with
    | zero => intro i h; omega
    | succ n ih =>
      intro i h hi
      show p_SameFloats_l2 l l (iter (p_SameFloats_l2 l l) n) _ = _
      unfold p_SameFloats_l2
      by_cases hil : i < l.length
      · rw [cond_t (decide_eq_true (by omega)), idx_get (List.getElem?_eq_getElem hil), Option.bind_some, Option.bind_some, cond_f (nF rfl), need_pos (in64 (by omega) (by omega)), succ_cast]
        exact ih (i + 1) (by omega) (by omega)
      · rw [cond_f (decide_eq_false (by omega))]
  have h := key F 0 (by omega) (by omega)
  rw [show (0 : Int) = ((0 : Nat) : Int) from rfl, h]
  rfl
theorem meGeom {F : Nat} (a : Int) (l : List Nat) (hl : l.length ≤ 9) (hF : 30 < F) : p_SameGeom F (TImpl_Geom.mk 1 a 0 l [] [] []) (TImpl_Geom.mk 1 a 0 l [] [] []) = some true := by
  obtain ⟨F, rfl⟩ : ∃ n, F = n + 2 := ⟨F - 2, by omega⟩
  show p_SameGeom_b (fun a0 a1 => p_SameGeom (F + 1) a0 a1) (F + 1) _ _ = _
  unfold p_SameGeom_b
  dsimp only
  rw [cond_f (nF rfl), cond_f (nF rfl), cond_f (nF rfl), meSame l hl (by omega), Option.bind_some]
  rfl
theorem may_p {F : Nat} (hF : 40 ≤ F) (a : Int) (l : List Nat) : p_FnMaybeEmpty F a l = some true := by
  unfold p_FnMaybeEmpty
  by_cases h1 : (2147483647 : Int) < ((l.length : Nat) : Int)
  · rw [cond_t (decide_eq_true h1)]
  rw [cond_f (decide_eq_false h1)]
  by_cases h2 : 1 ≤ a ∧ a ≤ 9
  · obtain ⟨n, e1, n2, n9, e2⟩ := meStride h2.1 h2.2
    unfold p_gCoord
    rw [cond_t (decide_eq_true h2.1), cond_t (decide_eq_true h2.2), e1, Option.bind_some, Option.bind_some]
    by_cases h3 : ((l.length : Nat) : Int) = n
    · rw [cond_f (nF h3)]
      have hl : l.length ≤ 9 := by omega
      obtain ⟨o, h4, h5⟩ := me1 l hl F 0 [] (by omega) (by omega)
      have h4' : iter (p_FnMaybeEmpty_l2 l) F ((0 : Int), []) = some o := h4
      rw [h4', Option.bind_some]
      rcases h5 with rfl | ⟨rfl, h5⟩ | ⟨rfl, h5⟩
      · rfl
      all_goals
        rw [aft_inl]
        unfold p_FnMaybeEmpty_k1 p_MaybeEmpty p_floats
        rw [need_pos (by omega), Option.bind_some]
        obtain ⟨b, h6, h7, h8⟩ := me2 l hl F 0 (by omega) (by omega)
        have h6' : iter (p_NewPointFlatMaybeEmpty_l2 l) F (true, (0 : Int)) = some (.inl b) := h6
        unfold p_NewPointFlatMaybeEmpty
        rw [h6', Option.bind_some, aft_inl]
        unfold p_NewPointFlatMaybeEmpty_k1 p_NewPointEmpty p_NewPointFlat
        rw [e2, Option.bind_some, Option.bind_some, Option.bind_some]
        obtain ⟨F, rfl⟩ : ∃ n, F = n + 1 := ⟨F - 1, by omega⟩
      · have hb : b = true := by
          cases b
          · obtain ⟨x, hx, h9⟩ := h8 rfl
            exact absurd (h5 x hx) h9
          · rfl
        rw [cond_t hb, Option.bind_some, need_pos (show List.length ([] : List Nat) ≤ 4294967296 from Nat.zero_le _), Option.bind_some]
        show (p_SameGeom (F + 1) (TImpl_Geom.mk 1 a 0 [] [] [] []) (TImpl_Geom.mk 1 a 0 [] [] [] [])).bind _ = _
        rw [meGeom a [] (by decide) (by omega)]
        rfl
      · have hb : b = false := by
          cases b
          · rfl
          · obtain ⟨x, hx, h9⟩ := h5
            exact absurd (h7 rfl x hx) h9
        rw [cond_f hb, Option.bind_some, Option.bind_some, Option.bind_some, need_pos (show l.length ≤ 4294967296 by omega), Option.bind_some]
        show (p_SameGeom (F + 1) (TImpl_Geom.mk 1 a 0 l [] [] []) (TImpl_Geom.mk 1 a 0 l [] [] [])).bind _ = _
        rw [meGeom a l hl (by omega)]
        rfl
    · rw [cond_t (nT h3)]
  · unfold p_gCoord
    by_cases h3 : 1 ≤ a
    · rw [cond_t (decide_eq_true h3), cond_f (decide_eq_false (by omega))]
      rfl
    · rw [cond_f (decide_eq_false h3)]
      rfl
end Go.Proofs.Ythijpgkejnnjeaa.Wk
