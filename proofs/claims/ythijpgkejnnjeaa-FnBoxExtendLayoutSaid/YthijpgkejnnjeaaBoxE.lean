/- Proved: the law of a box that gets the axes of a layout. -/
import Derived.Test.YthijpgkejnnjeaaPXl
import Derived.Test.YthijpgkejnnjeaaPureKit
namespace Go.Proofs.Ythijpgkejnnjeaa.Wk
open Go.Vm
set_option linter.unusedVariables false
set_option linter.unusedSimpArgs false
theorem be_in {x : TImpl_Box} (hl : x.Max.length = x.Min.length) (h9 : x.Min.length ≤ 9) : ∀ (F i : Nat), x.Min.length - i < F → i ≤ x.Min.length →
    ∃ o, iter (p_bBox_l5 x) F (i : Int) = some o ∧ (o = .inr false ∨ (o = .inl () ∧ (∀ y ∈ x.Min.drop i, feq y y = true) ∧ ∀ y ∈ x.Max.drop i, feq y y = true)) := by
  intro F
  induction F with
  | zero => intro i h; omega
  | succ F ih =>
    intro i h hi
    show ∃ o, p_bBox_l5 x (iter (p_bBox_l5 x) F) _ = _ ∧ _
    obtain ⟨K, hK⟩ : ∃ K, K = iter (p_bBox_l5 x) F := ⟨_, rfl⟩
    rw [← hK] at ih ⊢
    unfold p_bBox_l5
    by_cases hil : i < x.Min.length
    · obtain ⟨u, hu⟩ : ∃ u, x.Min[i]? = some u := ⟨_, List.getElem?_eq_getElem hil⟩
      obtain ⟨v, hv⟩ : ∃ v, x.Max[i]? = some v := ⟨_, List.getElem?_eq_getElem (by omega)⟩
      have hd : x.Min.drop i = u :: x.Min.drop (i + 1) := by
        rw [List.drop_eq_getElem_cons hil]
        rw [List.getElem?_eq_getElem hil] at hu
        rw [Option.some.inj hu]
      have hd2 : x.Max.drop i = v :: x.Max.drop (i + 1) := by
        have hil2 : i < x.Max.length := by omega
        rw [List.drop_eq_getElem_cons hil2]
        rw [List.getElem?_eq_getElem hil2] at hv
        rw [Option.some.inj hv]
      unfold p_gNumber
      rw [cond_t (decide_eq_true (by omega)), idx_get hu, Option.bind_some, Option.bind_some, idx_get hv, Option.bind_some, Option.bind_some, hd, hd2, need_pos (in64 (by omega) (by omega)), succ_cast]
      cases h1 : feq u u with
      | false => exact ⟨_, rfl, .inl rfl⟩
      | true =>
        cases h2 : feq v v with
        | false => exact ⟨_, rfl, .inl rfl⟩
        | true =>
          obtain ⟨o, h3, h4⟩ := ih (i + 1) (by omega) (by omega)
          refine ⟨o, h3, ?_⟩
          rcases h4 with h4 | ⟨h4, h5, h6⟩
          · exact .inl h4
          · refine .inr ⟨h4, fun y hy => ?_, fun y hy => ?_⟩
            · rcases List.mem_cons.1 hy with e | hy
              · subst e; exact h1
              · exact h5 y hy
            · rcases List.mem_cons.1 hy with e | hy
              · subst e; exact h2
              · exact h6 y hy
    · rw [cond_f (decide_eq_false (by omega)), List.drop_eq_nil_of_le (by omega), List.drop_eq_nil_of_le (by omega)]
      exact ⟨_, rfl, .inr ⟨rfl, (fun _ h => by cases h), fun _ h => by cases h⟩⟩
theorem be_stride {s : Int} (h1 : 0 ≤ s) (h9 : s ≤ 9) : ∃ n : Nat, p_Stride s = some (n : Int) ∧ n ≤ 9 ∧ (s ≤ 4 → (s = 0 ∧ n = 0) ∨ (s = 1 ∧ n = 2) ∨ (s = 2 ∧ n = 3) ∨ (s = 3 ∧ n = 3) ∨ (s = 4 ∧ n = 4)) := by
  have : s = 0 ∨ s = 1 ∨ s = 2 ∨ s = 3 ∨ s = 4 ∨ s = 5 ∨ s = 6 ∨ s = 7 ∨ s = 8 ∨ s = 9 := by omega
  rcases this with rfl | rfl | rfl | rfl | rfl | rfl | rfl | rfl | rfl | rfl
  · exact ⟨0, rfl, by decide, by omega⟩
  · exact ⟨2, rfl, by decide, by omega⟩
  · exact ⟨3, rfl, by decide, by omega⟩
  · exact ⟨3, rfl, by decide, by omega⟩
  · exact ⟨4, rfl, by decide, by omega⟩
  · exact ⟨5, rfl, by decide, by omega⟩
  · exact ⟨6, rfl, by decide, by omega⟩
  · exact ⟨7, rfl, by decide, by omega⟩
  · exact ⟨8, rfl, by decide, by omega⟩
  · exact ⟨9, rfl, by decide, by omega⟩
theorem be_box (x : TImpl_Box) : ∃ b, p_bBox 40 [x] = some b ∧ (b = true → ∃ n : Nat, p_Stride x.Layout = some (n : Int) ∧ 0 ≤ x.Layout ∧ (x.Layout ≤ 4 → (x.Layout = 0 ∧ n = 0) ∨ (x.Layout = 1 ∧ n = 2) ∨ (x.Layout = 2 ∧ n = 3) ∨ (x.Layout = 3 ∧ n = 3) ∨ (x.Layout = 4 ∧ n = 4)) ∧
    x.Min.length = n ∧ x.Max.length = n ∧ (∀ y ∈ x.Min, feq y y = true) ∧ ∀ y ∈ x.Max, feq y y = true) := by
  unfold p_bBox
  have bad : ∀ K, p_bBox_k3 40 0 K x true = some (.inr false) := fun K => rfl
  show ∃ b, ((p_bBox_l2 [x] 40 (iter (p_bBox_l2 [x] 40) 39) 0).bind _) = _ ∧ _
  obtain ⟨K, hK⟩ : ∃ K, K = iter (p_bBox_l2 [x] 40) 39 := ⟨_, rfl⟩
  have hK1 : K 1 = some (.inl ()) := by rw [hK]; rfl
  rw [← hK]
  unfold p_bBox_l2
  rw [cond_t (show decide ((0 : Int) < (([x].length : Nat) : Int)) = true from rfl), show idx [x] (0 : Int) = some x from rfl, Option.bind_some]
  by_cases h1 : x.Layout < 0
  · rw [cond_t (decide_eq_true h1), bad]; exact ⟨false, rfl, fun h => by cases h⟩
  rw [cond_f (decide_eq_false h1)]
  by_cases h2 : 9 < x.Layout
  · rw [cond_t (decide_eq_true h2), bad]; exact ⟨false, rfl, fun h => by cases h⟩
  rw [cond_f (decide_eq_false h2)]
  obtain ⟨n, e1, n9, e2⟩ := be_stride (s := x.Layout) (by omega) (by omega)
  rw [e1, Option.bind_some]
  by_cases h3 : ((x.Min.length : Nat) : Int) = (n : Int)
  · rw [cond_f (nF h3)]
    by_cases h4 : ((x.Max.length : Nat) : Int) = ((x.Min.length : Nat) : Int)
    · rw [nF h4]
      unfold p_bBox_k3
      rw [cond_f rfl]
      obtain ⟨o, h5, h6⟩ := be_in (x := x) (by omega) (by omega) 40 0 (by omega) (by omega)
      have h5' : iter (p_bBox_l5 x) 40 (0 : Int) = some o := h5
      rw [h5', Option.bind_some]
      rcases h6 with rfl | ⟨rfl, h6, h7⟩
      · exact ⟨false, rfl, fun h => by cases h⟩
      · rw [aft_inl]
        unfold p_bBox_k4
        rw [need_pos (in64 (by omega) (by omega)), show (0 : Int) + 1 = 1 from rfl, hK1]
        exact ⟨true, rfl, fun _ => ⟨n, rfl, by omega, e2, by omega, by omega, h6, h7⟩⟩
    · rw [nT h4, bad]; exact ⟨false, rfl, fun h => by cases h⟩
  · rw [cond_t (nT h3), bad]; exact ⟨false, rfl, fun h => by cases h⟩
theorem be_same {x : TImpl_Box} (hl : x.Max.length = x.Min.length) (h9 : x.Min.length ≤ 9) (h1 : ∀ y ∈ x.Min, feq y y = true) (h2 : ∀ y ∈ x.Max, feq y y = true) : p_SameBox 40 x x = some true := by
  unfold p_SameBox
  rw [cond_f (nF rfl), cond_f (nF rfl), cond_f (nF rfl), nF (show ((x.Min.length : Nat) : Int) = ((x.Max.length : Nat) : Int) by omega)]
  unfold p_SameBox_k1
  rw [cond_f rfl]
  have key : ∀ (n i : Nat), x.Min.length - i < n → i ≤ x.Min.length → iter (p_SameBox_l3 x x) n (i : Int) = some (.inl ()) := by
    intro n
    induction n with
    | zero => intro i h; omega
    | succ n ih =>
      intro i h hi
      show p_SameBox_l3 x x (iter (p_SameBox_l3 x x) n) _ = _
      unfold p_SameBox_l3
      by_cases hil : i < x.Min.length
      · have hu := List.getElem?_eq_getElem hil
        have hv := List.getElem?_eq_getElem (show i < x.Max.length by omega)
        rw [cond_t (decide_eq_true (by omega)), idx_get hu, Option.bind_some, Option.bind_some, h1 _ (List.mem_of_getElem? hu), cond_f (rfl : (!true) = false), idx_get hv, Option.bind_some, Option.bind_some, h2 _ (List.mem_of_getElem? hv), cond_f (rfl : (!true) = false), need_pos (in64 (by omega) (by omega)), succ_cast]
        exact ih (i + 1) (by omega) (by omega)
      · rw [cond_f (decide_eq_false (by omega))]
  have h := key 40 0 (by omega) (by omega)
  rw [show (0 : Int) = ((0 : Nat) : Int) from rfl, h]
  rfl
theorem be_inf : feq 9218868437227405312 9218868437227405312 = true ∧ feq 18442240474082181120 18442240474082181120 = true := by decide +kernel
end Go.Proofs.Ythijpgkejnnjeaa.Wk
