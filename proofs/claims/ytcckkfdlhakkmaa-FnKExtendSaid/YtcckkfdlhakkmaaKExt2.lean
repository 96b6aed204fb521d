/- Proved: what the law's tests tell of the numbers of a box. -/
import Derived.Test.YtcckkfdlhakkmaaKExt
namespace Go.Proofs.Ytcckkfdlhakkmaa.Wk
open Go.Vm
set_option linter.unusedVariables false
set_option linter.unusedSimpArgs false
theorem some_p {F : Nat} {ls : List (List Nat)} {p : List Nat} (h1 : ls.length ≤ 2) (h2 : ∀ l, l ∈ ls → l.length ≤ 2147483647) (h3 : p.length ≤ 2147483647) (hF : 2147483660 ≤ F) :
    ∃ b, p_some F ls p = some b ∧ (b = true → p.length ≤ 6 ∧ (∀ x ∈ p, Flt.okF 4697254411347427328 x = true) ∧ ∀ l ∈ ls, l.length = p.length ∧ ∀ x ∈ l, Flt.okF 4697254411347427328 x = true) := by
  have key : ∀ L : List (List Nat), (∀ l, l ∈ L → l.length ≤ 2147483647) → L.length ≤ 2 → p_Grid F L ((p.length : Nat) : Int) 4697254411347427328 = some (gridB L ((p.length : Nat) : Int) 4697254411347427328) := fun L hL hl =>
    grid_p (by omega) (fun l hm => by have := hL l hm; omega) (by omega) (fun l hm => by have := hL l hm; omega)
  have tell : ∀ L : List (List Nat), gridB L ((p.length : Nat) : Int) 4697254411347427328 = true → ∀ l ∈ L, l.length = p.length ∧ ∀ x ∈ l, Flt.okF 4697254411347427328 x = true := fun L hL l hl => by
    unfold gridB at hL
    rw [Bool.and_eq_true] at hL
    have := List.all_eq_true.1 hL.1 l hl
    unfold rowB at this
    rw [Bool.and_eq_true] at this
    exact ⟨by have := of_decide_eq_true this.1; omega, fun x hx => List.all_eq_true.1 this.2 x hx⟩
  unfold p_some
  by_cases c1 : (0 : Int) < ((ls.length : Nat) : Int)
  · rw [cond_t (decide_eq_true c1), cond_t (decide_eq_true (by omega))]
    by_cases c2 : (0 : Int) < ((p.length : Nat) : Int)
    · rw [cond_t (decide_eq_true c2)]
      by_cases c3 : ((p.length : Nat) : Int) ≤ 6
      · rw [cond_t (decide_eq_true c3), key ls h2 h1, Option.bind_some]
        cases hg : gridB ls ((p.length : Nat) : Int) 4697254411347427328 with
        | false => exact ⟨false, rfl, fun h => by cases h⟩
        | true =>
          rw [cond_t rfl, key [p] (fun l hm => by rw [List.mem_singleton.1 hm]; exact h3) (by simp), Option.bind_some]
          exact ⟨_, rfl, fun h => ⟨by omega, (tell [p] h p (by simp)).2, tell ls hg⟩⟩
      · rw [cond_f (decide_eq_false c3)]; exact ⟨_, rfl, fun h => by cases h⟩
    · rw [cond_f (decide_eq_false c2)]; exact ⟨_, rfl, fun h => by cases h⟩
  · rw [cond_f (decide_eq_false c1)]; exact ⟨_, rfl, fun h => by cases h⟩
theorem within_p {m : Nat} (hm : m ≤ 6) {F : Nat} (hF : 10 ≤ F) (a c : Nat → Nat) : ∃ b, p_Within F (kr m a) (kr m c) (kr m a) = some b ∧ (b = true → ∀ j, j < m → fgt (a j) (c j) = false) := by
  have key : ∀ (n i : Nat), m - i < n → i ≤ m → ∃ o, iter (p_Within_l2 (kr m a) (kr m c) (kr m a)) n (i : Int) = some o ∧ (o = .inr false ∨ (o = .inl () ∧ ∀ j, i ≤ j → j < m → fgt (a j) (c j) = false)) := by
    intro n
    induction n with
    | zero => intro i h; omega
    | succ n ih =>
      intro i hn hi
      show ∃ o, p_Within_l2 _ _ _ (iter (p_Within_l2 (kr m a) (kr m c) (kr m a)) n) _ = _ ∧ _
      obtain ⟨K, hK⟩ : ∃ K, K = iter (p_Within_l2 (kr m a) (kr m c) (kr m a)) n := ⟨_, rfl⟩
      rw [← hK] at ih ⊢
      unfold p_Within_l2
      simp only [kr_len]
      by_cases hil : i < m
      · rw [cond_t (decide_eq_true (by omega)), kr_idx hil, Option.bind_some, Option.bind_some]
        cases h1 : Vm.flt (a i) (a i) with
        | true => exact ⟨_, rfl, .inl rfl⟩
        | false =>
          rw [cond_f rfl, kr_idx hil, Option.bind_some]
          cases h2 : fgt (a i) (c i) with
          | true => exact ⟨_, rfl, .inl rfl⟩
          | false =>
            rw [cond_f rfl, need_pos (in64 (by omega) (by omega)), succ_cast]
            obtain ⟨o, h3, h4⟩ := ih (i + 1) (by omega) (by omega)
            refine ⟨o, h3, ?_⟩
            rcases h4 with h4 | ⟨h4, h5⟩
            · exact .inl h4
            · refine .inr ⟨h4, fun j hj hjm => ?_⟩
              by_cases e : j = i
              · subst e; exact h2
              · exact h5 j (by omega) hjm
      · rw [cond_f (decide_eq_false (by omega))]
        exact ⟨_, rfl, .inr ⟨rfl, fun j h1 h2 => by omega⟩⟩
  obtain ⟨o, h1, h2⟩ := key F 0 (by omega) (by omega)
  have h1' : iter (p_Within_l2 (kr m a) (kr m c) (kr m a)) F (0 : Int) = some o := h1
  unfold p_Within
  rw [h1', Option.bind_some]
  rcases h2 with rfl | ⟨rfl, h2⟩
  · exact ⟨false, rfl, fun h => by cases h⟩
  · exact ⟨true, rfl, fun _ j hj => h2 j (by omega) hj⟩
end Go.Proofs.Ytcckkfdlhakkmaa.Wk
