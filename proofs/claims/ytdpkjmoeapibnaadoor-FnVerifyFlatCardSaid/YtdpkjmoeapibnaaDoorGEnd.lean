/- Proved: ends that ascend by whole places. -/
import Derived.Test.YtdpkjmoeapibnaaDoorGSml
namespace Go.Proofs.YtdpkjmoeapibnaaDoor.Wk
open Go.Vm
set_option linter.unusedVariables false
set_option linter.unusedSimpArgs false
/-- Ends that ascend by whole places, to q. -/
def EndsG (s : Int) (q : Int) : Int → List Int → Prop
  | p, [] => p = q
  | p, e :: r => p ≤ e ∧ Int.tmod (e - p) s = 0 ∧ EndsG s q e r
theorem goodEnds_loop {s : Int} (hs : 2 ≤ s) {l : List Int} (hl : ∀ x ∈ l, inI .i64 x) (hll : l.length < 4611686018427387904) : ∀ (F i : Nat) (p : Int), l.length - i < F → i ≤ l.length → 0 ≤ p →
    ∃ o, iter (p_goodEnds_l2 l s false) F (p, (i : Int)) = some o ∧ ((∃ q, o = .inl q ∧ EndsG s q p (l.drop i)) ∨ ∃ q, o = .inr (q, false)) := by
  intro F
  induction F with
  | zero => intro i p h; omega
  | succ F ih =>
    intro i p h hi h0
    show ∃ o, p_goodEnds_l2 l s false (iter (p_goodEnds_l2 l s false) F) _ = _ ∧ _
    generalize hK : iter (p_goodEnds_l2 l s false) F = K at *
    unfold p_goodEnds_l2
    simp only
    by_cases hil : i < l.length
    · obtain ⟨x, hx⟩ : ∃ x, l[i]? = some x := ⟨_, List.getElem?_eq_getElem hil⟩
      have hxi := hl x (List.mem_of_getElem? hx)
      have hd : l.drop i = x :: l.drop (i + 1) := by
        rw [List.drop_eq_getElem_cons hil]
        rw [List.getElem?_eq_getElem hil] at hx
        rw [Option.some.inj hx]
      rw [cond_t (decide_eq_true (by omega)), idx_get hx, Option.bind_some, hd]
      by_cases hxp : x < p
      · rw [cond_t (decide_eq_true hxp)]
        exact ⟨_, rfl, .inr ⟨_, rfl⟩⟩
      · have hin : inI .i64 (x - p) := ⟨by simp only [lo]; omega, by have := hxi.2; simp only [Go.Vm.hi] at *; omega⟩
        rw [cond_f (decide_eq_false hxp), need_pos hin, need_pos (by omega)]
        by_cases ht : Int.tmod (x - p) s = 0
        · rw [cond_f (nF ht)]
          unfold p_goodEnds_k3
          simp only [cond_false, cond_f (rfl : false = false)]
          rw [succ_cast, need_pos (in64 (by omega) (by omega))]
          obtain ⟨o, h1, h2⟩ := ih (i + 1) x (by omega) (by omega) (by omega)
          refine ⟨o, h1, ?_⟩
          rcases h2 with ⟨q, e, hq⟩ | h2
          · exact .inl ⟨q, e, by omega, ht, hq⟩
          · exact .inr h2
        · rw [cond_t (nT ht)]
          exact ⟨_, rfl, .inr ⟨_, rfl⟩⟩
    · rw [cond_f (decide_eq_false (by omega)), List.drop_eq_nil_of_le (by omega)]
      exact ⟨_, rfl, .inl ⟨p, rfl, rfl⟩⟩
theorem goodEnds_p {s : Int} (hs : 2 ≤ s) {l : List Int} (hl : ∀ x ∈ l, inI .i64 x) (hll : l.length < 4611686018427387904) {F : Nat} (hF : l.length < F) :
    ∃ q b, p_goodEnds F l (0 : Int) s false = some (q, b) ∧ (b = true → EndsG s q 0 l) := by
  obtain ⟨o, h1, h2⟩ := goodEnds_loop hs hl hll F 0 0 (by omega) (by omega) (by omega)
  have h1' : iter (p_goodEnds_l2 l s false) F ((0 : Int), (0 : Int)) = some o := h1
  unfold p_goodEnds
  rw [h1', Option.bind_some]
  rcases h2 with ⟨q, rfl, hq⟩ | ⟨q, rfl⟩
  · exact ⟨q, true, rfl, fun _ => by simpa using hq⟩
  · exact ⟨q, false, rfl, fun h => by cases h⟩
end Go.Proofs.YtdpkjmoeapibnaaDoor.Wk
