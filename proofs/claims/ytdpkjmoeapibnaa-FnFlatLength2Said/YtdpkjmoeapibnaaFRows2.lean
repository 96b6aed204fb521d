/- Proved: what the laws' test of flat lines tells, joined. -/
import Derived.Test.YtdpkjmoeapibnaaFRows
namespace Go.Proofs.Ytdpkjmoeapibnaa.Wk
open Go.Vm
set_option linter.unusedVariables false
set_option linter.unusedSimpArgs false
/-- What is told of lines that lie flat. -/
structure Rws (l : List Nat) (e : List Int) (s : Int) : Prop where
  lo : 2 ≤ s
  hi : s ≤ 9
  few : l.length + e.length ≤ 1999
  whole : Int.tmod (l.length : Int) s = 0
  ends : EndsG s (l.length : Int) 0 e
abbrev layF (s : Int) : Int := if s = 2 then 1 else if s = 3 then 2 else s
abbrev gF (l : List Nat) (e : List Int) (s : Int) : TImpl_Geom := ⟨3, layF s, 0, l, e, [], []⟩
theorem weightF {F : Nat} (l : List Nat) (e : List Int) (y : Int) (hl : l.length ≤ 2147483647) (he : e.length ≤ 2147483647) (b : Int) :
    p_Weight (F + 2) ⟨3, y, 0, l, e, [], []⟩ b = some (1 + (l.length : Int) + (e.length : Int)) := by
  show p_Weight_b _ (F + 1) _ _ = _
  unfold p_Weight_b
  rw [need_pos (in64 (by omega) (by simp only; omega)), need_pos (in64 (by omega) (by simp only; omega))]
  show (p_Weight_l4 _ _ _).bind _ = _
  unfold p_Weight_l4
  rw [cond_f (by rfl), Option.bind_some, aft_inl]
  show (p_Weight_l3 _ _ _ _ _).bind _ = _
  unfold p_Weight_l3
  rw [cond_f (by rfl), Option.bind_some, aft_inl]
  rfl
theorem layoutsF {F : Nat} (l : List Nat) (e : List Int) (y : Int) (h1 : 1 ≤ y) (h9 : y ≤ 9) : p_gLayouts (F + 2) ⟨3, y, 0, l, e, [], []⟩ (9 : Int) = some true := by
  show p_gLayouts_b _ (F + 1) _ _ = _
  unfold p_gLayouts_b
  show (p_gLayouts_l2 _ _ _ _ _).bind _ = _
  unfold p_gLayouts_l2
  rw [cond_f (by rfl), Option.bind_some, aft_inl]
  unfold p_gLayouts_k1
  rw [cond_t (decide_eq_true h9), cond_t (decide_eq_true h1)]
theorem strideF {s : Int} (h2 : 2 ≤ s) (h9 : s ≤ 9) : p_Stride (layF s) = some s ∧ 1 ≤ layF s ∧ layF s ≤ 9 ∧ p_fLayout s = some (layF s) := by
  have : s = 2 ∨ s = 3 ∨ s = 4 ∨ s = 5 ∨ s = 6 ∨ s = 7 ∨ s = 8 ∨ s = 9 := by omega
  rcases this with rfl | rfl | rfl | rfl | rfl | rfl | rfl | rfl <;> exact ⟨rfl, by decide, by decide, rfl⟩
theorem smallF {F : Nat} (l : List Nat) (e : List Int) (y : Int) (h1 : 1 ≤ y) (h9 : y ≤ 9) (hl : l.length ≤ 2147483647) (he : e.length ≤ 2147483647) :
    p_gSmall (F + 2) [⟨3, y, 0, l, e, [], []⟩] = some (decide (l.length + e.length ≤ 1999)) := by
  unfold p_gSmall
  have r1 : ∀ v : Int, iter (p_gSmall_l2 [⟨3, y, 0, l, e, [], []⟩] (F + 2)) (F + 1) (v, (1 : Int)) = some (Sum.inl ()) := fun v => rfl
  show (p_gSmall_l2 _ _ (iter (p_gSmall_l2 _ (F + 2)) (F + 1)) _).bind _ = _
  generalize iter (p_gSmall_l2 _ (F + 2)) (F + 1) = K at *
  unfold p_gSmall_l2
  simp only
  rw [cond_t (by rfl), show ∀ g : TImpl_Geom, idx [g] (0 : Int) = some g from fun _ => rfl, Option.bind_some, weightF l e y hl he, Option.bind_some, need_pos (in64m (by omega) (by omega))]
  by_cases h : l.length + e.length ≤ 1999
  · rw [cond_f (decide_eq_false (by omega)), layoutsF l e y h1 h9, Option.bind_some, cond_f (by rfl), need_pos (by decide)]
    rw [decide_eq_true h]
    show (K (_, (1 : Int))).bind _ = _
    rw [r1]
    rfl
  · rw [cond_t (decide_eq_true (by omega)), Option.bind_some, aft_inr, decide_eq_false h]
theorem goodF {F : Nat} (l : List Nat) (e : List Int) {s : Int} (h2 : 2 ≤ s) (h9 : s ≤ 9) (he : ∀ x ∈ e, inI .i64 x) (hle : e.length < 4611686018427387904) (hF : e.length < F + 1) :
    ∃ b, p_Good (F + 2) (gF l e s) = some b ∧ (b = true → Int.tmod (l.length : Int) s = 0 ∧ EndsG s (l.length : Int) 0 e) := by
  obtain ⟨q, b, hq, hb⟩ := goodEnds_p (F := F + 1) h2 he hle hF
  show ∃ b, p_Good_b _ (F + 1) _ = some b ∧ _
  unfold p_Good_b
  rw [(strideF h2 h9).1, Option.bind_some, cond_f (by rfl), cond_f (decide_eq_false (by omega)), need_pos (by omega)]
  by_cases ht : Int.tmod (l.length : Int) s = 0
  · rw [cond_f (nF ht), cond_f (by rfl), cond_f (by rfl)]
    unfold p_Good_k4
    rw [cond_f (by rfl), cond_f (by rfl)]
    unfold p_Good_k5
    rw [cond_f (by rfl), cond_t (by rfl)]
    unfold p_Good_k6
    rw [cond_t (by rfl)]
    show ∃ b, (p_goodEnds (F + 1) e (0 : Int) s false).bind _ = some b ∧ _
    rw [hq, Option.bind_some]
    cases b with
    | false => exact ⟨false, rfl, fun h => by cases h⟩
    | true =>
      refine ⟨_, rfl, fun h => ⟨ht, ?_⟩⟩
      have h := of_decide_eq_true h
      have := hb rfl
      simp only at h
      rw [h] at this
      exact this
  · rw [cond_t (nT ht)]
    exact ⟨_, rfl, fun h => by cases h⟩
theorem fRows_p {F : Nat} (l : List Nat) (e : List Int) (s : Int) (he : ∀ x ∈ e, inI .i64 x) (hl : l.length ≤ 2147483647) (hle : e.length ≤ 2147483647) (hF : e.length < F + 1) :
    ∃ g b, p_fRows (F + 2) l e s = some (g, b) ∧ (b = true → g = gF l e s ∧ Rws l e s) := by
  unfold p_fRows p_fStride
  by_cases h2 : 2 ≤ s
  · rw [cond_t (decide_eq_true h2), Option.bind_some]
    by_cases h9 : s ≤ 9
    · obtain ⟨e1, y1, y9, e2⟩ := strideF h2 h9
      rw [cond_f (nF h9), e2, Option.bind_some]
      unfold p_gGood
      rw [smallF l e (layF s) y1 y9 hl hle, Option.bind_some]
      by_cases h : l.length + e.length ≤ 1999
      · rw [cond_f (nF h)]
        obtain ⟨b, hb, hb2⟩ := goodF l e h2 h9 he (by omega) hF
        have r1 : iter (p_gGood_l2 [⟨3, layF s, 0, l, e, [], []⟩] (F + 2)) (F + 1) (1 : Int) = some (Sum.inl ()) := rfl
        show ∃ g b, (((p_gGood_l2 _ _ (iter (p_gGood_l2 _ (F + 2)) (F + 1)) _).bind _).bind _) = some (g, b) ∧ _
        generalize iter (p_gGood_l2 _ (F + 2)) (F + 1) = K at *
        unfold p_gGood_l2
        rw [cond_t (by rfl), show ∀ g : TImpl_Geom, idx [g] (0 : Int) = some g from fun _ => rfl, Option.bind_some, hb, Option.bind_some]
        cases b with
        | false => exact ⟨_, _, rfl, fun h => by cases h⟩
        | true =>
          rw [cond_f (by rfl), need_pos (by decide)]
          show ∃ g b, (((K (1 : Int)).bind _).bind _) = some (g, b) ∧ _
          rw [r1]
          exact ⟨_, _, rfl, fun _ => ⟨rfl, h2, h9, h, (hb2 rfl).1, (hb2 rfl).2⟩⟩
      · rw [cond_t (nT h)]
        exact ⟨_, _, rfl, fun h => by cases h⟩
    · rw [cond_t (nT h9)]
      exact ⟨_, _, rfl, fun h => by cases h⟩
  · rw [cond_f (decide_eq_false h2), Option.bind_some]
    exact ⟨_, _, rfl, fun h => by cases h⟩
end Go.Proofs.Ytdpkjmoeapibnaa.Wk
