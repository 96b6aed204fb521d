/- Proved: what the tests tell of small data. -/
import Derived.Test.YtdpkjmoeapibnaaDoorGeoG
namespace Go.Proofs.YtdpkjmoeapibnaaDoor.Wk
open Go.Vm
set_option linter.unusedVariables false
set_option linter.unusedSimpArgs false
theorem weight_of {g : TImpl_Geom} (hk : g.Kids = []) (he : g.Endss = []) (h1 : g.Flat.length ≤ 2147483647) (h2 : g.Ends.length ≤ 2147483647) {F : Nat} (a : Int) : p_Weight (F + 2) g a = some (1 + (g.Flat.length : Int) + (g.Ends.length : Int)) := by
  show p_Weight_b _ (F + 1) _ _ = _
  unfold p_Weight_b
  have w1 : IntKind.i64.wrap ((1 : Int) + ((g.Flat.length : Nat) : Int)) = 1 + ((g.Flat.length : Nat) : Int) := wrap_in .i64 _ (by simp only [lo]; omega) (by simp only [hi]; omega)
  rw [w1, wrap_in .i64 _ (by simp only [lo]; omega) (by simp only [hi]; omega), iter_one]
  have e1 : ∀ K s, p_Weight_l4 g K (s, (0 : Int)) = some (.inl s) := fun K s => by unfold p_Weight_l4; dsimp only; rw [he, cond_f (by rfl)]
  rw [e1, Option.bind_some, aft_inl]
  unfold p_Weight_k1
  have e2 : ∀ R K s, p_Weight_l3 g a R K (s, (0 : Int)) = some (.inl s) := fun R K s => by unfold p_Weight_l3; dsimp only; rw [hk, cond_f (by rfl)]
  rw [iter_one, e2, Option.bind_some, aft_inl]
  rfl
theorem layouts_of {g : TImpl_Geom} (hk : g.Kids = []) (h7 : g.Kind ≠ 7) {F : Nat} (h : p_gLayouts (F + 2) g 9 = some true) : g.Layout ≤ 9 := by
  have h' : p_gLayouts_b (fun a0 a1 => p_gLayouts (F + 1) a0 a1) (F + 1) g 9 = some true := h
  unfold p_gLayouts_b at h'
  rw [iter_one] at h'
  have e2 : ∀ R K, p_gLayouts_l2 g 9 R K (0 : Int) = some (.inl ()) := fun R K => by unfold p_gLayouts_l2; rw [hk, cond_f (by rfl)]
  rw [e2, Option.bind_some, aft_inl] at h'
  unfold p_gLayouts_k1 at h'
  by_cases c : g.Layout ≤ 9
  · exact c
  · rw [cond_f (decide_eq_false c)] at h'; cases h'
/-- Small good data of a kind that has no lists of ends. -/
structure Small (F : Nat) (g : TImpl_Geom) (s : Nat) : Prop extends GoodG F g s where
  lay9 : g.Layout ≤ 9
  few : g.Flat.length + g.Ends.length ≤ 1999
  nil : g.Endss = []
theorem small_p {g : TImpl_Geom} (hw : WfG g) {F : Nat} (hF : gF g + 10 ≤ F) (h1 : g.Flat.length ≤ 2147483647) (h2 : g.Ends.length ≤ 2147483647) : ∃ b, p_gGood F [g] = some b ∧ (b = true → g.Kind ≠ 7 → g.Kind ≠ 6 → ∃ s, Small (F - 1) g s ∧ s ≤ 9) := by
  obtain ⟨b, hb, hb2⟩ := gGood_p hw hF
  refine ⟨b, hb, fun h h7 h6 => ?_⟩
  obtain ⟨a1, a2, n, a3, a4⟩ := hb2 h
  obtain ⟨s, G⟩ := a1 h7
  obtain ⟨M, rfl⟩ : ∃ M, F = M + 2 := ⟨F - 2, by omega⟩
  have l9 := layouts_of G.kids h7 a2
  rw [weight_of G.kids (G.endss h6) h1 h2] at a3
  have a3 := Option.some.inj a3
  rw [← a3, wrap_in .i64 _ (by simp only [lo]; omega) (by simp only [hi]; omega)] at a4
  exact ⟨s, ⟨G, l9, by omega, G.endss h6⟩, G.s9 l9⟩
end Go.Proofs.YtdpkjmoeapibnaaDoor.Wk
