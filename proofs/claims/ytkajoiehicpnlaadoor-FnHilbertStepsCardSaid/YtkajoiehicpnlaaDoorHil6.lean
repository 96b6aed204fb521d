/- Proved: two places of a Hilbert curve that follow one another are neighbours. -/
import Derived.Test.YtkajoiehicpnlaaDoorHil5
namespace Go.Proofs.YtkajoiehicpnlaaDoor.Wk
open Go.Vm
set_option linter.unusedVariables false
set_option maxHeartbeats 4000000
theorem hrun3 (ord : Int) (ho : ord ≤ 31) : ∀ (j k F : Nat) (P p p' v0 v1 v2 u0 u1 u2 : Int), Pw k P → (k : Int) + j = ord → j < F → 0 ≤ p → p < 8 ^ j → p < 2 ^ 63 → 0 ≤ p' → p' < 8 ^ j → p' < 2 ^ 63 →
    (0 ≤ v0 ∧ v0 < P) → (0 ≤ v1 ∧ v1 < P) → (0 ≤ v2 ∧ v2 < P) → (0 ≤ u0 ∧ u0 < P) → (0 ≤ u1 ∧ u1 < P) → (0 ≤ u2 ∧ u2 < P) →
    ((p = p' ∧ (v0 - u0).natAbs + (v1 - u1).natAbs + (v2 - u2).natAbs = 1) ∨ (p' = p + 1 ∧ v0 = 0 ∧ v1 = 0 ∧ v2 = P - 1 ∧ u0 = 0 ∧ u1 = 0 ∧ u2 = 0)) →
    ∃ w0 w1 w2 z0 z1 z2, iter (p_HCoord_l4 ord) F (p, (k : Int), [v0, v1, v2]) = some (.inl [w0, w1, w2]) ∧ iter (p_HCoord_l4 ord) F (p', (k : Int), [u0, u1, u2]) = some (.inl [z0, z1, z2]) ∧ (w0 - z0).natAbs + (w1 - z1).natAbs + (w2 - z2).natAbs = 1 := by
  intro j
  induction j with
  | zero =>
    intro k F P p p' v0 v1 v2 u0 u1 u2 hP hk hF hp hq hq2 hp' hq' hq2' hv0 hv1 hv2 hu0 hu1 hu2 hR
    obtain ⟨F, rfl⟩ : ∃ n, F = n + 1 := ⟨F - 1, by omega⟩
    rw [Int.pow_zero] at hq hq'
    have hkk : decide ((k : Int) < ord) = false := decide_eq_false (by omega)
    rcases hR with ⟨_, hR⟩ | ⟨h, _⟩
    · refine ⟨v0, v1, v2, u0, u1, u2, ?_, ?_, hR⟩
      · show p_HCoord_l4 ord (iter (p_HCoord_l4 ord) F) _ = _
        unfold p_HCoord_l4
        simp only [hkk, cond_false]
      · show p_HCoord_l4 ord (iter (p_HCoord_l4 ord) F) _ = _
        unfold p_HCoord_l4
        simp only [hkk, cond_false]
    · exfalso; omega
  | succ j ih =>
    intro k F P p p' v0 v1 v2 u0 u1 u2 hP hk hF hp hq hq2 hp' hq' hq2' hv0 hv1 hv2 hu0 hu1 hu2 hR
    obtain ⟨F, rfl⟩ : ∃ n, F = n + 1 := ⟨F - 1, by omega⟩
    have hk1 : (k : Int) < ord := by omega
    have hP' : Pw (k + 1) (2 * P) := by
      have := pw (k + 1) (by omega)
      rwa [Int.pow_succ, hP.eq, Int.mul_comm] at this
    have hc : ((k : Int) + 1) = ((k + 1 : Nat) : Int) := by omega
    have e4 : (8 : Int) ^ (j + 1) = 8 * 8 ^ j := by rw [Int.pow_succ, Int.mul_comm]
    rw [e4] at hq hq'
    have hpos := hP.pos
    generalize hX : (8 : Int) ^ j = X at *
    show ∃ w0 w1 w2 z0 z1 z2, p_HCoord_l4 ord (iter (p_HCoord_l4 ord) F) _ = _ ∧ p_HCoord_l4 ord (iter (p_HCoord_l4 ord) F) _ = _ ∧ _
    have he : p % 8 = 0 ∨ p % 8 = 1 ∨ p % 8 = 2 ∨ p % 8 = 3 ∨ p % 8 = 4 ∨ p % 8 = 5 ∨ p % 8 = 6 ∨ p % 8 = 7 := by omega
    rcases hR with ⟨rfl, hR⟩ | ⟨rfl, rfl, rfl, rfl, rfl, rfl, rfl⟩
    · rcases he with he | he | he | he | he | he | he | he
      · rw [hs3_0 (F := 0) hP hk1 hp hq2 he hv0 hv1 hv2, hs3_0 (F := 0) hP hk1 hp hq2 he hu0 hu1 hu2, hc]
        exact ih (k + 1) F (2 * P) (p / 8) (p / 8) _ _ _ _ _ _ hP' (by omega) (by omega) (by omega) (by omega) (by omega) (by omega) (by omega) (by omega) (by omega) (by omega) (by omega) (by omega) (by omega) (by omega) (.inl ⟨rfl, by omega⟩)
      · rw [hs3_1 (F := 0) hP hk1 hp hq2 he hv0 hv1 hv2, hs3_1 (F := 0) hP hk1 hp hq2 he hu0 hu1 hu2, hc]
        exact ih (k + 1) F (2 * P) (p / 8) (p / 8) _ _ _ _ _ _ hP' (by omega) (by omega) (by omega) (by omega) (by omega) (by omega) (by omega) (by omega) (by omega) (by omega) (by omega) (by omega) (by omega) (by omega) (.inl ⟨rfl, by omega⟩)
      · rw [hs3_2 (F := 0) hP hk1 hp hq2 he hv0 hv1 hv2, hs3_2 (F := 0) hP hk1 hp hq2 he hu0 hu1 hu2, hc]
        exact ih (k + 1) F (2 * P) (p / 8) (p / 8) _ _ _ _ _ _ hP' (by omega) (by omega) (by omega) (by omega) (by omega) (by omega) (by omega) (by omega) (by omega) (by omega) (by omega) (by omega) (by omega) (by omega) (.inl ⟨rfl, by omega⟩)
      · rw [hs3_3 (F := 0) hP hk1 hp hq2 he hv0 hv1 hv2, hs3_3 (F := 0) hP hk1 hp hq2 he hu0 hu1 hu2, hc]
        exact ih (k + 1) F (2 * P) (p / 8) (p / 8) _ _ _ _ _ _ hP' (by omega) (by omega) (by omega) (by omega) (by omega) (by omega) (by omega) (by omega) (by omega) (by omega) (by omega) (by omega) (by omega) (by omega) (.inl ⟨rfl, by omega⟩)
      · rw [hs3_4 (F := 0) hP hk1 hp hq2 he hv0 hv1 hv2, hs3_4 (F := 0) hP hk1 hp hq2 he hu0 hu1 hu2, hc]
        exact ih (k + 1) F (2 * P) (p / 8) (p / 8) _ _ _ _ _ _ hP' (by omega) (by omega) (by omega) (by omega) (by omega) (by omega) (by omega) (by omega) (by omega) (by omega) (by omega) (by omega) (by omega) (by omega) (.inl ⟨rfl, by omega⟩)
      · rw [hs3_5 (F := 0) hP hk1 hp hq2 he hv0 hv1 hv2, hs3_5 (F := 0) hP hk1 hp hq2 he hu0 hu1 hu2, hc]
        exact ih (k + 1) F (2 * P) (p / 8) (p / 8) _ _ _ _ _ _ hP' (by omega) (by omega) (by omega) (by omega) (by omega) (by omega) (by omega) (by omega) (by omega) (by omega) (by omega) (by omega) (by omega) (by omega) (.inl ⟨rfl, by omega⟩)
      · rw [hs3_6 (F := 0) hP hk1 hp hq2 he hv0 hv1 hv2, hs3_6 (F := 0) hP hk1 hp hq2 he hu0 hu1 hu2, hc]
        exact ih (k + 1) F (2 * P) (p / 8) (p / 8) _ _ _ _ _ _ hP' (by omega) (by omega) (by omega) (by omega) (by omega) (by omega) (by omega) (by omega) (by omega) (by omega) (by omega) (by omega) (by omega) (by omega) (.inl ⟨rfl, by omega⟩)
      · rw [hs3_7 (F := 0) hP hk1 hp hq2 he hv0 hv1 hv2, hs3_7 (F := 0) hP hk1 hp hq2 he hu0 hu1 hu2, hc]
        exact ih (k + 1) F (2 * P) (p / 8) (p / 8) _ _ _ _ _ _ hP' (by omega) (by omega) (by omega) (by omega) (by omega) (by omega) (by omega) (by omega) (by omega) (by omega) (by omega) (by omega) (by omega) (by omega) (.inl ⟨rfl, by omega⟩)
    · rcases he with he | he | he | he | he | he | he | he
      · rw [hs3_0 (F := 0) hP hk1 hp hq2 he hv0 hv1 hv2, hs3_1 (F := 0) hP hk1 hp' hq2' (show (p + 1) % 8 = 1 by omega) hu0 hu1 hu2, hc]
        exact ih (k + 1) F (2 * P) (p / 8) ((p + 1) / 8) _ _ _ _ _ _ hP' (by omega) (by omega) (by omega) (by omega) (by omega) (by omega) (by omega) (by omega) (by omega) (by omega) (by omega) (by omega) (by omega) (by omega) (.inl ⟨by omega, by omega⟩)
      · rw [hs3_1 (F := 0) hP hk1 hp hq2 he hv0 hv1 hv2, hs3_2 (F := 0) hP hk1 hp' hq2' (show (p + 1) % 8 = 2 by omega) hu0 hu1 hu2, hc]
        exact ih (k + 1) F (2 * P) (p / 8) ((p + 1) / 8) _ _ _ _ _ _ hP' (by omega) (by omega) (by omega) (by omega) (by omega) (by omega) (by omega) (by omega) (by omega) (by omega) (by omega) (by omega) (by omega) (by omega) (.inl ⟨by omega, by omega⟩)
      · rw [hs3_2 (F := 0) hP hk1 hp hq2 he hv0 hv1 hv2, hs3_3 (F := 0) hP hk1 hp' hq2' (show (p + 1) % 8 = 3 by omega) hu0 hu1 hu2, hc]
        exact ih (k + 1) F (2 * P) (p / 8) ((p + 1) / 8) _ _ _ _ _ _ hP' (by omega) (by omega) (by omega) (by omega) (by omega) (by omega) (by omega) (by omega) (by omega) (by omega) (by omega) (by omega) (by omega) (by omega) (.inl ⟨by omega, by omega⟩)
      · rw [hs3_3 (F := 0) hP hk1 hp hq2 he hv0 hv1 hv2, hs3_4 (F := 0) hP hk1 hp' hq2' (show (p + 1) % 8 = 4 by omega) hu0 hu1 hu2, hc]
        exact ih (k + 1) F (2 * P) (p / 8) ((p + 1) / 8) _ _ _ _ _ _ hP' (by omega) (by omega) (by omega) (by omega) (by omega) (by omega) (by omega) (by omega) (by omega) (by omega) (by omega) (by omega) (by omega) (by omega) (.inl ⟨by omega, by omega⟩)
      · rw [hs3_4 (F := 0) hP hk1 hp hq2 he hv0 hv1 hv2, hs3_5 (F := 0) hP hk1 hp' hq2' (show (p + 1) % 8 = 5 by omega) hu0 hu1 hu2, hc]
        exact ih (k + 1) F (2 * P) (p / 8) ((p + 1) / 8) _ _ _ _ _ _ hP' (by omega) (by omega) (by omega) (by omega) (by omega) (by omega) (by omega) (by omega) (by omega) (by omega) (by omega) (by omega) (by omega) (by omega) (.inl ⟨by omega, by omega⟩)
      · rw [hs3_5 (F := 0) hP hk1 hp hq2 he hv0 hv1 hv2, hs3_6 (F := 0) hP hk1 hp' hq2' (show (p + 1) % 8 = 6 by omega) hu0 hu1 hu2, hc]
        exact ih (k + 1) F (2 * P) (p / 8) ((p + 1) / 8) _ _ _ _ _ _ hP' (by omega) (by omega) (by omega) (by omega) (by omega) (by omega) (by omega) (by omega) (by omega) (by omega) (by omega) (by omega) (by omega) (by omega) (.inl ⟨by omega, by omega⟩)
      · rw [hs3_6 (F := 0) hP hk1 hp hq2 he hv0 hv1 hv2, hs3_7 (F := 0) hP hk1 hp' hq2' (show (p + 1) % 8 = 7 by omega) hu0 hu1 hu2, hc]
        exact ih (k + 1) F (2 * P) (p / 8) ((p + 1) / 8) _ _ _ _ _ _ hP' (by omega) (by omega) (by omega) (by omega) (by omega) (by omega) (by omega) (by omega) (by omega) (by omega) (by omega) (by omega) (by omega) (by omega) (.inl ⟨by omega, by omega⟩)
      · rw [hs3_7 (F := 0) hP hk1 hp hq2 he hv0 hv1 hv2, hs3_0 (F := 0) hP hk1 hp' hq2' (show (p + 1) % 8 = 0 by omega) hu0 hu1 hu2, hc]
        exact ih (k + 1) F (2 * P) (p / 8) ((p + 1) / 8) _ _ _ _ _ _ hP' (by omega) (by omega) (by omega) (by omega) (by omega) (by omega) (by omega) (by omega) (by omega) (by omega) (by omega) (by omega) (by omega) (by omega) (.inr ⟨by omega, by omega, by omega, by omega, by omega, by omega, by omega⟩)
end Go.Proofs.YtkajoiehicpnlaaDoor.Wk
