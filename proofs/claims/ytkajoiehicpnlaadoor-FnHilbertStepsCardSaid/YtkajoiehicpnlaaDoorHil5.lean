/- Proved: two places of a Hilbert curve that follow one another are neighbours. -/
import Derived.Test.YtkajoiehicpnlaaDoorHil4c
namespace Go.Proofs.YtkajoiehicpnlaaDoor.Wk
open Go.Vm
set_option linter.unusedVariables false
set_option maxHeartbeats 4000000
theorem hrun2 (ord : Int) (ho : ord ≤ 31) : ∀ (j k F : Nat) (P p p' v0 v1 u0 u1 : Int), Pw k P → (k : Int) + j = ord → j < F → 0 ≤ p → p < 4 ^ j → p < 2 ^ 63 → 0 ≤ p' → p' < 4 ^ j → p' < 2 ^ 63 →
    (0 ≤ v0 ∧ v0 < P) → (0 ≤ v1 ∧ v1 < P) → (0 ≤ u0 ∧ u0 < P) → (0 ≤ u1 ∧ u1 < P) →
    ((p = p' ∧ (v0 - u0).natAbs + (v1 - u1).natAbs = 1) ∨ (p' = p + 1 ∧ v0 = 0 ∧ v1 = P - 1 ∧ u0 = 0 ∧ u1 = 0)) →
    ∃ w0 w1 z0 z1, iter (p_HCoord_l2 ord) F (p, (k : Int), [v0, v1]) = some (.inl [w0, w1]) ∧ iter (p_HCoord_l2 ord) F (p', (k : Int), [u0, u1]) = some (.inl [z0, z1]) ∧ (w0 - z0).natAbs + (w1 - z1).natAbs = 1 := by
  intro j
  induction j with
  | zero =>
    intro k F P p p' v0 v1 u0 u1 hP hk hF hp hq hq2 hp' hq' hq2' hv0 hv1 hu0 hu1 hR
    obtain ⟨F, rfl⟩ : ∃ n, F = n + 1 := ⟨F - 1, by omega⟩
    rw [Int.pow_zero] at hq hq'
    have hkk : decide ((k : Int) < ord) = false := decide_eq_false (by omega)
    rcases hR with ⟨_, hR⟩ | ⟨h, _⟩
    · refine ⟨v0, v1, u0, u1, ?_, ?_, hR⟩
      · show p_HCoord_l2 ord (iter (p_HCoord_l2 ord) F) _ = _
        unfold p_HCoord_l2
        simp only [hkk, cond_false]
      · show p_HCoord_l2 ord (iter (p_HCoord_l2 ord) F) _ = _
        unfold p_HCoord_l2
        simp only [hkk, cond_false]
    · exfalso; omega
  | succ j ih =>
    intro k F P p p' v0 v1 u0 u1 hP hk hF hp hq hq2 hp' hq' hq2' hv0 hv1 hu0 hu1 hR
    obtain ⟨F, rfl⟩ : ∃ n, F = n + 1 := ⟨F - 1, by omega⟩
    have hk1 : (k : Int) < ord := by omega
    have hP' : Pw (k + 1) (2 * P) := by
      have := pw (k + 1) (by omega)
      rwa [Int.pow_succ, hP.eq, Int.mul_comm] at this
    have hc : ((k : Int) + 1) = ((k + 1 : Nat) : Int) := by omega
    have e4 : (4 : Int) ^ (j + 1) = 4 * 4 ^ j := by rw [Int.pow_succ, Int.mul_comm]
    rw [e4] at hq hq'
    have hpos := hP.pos
    generalize hX : (4 : Int) ^ j = X at *
    show ∃ w0 w1 z0 z1, p_HCoord_l2 ord (iter (p_HCoord_l2 ord) F) _ = _ ∧ p_HCoord_l2 ord (iter (p_HCoord_l2 ord) F) _ = _ ∧ _
    have he : p % 4 = 0 ∨ p % 4 = 1 ∨ p % 4 = 2 ∨ p % 4 = 3 := by omega
    rcases hR with ⟨rfl, hR⟩ | ⟨rfl, rfl, rfl, rfl, rfl⟩
    · rcases he with he | he | he | he
      · rw [hs2_0 (F := 0) hP hk1 hp hq2 he hv0 hv1, hs2_0 (F := 0) hP hk1 hp hq2 he hu0 hu1, hc]
        exact ih (k + 1) F (2 * P) (p / 4) (p / 4) _ _ _ _ hP' (by omega) (by omega) (by omega) (by omega) (by omega) (by omega) (by omega) (by omega) (by omega) (by omega) (by omega) (by omega) (.inl ⟨rfl, by omega⟩)
      · rw [hs2_1 (F := 0) hP hk1 hp hq2 he hv0 hv1, hs2_1 (F := 0) hP hk1 hp hq2 he hu0 hu1, hc]
        exact ih (k + 1) F (2 * P) (p / 4) (p / 4) _ _ _ _ hP' (by omega) (by omega) (by omega) (by omega) (by omega) (by omega) (by omega) (by omega) (by omega) (by omega) (by omega) (by omega) (.inl ⟨rfl, by omega⟩)
      · rw [hs2_2 (F := 0) hP hk1 hp hq2 he hv0 hv1, hs2_2 (F := 0) hP hk1 hp hq2 he hu0 hu1, hc]
        exact ih (k + 1) F (2 * P) (p / 4) (p / 4) _ _ _ _ hP' (by omega) (by omega) (by omega) (by omega) (by omega) (by omega) (by omega) (by omega) (by omega) (by omega) (by omega) (by omega) (.inl ⟨rfl, by omega⟩)
      · rw [hs2_3 (F := 0) hP hk1 hp hq2 he hv0 hv1, hs2_3 (F := 0) hP hk1 hp hq2 he hu0 hu1, hc]
        exact ih (k + 1) F (2 * P) (p / 4) (p / 4) _ _ _ _ hP' (by omega) (by omega) (by omega) (by omega) (by omega) (by omega) (by omega) (by omega) (by omega) (by omega) (by omega) (by omega) (.inl ⟨rfl, by omega⟩)
    · rcases he with he | he | he | he
      · rw [hs2_0 (F := 0) hP hk1 hp hq2 he hv0 hv1, hs2_1 (F := 0) hP hk1 hp' hq2' (show (p + 1) % 4 = 1 by omega) hu0 hu1, hc]
        exact ih (k + 1) F (2 * P) (p / 4) ((p + 1) / 4) _ _ _ _ hP' (by omega) (by omega) (by omega) (by omega) (by omega) (by omega) (by omega) (by omega) (by omega) (by omega) (by omega) (by omega) (.inl ⟨by omega, by omega⟩)
      · rw [hs2_1 (F := 0) hP hk1 hp hq2 he hv0 hv1, hs2_2 (F := 0) hP hk1 hp' hq2' (show (p + 1) % 4 = 2 by omega) hu0 hu1, hc]
        exact ih (k + 1) F (2 * P) (p / 4) ((p + 1) / 4) _ _ _ _ hP' (by omega) (by omega) (by omega) (by omega) (by omega) (by omega) (by omega) (by omega) (by omega) (by omega) (by omega) (by omega) (.inl ⟨by omega, by omega⟩)
      · rw [hs2_2 (F := 0) hP hk1 hp hq2 he hv0 hv1, hs2_3 (F := 0) hP hk1 hp' hq2' (show (p + 1) % 4 = 3 by omega) hu0 hu1, hc]
        exact ih (k + 1) F (2 * P) (p / 4) ((p + 1) / 4) _ _ _ _ hP' (by omega) (by omega) (by omega) (by omega) (by omega) (by omega) (by omega) (by omega) (by omega) (by omega) (by omega) (by omega) (.inl ⟨by omega, by omega⟩)
      · rw [hs2_3 (F := 0) hP hk1 hp hq2 he hv0 hv1, hs2_0 (F := 0) hP hk1 hp' hq2' (show (p + 1) % 4 = 0 by omega) hu0 hu1, hc]
        exact ih (k + 1) F (2 * P) (p / 4) ((p + 1) / 4) _ _ _ _ hP' (by omega) (by omega) (by omega) (by omega) (by omega) (by omega) (by omega) (by omega) (by omega) (by omega) (by omega) (by omega) (.inr ⟨by omega, by omega, by omega, by omega, by omega⟩)
end Go.Proofs.YtkajoiehicpnlaaDoor.Wk
