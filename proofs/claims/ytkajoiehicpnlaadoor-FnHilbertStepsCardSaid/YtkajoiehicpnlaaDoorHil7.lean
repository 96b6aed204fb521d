/- Proved: two places of a Hilbert curve that follow one another are neighbours. -/
import Derived.Test.YtkajoiehicpnlaaDoorHil6
namespace Go.Proofs.YtkajoiehicpnlaaDoor.Wk
open Go.Vm
set_option linter.unusedVariables false
set_option maxHeartbeats 4000000
theorem hrun4 {F0 : Nat} (ord : Int) (ho : ord ≤ 31) : ∀ (j k F : Nat) (P p p' v0 v1 v2 v3 u0 u1 u2 u3 : Int), Pw k P → (k : Int) + j = ord → j < F → 0 ≤ p → p < 16 ^ j → p < 2 ^ 63 → 0 ≤ p' → p' < 16 ^ j → p' < 2 ^ 63 →
    (0 ≤ v0 ∧ v0 < P) → (0 ≤ v1 ∧ v1 < P) → (0 ≤ v2 ∧ v2 < P) → (0 ≤ v3 ∧ v3 < P) → (0 ≤ u0 ∧ u0 < P) → (0 ≤ u1 ∧ u1 < P) → (0 ≤ u2 ∧ u2 < P) → (0 ≤ u3 ∧ u3 < P) →
    ((p = p' ∧ (v0 - u0).natAbs + (v1 - u1).natAbs + (v2 - u2).natAbs + (v3 - u3).natAbs = 1) ∨ (p' = p + 1 ∧ v0 = 0 ∧ v1 = 0 ∧ v2 = 0 ∧ v3 = P - 1 ∧ u0 = 0 ∧ u1 = 0 ∧ u2 = 0 ∧ u3 = 0)) →
    ∃ w0 w1 w2 w3 z0 z1 z2 z3, iter (p_HCoord_l9 ord (F0 + 5)) F (p, (k : Int), [v0, v1, v2, v3]) = some (.inl [w0, w1, w2, w3]) ∧ iter (p_HCoord_l9 ord (F0 + 5)) F (p', (k : Int), [u0, u1, u2, u3]) = some (.inl [z0, z1, z2, z3]) ∧ (w0 - z0).natAbs + (w1 - z1).natAbs + (w2 - z2).natAbs + (w3 - z3).natAbs = 1 := by
  intro j
  induction j with
  | zero =>
    intro k F P p p' v0 v1 v2 v3 u0 u1 u2 u3 hP hk hF hp hq hq2 hp' hq' hq2' hv0 hv1 hv2 hv3 hu0 hu1 hu2 hu3 hR
    obtain ⟨F, rfl⟩ : ∃ n, F = n + 1 := ⟨F - 1, by omega⟩
    rw [Int.pow_zero] at hq hq'
    have hkk : decide ((k : Int) < ord) = false := decide_eq_false (by omega)
    rcases hR with ⟨_, hR⟩ | ⟨h, _⟩
    · refine ⟨v0, v1, v2, v3, u0, u1, u2, u3, ?_, ?_, hR⟩
      · show p_HCoord_l9 ord (F0 + 5) (iter (p_HCoord_l9 ord (F0 + 5)) F) _ = _
        unfold p_HCoord_l9
        simp only [hkk, cond_false]
      · show p_HCoord_l9 ord (F0 + 5) (iter (p_HCoord_l9 ord (F0 + 5)) F) _ = _
        unfold p_HCoord_l9
        simp only [hkk, cond_false]
    · exfalso; omega
  | succ j ih =>
    intro k F P p p' v0 v1 v2 v3 u0 u1 u2 u3 hP hk hF hp hq hq2 hp' hq' hq2' hv0 hv1 hv2 hv3 hu0 hu1 hu2 hu3 hR
    obtain ⟨F, rfl⟩ : ∃ n, F = n + 1 := ⟨F - 1, by omega⟩
    have hk1 : (k : Int) < ord := by omega
    have hP' : Pw (k + 1) (2 * P) := by
      have := pw (k + 1) (by omega)
      rwa [Int.pow_succ, hP.eq, Int.mul_comm] at this
    have hc : ((k : Int) + 1) = ((k + 1 : Nat) : Int) := by omega
    have e4 : (16 : Int) ^ (j + 1) = 16 * 16 ^ j := by rw [Int.pow_succ, Int.mul_comm]
    rw [e4] at hq hq'
    have hpos := hP.pos
    generalize hX : (16 : Int) ^ j = X at *
    show ∃ w0 w1 w2 w3 z0 z1 z2 z3, p_HCoord_l9 ord (F0 + 5) (iter (p_HCoord_l9 ord (F0 + 5)) F) _ = _ ∧ p_HCoord_l9 ord (F0 + 5) (iter (p_HCoord_l9 ord (F0 + 5)) F) _ = _ ∧ _
    have he : p % 16 = 0 ∨ p % 16 = 1 ∨ p % 16 = 2 ∨ p % 16 = 3 ∨ p % 16 = 4 ∨ p % 16 = 5 ∨ p % 16 = 6 ∨ p % 16 = 7 ∨ p % 16 = 8 ∨ p % 16 = 9 ∨ p % 16 = 10 ∨ p % 16 = 11 ∨ p % 16 = 12 ∨ p % 16 = 13 ∨ p % 16 = 14 ∨ p % 16 = 15 := by omega
    rcases hR with ⟨rfl, hR⟩ | ⟨rfl, rfl, rfl, rfl, rfl, rfl, rfl, rfl, rfl⟩
    · rcases he with he | he | he | he | he | he | he | he | he | he | he | he | he | he | he | he
      · rw [hs4_0 (F := F0) hP hk1 hp hq2 he hv0 hv1 hv2 hv3, hs4_0 (F := F0) hP hk1 hp hq2 he hu0 hu1 hu2 hu3, hc]
        exact ih (k + 1) F (2 * P) (p / 16) (p / 16) _ _ _ _ _ _ _ _ hP' (by omega) (by omega) (by omega) (by omega) (by omega) (by omega) (by omega) (by omega) (by omega) (by omega) (by omega) (by omega) (by omega) (by omega) (by omega) (by omega) (.inl ⟨rfl, by omega⟩)
      · rw [hs4_1 (F := F0) hP hk1 hp hq2 he hv0 hv1 hv2 hv3, hs4_1 (F := F0) hP hk1 hp hq2 he hu0 hu1 hu2 hu3, hc]
        exact ih (k + 1) F (2 * P) (p / 16) (p / 16) _ _ _ _ _ _ _ _ hP' (by omega) (by omega) (by omega) (by omega) (by omega) (by omega) (by omega) (by omega) (by omega) (by omega) (by omega) (by omega) (by omega) (by omega) (by omega) (by omega) (.inl ⟨rfl, by omega⟩)
      · rw [hs4_2 (F := F0) hP hk1 hp hq2 he hv0 hv1 hv2 hv3, hs4_2 (F := F0) hP hk1 hp hq2 he hu0 hu1 hu2 hu3, hc]
        exact ih (k + 1) F (2 * P) (p / 16) (p / 16) _ _ _ _ _ _ _ _ hP' (by omega) (by omega) (by omega) (by omega) (by omega) (by omega) (by omega) (by omega) (by omega) (by omega) (by omega) (by omega) (by omega) (by omega) (by omega) (by omega) (.inl ⟨rfl, by omega⟩)
      · rw [hs4_3 (F := F0) hP hk1 hp hq2 he hv0 hv1 hv2 hv3, hs4_3 (F := F0) hP hk1 hp hq2 he hu0 hu1 hu2 hu3, hc]
        exact ih (k + 1) F (2 * P) (p / 16) (p / 16) _ _ _ _ _ _ _ _ hP' (by omega) (by omega) (by omega) (by omega) (by omega) (by omega) (by omega) (by omega) (by omega) (by omega) (by omega) (by omega) (by omega) (by omega) (by omega) (by omega) (.inl ⟨rfl, by omega⟩)
      · rw [hs4_4 (F := F0) hP hk1 hp hq2 he hv0 hv1 hv2 hv3, hs4_4 (F := F0) hP hk1 hp hq2 he hu0 hu1 hu2 hu3, hc]
        exact ih (k + 1) F (2 * P) (p / 16) (p / 16) _ _ _ _ _ _ _ _ hP' (by omega) (by omega) (by omega) (by omega) (by omega) (by omega) (by omega) (by omega) (by omega) (by omega) (by omega) (by omega) (by omega) (by omega) (by omega) (by omega) (.inl ⟨rfl, by omega⟩)
      · rw [hs4_5 (F := F0) hP hk1 hp hq2 he hv0 hv1 hv2 hv3, hs4_5 (F := F0) hP hk1 hp hq2 he hu0 hu1 hu2 hu3, hc]
        exact ih (k + 1) F (2 * P) (p / 16) (p / 16) _ _ _ _ _ _ _ _ hP' (by omega) (by omega) (by omega) (by omega) (by omega) (by omega) (by omega) (by omega) (by omega) (by omega) (by omega) (by omega) (by omega) (by omega) (by omega) (by omega) (.inl ⟨rfl, by omega⟩)
      · rw [hs4_6 (F := F0) hP hk1 hp hq2 he hv0 hv1 hv2 hv3, hs4_6 (F := F0) hP hk1 hp hq2 he hu0 hu1 hu2 hu3, hc]
        exact ih (k + 1) F (2 * P) (p / 16) (p / 16) _ _ _ _ _ _ _ _ hP' (by omega) (by omega) (by omega) (by omega) (by omega) (by omega) (by omega) (by omega) (by omega) (by omega) (by omega) (by omega) (by omega) (by omega) (by omega) (by omega) (.inl ⟨rfl, by omega⟩)
      · rw [hs4_7 (F := F0) hP hk1 hp hq2 he hv0 hv1 hv2 hv3, hs4_7 (F := F0) hP hk1 hp hq2 he hu0 hu1 hu2 hu3, hc]
        exact ih (k + 1) F (2 * P) (p / 16) (p / 16) _ _ _ _ _ _ _ _ hP' (by omega) (by omega) (by omega) (by omega) (by omega) (by omega) (by omega) (by omega) (by omega) (by omega) (by omega) (by omega) (by omega) (by omega) (by omega) (by omega) (.inl ⟨rfl, by omega⟩)
      · rw [hs4_8 (F := F0) hP hk1 hp hq2 he hv0 hv1 hv2 hv3, hs4_8 (F := F0) hP hk1 hp hq2 he hu0 hu1 hu2 hu3, hc]
        exact ih (k + 1) F (2 * P) (p / 16) (p / 16) _ _ _ _ _ _ _ _ hP' (by omega) (by omega) (by omega) (by omega) (by omega) (by omega) (by omega) (by omega) (by omega) (by omega) (by omega) (by omega) (by omega) (by omega) (by omega) (by omega) (.inl ⟨rfl, by omega⟩)
      · rw [hs4_9 (F := F0) hP hk1 hp hq2 he hv0 hv1 hv2 hv3, hs4_9 (F := F0) hP hk1 hp hq2 he hu0 hu1 hu2 hu3, hc]
        exact ih (k + 1) F (2 * P) (p / 16) (p / 16) _ _ _ _ _ _ _ _ hP' (by omega) (by omega) (by omega) (by omega) (by omega) (by omega) (by omega) (by omega) (by omega) (by omega) (by omega) (by omega) (by omega) (by omega) (by omega) (by omega) (.inl ⟨rfl, by omega⟩)
      · rw [hs4_10 (F := F0) hP hk1 hp hq2 he hv0 hv1 hv2 hv3, hs4_10 (F := F0) hP hk1 hp hq2 he hu0 hu1 hu2 hu3, hc]
        exact ih (k + 1) F (2 * P) (p / 16) (p / 16) _ _ _ _ _ _ _ _ hP' (by omega) (by omega) (by omega) (by omega) (by omega) (by omega) (by omega) (by omega) (by omega) (by omega) (by omega) (by omega) (by omega) (by omega) (by omega) (by omega) (.inl ⟨rfl, by omega⟩)
      · rw [hs4_11 (F := F0) hP hk1 hp hq2 he hv0 hv1 hv2 hv3, hs4_11 (F := F0) hP hk1 hp hq2 he hu0 hu1 hu2 hu3, hc]
        exact ih (k + 1) F (2 * P) (p / 16) (p / 16) _ _ _ _ _ _ _ _ hP' (by omega) (by omega) (by omega) (by omega) (by omega) (by omega) (by omega) (by omega) (by omega) (by omega) (by omega) (by omega) (by omega) (by omega) (by omega) (by omega) (.inl ⟨rfl, by omega⟩)
      · rw [hs4_12 (F := F0) hP hk1 hp hq2 he hv0 hv1 hv2 hv3, hs4_12 (F := F0) hP hk1 hp hq2 he hu0 hu1 hu2 hu3, hc]
        exact ih (k + 1) F (2 * P) (p / 16) (p / 16) _ _ _ _ _ _ _ _ hP' (by omega) (by omega) (by omega) (by omega) (by omega) (by omega) (by omega) (by omega) (by omega) (by omega) (by omega) (by omega) (by omega) (by omega) (by omega) (by omega) (.inl ⟨rfl, by omega⟩)
      · rw [hs4_13 (F := F0) hP hk1 hp hq2 he hv0 hv1 hv2 hv3, hs4_13 (F := F0) hP hk1 hp hq2 he hu0 hu1 hu2 hu3, hc]
        exact ih (k + 1) F (2 * P) (p / 16) (p / 16) _ _ _ _ _ _ _ _ hP' (by omega) (by omega) (by omega) (by omega) (by omega) (by omega) (by omega) (by omega) (by omega) (by omega) (by omega) (by omega) (by omega) (by omega) (by omega) (by omega) (.inl ⟨rfl, by omega⟩)
      · rw [hs4_14 (F := F0) hP hk1 hp hq2 he hv0 hv1 hv2 hv3, hs4_14 (F := F0) hP hk1 hp hq2 he hu0 hu1 hu2 hu3, hc]
        exact ih (k + 1) F (2 * P) (p / 16) (p / 16) _ _ _ _ _ _ _ _ hP' (by omega) (by omega) (by omega) (by omega) (by omega) (by omega) (by omega) (by omega) (by omega) (by omega) (by omega) (by omega) (by omega) (by omega) (by omega) (by omega) (.inl ⟨rfl, by omega⟩)
      · rw [hs4_15 (F := F0) hP hk1 hp hq2 he hv0 hv1 hv2 hv3, hs4_15 (F := F0) hP hk1 hp hq2 he hu0 hu1 hu2 hu3, hc]
        exact ih (k + 1) F (2 * P) (p / 16) (p / 16) _ _ _ _ _ _ _ _ hP' (by omega) (by omega) (by omega) (by omega) (by omega) (by omega) (by omega) (by omega) (by omega) (by omega) (by omega) (by omega) (by omega) (by omega) (by omega) (by omega) (.inl ⟨rfl, by omega⟩)
    · rcases he with he | he | he | he | he | he | he | he | he | he | he | he | he | he | he | he
      · rw [hs4_0 (F := F0) hP hk1 hp hq2 he hv0 hv1 hv2 hv3, hs4_1 (F := F0) hP hk1 hp' hq2' (show (p + 1) % 16 = 1 by omega) hu0 hu1 hu2 hu3, hc]
        exact ih (k + 1) F (2 * P) (p / 16) ((p + 1) / 16) _ _ _ _ _ _ _ _ hP' (by omega) (by omega) (by omega) (by omega) (by omega) (by omega) (by omega) (by omega) (by omega) (by omega) (by omega) (by omega) (by omega) (by omega) (by omega) (by omega) (.inl ⟨by omega, by omega⟩)
      · rw [hs4_1 (F := F0) hP hk1 hp hq2 he hv0 hv1 hv2 hv3, hs4_2 (F := F0) hP hk1 hp' hq2' (show (p + 1) % 16 = 2 by omega) hu0 hu1 hu2 hu3, hc]
        exact ih (k + 1) F (2 * P) (p / 16) ((p + 1) / 16) _ _ _ _ _ _ _ _ hP' (by omega) (by omega) (by omega) (by omega) (by omega) (by omega) (by omega) (by omega) (by omega) (by omega) (by omega) (by omega) (by omega) (by omega) (by omega) (by omega) (.inl ⟨by omega, by omega⟩)
      · rw [hs4_2 (F := F0) hP hk1 hp hq2 he hv0 hv1 hv2 hv3, hs4_3 (F := F0) hP hk1 hp' hq2' (show (p + 1) % 16 = 3 by omega) hu0 hu1 hu2 hu3, hc]
        exact ih (k + 1) F (2 * P) (p / 16) ((p + 1) / 16) _ _ _ _ _ _ _ _ hP' (by omega) (by omega) (by omega) (by omega) (by omega) (by omega) (by omega) (by omega) (by omega) (by omega) (by omega) (by omega) (by omega) (by omega) (by omega) (by omega) (.inl ⟨by omega, by omega⟩)
      · rw [hs4_3 (F := F0) hP hk1 hp hq2 he hv0 hv1 hv2 hv3, hs4_4 (F := F0) hP hk1 hp' hq2' (show (p + 1) % 16 = 4 by omega) hu0 hu1 hu2 hu3, hc]
        exact ih (k + 1) F (2 * P) (p / 16) ((p + 1) / 16) _ _ _ _ _ _ _ _ hP' (by omega) (by omega) (by omega) (by omega) (by omega) (by omega) (by omega) (by omega) (by omega) (by omega) (by omega) (by omega) (by omega) (by omega) (by omega) (by omega) (.inl ⟨by omega, by omega⟩)
      · rw [hs4_4 (F := F0) hP hk1 hp hq2 he hv0 hv1 hv2 hv3, hs4_5 (F := F0) hP hk1 hp' hq2' (show (p + 1) % 16 = 5 by omega) hu0 hu1 hu2 hu3, hc]
        exact ih (k + 1) F (2 * P) (p / 16) ((p + 1) / 16) _ _ _ _ _ _ _ _ hP' (by omega) (by omega) (by omega) (by omega) (by omega) (by omega) (by omega) (by omega) (by omega) (by omega) (by omega) (by omega) (by omega) (by omega) (by omega) (by omega) (.inl ⟨by omega, by omega⟩)
      · rw [hs4_5 (F := F0) hP hk1 hp hq2 he hv0 hv1 hv2 hv3, hs4_6 (F := F0) hP hk1 hp' hq2' (show (p + 1) % 16 = 6 by omega) hu0 hu1 hu2 hu3, hc]
        exact ih (k + 1) F (2 * P) (p / 16) ((p + 1) / 16) _ _ _ _ _ _ _ _ hP' (by omega) (by omega) (by omega) (by omega) (by omega) (by omega) (by omega) (by omega) (by omega) (by omega) (by omega) (by omega) (by omega) (by omega) (by omega) (by omega) (.inl ⟨by omega, by omega⟩)
      · rw [hs4_6 (F := F0) hP hk1 hp hq2 he hv0 hv1 hv2 hv3, hs4_7 (F := F0) hP hk1 hp' hq2' (show (p + 1) % 16 = 7 by omega) hu0 hu1 hu2 hu3, hc]
        exact ih (k + 1) F (2 * P) (p / 16) ((p + 1) / 16) _ _ _ _ _ _ _ _ hP' (by omega) (by omega) (by omega) (by omega) (by omega) (by omega) (by omega) (by omega) (by omega) (by omega) (by omega) (by omega) (by omega) (by omega) (by omega) (by omega) (.inl ⟨by omega, by omega⟩)
      · rw [hs4_7 (F := F0) hP hk1 hp hq2 he hv0 hv1 hv2 hv3, hs4_8 (F := F0) hP hk1 hp' hq2' (show (p + 1) % 16 = 8 by omega) hu0 hu1 hu2 hu3, hc]
        exact ih (k + 1) F (2 * P) (p / 16) ((p + 1) / 16) _ _ _ _ _ _ _ _ hP' (by omega) (by omega) (by omega) (by omega) (by omega) (by omega) (by omega) (by omega) (by omega) (by omega) (by omega) (by omega) (by omega) (by omega) (by omega) (by omega) (.inl ⟨by omega, by omega⟩)
      · rw [hs4_8 (F := F0) hP hk1 hp hq2 he hv0 hv1 hv2 hv3, hs4_9 (F := F0) hP hk1 hp' hq2' (show (p + 1) % 16 = 9 by omega) hu0 hu1 hu2 hu3, hc]
        exact ih (k + 1) F (2 * P) (p / 16) ((p + 1) / 16) _ _ _ _ _ _ _ _ hP' (by omega) (by omega) (by omega) (by omega) (by omega) (by omega) (by omega) (by omega) (by omega) (by omega) (by omega) (by omega) (by omega) (by omega) (by omega) (by omega) (.inl ⟨by omega, by omega⟩)
      · rw [hs4_9 (F := F0) hP hk1 hp hq2 he hv0 hv1 hv2 hv3, hs4_10 (F := F0) hP hk1 hp' hq2' (show (p + 1) % 16 = 10 by omega) hu0 hu1 hu2 hu3, hc]
        exact ih (k + 1) F (2 * P) (p / 16) ((p + 1) / 16) _ _ _ _ _ _ _ _ hP' (by omega) (by omega) (by omega) (by omega) (by omega) (by omega) (by omega) (by omega) (by omega) (by omega) (by omega) (by omega) (by omega) (by omega) (by omega) (by omega) (.inl ⟨by omega, by omega⟩)
      · rw [hs4_10 (F := F0) hP hk1 hp hq2 he hv0 hv1 hv2 hv3, hs4_11 (F := F0) hP hk1 hp' hq2' (show (p + 1) % 16 = 11 by omega) hu0 hu1 hu2 hu3, hc]
        exact ih (k + 1) F (2 * P) (p / 16) ((p + 1) / 16) _ _ _ _ _ _ _ _ hP' (by omega) (by omega) (by omega) (by omega) (by omega) (by omega) (by omega) (by omega) (by omega) (by omega) (by omega) (by omega) (by omega) (by omega) (by omega) (by omega) (.inl ⟨by omega, by omega⟩)
      · rw [hs4_11 (F := F0) hP hk1 hp hq2 he hv0 hv1 hv2 hv3, hs4_12 (F := F0) hP hk1 hp' hq2' (show (p + 1) % 16 = 12 by omega) hu0 hu1 hu2 hu3, hc]
        exact ih (k + 1) F (2 * P) (p / 16) ((p + 1) / 16) _ _ _ _ _ _ _ _ hP' (by omega) (by omega) (by omega) (by omega) (by omega) (by omega) (by omega) (by omega) (by omega) (by omega) (by omega) (by omega) (by omega) (by omega) (by omega) (by omega) (.inl ⟨by omega, by omega⟩)
      · rw [hs4_12 (F := F0) hP hk1 hp hq2 he hv0 hv1 hv2 hv3, hs4_13 (F := F0) hP hk1 hp' hq2' (show (p + 1) % 16 = 13 by omega) hu0 hu1 hu2 hu3, hc]
        exact ih (k + 1) F (2 * P) (p / 16) ((p + 1) / 16) _ _ _ _ _ _ _ _ hP' (by omega) (by omega) (by omega) (by omega) (by omega) (by omega) (by omega) (by omega) (by omega) (by omega) (by omega) (by omega) (by omega) (by omega) (by omega) (by omega) (.inl ⟨by omega, by omega⟩)
      · rw [hs4_13 (F := F0) hP hk1 hp hq2 he hv0 hv1 hv2 hv3, hs4_14 (F := F0) hP hk1 hp' hq2' (show (p + 1) % 16 = 14 by omega) hu0 hu1 hu2 hu3, hc]
        exact ih (k + 1) F (2 * P) (p / 16) ((p + 1) / 16) _ _ _ _ _ _ _ _ hP' (by omega) (by omega) (by omega) (by omega) (by omega) (by omega) (by omega) (by omega) (by omega) (by omega) (by omega) (by omega) (by omega) (by omega) (by omega) (by omega) (.inl ⟨by omega, by omega⟩)
      · rw [hs4_14 (F := F0) hP hk1 hp hq2 he hv0 hv1 hv2 hv3, hs4_15 (F := F0) hP hk1 hp' hq2' (show (p + 1) % 16 = 15 by omega) hu0 hu1 hu2 hu3, hc]
        exact ih (k + 1) F (2 * P) (p / 16) ((p + 1) / 16) _ _ _ _ _ _ _ _ hP' (by omega) (by omega) (by omega) (by omega) (by omega) (by omega) (by omega) (by omega) (by omega) (by omega) (by omega) (by omega) (by omega) (by omega) (by omega) (by omega) (.inl ⟨by omega, by omega⟩)
      · rw [hs4_15 (F := F0) hP hk1 hp hq2 he hv0 hv1 hv2 hv3, hs4_0 (F := F0) hP hk1 hp' hq2' (show (p + 1) % 16 = 0 by omega) hu0 hu1 hu2 hu3, hc]
        exact ih (k + 1) F (2 * P) (p / 16) ((p + 1) / 16) _ _ _ _ _ _ _ _ hP' (by omega) (by omega) (by omega) (by omega) (by omega) (by omega) (by omega) (by omega) (by omega) (by omega) (by omega) (by omega) (by omega) (by omega) (by omega) (by omega) (.inr ⟨by omega, by omega, by omega, by omega, by omega, by omega, by omega, by omega, by omega⟩)
end Go.Proofs.YtkajoiehicpnlaaDoor.Wk
