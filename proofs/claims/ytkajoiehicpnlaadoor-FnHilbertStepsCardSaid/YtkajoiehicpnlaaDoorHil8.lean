/- Proved: the law of the steps of Hilbert curves. -/
import Derived.Test.YtkajoiehicpnlaaDoorHil7
namespace Go.Proofs.YtkajoiehicpnlaaDoor.Wk
open Go.Vm
set_option linter.unusedVariables false
set_option linter.unusedSimpArgs false
theorem hs_step {F : Nat} {l l' : List Int} {i : Nat} {x y s dd : Int} (hx : l[i]? = some x) (hy : l'[i]? = some y) (hd : x - y = dd) (h1 : dd = 0 ∨ dd = 1 ∨ dd = -1) (hs : 0 ≤ s ∧ s ≤ 10) (hi : i ≤ 10) :
    iter (p_FnHilbertSteps_l4 (l, true) (l', true)) (F + 1) (s, (i : Int)) = iter (p_FnHilbertSteps_l4 (l, true) (l', true)) F (s + dd * dd, ((i + 1 : Nat) : Int)) := by
  have hlt := (List.getElem?_eq_some_iff.1 hx).1
  show p_FnHilbertSteps_l4 (l, true) (l', true) (iter (p_FnHilbertSteps_l4 (l, true) (l', true)) F) _ = _
  obtain ⟨K, hK⟩ : ∃ K, K = iter (p_FnHilbertSteps_l4 (l, true) (l', true)) F := ⟨_, rfl⟩
  rw [← hK]
  unfold p_FnHilbertSteps_l4
  dsimp only
  have h2 : dd * dd ≤ 1 ∧ 0 ≤ dd * dd := by rcases h1 with rfl | rfl | rfl <;> decide
  rw [cond_t (decide_eq_true (by omega)), idx_get hx, Option.bind_some, idx_get hy, Option.bind_some, hd, need_pos (in64m (by omega) (by omega)), need_pos (in64m (by omega) (by omega)), need_pos (in64m (by omega) (by omega)), succ_cast, need_pos (in64m (by omega) (by omega))]
theorem hs_end {F : Nat} {l l' : List Int} {i : Nat} {s : Int} (h : i = l.length) : iter (p_FnHilbertSteps_l4 (l, true) (l', true)) (F + 1) (s, (i : Int)) = some (.inl s) := by
  show p_FnHilbertSteps_l4 (l, true) (l', true) (iter (p_FnHilbertSteps_l4 (l, true) (l', true)) F) _ = _
  unfold p_FnHilbertSteps_l4
  dsimp only
  rw [cond_f (decide_eq_false (by omega))]
theorem hsum2 {F : Nat} {w0 w1 z0 z1 : Int} (h : (w0 - z0).natAbs + (w1 - z1).natAbs = 1) : p_FnHilbertSteps_k2 (F + 10) ([w0, w1], true) ([z0, z1], true) false = some true := by
  rcases (show w0 - z0 = 1 ∨ w0 - z0 = -1 ∨ w0 - z0 = 0 by omega) with h0 | h0 | h0
  · have h1 : w1 - z1 = 0 := by omega
    unfold p_FnHilbertSteps_k2
    rw [cond_f rfl, show (((0 : Int), (0 : Int)) : Int × Int) = ((0 : Int), ((0 : Nat) : Int)) from rfl]
    rw [hs_step (i := 0) rfl rfl h0 (by omega) (by omega) (by omega), hs_step (i := 1) rfl rfl h1 (by omega) (by omega) (by omega), hs_end (i := 2) (show 2 = List.length [w0, w1] from rfl)]
    rfl
  · have h1 : w1 - z1 = 0 := by omega
    unfold p_FnHilbertSteps_k2
    rw [cond_f rfl, show (((0 : Int), (0 : Int)) : Int × Int) = ((0 : Int), ((0 : Nat) : Int)) from rfl]
    rw [hs_step (i := 0) rfl rfl h0 (by omega) (by omega) (by omega), hs_step (i := 1) rfl rfl h1 (by omega) (by omega) (by omega), hs_end (i := 2) (show 2 = List.length [w0, w1] from rfl)]
    rfl
  · skip
    rcases (show w1 - z1 = 1 ∨ w1 - z1 = -1 by omega) with h1 | h1
    · unfold p_FnHilbertSteps_k2
      rw [cond_f rfl, show (((0 : Int), (0 : Int)) : Int × Int) = ((0 : Int), ((0 : Nat) : Int)) from rfl]
      rw [hs_step (i := 0) rfl rfl h0 (by omega) (by omega) (by omega), hs_step (i := 1) rfl rfl h1 (by omega) (by omega) (by omega), hs_end (i := 2) (show 2 = List.length [w0, w1] from rfl)]
      rfl
    · unfold p_FnHilbertSteps_k2
      rw [cond_f rfl, show (((0 : Int), (0 : Int)) : Int × Int) = ((0 : Int), ((0 : Nat) : Int)) from rfl]
      rw [hs_step (i := 0) rfl rfl h0 (by omega) (by omega) (by omega), hs_step (i := 1) rfl rfl h1 (by omega) (by omega) (by omega), hs_end (i := 2) (show 2 = List.length [w0, w1] from rfl)]
      rfl
theorem hpair2 {F : Nat} {ord p : Int} (h1 : 1 ≤ ord) (h2 : ord ≤ 31) (hp : 0 ≤ p) (hq : p + 1 < 4 ^ ord.toNat) (hq2 : p + 1 < 2 ^ 63) (hF : 40 ≤ F) : p_FnHilbertSteps_k1 2 ord p (F + 10) false = some true := by
  have hP : Pw 0 1 := pw 0 (by decide)
  obtain ⟨w0, w1, z0, z1, e1, e2, e3⟩ := hrun2 ord (by omega) ord.toNat 0 (F + 10) 1 p (p + 1) 0 0 0 0 hP (by omega) (by omega) hp (by omega) (by omega) (by omega) hq hq2 ⟨by decide, by decide⟩ ⟨by decide, by decide⟩ ⟨by decide, by decide⟩ ⟨by decide, by decide⟩ (.inr ⟨rfl, rfl, rfl, rfl, rfl⟩)
  have c1 : ∀ q l, iter (p_HCoord_l2 ord) (F + 10) (q, (0 : Int), [(0 : Int), (0 : Int)]) = some (.inl l) → 2 = l.length → p_HCoord (F + 10) 2 ord q = some (l, true) := by
    intro q l hl hlen
    unfold p_HCoord
    rw [cond_t (show decide ((2 : Int) = (2 : Int)) = true from rfl), cond_f (decide_eq_false (show ¬ ord < 1 by omega)), need_pos (in64m (by omega) (by omega)), cond_f (decide_eq_false (show ¬ (64 : Int) ≤ ord * 2 by omega)), need_pos (by decide), show List.replicate (2 : Int).toNat (0 : Int) = [0, 0] from rfl, hl, Option.bind_some, aft_inl]
    unfold p_HCoord_k1
    exact need_pos (show (2 : Int).toNat * 0 + 2 = l.length from hlen) _
  unfold p_FnHilbertSteps_k1
  rw [cond_f rfl, c1 p _ e1 rfl, Option.bind_some, need_pos (in64m (by omega) (by omega)), c1 (p + 1) _ e2 rfl, Option.bind_some]
  simp only [List.length_cons, List.length_nil, Bool.not_true, cond_false]
  exact hsum2 e3
theorem hsum3 {F : Nat} {w0 w1 w2 z0 z1 z2 : Int} (h : (w0 - z0).natAbs + (w1 - z1).natAbs + (w2 - z2).natAbs = 1) : p_FnHilbertSteps_k2 (F + 10) ([w0, w1, w2], true) ([z0, z1, z2], true) false = some true := by
  rcases (show w0 - z0 = 1 ∨ w0 - z0 = -1 ∨ w0 - z0 = 0 by omega) with h0 | h0 | h0
  · have h1 : w1 - z1 = 0 := by omega
    have h2 : w2 - z2 = 0 := by omega
    unfold p_FnHilbertSteps_k2
    rw [cond_f rfl, show (((0 : Int), (0 : Int)) : Int × Int) = ((0 : Int), ((0 : Nat) : Int)) from rfl]
    rw [hs_step (i := 0) rfl rfl h0 (by omega) (by omega) (by omega), hs_step (i := 1) rfl rfl h1 (by omega) (by omega) (by omega), hs_step (i := 2) rfl rfl h2 (by omega) (by omega) (by omega), hs_end (i := 3) (show 3 = List.length [w0, w1, w2] from rfl)]
    rfl
  · have h1 : w1 - z1 = 0 := by omega
    have h2 : w2 - z2 = 0 := by omega
    unfold p_FnHilbertSteps_k2
    rw [cond_f rfl, show (((0 : Int), (0 : Int)) : Int × Int) = ((0 : Int), ((0 : Nat) : Int)) from rfl]
    rw [hs_step (i := 0) rfl rfl h0 (by omega) (by omega) (by omega), hs_step (i := 1) rfl rfl h1 (by omega) (by omega) (by omega), hs_step (i := 2) rfl rfl h2 (by omega) (by omega) (by omega), hs_end (i := 3) (show 3 = List.length [w0, w1, w2] from rfl)]
    rfl
  · skip
    rcases (show w1 - z1 = 1 ∨ w1 - z1 = -1 ∨ w1 - z1 = 0 by omega) with h1 | h1 | h1
    · have h2 : w2 - z2 = 0 := by omega
      unfold p_FnHilbertSteps_k2
      rw [cond_f rfl, show (((0 : Int), (0 : Int)) : Int × Int) = ((0 : Int), ((0 : Nat) : Int)) from rfl]
      rw [hs_step (i := 0) rfl rfl h0 (by omega) (by omega) (by omega), hs_step (i := 1) rfl rfl h1 (by omega) (by omega) (by omega), hs_step (i := 2) rfl rfl h2 (by omega) (by omega) (by omega), hs_end (i := 3) (show 3 = List.length [w0, w1, w2] from rfl)]
      rfl
    · have h2 : w2 - z2 = 0 := by omega
      unfold p_FnHilbertSteps_k2
      rw [cond_f rfl, show (((0 : Int), (0 : Int)) : Int × Int) = ((0 : Int), ((0 : Nat) : Int)) from rfl]
      rw [hs_step (i := 0) rfl rfl h0 (by omega) (by omega) (by omega), hs_step (i := 1) rfl rfl h1 (by omega) (by omega) (by omega), hs_step (i := 2) rfl rfl h2 (by omega) (by omega) (by omega), hs_end (i := 3) (show 3 = List.length [w0, w1, w2] from rfl)]
      rfl
    · skip
      rcases (show w2 - z2 = 1 ∨ w2 - z2 = -1 by omega) with h2 | h2
      · unfold p_FnHilbertSteps_k2
        rw [cond_f rfl, show (((0 : Int), (0 : Int)) : Int × Int) = ((0 : Int), ((0 : Nat) : Int)) from rfl]
        rw [hs_step (i := 0) rfl rfl h0 (by omega) (by omega) (by omega), hs_step (i := 1) rfl rfl h1 (by omega) (by omega) (by omega), hs_step (i := 2) rfl rfl h2 (by omega) (by omega) (by omega), hs_end (i := 3) (show 3 = List.length [w0, w1, w2] from rfl)]
        rfl
      · unfold p_FnHilbertSteps_k2
        rw [cond_f rfl, show (((0 : Int), (0 : Int)) : Int × Int) = ((0 : Int), ((0 : Nat) : Int)) from rfl]
        rw [hs_step (i := 0) rfl rfl h0 (by omega) (by omega) (by omega), hs_step (i := 1) rfl rfl h1 (by omega) (by omega) (by omega), hs_step (i := 2) rfl rfl h2 (by omega) (by omega) (by omega), hs_end (i := 3) (show 3 = List.length [w0, w1, w2] from rfl)]
        rfl
theorem hpair3 {F : Nat} {ord p : Int} (h1 : 1 ≤ ord) (h2 : ord ≤ 20) (hp : 0 ≤ p) (hq : p + 1 < 8 ^ ord.toNat) (hq2 : p + 1 < 2 ^ 63) (hF : 40 ≤ F) : p_FnHilbertSteps_k1 3 ord p (F + 10) false = some true := by
  have hP : Pw 0 1 := pw 0 (by decide)
  obtain ⟨w0, w1, w2, z0, z1, z2, e1, e2, e3⟩ := hrun3 ord (by omega) ord.toNat 0 (F + 10) 1 p (p + 1) 0 0 0 0 0 0 hP (by omega) (by omega) hp (by omega) (by omega) (by omega) hq hq2 ⟨by decide, by decide⟩ ⟨by decide, by decide⟩ ⟨by decide, by decide⟩ ⟨by decide, by decide⟩ ⟨by decide, by decide⟩ ⟨by decide, by decide⟩ (.inr ⟨rfl, rfl, rfl, rfl, rfl, rfl, rfl⟩)
  have c1 : ∀ q l, iter (p_HCoord_l4 ord) (F + 10) (q, (0 : Int), [(0 : Int), (0 : Int), (0 : Int)]) = some (.inl l) → 3 = l.length → p_HCoord (F + 10) 3 ord q = some (l, true) := by
    intro q l hl hlen
    unfold p_HCoord
    rw [cond_f (show decide ((3 : Int) = (2 : Int)) = false from rfl), cond_t (show decide ((3 : Int) = (3 : Int)) = true from rfl), cond_f (decide_eq_false (show ¬ ord < 1 by omega)), need_pos (in64m (by omega) (by omega)), cond_f (decide_eq_false (show ¬ (64 : Int) ≤ ord * 3 by omega)), need_pos (by decide), show List.replicate (3 : Int).toNat (0 : Int) = [0, 0, 0] from rfl, hl, Option.bind_some, aft_inl]
    unfold p_HCoord_k3
    exact need_pos (show (2 : Int).toNat * 0 + 3 = l.length from hlen) _
  unfold p_FnHilbertSteps_k1
  rw [cond_f rfl, c1 p _ e1 rfl, Option.bind_some, need_pos (in64m (by omega) (by omega)), c1 (p + 1) _ e2 rfl, Option.bind_some]
  simp only [List.length_cons, List.length_nil, Bool.not_true, cond_false]
  exact hsum3 e3
theorem hsum4 {F : Nat} {w0 w1 w2 w3 z0 z1 z2 z3 : Int} (h : (w0 - z0).natAbs + (w1 - z1).natAbs + (w2 - z2).natAbs + (w3 - z3).natAbs = 1) : p_FnHilbertSteps_k2 (F + 10) ([w0, w1, w2, w3], true) ([z0, z1, z2, z3], true) false = some true := by
  rcases (show w0 - z0 = 1 ∨ w0 - z0 = -1 ∨ w0 - z0 = 0 by omega) with h0 | h0 | h0
  · have h1 : w1 - z1 = 0 := by omega
    have h2 : w2 - z2 = 0 := by omega
    have h3 : w3 - z3 = 0 := by omega
    unfold p_FnHilbertSteps_k2
    rw [cond_f rfl, show (((0 : Int), (0 : Int)) : Int × Int) = ((0 : Int), ((0 : Nat) : Int)) from rfl]
    rw [hs_step (i := 0) rfl rfl h0 (by omega) (by omega) (by omega), hs_step (i := 1) rfl rfl h1 (by omega) (by omega) (by omega), hs_step (i := 2) rfl rfl h2 (by omega) (by omega) (by omega), hs_step (i := 3) rfl rfl h3 (by omega) (by omega) (by omega), hs_end (i := 4) (show 4 = List.length [w0, w1, w2, w3] from rfl)]
    rfl
  · have h1 : w1 - z1 = 0 := by omega
    have h2 : w2 - z2 = 0 := by omega
    have h3 : w3 - z3 = 0 := by omega
    unfold p_FnHilbertSteps_k2
    rw [cond_f rfl, show (((0 : Int), (0 : Int)) : Int × Int) = ((0 : Int), ((0 : Nat) : Int)) from rfl]
    rw [hs_step (i := 0) rfl rfl h0 (by omega) (by omega) (by omega), hs_step (i := 1) rfl rfl h1 (by omega) (by omega) (by omega), hs_step (i := 2) rfl rfl h2 (by omega) (by omega) (by omega), hs_step (i := 3) rfl rfl h3 (by omega) (by omega) (by omega), hs_end (i := 4) (show 4 = List.length [w0, w1, w2, w3] from rfl)]
    rfl
  · skip
    rcases (show w1 - z1 = 1 ∨ w1 - z1 = -1 ∨ w1 - z1 = 0 by omega) with h1 | h1 | h1
    · have h2 : w2 - z2 = 0 := by omega
      have h3 : w3 - z3 = 0 := by omega
      unfold p_FnHilbertSteps_k2
      rw [cond_f rfl, show (((0 : Int), (0 : Int)) : Int × Int) = ((0 : Int), ((0 : Nat) : Int)) from rfl]
      rw [hs_step (i := 0) rfl rfl h0 (by omega) (by omega) (by omega), hs_step (i := 1) rfl rfl h1 (by omega) (by omega) (by omega), hs_step (i := 2) rfl rfl h2 (by omega) (by omega) (by omega), hs_step (i := 3) rfl rfl h3 (by omega) (by omega) (by omega), hs_end (i := 4) (show 4 = List.length [w0, w1, w2, w3] from rfl)]
      rfl
    · have h2 : w2 - z2 = 0 := by omega
      have h3 : w3 - z3 = 0 := by omega
      unfold p_FnHilbertSteps_k2
      rw [cond_f rfl, show (((0 : Int), (0 : Int)) : Int × Int) = ((0 : Int), ((0 : Nat) : Int)) from rfl]
      rw [hs_step (i := 0) rfl rfl h0 (by omega) (by omega) (by omega), hs_step (i := 1) rfl rfl h1 (by omega) (by omega) (by omega), hs_step (i := 2) rfl rfl h2 (by omega) (by omega) (by omega), hs_step (i := 3) rfl rfl h3 (by omega) (by omega) (by omega), hs_end (i := 4) (show 4 = List.length [w0, w1, w2, w3] from rfl)]
      rfl
    · skip
      rcases (show w2 - z2 = 1 ∨ w2 - z2 = -1 ∨ w2 - z2 = 0 by omega) with h2 | h2 | h2
      · have h3 : w3 - z3 = 0 := by omega
        unfold p_FnHilbertSteps_k2
        rw [cond_f rfl, show (((0 : Int), (0 : Int)) : Int × Int) = ((0 : Int), ((0 : Nat) : Int)) from rfl]
        rw [hs_step (i := 0) rfl rfl h0 (by omega) (by omega) (by omega), hs_step (i := 1) rfl rfl h1 (by omega) (by omega) (by omega), hs_step (i := 2) rfl rfl h2 (by omega) (by omega) (by omega), hs_step (i := 3) rfl rfl h3 (by omega) (by omega) (by omega), hs_end (i := 4) (show 4 = List.length [w0, w1, w2, w3] from rfl)]
        rfl
      · have h3 : w3 - z3 = 0 := by omega
        unfold p_FnHilbertSteps_k2
        rw [cond_f rfl, show (((0 : Int), (0 : Int)) : Int × Int) = ((0 : Int), ((0 : Nat) : Int)) from rfl]
        rw [hs_step (i := 0) rfl rfl h0 (by omega) (by omega) (by omega), hs_step (i := 1) rfl rfl h1 (by omega) (by omega) (by omega), hs_step (i := 2) rfl rfl h2 (by omega) (by omega) (by omega), hs_step (i := 3) rfl rfl h3 (by omega) (by omega) (by omega), hs_end (i := 4) (show 4 = List.length [w0, w1, w2, w3] from rfl)]
        rfl
      · skip
        rcases (show w3 - z3 = 1 ∨ w3 - z3 = -1 by omega) with h3 | h3
        · unfold p_FnHilbertSteps_k2
          rw [cond_f rfl, show (((0 : Int), (0 : Int)) : Int × Int) = ((0 : Int), ((0 : Nat) : Int)) from rfl]
          rw [hs_step (i := 0) rfl rfl h0 (by omega) (by omega) (by omega), hs_step (i := 1) rfl rfl h1 (by omega) (by omega) (by omega), hs_step (i := 2) rfl rfl h2 (by omega) (by omega) (by omega), hs_step (i := 3) rfl rfl h3 (by omega) (by omega) (by omega), hs_end (i := 4) (show 4 = List.length [w0, w1, w2, w3] from rfl)]
          rfl
        · unfold p_FnHilbertSteps_k2
          rw [cond_f rfl, show (((0 : Int), (0 : Int)) : Int × Int) = ((0 : Int), ((0 : Nat) : Int)) from rfl]
          rw [hs_step (i := 0) rfl rfl h0 (by omega) (by omega) (by omega), hs_step (i := 1) rfl rfl h1 (by omega) (by omega) (by omega), hs_step (i := 2) rfl rfl h2 (by omega) (by omega) (by omega), hs_step (i := 3) rfl rfl h3 (by omega) (by omega) (by omega), hs_end (i := 4) (show 4 = List.length [w0, w1, w2, w3] from rfl)]
          rfl
theorem hpair4 {F : Nat} {ord p : Int} (h1 : 1 ≤ ord) (h2 : ord ≤ 15) (hp : 0 ≤ p) (hq : p + 1 < 16 ^ ord.toNat) (hq2 : p + 1 < 2 ^ 63) (hF : 40 ≤ F) : p_FnHilbertSteps_k1 4 ord p (F + 10) false = some true := by
  have hP : Pw 0 1 := pw 0 (by decide)
  obtain ⟨w0, w1, w2, w3, z0, z1, z2, z3, e1, e2, e3⟩ := hrun4 (F0 := F + 5) ord (by omega) ord.toNat 0 (F + 10) 1 p (p + 1) 0 0 0 0 0 0 0 0 hP (by omega) (by omega) hp (by omega) (by omega) (by omega) hq hq2 ⟨by decide, by decide⟩ ⟨by decide, by decide⟩ ⟨by decide, by decide⟩ ⟨by decide, by decide⟩ ⟨by decide, by decide⟩ ⟨by decide, by decide⟩ ⟨by decide, by decide⟩ ⟨by decide, by decide⟩ (.inr ⟨rfl, rfl, rfl, rfl, rfl, rfl, rfl, rfl, rfl⟩)
  have c1 : ∀ q l, iter (p_HCoord_l9 ord (F + 10)) (F + 10) (q, (0 : Int), [(0 : Int), (0 : Int), (0 : Int), (0 : Int)]) = some (.inl l) → 4 = l.length → p_HCoord (F + 10) 4 ord q = some (l, true) := by
    intro q l hl hlen
    unfold p_HCoord
    rw [cond_f (show decide ((4 : Int) = (2 : Int)) = false from rfl), cond_f (show decide ((4 : Int) = (3 : Int)) = false from rfl), cond_t (show decide ((4 : Int) = (4 : Int)) = true from rfl), cond_f (decide_eq_false (show ¬ ord < 1 by omega)), need_pos (in64m (by omega) (by omega)), cond_f (decide_eq_false (show ¬ (64 : Int) ≤ ord * 4 by omega)), need_pos (by decide), show List.replicate (4 : Int).toNat (0 : Int) = [0, 0, 0, 0] from rfl, hl, Option.bind_some, aft_inl]
    unfold p_HCoord_k8
    exact need_pos (show (2 : Int).toNat * 0 + 4 = l.length from hlen) _
  unfold p_FnHilbertSteps_k1
  rw [cond_f rfl, c1 p _ e1 rfl, Option.bind_some, need_pos (in64m (by omega) (by omega)), c1 (p + 1) _ e2 rfl, Option.bind_some]
  simp only [List.length_cons, List.length_nil, Bool.not_true, cond_false]
  exact hsum4 e3
theorem curved_p (a o : Int) : ∃ b, p_curved a o = some b ∧ (b = true → ((a = 2 ∧ o ≤ 31) ∨ (a = 3 ∧ o ≤ 20) ∨ (a = 4 ∧ o ≤ 15)) ∧ 1 ≤ o) := by
  unfold p_curved
  by_cases h1 : 2 ≤ a
  · rw [cond_t (decide_eq_true h1)]
    by_cases h2 : a ≤ 4
    · rw [cond_t (decide_eq_true h2)]
      by_cases h3 : 1 ≤ o
      · rw [cond_t (decide_eq_true h3)]
        have ha : a = 2 ∨ a = 3 ∨ a = 4 := by omega
        rcases ha with rfl | rfl | rfl
        · exact ⟨_, rfl, fun h => ⟨.inl ⟨rfl, of_decide_eq_true h⟩, h3⟩⟩
        · have e : p_orders 3 = some 20 := by decide +kernel
          rw [e]
          exact ⟨_, rfl, fun h => ⟨.inr (.inl ⟨rfl, of_decide_eq_true h⟩), h3⟩⟩
        · have e : p_orders 4 = some 15 := by decide +kernel
          rw [e]
          exact ⟨_, rfl, fun h => ⟨.inr (.inr ⟨rfl, of_decide_eq_true h⟩), h3⟩⟩
      · rw [cond_f (decide_eq_false h3)]
        exact ⟨_, rfl, fun h => by cases h⟩
    · rw [cond_f (decide_eq_false h2)]
      exact ⟨_, rfl, fun h => by cases h⟩
  · rw [cond_f (decide_eq_false h1)]
    exact ⟨_, rfl, fun h => by cases h⟩
theorem hlaw2 {F : Nat} {o p : Int} (h1 : 1 ≤ o) (h2 : o ≤ 31) (hp : 0 ≤ p) (hF : 40 ≤ F) : need (inI .i64 (2 * o)) (need (0 ≤ 2 * o ∧ 2 * o ≤ (IntKind.i64.bits : Int)) (need (inI .i64 (IntKind.i64.wrap ((1 : Int) * 2 ^ (2 * o).toNat) - (1 : Int))) (p_FnHilbertSteps_k1 2 o p (F + 10) (decide (IntKind.i64.wrap ((1 : Int) * 2 ^ (2 * o).toNat) - (1 : Int) ≤ p))))) = some true := by
  obtain ⟨m, rfl⟩ : ∃ m : Nat, o = m := ⟨o.toNat, by omega⟩
  have e1 : (2 * (m : Int)).toNat = 2 * m := by omega
  obtain ⟨E, hE⟩ : ∃ E : Nat, E = 2 ^ (2 * m) := ⟨_, rfl⟩
  have hE2 : E ≤ 2 ^ 62 := by rw [hE]; exact Nat.pow_le_pow_right (by decide) (by omega)
  have hE1 : 1 ≤ E := by rw [hE]; exact Nat.one_le_two_pow
  have e2 : (1 : Int) * 2 ^ (2 * (m : Int)).toNat = (E : Int) := by rw [e1, Int.one_mul, hE]; simp
  have e3 : IntKind.i64.wrap (E : Int) = E := wrap_in .i64 _ (by simp only [lo]; omega) (by simp only [hi]; omega)
  rw [e2, e3, need_pos (in64m (by omega) (by omega)), need_pos (show (0 : Int) ≤ 2 * (m : Int) ∧ 2 * (m : Int) ≤ (IntKind.i64.bits : Int) from ⟨by omega, by show 2 * (m : Int) ≤ 64; omega⟩), need_pos (in64m (by omega) (by omega))]
  by_cases h : (E : Int) - 1 ≤ p
  · rw [decide_eq_true h]; rfl
  · rw [decide_eq_false h]
    refine hpair2 h1 h2 hp ?_ (by omega) hF
    have e4 : (4 : Int) ^ ((m : Int)).toNat = (E : Int) := by
      rw [Int.toNat_natCast, hE, Nat.pow_mul]
      simp
    rw [e4]
    omega
theorem hlaw3 {F : Nat} {o p : Int} (h1 : 1 ≤ o) (h2 : o ≤ 20) (hp : 0 ≤ p) (hF : 40 ≤ F) : need (inI .i64 (3 * o)) (need (0 ≤ 3 * o ∧ 3 * o ≤ (IntKind.i64.bits : Int)) (need (inI .i64 (IntKind.i64.wrap ((1 : Int) * 2 ^ (3 * o).toNat) - (1 : Int))) (p_FnHilbertSteps_k1 3 o p (F + 10) (decide (IntKind.i64.wrap ((1 : Int) * 2 ^ (3 * o).toNat) - (1 : Int) ≤ p))))) = some true := by
  obtain ⟨m, rfl⟩ : ∃ m : Nat, o = m := ⟨o.toNat, by omega⟩
  have e1 : (3 * (m : Int)).toNat = 3 * m := by omega
  obtain ⟨E, hE⟩ : ∃ E : Nat, E = 2 ^ (3 * m) := ⟨_, rfl⟩
  have hE2 : E ≤ 2 ^ 62 := by rw [hE]; exact Nat.pow_le_pow_right (by decide) (by omega)
  have hE1 : 1 ≤ E := by rw [hE]; exact Nat.one_le_two_pow
  have e2 : (1 : Int) * 2 ^ (3 * (m : Int)).toNat = (E : Int) := by rw [e1, Int.one_mul, hE]; simp
  have e3 : IntKind.i64.wrap (E : Int) = E := wrap_in .i64 _ (by simp only [lo]; omega) (by simp only [hi]; omega)
  rw [e2, e3, need_pos (in64m (by omega) (by omega)), need_pos (show (0 : Int) ≤ 3 * (m : Int) ∧ 3 * (m : Int) ≤ (IntKind.i64.bits : Int) from ⟨by omega, by show 3 * (m : Int) ≤ 64; omega⟩), need_pos (in64m (by omega) (by omega))]
  by_cases h : (E : Int) - 1 ≤ p
  · rw [decide_eq_true h]; rfl
  · rw [decide_eq_false h]
    refine hpair3 h1 h2 hp ?_ (by omega) hF
    have e4 : (8 : Int) ^ ((m : Int)).toNat = (E : Int) := by
      rw [Int.toNat_natCast, hE, Nat.pow_mul]
      simp
    rw [e4]
    omega
theorem hlaw4 {F : Nat} {o p : Int} (h1 : 1 ≤ o) (h2 : o ≤ 15) (hp : 0 ≤ p) (hF : 40 ≤ F) : need (inI .i64 (4 * o)) (need (0 ≤ 4 * o ∧ 4 * o ≤ (IntKind.i64.bits : Int)) (need (inI .i64 (IntKind.i64.wrap ((1 : Int) * 2 ^ (4 * o).toNat) - (1 : Int))) (p_FnHilbertSteps_k1 4 o p (F + 10) (decide (IntKind.i64.wrap ((1 : Int) * 2 ^ (4 * o).toNat) - (1 : Int) ≤ p))))) = some true := by
  obtain ⟨m, rfl⟩ : ∃ m : Nat, o = m := ⟨o.toNat, by omega⟩
  have e1 : (4 * (m : Int)).toNat = 4 * m := by omega
  obtain ⟨E, hE⟩ : ∃ E : Nat, E = 2 ^ (4 * m) := ⟨_, rfl⟩
  have hE2 : E ≤ 2 ^ 62 := by rw [hE]; exact Nat.pow_le_pow_right (by decide) (by omega)
  have hE1 : 1 ≤ E := by rw [hE]; exact Nat.one_le_two_pow
  have e2 : (1 : Int) * 2 ^ (4 * (m : Int)).toNat = (E : Int) := by rw [e1, Int.one_mul, hE]; simp
  have e3 : IntKind.i64.wrap (E : Int) = E := wrap_in .i64 _ (by simp only [lo]; omega) (by simp only [hi]; omega)
  rw [e2, e3, need_pos (in64m (by omega) (by omega)), need_pos (show (0 : Int) ≤ 4 * (m : Int) ∧ 4 * (m : Int) ≤ (IntKind.i64.bits : Int) from ⟨by omega, by show 4 * (m : Int) ≤ 64; omega⟩), need_pos (in64m (by omega) (by omega))]
  by_cases h : (E : Int) - 1 ≤ p
  · rw [decide_eq_true h]; rfl
  · rw [decide_eq_false h]
    refine hpair4 h1 h2 hp ?_ (by omega) hF
    have e4 : (16 : Int) ^ ((m : Int)).toNat = (E : Int) := by
      rw [Int.toNat_natCast, hE, Nat.pow_mul]
      simp
    rw [e4]
    omega
theorem hils_p {F : Nat} (hF : 40 ≤ F) (a o p : Int) : p_FnHilbertSteps (F + 10) a o p = some true := by
  unfold p_FnHilbertSteps
  obtain ⟨b, hb, h⟩ := curved_p a o
  rw [hb, Option.bind_some]
  cases b with
  | false => rfl
  | true =>
    obtain ⟨h1, h2⟩ := h rfl
    rw [cond_f (rfl : (!true) = false)]
    by_cases hp : p < 0
    · rw [cond_t (decide_eq_true hp)]; rfl
    · rw [cond_f (decide_eq_false hp)]
      rcases h1 with ⟨rfl, h3⟩ | ⟨rfl, h3⟩ | ⟨rfl, h3⟩
      · exact hlaw2 h2 h3 (by omega) hF
      · exact hlaw3 h2 h3 (by omega) hF
      · exact hlaw4 h2 h3 (by omega) hF
end Go.Proofs.YtkajoiehicpnlaaDoor.Wk
