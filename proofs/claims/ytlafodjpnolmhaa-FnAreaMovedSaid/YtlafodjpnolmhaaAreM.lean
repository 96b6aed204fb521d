/- Proved: a ring that is moved keeps its area: whole numbers, reckoned exactly. -/
import Derived.Test.YtlafodjpnolmhaaGSml
import Derived.Test.YtlafodjpnolmhaaFltInj
import Derived.Test.YtlafodjpnolmhaaFltApp
namespace Go.Proofs.Ytlafodjpnolmhaa.Wk
open Go.Vm
set_option linter.unusedVariables false
set_option linter.unusedSimpArgs false
def sA (f : Nat → Int) (s : Nat) : Nat → Int
  | 0 => 0
  | k + 1 => sA f s k + (f ((k + 1) * s + 1) - f (k * s + 1)) * (f ((k + 1) * s) + f (k * s))
theorem mul_bd2 {a b : Int} {A B : Nat} (ha : a.natAbs ≤ A) (hb : b.natAbs ≤ B) : (a * b).natAbs ≤ A * B := by
  rw [Int.natAbs_mul]; exact Nat.mul_le_mul ha hb
theorem sA_bd {f : Nat → Int} {s n : Nat} (hf : ∀ j, j < n * s → (f j).natAbs ≤ 524288) (h2 : 2 ≤ s) : ∀ k, k < n → (sA f s k).natAbs ≤ k * 1099511627776 := by
  intro k
  induction k with
  | zero => intro _; simp [sA]
  | succ k ih =>
    intro hk
    have h0 := ih (by omega)
    have hs : (k + 1) * s = k * s + s := Nat.succ_mul k s
    have hs2 : (k + 2) * s = (k + 1) * s + s := Nat.succ_mul (k + 1) s
    have hm : (k + 2) * s ≤ n * s := Nat.mul_le_mul_right s (by omega)
    have a1 := hf ((k + 1) * s + 1) (by omega)
    have a2 := hf (k * s + 1) (by omega)
    have a3 := hf ((k + 1) * s) (by omega)
    have a4 := hf (k * s) (by omega)
    have hp := mul_bd2 (a := f ((k + 1) * s + 1) - f (k * s + 1)) (b := f ((k + 1) * s) + f (k * s)) (A := 1048576) (B := 1048576) (by omega) (by omega)
    simp only [sA]
    generalize (f ((k + 1) * s + 1) - f (k * s + 1)) * (f ((k + 1) * s) + f (k * s)) = P at *
    generalize sA f s k = Q at *
    omega
theorem da_loop {l : List Nat} {f : Nat → Int} {s n : Nat} (h2 : 2 ≤ s) (h9 : s ≤ 9) (hl : l.length = n * s) (hn : n ≤ 1000) (hI : ∀ j, j < n * s → Flt.I (l.getD j 0) (f j)) (hf : ∀ j, j < n * s → (f j).natAbs ≤ 524288) :
    ∀ F k z, n - (k + 1) < F → k + 1 ≤ n → Flt.I z (sA f s k) → z < 18446744073709551616 → ∃ z', iter (p_doubleArea1_l2 l (l.length : Int) (s : Int)) F (z, (((k + 1) * s : Nat) : Int)) = some (.inl z') ∧ Flt.I z' (sA f s (n - 1)) ∧ z' < 18446744073709551616 := by
  intro F
  induction F with
  | zero => intro k z h; omega
  | succ F ih =>
    intro k z h hk hz hlt
    show ∃ z', p_doubleArea1_l2 l _ _ (iter (p_doubleArea1_l2 l (l.length : Int) (s : Int)) F) _ = some (.inl z') ∧ _
    obtain ⟨K, hK⟩ : ∃ K, K = iter (p_doubleArea1_l2 l (l.length : Int) (s : Int)) F := ⟨_, rfl⟩
    rw [← hK] at ih ⊢
    have hs1 : (k + 1) * s = k * s + s := Nat.succ_mul k s
    have hs2 : (k + 2) * s = (k + 1) * s + s := Nat.succ_mul (k + 1) s
    have hks : k * s ≤ 1000 * 9 := Nat.mul_le_mul (by omega) h9
    unfold p_doubleArea1_l2
    dsimp only
    by_cases hkn : k + 1 < n
    · have hm : (k + 2) * s ≤ n * s := Nat.mul_le_mul_right s (by omega)
      have i1 := idx_lt l ((k + 1) * s + 1) 0 (by omega)
      have i2 := idx_lt l (k * s + 1) 0 (by omega)
      have i3 := idx_lt l ((k + 1) * s) 0 (by omega)
      have i4 := idx_lt l (k * s) 0 (by omega)
      have v1 := hI ((k + 1) * s + 1) (by omega)
      have v2 := hI (k * s + 1) (by omega)
      have v3 := hI ((k + 1) * s) (by omega)
      have v4 := hI (k * s) (by omega)
      have b1 := hf ((k + 1) * s + 1) (by omega)
      have b2 := hf (k * s + 1) (by omega)
      have b3 := hf ((k + 1) * s) (by omega)
      have b4 := hf (k * s) (by omega)
      have hb := sA_bd hf h2 (k + 1) hkn
      have hb0 := sA_bd hf h2 k (by omega)
      obtain ⟨z1, e1, w1⟩ := Flt.sub_int v1 v2 (by omega)
      obtain ⟨z2, e2, w2⟩ := Flt.add_int v3 v4 (by omega)
      have hp := mul_bd2 (a := f ((k + 1) * s + 1) - f (k * s + 1)) (b := f ((k + 1) * s) + f (k * s)) (A := 1048576) (B := 1048576) (by omega) (by omega)
      obtain ⟨z3, e3, w3⟩ := Flt.mul_int w1 w2 (by omega)
      have hsum : sA f s (k + 1) = sA f s k + (f ((k + 1) * s + 1) - f (k * s + 1)) * (f ((k + 1) * s) + f (k * s)) := rfl
      obtain ⟨z4, e4, w4⟩ := Flt.add_int hz w3 (by rw [← hsum]; omega)
      rw [← hsum] at w4
      have c1 : (((k + 1) * s : Nat) : Int) + 1 = (((k + 1) * s + 1 : Nat) : Int) := by omega
      have c2 : (((k + 1) * s + 1 : Nat) : Int) - (s : Int) = ((k * s + 1 : Nat) : Int) := by omega
      have c3 : (((k + 1) * s : Nat) : Int) - (s : Int) = ((k * s : Nat) : Int) := by omega
      have c4 : (((k + 1) * s : Nat) : Int) + (s : Int) = (((k + 2) * s : Nat) : Int) := by omega
      rw [cond_t (decide_eq_true (by omega)), c1, need_pos (in64 (by omega) (by omega)), i1, Option.bind_some, need_pos (in64 (by omega) (by omega)), c2, need_pos (in64 (by omega) (by omega)), i2, Option.bind_some, e1, Option.bind_some, i3, Option.bind_some, c3, need_pos (in64 (by omega) (by omega)), i4, Option.bind_some, e2, Option.bind_some, e3, Option.bind_some, e4, Option.bind_some, c4, need_pos (in64 (by omega) (by omega))]
      exact ih (k + 1) z4 (by omega) (by omega) w4 (Flt.add_lt64 e4)
    · obtain rfl : n = k + 1 := by omega
      rw [cond_f (decide_eq_false (by omega))]
      exact ⟨z, rfl, hz, hlt⟩
theorem area_p {g : TImpl_Geom} {f : Nat → Int} {s n : Nat} (h2 : 2 ≤ s) (h9 : s ≤ 9) (hk : g.Kind = 8) (hst : p_Layout_Stride g.Layout = some (s : Int)) (hl : g.Flat.length = n * s) (hn : n ≤ 1000) (h1 : 1 ≤ n) (hI : ∀ j, j < n * s → Flt.I (g.Flat.getD j 0) (f j)) (hf : ∀ j, j < n * s → (f j).natAbs ≤ 524288) {F : Nat} (hF : 1001 < F) :
    ∃ y z q, p_Area F g = some (z, true) ∧ floatBits .quo .f64 y 4611686018427387904 = some z ∧ Flt.I y (sA f s (n - 1)) ∧ y < 18446744073709551616 ∧ Flt.V z = some q ∧ (sA f s (n - 1) = 0 → Flt.V z = some 0) := by
  have hns : n * s ≤ 1000 * 9 := Nat.mul_le_mul hn h9
  obtain ⟨y, e1, v1, lt1⟩ := da_loop h2 h9 hl hn hI hf F 0 0 (by omega) (by omega) Flt.zero_int (by omega)
  rw [show (((0 + 1) * s : Nat) : Int) = (s : Int) by omega] at e1
  have two : Flt.I 4611686018427387904 2 := by
    have := Flt.ofInt_int (n := 2) (by decide)
    rw [show ofInt 2 = 4611686018427387904 by decide +kernel] at this
    exact this
  have hb := sA_bd hf h2 (n - 1) (by omega)
  have hz : ∃ z q, floatBits .quo .f64 y 4611686018427387904 = some z ∧ Flt.V z = some q ∧ (sA f s (n - 1) = 0 → Flt.V z = some 0) := by
    by_cases h0 : sA f s (n - 1) = 0
    · rw [h0] at v1
      obtain ⟨z, hz, hv⟩ := Flt.div_zero' (q := ((2 : Int) : Rat)) (show Flt.V y = some 0 from v1) two (by decide)
      exact ⟨z, 0, hz, hv, fun _ => hv⟩
    · obtain ⟨z, r, hz, hv, _⟩ := Flt.div_rnd v1 two (by decide) (by
        have hd : Flt.Bd (((sA f s (n - 1) : Int) : Rat) / ((2 : Int) : Rat)) 1000000000000000 := by
          have hi : -1099511627776000 ≤ sA f s (n - 1) ∧ sA f s (n - 1) ≤ 1099511627776000 := by omega
          have l1 : ((-1099511627776000 : Int) : Rat) ≤ ((sA f s (n - 1) : Int) : Rat) := Rat.intCast_le_intCast.2 hi.1
          have l2 : ((sA f s (n - 1) : Int) : Rat) ≤ ((1099511627776000 : Int) : Rat) := Rat.intCast_le_intCast.2 hi.2
          generalize ((sA f s (n - 1) : Int) : Rat) = q at *
          have e : q / ((2 : Int) : Rat) * 2 = q := by
            rw [show ((2 : Int) : Rat) = 2 from rfl]; grind
          constructor
          · have : ((-1099511627776000 : Int) : Rat) = -1099511627776000 := rfl
            grind
          · have : ((1099511627776000 : Int) : Rat) = 1099511627776000 := rfl
            grind
        have h1 := Flt.ab_le hd
        have h2 : (1000000000000000 : Rat) < 2 ^ (1022 : Int) := by decide +kernel
        grind)
      exact ⟨z, r, hz, hv, fun h => absurd h h0⟩
  obtain ⟨z, q, hz, hv, h0⟩ := hz
  refine ⟨y, z, q, ?_, hz, v1, lt1, hv, h0⟩
  unfold p_Area p_floats
  rw [need_pos (by omega), Option.bind_some, cond_f (decide_eq_false (by omega)), cond_f (decide_eq_false (by omega)), cond_t (decide_eq_true hk)]
  unfold p_NewLinearRingFlat
  rw [hst, Option.bind_some, Option.bind_some]
  dsimp only
  unfold p_doubleArea1
  rw [Int.zero_add, need_pos (in64 (by omega) (by omega)), e1, Option.bind_some, aft_inl]
  show ((some y).bind _) = _
  rw [Option.bind_some, hz, Option.bind_some]
/-- What is moved. -/
def mv (f : Nat → Int) (s : Nat) (x y : Int) (j : Nat) : Int := f j + if j % s = 0 then x else if j % s = 1 then y else 0
theorem sA_mv {f : Nat → Int} {s : Nat} (h2 : 2 ≤ s) (x y : Int) : ∀ k, sA (mv f s x y) s k = sA f s k + 2 * x * (f (k * s + 1) - f 1) := by
  intro k
  induction k with
  | zero => simp [sA]
  | succ k ih =>
    have m0 : ∀ k, mv f s x y (k * s) = f (k * s) + x := fun k => by unfold mv; rw [if_pos (Nat.mul_mod_left k s)]
    have m1 : ∀ k, mv f s x y (k * s + 1) = f (k * s + 1) + y := fun k => by
      have e : (k * s + 1) % s = 1 := by
        rw [Nat.add_comm, Nat.add_mul_mod_self_right]; exact Nat.mod_eq_of_lt (by omega)
      unfold mv
      rw [e, if_neg (by omega), if_pos rfl]
    simp only [sA]
    rw [ih, m0, m0, m1, m1]
    generalize f ((k + 1) * s + 1) = a
    generalize f (k * s + 1) = b
    generalize f ((k + 1) * s) = c
    generalize f (k * s) = d
    generalize f 1 = e
    generalize sA f s k = S
    grind
end Go.Proofs.Ytlafodjpnolmhaa.Wk
