/- Proved: what one step of a Hilbert curve does. -/
import Derived.Test.YtkajoiehicpnlaaDoorHil2
namespace Go.Proofs.YtkajoiehicpnlaaDoor.Wk
open Go.Vm
set_option linter.unusedVariables false
set_option linter.unusedSimpArgs false
theorem hs3_0 {F : Nat} {K : (Int × Int × List Int) → Option (Sum (List Int) ((List Int) × Bool))} {p ord P : Int} {k : Nat} {v0 v1 v2 : Int} (hP : Pw k P) (hk : (k : Int) < ord) (hp : 0 ≤ p) (hq : p < 2 ^ 63) (he : p % 8 = 0) (h0 : 0 ≤ v0 ∧ v0 < P) (h1 : 0 ≤ v1 ∧ v1 < P) (h2 : 0 ≤ v2 ∧ v2 < P) :
    p_HCoord_l4 ord K (p, (k : Int), [v0, v1, v2]) = K (p / 8, (k : Int) + 1, [v2 + 0, v0 + 0, v1 + 0]) := by
  have he' : bits .and .i64 p 7 = 0 := by rw [show (7 : Int) = ((2 ^ 3 - 1 : Nat) : Int) from rfl, and_mask hp hq 3 (by decide)]; exact he
  obtain ⟨a1, a2, a3, a4, a5, a6, a7⟩ := hP
  have a8 : (k : Int) ≤ 64 := by omega
  have a9 : (0 : Int) ≤ k := by omega
  have b1 : inI .i64 (P - 1) := in64m (by omega) (by omega)
  have b2 : inI .i64 ((k : Int) + 1) := in64m (by omega) (by omega)
  unfold p_HCoord_l4 p_HCoord_k5 p_HCoord_k6 p_HCoord_k7
  simp (disch := first | assumption | omega | decide | (apply in64m <;> omega) | (apply And.intro <;> omega) | fail) only [show IntKind.i64.bits = 64 from rfl, decide_eq_true hk, cond_true, cond_false, he', need_pos, idx0, idx1, idx2, idx3, Option.bind_some, Int.toNat_natCast, a2, a5, a6, a7, List.set_cons_zero, List.set_cons_succ, List.length_cons, List.length_nil, bx0, ba0, bx1, ba1, bx2, ba2, bx3, ba3, bx4, ba4, bx5, ba5, bx6, ba6, bx7, ba7, Int.reduceDiv, Int.reducePow, Int.reduceToNat, decide_true, decide_false, Int.reduceEq]
theorem hs3_1 {F : Nat} {K : (Int × Int × List Int) → Option (Sum (List Int) ((List Int) × Bool))} {p ord P : Int} {k : Nat} {v0 v1 v2 : Int} (hP : Pw k P) (hk : (k : Int) < ord) (hp : 0 ≤ p) (hq : p < 2 ^ 63) (he : p % 8 = 1) (h0 : 0 ≤ v0 ∧ v0 < P) (h1 : 0 ≤ v1 ∧ v1 < P) (h2 : 0 ≤ v2 ∧ v2 < P) :
    p_HCoord_l4 ord K (p, (k : Int), [v0, v1, v2]) = K (p / 8, (k : Int) + 1, [v1 + P, v2 + 0, v0 + 0]) := by
  have he' : bits .and .i64 p 7 = 1 := by rw [show (7 : Int) = ((2 ^ 3 - 1 : Nat) : Int) from rfl, and_mask hp hq 3 (by decide)]; exact he
  obtain ⟨a1, a2, a3, a4, a5, a6, a7⟩ := hP
  have a8 : (k : Int) ≤ 64 := by omega
  have a9 : (0 : Int) ≤ k := by omega
  have b1 : inI .i64 (P - 1) := in64m (by omega) (by omega)
  have b2 : inI .i64 ((k : Int) + 1) := in64m (by omega) (by omega)
  unfold p_HCoord_l4 p_HCoord_k5 p_HCoord_k6 p_HCoord_k7
  simp (disch := first | assumption | omega | decide | (apply in64m <;> omega) | (apply And.intro <;> omega) | fail) only [show IntKind.i64.bits = 64 from rfl, decide_eq_true hk, cond_true, cond_false, he', need_pos, idx0, idx1, idx2, idx3, Option.bind_some, Int.toNat_natCast, a2, a5, a6, a7, List.set_cons_zero, List.set_cons_succ, List.length_cons, List.length_nil, bx0, ba0, bx1, ba1, bx2, ba2, bx3, ba3, bx4, ba4, bx5, ba5, bx6, ba6, bx7, ba7, Int.reduceDiv, Int.reducePow, Int.reduceToNat, decide_true, decide_false, Int.reduceEq]
theorem hs3_2 {F : Nat} {K : (Int × Int × List Int) → Option (Sum (List Int) ((List Int) × Bool))} {p ord P : Int} {k : Nat} {v0 v1 v2 : Int} (hP : Pw k P) (hk : (k : Int) < ord) (hp : 0 ≤ p) (hq : p < 2 ^ 63) (he : p % 8 = 2) (h0 : 0 ≤ v0 ∧ v0 < P) (h1 : 0 ≤ v1 ∧ v1 < P) (h2 : 0 ≤ v2 ∧ v2 < P) :
    p_HCoord_l4 ord K (p, (k : Int), [v0, v1, v2]) = K (p / 8, (k : Int) + 1, [v1 + P, v2 + P, v0 + 0]) := by
  have he' : bits .and .i64 p 7 = 2 := by rw [show (7 : Int) = ((2 ^ 3 - 1 : Nat) : Int) from rfl, and_mask hp hq 3 (by decide)]; exact he
  obtain ⟨a1, a2, a3, a4, a5, a6, a7⟩ := hP
  have a8 : (k : Int) ≤ 64 := by omega
  have a9 : (0 : Int) ≤ k := by omega
  have b1 : inI .i64 (P - 1) := in64m (by omega) (by omega)
  have b2 : inI .i64 ((k : Int) + 1) := in64m (by omega) (by omega)
  unfold p_HCoord_l4 p_HCoord_k5 p_HCoord_k6 p_HCoord_k7
  simp (disch := first | assumption | omega | decide | (apply in64m <;> omega) | (apply And.intro <;> omega) | fail) only [show IntKind.i64.bits = 64 from rfl, decide_eq_true hk, cond_true, cond_false, he', need_pos, idx0, idx1, idx2, idx3, Option.bind_some, Int.toNat_natCast, a2, a5, a6, a7, List.set_cons_zero, List.set_cons_succ, List.length_cons, List.length_nil, bx0, ba0, bx1, ba1, bx2, ba2, bx3, ba3, bx4, ba4, bx5, ba5, bx6, ba6, bx7, ba7, Int.reduceDiv, Int.reducePow, Int.reduceToNat, decide_true, decide_false, Int.reduceEq]
theorem hs3_3 {F : Nat} {K : (Int × Int × List Int) → Option (Sum (List Int) ((List Int) × Bool))} {p ord P : Int} {k : Nat} {v0 v1 v2 : Int} (hP : Pw k P) (hk : (k : Int) < ord) (hp : 0 ≤ p) (hq : p < 2 ^ 63) (he : p % 8 = 3) (h0 : 0 ≤ v0 ∧ v0 < P) (h1 : 0 ≤ v1 ∧ v1 < P) (h2 : 0 ≤ v2 ∧ v2 < P) :
    p_HCoord_l4 ord K (p, (k : Int), [v0, v1, v2]) = K (p / 8, (k : Int) + 1, [(P - 1 - v0) + 0, (P - 1 - v1) + P, v2 + 0]) := by
  have he' : bits .and .i64 p 7 = 3 := by rw [show (7 : Int) = ((2 ^ 3 - 1 : Nat) : Int) from rfl, and_mask hp hq 3 (by decide)]; exact he
  obtain ⟨a1, a2, a3, a4, a5, a6, a7⟩ := hP
  have a8 : (k : Int) ≤ 64 := by omega
  have a9 : (0 : Int) ≤ k := by omega
  have b1 : inI .i64 (P - 1) := in64m (by omega) (by omega)
  have b2 : inI .i64 ((k : Int) + 1) := in64m (by omega) (by omega)
  unfold p_HCoord_l4 p_HCoord_k5 p_HCoord_k6 p_HCoord_k7
  simp (disch := first | assumption | omega | decide | (apply in64m <;> omega) | (apply And.intro <;> omega) | fail) only [show IntKind.i64.bits = 64 from rfl, decide_eq_true hk, cond_true, cond_false, he', need_pos, idx0, idx1, idx2, idx3, Option.bind_some, Int.toNat_natCast, a2, a5, a6, a7, List.set_cons_zero, List.set_cons_succ, List.length_cons, List.length_nil, bx0, ba0, bx1, ba1, bx2, ba2, bx3, ba3, bx4, ba4, bx5, ba5, bx6, ba6, bx7, ba7, Int.reduceDiv, Int.reducePow, Int.reduceToNat, decide_true, decide_false, Int.reduceEq]
theorem hs3_4 {F : Nat} {K : (Int × Int × List Int) → Option (Sum (List Int) ((List Int) × Bool))} {p ord P : Int} {k : Nat} {v0 v1 v2 : Int} (hP : Pw k P) (hk : (k : Int) < ord) (hp : 0 ≤ p) (hq : p < 2 ^ 63) (he : p % 8 = 4) (h0 : 0 ≤ v0 ∧ v0 < P) (h1 : 0 ≤ v1 ∧ v1 < P) (h2 : 0 ≤ v2 ∧ v2 < P) :
    p_HCoord_l4 ord K (p, (k : Int), [v0, v1, v2]) = K (p / 8, (k : Int) + 1, [(P - 1 - v0) + 0, (P - 1 - v1) + P, v2 + P]) := by
  have he' : bits .and .i64 p 7 = 4 := by rw [show (7 : Int) = ((2 ^ 3 - 1 : Nat) : Int) from rfl, and_mask hp hq 3 (by decide)]; exact he
  obtain ⟨a1, a2, a3, a4, a5, a6, a7⟩ := hP
  have a8 : (k : Int) ≤ 64 := by omega
  have a9 : (0 : Int) ≤ k := by omega
  have b1 : inI .i64 (P - 1) := in64m (by omega) (by omega)
  have b2 : inI .i64 ((k : Int) + 1) := in64m (by omega) (by omega)
  unfold p_HCoord_l4 p_HCoord_k5 p_HCoord_k6 p_HCoord_k7
  simp (disch := first | assumption | omega | decide | (apply in64m <;> omega) | (apply And.intro <;> omega) | fail) only [show IntKind.i64.bits = 64 from rfl, decide_eq_true hk, cond_true, cond_false, he', need_pos, idx0, idx1, idx2, idx3, Option.bind_some, Int.toNat_natCast, a2, a5, a6, a7, List.set_cons_zero, List.set_cons_succ, List.length_cons, List.length_nil, bx0, ba0, bx1, ba1, bx2, ba2, bx3, ba3, bx4, ba4, bx5, ba5, bx6, ba6, bx7, ba7, Int.reduceDiv, Int.reducePow, Int.reduceToNat, decide_true, decide_false, Int.reduceEq]
theorem hs3_5 {F : Nat} {K : (Int × Int × List Int) → Option (Sum (List Int) ((List Int) × Bool))} {p ord P : Int} {k : Nat} {v0 v1 v2 : Int} (hP : Pw k P) (hk : (k : Int) < ord) (hp : 0 ≤ p) (hq : p < 2 ^ 63) (he : p % 8 = 5) (h0 : 0 ≤ v0 ∧ v0 < P) (h1 : 0 ≤ v1 ∧ v1 < P) (h2 : 0 ≤ v2 ∧ v2 < P) :
    p_HCoord_l4 ord K (p, (k : Int), [v0, v1, v2]) = K (p / 8, (k : Int) + 1, [(P - 1 - (P - 1 - v1)) + P, (P - 1 - v2) + P, (P - 1 - v0) + P]) := by
  have he' : bits .and .i64 p 7 = 5 := by rw [show (7 : Int) = ((2 ^ 3 - 1 : Nat) : Int) from rfl, and_mask hp hq 3 (by decide)]; exact he
  obtain ⟨a1, a2, a3, a4, a5, a6, a7⟩ := hP
  have a8 : (k : Int) ≤ 64 := by omega
  have a9 : (0 : Int) ≤ k := by omega
  have b1 : inI .i64 (P - 1) := in64m (by omega) (by omega)
  have b2 : inI .i64 ((k : Int) + 1) := in64m (by omega) (by omega)
  unfold p_HCoord_l4 p_HCoord_k5 p_HCoord_k6 p_HCoord_k7
  simp (disch := first | assumption | omega | decide | (apply in64m <;> omega) | (apply And.intro <;> omega) | fail) only [show IntKind.i64.bits = 64 from rfl, decide_eq_true hk, cond_true, cond_false, he', need_pos, idx0, idx1, idx2, idx3, Option.bind_some, Int.toNat_natCast, a2, a5, a6, a7, List.set_cons_zero, List.set_cons_succ, List.length_cons, List.length_nil, bx0, ba0, bx1, ba1, bx2, ba2, bx3, ba3, bx4, ba4, bx5, ba5, bx6, ba6, bx7, ba7, Int.reduceDiv, Int.reducePow, Int.reduceToNat, decide_true, decide_false, Int.reduceEq]
theorem hs3_6 {F : Nat} {K : (Int × Int × List Int) → Option (Sum (List Int) ((List Int) × Bool))} {p ord P : Int} {k : Nat} {v0 v1 v2 : Int} (hP : Pw k P) (hk : (k : Int) < ord) (hp : 0 ≤ p) (hq : p < 2 ^ 63) (he : p % 8 = 6) (h0 : 0 ≤ v0 ∧ v0 < P) (h1 : 0 ≤ v1 ∧ v1 < P) (h2 : 0 ≤ v2 ∧ v2 < P) :
    p_HCoord_l4 ord K (p, (k : Int), [v0, v1, v2]) = K (p / 8, (k : Int) + 1, [(P - 1 - (P - 1 - v1)) + P, (P - 1 - v2) + 0, (P - 1 - v0) + P]) := by
  have he' : bits .and .i64 p 7 = 6 := by rw [show (7 : Int) = ((2 ^ 3 - 1 : Nat) : Int) from rfl, and_mask hp hq 3 (by decide)]; exact he
  obtain ⟨a1, a2, a3, a4, a5, a6, a7⟩ := hP
  have a8 : (k : Int) ≤ 64 := by omega
  have a9 : (0 : Int) ≤ k := by omega
  have b1 : inI .i64 (P - 1) := in64m (by omega) (by omega)
  have b2 : inI .i64 ((k : Int) + 1) := in64m (by omega) (by omega)
  unfold p_HCoord_l4 p_HCoord_k5 p_HCoord_k6 p_HCoord_k7
  simp (disch := first | assumption | omega | decide | (apply in64m <;> omega) | (apply And.intro <;> omega) | fail) only [show IntKind.i64.bits = 64 from rfl, decide_eq_true hk, cond_true, cond_false, he', need_pos, idx0, idx1, idx2, idx3, Option.bind_some, Int.toNat_natCast, a2, a5, a6, a7, List.set_cons_zero, List.set_cons_succ, List.length_cons, List.length_nil, bx0, ba0, bx1, ba1, bx2, ba2, bx3, ba3, bx4, ba4, bx5, ba5, bx6, ba6, bx7, ba7, Int.reduceDiv, Int.reducePow, Int.reduceToNat, decide_true, decide_false, Int.reduceEq]
theorem hs3_7 {F : Nat} {K : (Int × Int × List Int) → Option (Sum (List Int) ((List Int) × Bool))} {p ord P : Int} {k : Nat} {v0 v1 v2 : Int} (hP : Pw k P) (hk : (k : Int) < ord) (hp : 0 ≤ p) (hq : p < 2 ^ 63) (he : p % 8 = 7) (h0 : 0 ≤ v0 ∧ v0 < P) (h1 : 0 ≤ v1 ∧ v1 < P) (h2 : 0 ≤ v2 ∧ v2 < P) :
    p_HCoord_l4 ord K (p, (k : Int), [v0, v1, v2]) = K (p / 8, (k : Int) + 1, [(P - 1 - v2) + 0, (P - 1 - (P - 1 - v0)) + 0, (P - 1 - v1) + P]) := by
  have he' : bits .and .i64 p 7 = 7 := by rw [show (7 : Int) = ((2 ^ 3 - 1 : Nat) : Int) from rfl, and_mask hp hq 3 (by decide)]; exact he
  obtain ⟨a1, a2, a3, a4, a5, a6, a7⟩ := hP
  have a8 : (k : Int) ≤ 64 := by omega
  have a9 : (0 : Int) ≤ k := by omega
  have b1 : inI .i64 (P - 1) := in64m (by omega) (by omega)
  have b2 : inI .i64 ((k : Int) + 1) := in64m (by omega) (by omega)
  unfold p_HCoord_l4 p_HCoord_k5 p_HCoord_k6 p_HCoord_k7
  simp (disch := first | assumption | omega | decide | (apply in64m <;> omega) | (apply And.intro <;> omega) | fail) only [show IntKind.i64.bits = 64 from rfl, decide_eq_true hk, cond_true, cond_false, he', need_pos, idx0, idx1, idx2, idx3, Option.bind_some, Int.toNat_natCast, a2, a5, a6, a7, List.set_cons_zero, List.set_cons_succ, List.length_cons, List.length_nil, bx0, ba0, bx1, ba1, bx2, ba2, bx3, ba3, bx4, ba4, bx5, ba5, bx6, ba6, bx7, ba7, Int.reduceDiv, Int.reducePow, Int.reduceToNat, decide_true, decide_false, Int.reduceEq]
end Go.Proofs.YtkajoiehicpnlaaDoor.Wk
