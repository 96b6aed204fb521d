/- Proved: what one step of a Hilbert curve does. -/
import Derived.Test.YtkajoiehicpnlaaDoorHilT
namespace Go.Proofs.YtkajoiehicpnlaaDoor.Wk
open Go.Vm
set_option linter.unusedVariables false
set_option linter.unusedSimpArgs false
theorem hs2_0 {F : Nat} {K : (Int × Int × List Int) → Option (Sum (List Int) ((List Int) × Bool))} {p ord P : Int} {k : Nat} {v0 v1 : Int} (hP : Pw k P) (hk : (k : Int) < ord) (hp : 0 ≤ p) (hq : p < 2 ^ 63) (he : p % 4 = 0) (h0 : 0 ≤ v0 ∧ v0 < P) (h1 : 0 ≤ v1 ∧ v1 < P) :
    p_HCoord_l2 ord K (p, (k : Int), [v0, v1]) = K (p / 4, (k : Int) + 1, [v1 + 0, v0 + 0]) := by
  have he' : bits .and .i64 p 3 = 0 := by rw [show (3 : Int) = ((2 ^ 2 - 1 : Nat) : Int) from rfl, and_mask hp hq 2 (by decide)]; exact he
  obtain ⟨a1, a2, a3, a4, a5, a6, a7⟩ := hP
  have a8 : (k : Int) ≤ 64 := by omega
  have a9 : (0 : Int) ≤ k := by omega
  have b1 : inI .i64 (P - 1) := in64m (by omega) (by omega)
  have b2 : inI .i64 ((k : Int) + 1) := in64m (by omega) (by omega)
  unfold p_HCoord_l2
  simp (disch := first | assumption | omega | decide | (apply in64m <;> omega) | (apply And.intro <;> omega) | fail) only [show IntKind.i64.bits = 64 from rfl, decide_eq_true hk, cond_true, cond_false, he', need_pos, idx0, idx1, idx2, idx3, Option.bind_some, Int.toNat_natCast, a2, a5, a6, a7, List.set_cons_zero, List.set_cons_succ, List.length_cons, List.length_nil, bx0, ba0, bx1, ba1, bx2, ba2, bx3, ba3, Int.reduceDiv, Int.reducePow, Int.reduceToNat, decide_true, decide_false, Int.reduceEq]
theorem hs2_1 {F : Nat} {K : (Int × Int × List Int) → Option (Sum (List Int) ((List Int) × Bool))} {p ord P : Int} {k : Nat} {v0 v1 : Int} (hP : Pw k P) (hk : (k : Int) < ord) (hp : 0 ≤ p) (hq : p < 2 ^ 63) (he : p % 4 = 1) (h0 : 0 ≤ v0 ∧ v0 < P) (h1 : 0 ≤ v1 ∧ v1 < P) :
    p_HCoord_l2 ord K (p, (k : Int), [v0, v1]) = K (p / 4, (k : Int) + 1, [v0 + P, v1 + 0]) := by
  have he' : bits .and .i64 p 3 = 1 := by rw [show (3 : Int) = ((2 ^ 2 - 1 : Nat) : Int) from rfl, and_mask hp hq 2 (by decide)]; exact he
  obtain ⟨a1, a2, a3, a4, a5, a6, a7⟩ := hP
  have a8 : (k : Int) ≤ 64 := by omega
  have a9 : (0 : Int) ≤ k := by omega
  have b1 : inI .i64 (P - 1) := in64m (by omega) (by omega)
  have b2 : inI .i64 ((k : Int) + 1) := in64m (by omega) (by omega)
  unfold p_HCoord_l2
  simp (disch := first | assumption | omega | decide | (apply in64m <;> omega) | (apply And.intro <;> omega) | fail) only [show IntKind.i64.bits = 64 from rfl, decide_eq_true hk, cond_true, cond_false, he', need_pos, idx0, idx1, idx2, idx3, Option.bind_some, Int.toNat_natCast, a2, a5, a6, a7, List.set_cons_zero, List.set_cons_succ, List.length_cons, List.length_nil, bx0, ba0, bx1, ba1, bx2, ba2, bx3, ba3, Int.reduceDiv, Int.reducePow, Int.reduceToNat, decide_true, decide_false, Int.reduceEq]
theorem hs2_2 {F : Nat} {K : (Int × Int × List Int) → Option (Sum (List Int) ((List Int) × Bool))} {p ord P : Int} {k : Nat} {v0 v1 : Int} (hP : Pw k P) (hk : (k : Int) < ord) (hp : 0 ≤ p) (hq : p < 2 ^ 63) (he : p % 4 = 2) (h0 : 0 ≤ v0 ∧ v0 < P) (h1 : 0 ≤ v1 ∧ v1 < P) :
    p_HCoord_l2 ord K (p, (k : Int), [v0, v1]) = K (p / 4, (k : Int) + 1, [v0 + P, v1 + P]) := by
  have he' : bits .and .i64 p 3 = 2 := by rw [show (3 : Int) = ((2 ^ 2 - 1 : Nat) : Int) from rfl, and_mask hp hq 2 (by decide)]; exact he
  obtain ⟨a1, a2, a3, a4, a5, a6, a7⟩ := hP
  have a8 : (k : Int) ≤ 64 := by omega
  have a9 : (0 : Int) ≤ k := by omega
  have b1 : inI .i64 (P - 1) := in64m (by omega) (by omega)
  have b2 : inI .i64 ((k : Int) + 1) := in64m (by omega) (by omega)
  unfold p_HCoord_l2
  simp (disch := first | assumption | omega | decide | (apply in64m <;> omega) | (apply And.intro <;> omega) | fail) only [show IntKind.i64.bits = 64 from rfl, decide_eq_true hk, cond_true, cond_false, he', need_pos, idx0, idx1, idx2, idx3, Option.bind_some, Int.toNat_natCast, a2, a5, a6, a7, List.set_cons_zero, List.set_cons_succ, List.length_cons, List.length_nil, bx0, ba0, bx1, ba1, bx2, ba2, bx3, ba3, Int.reduceDiv, Int.reducePow, Int.reduceToNat, decide_true, decide_false, Int.reduceEq]
theorem hs2_3 {F : Nat} {K : (Int × Int × List Int) → Option (Sum (List Int) ((List Int) × Bool))} {p ord P : Int} {k : Nat} {v0 v1 : Int} (hP : Pw k P) (hk : (k : Int) < ord) (hp : 0 ≤ p) (hq : p < 2 ^ 63) (he : p % 4 = 3) (h0 : 0 ≤ v0 ∧ v0 < P) (h1 : 0 ≤ v1 ∧ v1 < P) :
    p_HCoord_l2 ord K (p, (k : Int), [v0, v1]) = K (p / 4, (k : Int) + 1, [(P - 1 - v1) + 0, (P - 1 - v0) + P]) := by
  have he' : bits .and .i64 p 3 = 3 := by rw [show (3 : Int) = ((2 ^ 2 - 1 : Nat) : Int) from rfl, and_mask hp hq 2 (by decide)]; exact he
  obtain ⟨a1, a2, a3, a4, a5, a6, a7⟩ := hP
  have a8 : (k : Int) ≤ 64 := by omega
  have a9 : (0 : Int) ≤ k := by omega
  have b1 : inI .i64 (P - 1) := in64m (by omega) (by omega)
  have b2 : inI .i64 ((k : Int) + 1) := in64m (by omega) (by omega)
  unfold p_HCoord_l2
  simp (disch := first | assumption | omega | decide | (apply in64m <;> omega) | (apply And.intro <;> omega) | fail) only [show IntKind.i64.bits = 64 from rfl, decide_eq_true hk, cond_true, cond_false, he', need_pos, idx0, idx1, idx2, idx3, Option.bind_some, Int.toNat_natCast, a2, a5, a6, a7, List.set_cons_zero, List.set_cons_succ, List.length_cons, List.length_nil, bx0, ba0, bx1, ba1, bx2, ba2, bx3, ba3, Int.reduceDiv, Int.reducePow, Int.reduceToNat, decide_true, decide_false, Int.reduceEq]
end Go.Proofs.YtkajoiehicpnlaaDoor.Wk
