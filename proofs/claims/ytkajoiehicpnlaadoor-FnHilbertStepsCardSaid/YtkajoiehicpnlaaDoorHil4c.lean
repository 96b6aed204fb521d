/- Proved: what one step of a Hilbert curve does. -/
import Derived.Test.YtkajoiehicpnlaaDoorHil4b
namespace Go.Proofs.YtkajoiehicpnlaaDoor.Wk
open Go.Vm
set_option linter.unusedVariables false
set_option linter.unusedSimpArgs false
theorem hs4_8 {F : Nat} {K : (Int × Int × List Int) → Option (Sum (List Int) ((List Int) × Bool))} {p ord P : Int} {k : Nat} {v0 v1 v2 v3 : Int} (hP : Pw k P) (hk : (k : Int) < ord) (hp : 0 ≤ p) (hq : p < 2 ^ 63) (he : p % 16 = 8) (h0 : 0 ≤ v0 ∧ v0 < P) (h1 : 0 ≤ v1 ∧ v1 < P) (h2 : 0 ≤ v2 ∧ v2 < P) (h3 : 0 ≤ v3 ∧ v3 < P) :
    p_HCoord_l9 ord (F + 5) K (p, (k : Int), [v0, v1, v2, v3]) = K (p / 16, (k : Int) + 1, [(P - 1 - v0) + 0, v1 + 0, (P - 1 - v2) + P, v3 + P]) := by
  have he' : bits .and .i64 p 15 = 8 := by rw [show (15 : Int) = ((2 ^ 4 - 1 : Nat) : Int) from rfl, and_mask hp hq 4 (by decide)]; exact he
  obtain ⟨a1, a2, a3, a4, a5, a6, a7⟩ := id hP
  have a8 : (k : Int) ≤ 64 := by omega
  have a9 : (0 : Int) ≤ k := by omega
  have b1 : inI .i64 (P - 1) := in64m (by omega) (by omega)
  have b2 : inI .i64 ((k : Int) + 1) := in64m (by omega) (by omega)
  unfold p_HCoord_l9
  simp (disch := first | assumption | omega | decide | (apply in64m <;> omega) | (apply And.intro <;> omega) | fail) only [eq_p_HCoord_l14, eq_p_HCoord_l17, eq_p_HCoord_l20, eq_p_HCoord_l23, eq_p_HCoord_l26, eq_p_HCoord_l29, eq_p_HCoord_l32, eq_p_HCoord_l34, eq_p_HCoord_l36, p_HCoord_k10, p_HCoord_k13, p_HCoord_k16, p_HCoord_k19, p_HCoord_k22, p_HCoord_k25, p_HCoord_k28, p_HCoord_k31, p_HCoord_k33, p_HCoord_k35, p_HCoord_k30, p_HCoord_k27, p_HCoord_k24, p_HCoord_k21, p_HCoord_k18, p_HCoord_k15, p_HCoord_k12, hin8 (F := F) hP, w16, aft_inl, show IntKind.i64.bits = 64 from rfl, decide_eq_true hk, cond_true, cond_false, he', need_pos, idx0, idx1, idx2, idx3, Option.bind_some, Int.toNat_natCast, a2, a5, a6, a7, List.set_cons_zero, List.set_cons_succ, List.length_cons, List.length_nil, Int.reduceDiv, Int.reducePow, Int.reduceToNat, decide_true, decide_false, Int.reduceEq, Int.reduceMul, Int.reduceSub]
theorem hs4_9 {F : Nat} {K : (Int × Int × List Int) → Option (Sum (List Int) ((List Int) × Bool))} {p ord P : Int} {k : Nat} {v0 v1 v2 v3 : Int} (hP : Pw k P) (hk : (k : Int) < ord) (hp : 0 ≤ p) (hq : p < 2 ^ 63) (he : p % 16 = 9) (h0 : 0 ≤ v0 ∧ v0 < P) (h1 : 0 ≤ v1 ∧ v1 < P) (h2 : 0 ≤ v2 ∧ v2 < P) (h3 : 0 ≤ v3 ∧ v3 < P) :
    p_HCoord_l9 ord (F + 5) K (p, (k : Int), [v0, v1, v2, v3]) = K (p / 16, (k : Int) + 1, [v0 + P, (P - 1 - (P - 1 - v3)) + 0, (P - 1 - v1) + P, (P - 1 - v2) + P]) := by
  have he' : bits .and .i64 p 15 = 9 := by rw [show (15 : Int) = ((2 ^ 4 - 1 : Nat) : Int) from rfl, and_mask hp hq 4 (by decide)]; exact he
  obtain ⟨a1, a2, a3, a4, a5, a6, a7⟩ := id hP
  have a8 : (k : Int) ≤ 64 := by omega
  have a9 : (0 : Int) ≤ k := by omega
  have b1 : inI .i64 (P - 1) := in64m (by omega) (by omega)
  have b2 : inI .i64 ((k : Int) + 1) := in64m (by omega) (by omega)
  unfold p_HCoord_l9
  simp (disch := first | assumption | omega | decide | (apply in64m <;> omega) | (apply And.intro <;> omega) | fail) only [eq_p_HCoord_l14, eq_p_HCoord_l17, eq_p_HCoord_l20, eq_p_HCoord_l23, eq_p_HCoord_l26, eq_p_HCoord_l29, eq_p_HCoord_l32, eq_p_HCoord_l34, eq_p_HCoord_l36, p_HCoord_k10, p_HCoord_k13, p_HCoord_k16, p_HCoord_k19, p_HCoord_k22, p_HCoord_k25, p_HCoord_k28, p_HCoord_k31, p_HCoord_k33, p_HCoord_k35, p_HCoord_k30, p_HCoord_k27, p_HCoord_k24, p_HCoord_k21, p_HCoord_k18, p_HCoord_k15, p_HCoord_k12, hin9 (F := F) hP, w16, aft_inl, show IntKind.i64.bits = 64 from rfl, decide_eq_true hk, cond_true, cond_false, he', need_pos, idx0, idx1, idx2, idx3, Option.bind_some, Int.toNat_natCast, a2, a5, a6, a7, List.set_cons_zero, List.set_cons_succ, List.length_cons, List.length_nil, Int.reduceDiv, Int.reducePow, Int.reduceToNat, decide_true, decide_false, Int.reduceEq, Int.reduceMul, Int.reduceSub]
theorem hs4_10 {F : Nat} {K : (Int × Int × List Int) → Option (Sum (List Int) ((List Int) × Bool))} {p ord P : Int} {k : Nat} {v0 v1 v2 v3 : Int} (hP : Pw k P) (hk : (k : Int) < ord) (hp : 0 ≤ p) (hq : p < 2 ^ 63) (he : p % 16 = 10) (h0 : 0 ≤ v0 ∧ v0 < P) (h1 : 0 ≤ v1 ∧ v1 < P) (h2 : 0 ≤ v2 ∧ v2 < P) (h3 : 0 ≤ v3 ∧ v3 < P) :
    p_HCoord_l9 ord (F + 5) K (p, (k : Int), [v0, v1, v2, v3]) = K (p / 16, (k : Int) + 1, [v0 + P, (P - 1 - (P - 1 - v3)) + P, (P - 1 - v1) + P, (P - 1 - v2) + P]) := by
  have he' : bits .and .i64 p 15 = 10 := by rw [show (15 : Int) = ((2 ^ 4 - 1 : Nat) : Int) from rfl, and_mask hp hq 4 (by decide)]; exact he
  obtain ⟨a1, a2, a3, a4, a5, a6, a7⟩ := id hP
  have a8 : (k : Int) ≤ 64 := by omega
  have a9 : (0 : Int) ≤ k := by omega
  have b1 : inI .i64 (P - 1) := in64m (by omega) (by omega)
  have b2 : inI .i64 ((k : Int) + 1) := in64m (by omega) (by omega)
  unfold p_HCoord_l9
  simp (disch := first | assumption | omega | decide | (apply in64m <;> omega) | (apply And.intro <;> omega) | fail) only [eq_p_HCoord_l14, eq_p_HCoord_l17, eq_p_HCoord_l20, eq_p_HCoord_l23, eq_p_HCoord_l26, eq_p_HCoord_l29, eq_p_HCoord_l32, eq_p_HCoord_l34, eq_p_HCoord_l36, p_HCoord_k10, p_HCoord_k13, p_HCoord_k16, p_HCoord_k19, p_HCoord_k22, p_HCoord_k25, p_HCoord_k28, p_HCoord_k31, p_HCoord_k33, p_HCoord_k35, p_HCoord_k30, p_HCoord_k27, p_HCoord_k24, p_HCoord_k21, p_HCoord_k18, p_HCoord_k15, p_HCoord_k12, hin10 (F := F) hP, w16, aft_inl, show IntKind.i64.bits = 64 from rfl, decide_eq_true hk, cond_true, cond_false, he', need_pos, idx0, idx1, idx2, idx3, Option.bind_some, Int.toNat_natCast, a2, a5, a6, a7, List.set_cons_zero, List.set_cons_succ, List.length_cons, List.length_nil, Int.reduceDiv, Int.reducePow, Int.reduceToNat, decide_true, decide_false, Int.reduceEq, Int.reduceMul, Int.reduceSub]
theorem hs4_11 {F : Nat} {K : (Int × Int × List Int) → Option (Sum (List Int) ((List Int) × Bool))} {p ord P : Int} {k : Nat} {v0 v1 v2 v3 : Int} (hP : Pw k P) (hk : (k : Int) < ord) (hp : 0 ≤ p) (hq : p < 2 ^ 63) (he : p % 16 = 11) (h0 : 0 ≤ v0 ∧ v0 < P) (h1 : 0 ≤ v1 ∧ v1 < P) (h2 : 0 ≤ v2 ∧ v2 < P) (h3 : 0 ≤ v3 ∧ v3 < P) :
    p_HCoord_l9 ord (F + 5) K (p, (k : Int), [v0, v1, v2, v3]) = K (p / 16, (k : Int) + 1, [(P - 1 - v1) + 0, (P - 1 - v0) + P, (P - 1 - v3) + P, (P - 1 - v2) + P]) := by
  have he' : bits .and .i64 p 15 = 11 := by rw [show (15 : Int) = ((2 ^ 4 - 1 : Nat) : Int) from rfl, and_mask hp hq 4 (by decide)]; exact he
  obtain ⟨a1, a2, a3, a4, a5, a6, a7⟩ := id hP
  have a8 : (k : Int) ≤ 64 := by omega
  have a9 : (0 : Int) ≤ k := by omega
  have b1 : inI .i64 (P - 1) := in64m (by omega) (by omega)
  have b2 : inI .i64 ((k : Int) + 1) := in64m (by omega) (by omega)
  unfold p_HCoord_l9
  simp (disch := first | assumption | omega | decide | (apply in64m <;> omega) | (apply And.intro <;> omega) | fail) only [eq_p_HCoord_l14, eq_p_HCoord_l17, eq_p_HCoord_l20, eq_p_HCoord_l23, eq_p_HCoord_l26, eq_p_HCoord_l29, eq_p_HCoord_l32, eq_p_HCoord_l34, eq_p_HCoord_l36, p_HCoord_k10, p_HCoord_k13, p_HCoord_k16, p_HCoord_k19, p_HCoord_k22, p_HCoord_k25, p_HCoord_k28, p_HCoord_k31, p_HCoord_k33, p_HCoord_k35, p_HCoord_k30, p_HCoord_k27, p_HCoord_k24, p_HCoord_k21, p_HCoord_k18, p_HCoord_k15, p_HCoord_k12, hin11 (F := F) hP, w16, aft_inl, show IntKind.i64.bits = 64 from rfl, decide_eq_true hk, cond_true, cond_false, he', need_pos, idx0, idx1, idx2, idx3, Option.bind_some, Int.toNat_natCast, a2, a5, a6, a7, List.set_cons_zero, List.set_cons_succ, List.length_cons, List.length_nil, Int.reduceDiv, Int.reducePow, Int.reduceToNat, decide_true, decide_false, Int.reduceEq, Int.reduceMul, Int.reduceSub]
theorem hs4_12 {F : Nat} {K : (Int × Int × List Int) → Option (Sum (List Int) ((List Int) × Bool))} {p ord P : Int} {k : Nat} {v0 v1 v2 v3 : Int} (hP : Pw k P) (hk : (k : Int) < ord) (hp : 0 ≤ p) (hq : p < 2 ^ 63) (he : p % 16 = 12) (h0 : 0 ≤ v0 ∧ v0 < P) (h1 : 0 ≤ v1 ∧ v1 < P) (h2 : 0 ≤ v2 ∧ v2 < P) (h3 : 0 ≤ v3 ∧ v3 < P) :
    p_HCoord_l9 ord (F + 5) K (p, (k : Int), [v0, v1, v2, v3]) = K (p / 16, (k : Int) + 1, [(P - 1 - v1) + 0, (P - 1 - v0) + P, (P - 1 - v3) + 0, (P - 1 - v2) + P]) := by
  have he' : bits .and .i64 p 15 = 12 := by rw [show (15 : Int) = ((2 ^ 4 - 1 : Nat) : Int) from rfl, and_mask hp hq 4 (by decide)]; exact he
  obtain ⟨a1, a2, a3, a4, a5, a6, a7⟩ := id hP
  have a8 : (k : Int) ≤ 64 := by omega
  have a9 : (0 : Int) ≤ k := by omega
  have b1 : inI .i64 (P - 1) := in64m (by omega) (by omega)
  have b2 : inI .i64 ((k : Int) + 1) := in64m (by omega) (by omega)
  unfold p_HCoord_l9
  simp (disch := first | assumption | omega | decide | (apply in64m <;> omega) | (apply And.intro <;> omega) | fail) only [eq_p_HCoord_l14, eq_p_HCoord_l17, eq_p_HCoord_l20, eq_p_HCoord_l23, eq_p_HCoord_l26, eq_p_HCoord_l29, eq_p_HCoord_l32, eq_p_HCoord_l34, eq_p_HCoord_l36, p_HCoord_k10, p_HCoord_k13, p_HCoord_k16, p_HCoord_k19, p_HCoord_k22, p_HCoord_k25, p_HCoord_k28, p_HCoord_k31, p_HCoord_k33, p_HCoord_k35, p_HCoord_k30, p_HCoord_k27, p_HCoord_k24, p_HCoord_k21, p_HCoord_k18, p_HCoord_k15, p_HCoord_k12, hin12 (F := F) hP, w16, aft_inl, show IntKind.i64.bits = 64 from rfl, decide_eq_true hk, cond_true, cond_false, he', need_pos, idx0, idx1, idx2, idx3, Option.bind_some, Int.toNat_natCast, a2, a5, a6, a7, List.set_cons_zero, List.set_cons_succ, List.length_cons, List.length_nil, Int.reduceDiv, Int.reducePow, Int.reduceToNat, decide_true, decide_false, Int.reduceEq, Int.reduceMul, Int.reduceSub]
theorem hs4_13 {F : Nat} {K : (Int × Int × List Int) → Option (Sum (List Int) ((List Int) × Bool))} {p ord P : Int} {k : Nat} {v0 v1 v2 v3 : Int} (hP : Pw k P) (hk : (k : Int) < ord) (hp : 0 ≤ p) (hq : p < 2 ^ 63) (he : p % 16 = 13) (h0 : 0 ≤ v0 ∧ v0 < P) (h1 : 0 ≤ v1 ∧ v1 < P) (h2 : 0 ≤ v2 ∧ v2 < P) (h3 : 0 ≤ v3 ∧ v3 < P) :
    p_HCoord_l9 ord (F + 5) K (p, (k : Int), [v0, v1, v2, v3]) = K (p / 16, (k : Int) + 1, [(P - 1 - (P - 1 - v1)) + P, (P - 1 - v3) + P, v2 + 0, (P - 1 - v0) + P]) := by
  have he' : bits .and .i64 p 15 = 13 := by rw [show (15 : Int) = ((2 ^ 4 - 1 : Nat) : Int) from rfl, and_mask hp hq 4 (by decide)]; exact he
  obtain ⟨a1, a2, a3, a4, a5, a6, a7⟩ := id hP
  have a8 : (k : Int) ≤ 64 := by omega
  have a9 : (0 : Int) ≤ k := by omega
  have b1 : inI .i64 (P - 1) := in64m (by omega) (by omega)
  have b2 : inI .i64 ((k : Int) + 1) := in64m (by omega) (by omega)
  unfold p_HCoord_l9
  simp (disch := first | assumption | omega | decide | (apply in64m <;> omega) | (apply And.intro <;> omega) | fail) only [eq_p_HCoord_l14, eq_p_HCoord_l17, eq_p_HCoord_l20, eq_p_HCoord_l23, eq_p_HCoord_l26, eq_p_HCoord_l29, eq_p_HCoord_l32, eq_p_HCoord_l34, eq_p_HCoord_l36, p_HCoord_k10, p_HCoord_k13, p_HCoord_k16, p_HCoord_k19, p_HCoord_k22, p_HCoord_k25, p_HCoord_k28, p_HCoord_k31, p_HCoord_k33, p_HCoord_k35, p_HCoord_k30, p_HCoord_k27, p_HCoord_k24, p_HCoord_k21, p_HCoord_k18, p_HCoord_k15, p_HCoord_k12, hin13 (F := F) hP, w16, aft_inl, show IntKind.i64.bits = 64 from rfl, decide_eq_true hk, cond_true, cond_false, he', need_pos, idx0, idx1, idx2, idx3, Option.bind_some, Int.toNat_natCast, a2, a5, a6, a7, List.set_cons_zero, List.set_cons_succ, List.length_cons, List.length_nil, Int.reduceDiv, Int.reducePow, Int.reduceToNat, decide_true, decide_false, Int.reduceEq, Int.reduceMul, Int.reduceSub]
theorem hs4_14 {F : Nat} {K : (Int × Int × List Int) → Option (Sum (List Int) ((List Int) × Bool))} {p ord P : Int} {k : Nat} {v0 v1 v2 v3 : Int} (hP : Pw k P) (hk : (k : Int) < ord) (hp : 0 ≤ p) (hq : p < 2 ^ 63) (he : p % 16 = 14) (h0 : 0 ≤ v0 ∧ v0 < P) (h1 : 0 ≤ v1 ∧ v1 < P) (h2 : 0 ≤ v2 ∧ v2 < P) (h3 : 0 ≤ v3 ∧ v3 < P) :
    p_HCoord_l9 ord (F + 5) K (p, (k : Int), [v0, v1, v2, v3]) = K (p / 16, (k : Int) + 1, [(P - 1 - (P - 1 - v1)) + P, (P - 1 - v3) + 0, v2 + 0, (P - 1 - v0) + P]) := by
  have he' : bits .and .i64 p 15 = 14 := by rw [show (15 : Int) = ((2 ^ 4 - 1 : Nat) : Int) from rfl, and_mask hp hq 4 (by decide)]; exact he
  obtain ⟨a1, a2, a3, a4, a5, a6, a7⟩ := id hP
  have a8 : (k : Int) ≤ 64 := by omega
  have a9 : (0 : Int) ≤ k := by omega
  have b1 : inI .i64 (P - 1) := in64m (by omega) (by omega)
  have b2 : inI .i64 ((k : Int) + 1) := in64m (by omega) (by omega)
  unfold p_HCoord_l9
  simp (disch := first | assumption | omega | decide | (apply in64m <;> omega) | (apply And.intro <;> omega) | fail) only [eq_p_HCoord_l14, eq_p_HCoord_l17, eq_p_HCoord_l20, eq_p_HCoord_l23, eq_p_HCoord_l26, eq_p_HCoord_l29, eq_p_HCoord_l32, eq_p_HCoord_l34, eq_p_HCoord_l36, p_HCoord_k10, p_HCoord_k13, p_HCoord_k16, p_HCoord_k19, p_HCoord_k22, p_HCoord_k25, p_HCoord_k28, p_HCoord_k31, p_HCoord_k33, p_HCoord_k35, p_HCoord_k30, p_HCoord_k27, p_HCoord_k24, p_HCoord_k21, p_HCoord_k18, p_HCoord_k15, p_HCoord_k12, hin14 (F := F) hP, w16, aft_inl, show IntKind.i64.bits = 64 from rfl, decide_eq_true hk, cond_true, cond_false, he', need_pos, idx0, idx1, idx2, idx3, Option.bind_some, Int.toNat_natCast, a2, a5, a6, a7, List.set_cons_zero, List.set_cons_succ, List.length_cons, List.length_nil, Int.reduceDiv, Int.reducePow, Int.reduceToNat, decide_true, decide_false, Int.reduceEq, Int.reduceMul, Int.reduceSub]
theorem hs4_15 {F : Nat} {K : (Int × Int × List Int) → Option (Sum (List Int) ((List Int) × Bool))} {p ord P : Int} {k : Nat} {v0 v1 v2 v3 : Int} (hP : Pw k P) (hk : (k : Int) < ord) (hp : 0 ≤ p) (hq : p < 2 ^ 63) (he : p % 16 = 15) (h0 : 0 ≤ v0 ∧ v0 < P) (h1 : 0 ≤ v1 ∧ v1 < P) (h2 : 0 ≤ v2 ∧ v2 < P) (h3 : 0 ≤ v3 ∧ v3 < P) :
    p_HCoord_l9 ord (F + 5) K (p, (k : Int), [v0, v1, v2, v3]) = K (p / 16, (k : Int) + 1, [(P - 1 - v3) + 0, (P - 1 - (P - 1 - v0)) + 0, v2 + 0, (P - 1 - v1) + P]) := by
  have he' : bits .and .i64 p 15 = 15 := by rw [show (15 : Int) = ((2 ^ 4 - 1 : Nat) : Int) from rfl, and_mask hp hq 4 (by decide)]; exact he
  obtain ⟨a1, a2, a3, a4, a5, a6, a7⟩ := id hP
  have a8 : (k : Int) ≤ 64 := by omega
  have a9 : (0 : Int) ≤ k := by omega
  have b1 : inI .i64 (P - 1) := in64m (by omega) (by omega)
  have b2 : inI .i64 ((k : Int) + 1) := in64m (by omega) (by omega)
  unfold p_HCoord_l9
  simp (disch := first | assumption | omega | decide | (apply in64m <;> omega) | (apply And.intro <;> omega) | fail) only [eq_p_HCoord_l14, eq_p_HCoord_l17, eq_p_HCoord_l20, eq_p_HCoord_l23, eq_p_HCoord_l26, eq_p_HCoord_l29, eq_p_HCoord_l32, eq_p_HCoord_l34, eq_p_HCoord_l36, p_HCoord_k10, p_HCoord_k13, p_HCoord_k16, p_HCoord_k19, p_HCoord_k22, p_HCoord_k25, p_HCoord_k28, p_HCoord_k31, p_HCoord_k33, p_HCoord_k35, p_HCoord_k30, p_HCoord_k27, p_HCoord_k24, p_HCoord_k21, p_HCoord_k18, p_HCoord_k15, p_HCoord_k12, hin15 (F := F) hP, w16, aft_inl, show IntKind.i64.bits = 64 from rfl, decide_eq_true hk, cond_true, cond_false, he', need_pos, idx0, idx1, idx2, idx3, Option.bind_some, Int.toNat_natCast, a2, a5, a6, a7, List.set_cons_zero, List.set_cons_succ, List.length_cons, List.length_nil, Int.reduceDiv, Int.reducePow, Int.reduceToNat, decide_true, decide_false, Int.reduceEq, Int.reduceMul, Int.reduceSub]
end Go.Proofs.YtkajoiehicpnlaaDoor.Wk
