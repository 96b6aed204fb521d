/- Proved: what one step of a Hilbert curve does. -/
import Derived.Test.YtkajoiehicpnlaaDoorHil3
namespace Go.Proofs.YtkajoiehicpnlaaDoor.Wk
open Go.Vm
set_option linter.unusedVariables false
set_option linter.unusedSimpArgs false
theorem iter_up {V T : Type} (b : (V → Option T) → V → Option T) (n : Nat) (v : V) : iter b (n + 1) v = b (iter b n) v := rfl
theorem hin0 {F : Nat} {p P : Int} {k : Nat} {l : List Int} {w0 w1 w2 w3 : Int} (hP : Pw k P) (h0 : 0 ≤ w0 ∧ w0 < P) (h1 : 0 ≤ w1 ∧ w1 < P) (h2 : 0 ≤ w2 ∧ w2 < P) (h3 : 0 ≤ w3 ∧ w3 < P) :
    iter (p_HCoord_l11 (p, (k : Int), l)) (F + 5) ((0 : Int), (0 : Int), [w0, w1, w2, w3]) = some (.inl [w0 + 0, w1 + 0, w2 + 0, w3 + 0]) := by
  obtain ⟨a1, a2, a3, a4, a5, a6, a7⟩ := hP
  have a8 : (k : Int) ≤ 64 := by omega
  have a9 : (0 : Int) ≤ k := by omega
  simp (disch := first | assumption | omega | decide | (apply in64m <;> omega) | (apply And.intro <;> omega) | fail) only [iter_up, p_HCoord_l11, show IntKind.i64.bits = 64 from rfl, cond_true, cond_false, need_pos, idx0, idx1, idx2, idx3, Option.bind_some, Int.toNat_natCast, a2, a6, a7, List.set_cons_zero, List.set_cons_succ, List.length_cons, List.length_nil, bx0, ba0, Int.reduceDiv, Int.reducePow, Int.reduceToNat, decide_true, decide_false, Int.reduceEq, Int.reduceAdd, Int.reduceLT]
theorem hin1 {F : Nat} {p P : Int} {k : Nat} {l : List Int} {w0 w1 w2 w3 : Int} (hP : Pw k P) (h0 : 0 ≤ w0 ∧ w0 < P) (h1 : 0 ≤ w1 ∧ w1 < P) (h2 : 0 ≤ w2 ∧ w2 < P) (h3 : 0 ≤ w3 ∧ w3 < P) :
    iter (p_HCoord_l11 (p, (k : Int), l)) (F + 5) ((0 : Int), (1 : Int), [w0, w1, w2, w3]) = some (.inl [w0 + P, w1 + 0, w2 + 0, w3 + 0]) := by
  obtain ⟨a1, a2, a3, a4, a5, a6, a7⟩ := hP
  have a8 : (k : Int) ≤ 64 := by omega
  have a9 : (0 : Int) ≤ k := by omega
  simp (disch := first | assumption | omega | decide | (apply in64m <;> omega) | (apply And.intro <;> omega) | fail) only [iter_up, p_HCoord_l11, show IntKind.i64.bits = 64 from rfl, cond_true, cond_false, need_pos, idx0, idx1, idx2, idx3, Option.bind_some, Int.toNat_natCast, a2, a6, a7, List.set_cons_zero, List.set_cons_succ, List.length_cons, List.length_nil, bx0, ba0, bx1, ba1, Int.reduceDiv, Int.reducePow, Int.reduceToNat, decide_true, decide_false, Int.reduceEq, Int.reduceAdd, Int.reduceLT]
theorem hin2 {F : Nat} {p P : Int} {k : Nat} {l : List Int} {w0 w1 w2 w3 : Int} (hP : Pw k P) (h0 : 0 ≤ w0 ∧ w0 < P) (h1 : 0 ≤ w1 ∧ w1 < P) (h2 : 0 ≤ w2 ∧ w2 < P) (h3 : 0 ≤ w3 ∧ w3 < P) :
    iter (p_HCoord_l11 (p, (k : Int), l)) (F + 5) ((0 : Int), (2 : Int), [w0, w1, w2, w3]) = some (.inl [w0 + P, w1 + P, w2 + 0, w3 + 0]) := by
  obtain ⟨a1, a2, a3, a4, a5, a6, a7⟩ := hP
  have a8 : (k : Int) ≤ 64 := by omega
  have a9 : (0 : Int) ≤ k := by omega
  simp (disch := first | assumption | omega | decide | (apply in64m <;> omega) | (apply And.intro <;> omega) | fail) only [iter_up, p_HCoord_l11, show IntKind.i64.bits = 64 from rfl, cond_true, cond_false, need_pos, idx0, idx1, idx2, idx3, Option.bind_some, Int.toNat_natCast, a2, a6, a7, List.set_cons_zero, List.set_cons_succ, List.length_cons, List.length_nil, bx0, ba0, bx1, ba1, bx2, ba3, Int.reduceDiv, Int.reducePow, Int.reduceToNat, decide_true, decide_false, Int.reduceEq, Int.reduceAdd, Int.reduceLT]
theorem hin3 {F : Nat} {p P : Int} {k : Nat} {l : List Int} {w0 w1 w2 w3 : Int} (hP : Pw k P) (h0 : 0 ≤ w0 ∧ w0 < P) (h1 : 0 ≤ w1 ∧ w1 < P) (h2 : 0 ≤ w2 ∧ w2 < P) (h3 : 0 ≤ w3 ∧ w3 < P) :
    iter (p_HCoord_l11 (p, (k : Int), l)) (F + 5) ((0 : Int), (3 : Int), [w0, w1, w2, w3]) = some (.inl [w0 + 0, w1 + P, w2 + 0, w3 + 0]) := by
  obtain ⟨a1, a2, a3, a4, a5, a6, a7⟩ := hP
  have a8 : (k : Int) ≤ 64 := by omega
  have a9 : (0 : Int) ≤ k := by omega
  simp (disch := first | assumption | omega | decide | (apply in64m <;> omega) | (apply And.intro <;> omega) | fail) only [iter_up, p_HCoord_l11, show IntKind.i64.bits = 64 from rfl, cond_true, cond_false, need_pos, idx0, idx1, idx2, idx3, Option.bind_some, Int.toNat_natCast, a2, a6, a7, List.set_cons_zero, List.set_cons_succ, List.length_cons, List.length_nil, bx0, ba0, bx1, ba1, bx3, ba2, Int.reduceDiv, Int.reducePow, Int.reduceToNat, decide_true, decide_false, Int.reduceEq, Int.reduceAdd, Int.reduceLT]
theorem hin4 {F : Nat} {p P : Int} {k : Nat} {l : List Int} {w0 w1 w2 w3 : Int} (hP : Pw k P) (h0 : 0 ≤ w0 ∧ w0 < P) (h1 : 0 ≤ w1 ∧ w1 < P) (h2 : 0 ≤ w2 ∧ w2 < P) (h3 : 0 ≤ w3 ∧ w3 < P) :
    iter (p_HCoord_l11 (p, (k : Int), l)) (F + 5) ((0 : Int), (4 : Int), [w0, w1, w2, w3]) = some (.inl [w0 + 0, w1 + P, w2 + P, w3 + 0]) := by
  obtain ⟨a1, a2, a3, a4, a5, a6, a7⟩ := hP
  have a8 : (k : Int) ≤ 64 := by omega
  have a9 : (0 : Int) ≤ k := by omega
  simp (disch := first | assumption | omega | decide | (apply in64m <;> omega) | (apply And.intro <;> omega) | fail) only [iter_up, p_HCoord_l11, show IntKind.i64.bits = 64 from rfl, cond_true, cond_false, need_pos, idx0, idx1, idx2, idx3, Option.bind_some, Int.toNat_natCast, a2, a6, a7, List.set_cons_zero, List.set_cons_succ, List.length_cons, List.length_nil, bx0, ba0, bx1, ba1, bx2, ba3, bx4, ba6, Int.reduceDiv, Int.reducePow, Int.reduceToNat, decide_true, decide_false, Int.reduceEq, Int.reduceAdd, Int.reduceLT]
theorem hin5 {F : Nat} {p P : Int} {k : Nat} {l : List Int} {w0 w1 w2 w3 : Int} (hP : Pw k P) (h0 : 0 ≤ w0 ∧ w0 < P) (h1 : 0 ≤ w1 ∧ w1 < P) (h2 : 0 ≤ w2 ∧ w2 < P) (h3 : 0 ≤ w3 ∧ w3 < P) :
    iter (p_HCoord_l11 (p, (k : Int), l)) (F + 5) ((0 : Int), (5 : Int), [w0, w1, w2, w3]) = some (.inl [w0 + P, w1 + P, w2 + P, w3 + 0]) := by
  obtain ⟨a1, a2, a3, a4, a5, a6, a7⟩ := hP
  have a8 : (k : Int) ≤ 64 := by omega
  have a9 : (0 : Int) ≤ k := by omega
  simp (disch := first | assumption | omega | decide | (apply in64m <;> omega) | (apply And.intro <;> omega) | fail) only [iter_up, p_HCoord_l11, show IntKind.i64.bits = 64 from rfl, cond_true, cond_false, need_pos, idx0, idx1, idx2, idx3, Option.bind_some, Int.toNat_natCast, a2, a6, a7, List.set_cons_zero, List.set_cons_succ, List.length_cons, List.length_nil, bx0, ba0, bx1, ba1, bx2, ba3, bx5, ba7, Int.reduceDiv, Int.reducePow, Int.reduceToNat, decide_true, decide_false, Int.reduceEq, Int.reduceAdd, Int.reduceLT]
theorem hin6 {F : Nat} {p P : Int} {k : Nat} {l : List Int} {w0 w1 w2 w3 : Int} (hP : Pw k P) (h0 : 0 ≤ w0 ∧ w0 < P) (h1 : 0 ≤ w1 ∧ w1 < P) (h2 : 0 ≤ w2 ∧ w2 < P) (h3 : 0 ≤ w3 ∧ w3 < P) :
    iter (p_HCoord_l11 (p, (k : Int), l)) (F + 5) ((0 : Int), (6 : Int), [w0, w1, w2, w3]) = some (.inl [w0 + P, w1 + 0, w2 + P, w3 + 0]) := by
  obtain ⟨a1, a2, a3, a4, a5, a6, a7⟩ := hP
  have a8 : (k : Int) ≤ 64 := by omega
  have a9 : (0 : Int) ≤ k := by omega
  simp (disch := first | assumption | omega | decide | (apply in64m <;> omega) | (apply And.intro <;> omega) | fail) only [iter_up, p_HCoord_l11, show IntKind.i64.bits = 64 from rfl, cond_true, cond_false, need_pos, idx0, idx1, idx2, idx3, Option.bind_some, Int.toNat_natCast, a2, a6, a7, List.set_cons_zero, List.set_cons_succ, List.length_cons, List.length_nil, bx0, ba0, bx1, ba1, bx3, ba2, bx6, ba5, Int.reduceDiv, Int.reducePow, Int.reduceToNat, decide_true, decide_false, Int.reduceEq, Int.reduceAdd, Int.reduceLT]
theorem hin7 {F : Nat} {p P : Int} {k : Nat} {l : List Int} {w0 w1 w2 w3 : Int} (hP : Pw k P) (h0 : 0 ≤ w0 ∧ w0 < P) (h1 : 0 ≤ w1 ∧ w1 < P) (h2 : 0 ≤ w2 ∧ w2 < P) (h3 : 0 ≤ w3 ∧ w3 < P) :
    iter (p_HCoord_l11 (p, (k : Int), l)) (F + 5) ((0 : Int), (7 : Int), [w0, w1, w2, w3]) = some (.inl [w0 + 0, w1 + 0, w2 + P, w3 + 0]) := by
  obtain ⟨a1, a2, a3, a4, a5, a6, a7⟩ := hP
  have a8 : (k : Int) ≤ 64 := by omega
  have a9 : (0 : Int) ≤ k := by omega
  simp (disch := first | assumption | omega | decide | (apply in64m <;> omega) | (apply And.intro <;> omega) | fail) only [iter_up, p_HCoord_l11, show IntKind.i64.bits = 64 from rfl, cond_true, cond_false, need_pos, idx0, idx1, idx2, idx3, Option.bind_some, Int.toNat_natCast, a2, a6, a7, List.set_cons_zero, List.set_cons_succ, List.length_cons, List.length_nil, bx0, ba0, bx1, ba1, bx3, ba2, bx7, ba4, Int.reduceDiv, Int.reducePow, Int.reduceToNat, decide_true, decide_false, Int.reduceEq, Int.reduceAdd, Int.reduceLT]
theorem hin8 {F : Nat} {p P : Int} {k : Nat} {l : List Int} {w0 w1 w2 w3 : Int} (hP : Pw k P) (h0 : 0 ≤ w0 ∧ w0 < P) (h1 : 0 ≤ w1 ∧ w1 < P) (h2 : 0 ≤ w2 ∧ w2 < P) (h3 : 0 ≤ w3 ∧ w3 < P) :
    iter (p_HCoord_l11 (p, (k : Int), l)) (F + 5) ((0 : Int), (8 : Int), [w0, w1, w2, w3]) = some (.inl [w0 + 0, w1 + 0, w2 + P, w3 + P]) := by
  obtain ⟨a1, a2, a3, a4, a5, a6, a7⟩ := hP
  have a8 : (k : Int) ≤ 64 := by omega
  have a9 : (0 : Int) ≤ k := by omega
  simp (disch := first | assumption | omega | decide | (apply in64m <;> omega) | (apply And.intro <;> omega) | fail) only [iter_up, p_HCoord_l11, show IntKind.i64.bits = 64 from rfl, cond_true, cond_false, need_pos, idx0, idx1, idx2, idx3, Option.bind_some, Int.toNat_natCast, a2, a6, a7, List.set_cons_zero, List.set_cons_succ, List.length_cons, List.length_nil, bx1, ba1, bx2, ba3, bx4, ba6, bx8, ba12, Int.reduceDiv, Int.reducePow, Int.reduceToNat, decide_true, decide_false, Int.reduceEq, Int.reduceAdd, Int.reduceLT]
theorem hin9 {F : Nat} {p P : Int} {k : Nat} {l : List Int} {w0 w1 w2 w3 : Int} (hP : Pw k P) (h0 : 0 ≤ w0 ∧ w0 < P) (h1 : 0 ≤ w1 ∧ w1 < P) (h2 : 0 ≤ w2 ∧ w2 < P) (h3 : 0 ≤ w3 ∧ w3 < P) :
    iter (p_HCoord_l11 (p, (k : Int), l)) (F + 5) ((0 : Int), (9 : Int), [w0, w1, w2, w3]) = some (.inl [w0 + P, w1 + 0, w2 + P, w3 + P]) := by
  obtain ⟨a1, a2, a3, a4, a5, a6, a7⟩ := hP
  have a8 : (k : Int) ≤ 64 := by omega
  have a9 : (0 : Int) ≤ k := by omega
  simp (disch := first | assumption | omega | decide | (apply in64m <;> omega) | (apply And.intro <;> omega) | fail) only [iter_up, p_HCoord_l11, show IntKind.i64.bits = 64 from rfl, cond_true, cond_false, need_pos, idx0, idx1, idx2, idx3, Option.bind_some, Int.toNat_natCast, a2, a6, a7, List.set_cons_zero, List.set_cons_succ, List.length_cons, List.length_nil, bx1, ba1, bx2, ba3, bx4, ba6, bx9, ba13, Int.reduceDiv, Int.reducePow, Int.reduceToNat, decide_true, decide_false, Int.reduceEq, Int.reduceAdd, Int.reduceLT]
theorem hin10 {F : Nat} {p P : Int} {k : Nat} {l : List Int} {w0 w1 w2 w3 : Int} (hP : Pw k P) (h0 : 0 ≤ w0 ∧ w0 < P) (h1 : 0 ≤ w1 ∧ w1 < P) (h2 : 0 ≤ w2 ∧ w2 < P) (h3 : 0 ≤ w3 ∧ w3 < P) :
    iter (p_HCoord_l11 (p, (k : Int), l)) (F + 5) ((0 : Int), (10 : Int), [w0, w1, w2, w3]) = some (.inl [w0 + P, w1 + P, w2 + P, w3 + P]) := by
  obtain ⟨a1, a2, a3, a4, a5, a6, a7⟩ := hP
  have a8 : (k : Int) ≤ 64 := by omega
  have a9 : (0 : Int) ≤ k := by omega
  simp (disch := first | assumption | omega | decide | (apply in64m <;> omega) | (apply And.intro <;> omega) | fail) only [iter_up, p_HCoord_l11, show IntKind.i64.bits = 64 from rfl, cond_true, cond_false, need_pos, idx0, idx1, idx2, idx3, Option.bind_some, Int.toNat_natCast, a2, a6, a7, List.set_cons_zero, List.set_cons_succ, List.length_cons, List.length_nil, bx1, ba1, bx2, ba3, bx5, ba7, bx10, ba15, Int.reduceDiv, Int.reducePow, Int.reduceToNat, decide_true, decide_false, Int.reduceEq, Int.reduceAdd, Int.reduceLT]
theorem hin11 {F : Nat} {p P : Int} {k : Nat} {l : List Int} {w0 w1 w2 w3 : Int} (hP : Pw k P) (h0 : 0 ≤ w0 ∧ w0 < P) (h1 : 0 ≤ w1 ∧ w1 < P) (h2 : 0 ≤ w2 ∧ w2 < P) (h3 : 0 ≤ w3 ∧ w3 < P) :
    iter (p_HCoord_l11 (p, (k : Int), l)) (F + 5) ((0 : Int), (11 : Int), [w0, w1, w2, w3]) = some (.inl [w0 + 0, w1 + P, w2 + P, w3 + P]) := by
  obtain ⟨a1, a2, a3, a4, a5, a6, a7⟩ := hP
  have a8 : (k : Int) ≤ 64 := by omega
  have a9 : (0 : Int) ≤ k := by omega
  simp (disch := first | assumption | omega | decide | (apply in64m <;> omega) | (apply And.intro <;> omega) | fail) only [iter_up, p_HCoord_l11, show IntKind.i64.bits = 64 from rfl, cond_true, cond_false, need_pos, idx0, idx1, idx2, idx3, Option.bind_some, Int.toNat_natCast, a2, a6, a7, List.set_cons_zero, List.set_cons_succ, List.length_cons, List.length_nil, bx1, ba1, bx2, ba3, bx5, ba7, bx11, ba14, Int.reduceDiv, Int.reducePow, Int.reduceToNat, decide_true, decide_false, Int.reduceEq, Int.reduceAdd, Int.reduceLT]
theorem hin12 {F : Nat} {p P : Int} {k : Nat} {l : List Int} {w0 w1 w2 w3 : Int} (hP : Pw k P) (h0 : 0 ≤ w0 ∧ w0 < P) (h1 : 0 ≤ w1 ∧ w1 < P) (h2 : 0 ≤ w2 ∧ w2 < P) (h3 : 0 ≤ w3 ∧ w3 < P) :
    iter (p_HCoord_l11 (p, (k : Int), l)) (F + 5) ((0 : Int), (12 : Int), [w0, w1, w2, w3]) = some (.inl [w0 + 0, w1 + P, w2 + 0, w3 + P]) := by
  obtain ⟨a1, a2, a3, a4, a5, a6, a7⟩ := hP
  have a8 : (k : Int) ≤ 64 := by omega
  have a9 : (0 : Int) ≤ k := by omega
  simp (disch := first | assumption | omega | decide | (apply in64m <;> omega) | (apply And.intro <;> omega) | fail) only [iter_up, p_HCoord_l11, show IntKind.i64.bits = 64 from rfl, cond_true, cond_false, need_pos, idx0, idx1, idx2, idx3, Option.bind_some, Int.toNat_natCast, a2, a6, a7, List.set_cons_zero, List.set_cons_succ, List.length_cons, List.length_nil, bx1, ba1, bx3, ba2, bx6, ba5, bx12, ba10, Int.reduceDiv, Int.reducePow, Int.reduceToNat, decide_true, decide_false, Int.reduceEq, Int.reduceAdd, Int.reduceLT]
theorem hin13 {F : Nat} {p P : Int} {k : Nat} {l : List Int} {w0 w1 w2 w3 : Int} (hP : Pw k P) (h0 : 0 ≤ w0 ∧ w0 < P) (h1 : 0 ≤ w1 ∧ w1 < P) (h2 : 0 ≤ w2 ∧ w2 < P) (h3 : 0 ≤ w3 ∧ w3 < P) :
    iter (p_HCoord_l11 (p, (k : Int), l)) (F + 5) ((0 : Int), (13 : Int), [w0, w1, w2, w3]) = some (.inl [w0 + P, w1 + P, w2 + 0, w3 + P]) := by
  obtain ⟨a1, a2, a3, a4, a5, a6, a7⟩ := hP
  have a8 : (k : Int) ≤ 64 := by omega
  have a9 : (0 : Int) ≤ k := by omega
  simp (disch := first | assumption | omega | decide | (apply in64m <;> omega) | (apply And.intro <;> omega) | fail) only [iter_up, p_HCoord_l11, show IntKind.i64.bits = 64 from rfl, cond_true, cond_false, need_pos, idx0, idx1, idx2, idx3, Option.bind_some, Int.toNat_natCast, a2, a6, a7, List.set_cons_zero, List.set_cons_succ, List.length_cons, List.length_nil, bx1, ba1, bx3, ba2, bx6, ba5, bx13, ba11, Int.reduceDiv, Int.reducePow, Int.reduceToNat, decide_true, decide_false, Int.reduceEq, Int.reduceAdd, Int.reduceLT]
theorem hin14 {F : Nat} {p P : Int} {k : Nat} {l : List Int} {w0 w1 w2 w3 : Int} (hP : Pw k P) (h0 : 0 ≤ w0 ∧ w0 < P) (h1 : 0 ≤ w1 ∧ w1 < P) (h2 : 0 ≤ w2 ∧ w2 < P) (h3 : 0 ≤ w3 ∧ w3 < P) :
    iter (p_HCoord_l11 (p, (k : Int), l)) (F + 5) ((0 : Int), (14 : Int), [w0, w1, w2, w3]) = some (.inl [w0 + P, w1 + 0, w2 + 0, w3 + P]) := by
  obtain ⟨a1, a2, a3, a4, a5, a6, a7⟩ := hP
  have a8 : (k : Int) ≤ 64 := by omega
  have a9 : (0 : Int) ≤ k := by omega
  simp (disch := first | assumption | omega | decide | (apply in64m <;> omega) | (apply And.intro <;> omega) | fail) only [iter_up, p_HCoord_l11, show IntKind.i64.bits = 64 from rfl, cond_true, cond_false, need_pos, idx0, idx1, idx2, idx3, Option.bind_some, Int.toNat_natCast, a2, a6, a7, List.set_cons_zero, List.set_cons_succ, List.length_cons, List.length_nil, bx1, ba1, bx3, ba2, bx7, ba4, bx14, ba9, Int.reduceDiv, Int.reducePow, Int.reduceToNat, decide_true, decide_false, Int.reduceEq, Int.reduceAdd, Int.reduceLT]
theorem hin15 {F : Nat} {p P : Int} {k : Nat} {l : List Int} {w0 w1 w2 w3 : Int} (hP : Pw k P) (h0 : 0 ≤ w0 ∧ w0 < P) (h1 : 0 ≤ w1 ∧ w1 < P) (h2 : 0 ≤ w2 ∧ w2 < P) (h3 : 0 ≤ w3 ∧ w3 < P) :
    iter (p_HCoord_l11 (p, (k : Int), l)) (F + 5) ((0 : Int), (15 : Int), [w0, w1, w2, w3]) = some (.inl [w0 + 0, w1 + 0, w2 + 0, w3 + P]) := by
  obtain ⟨a1, a2, a3, a4, a5, a6, a7⟩ := hP
  have a8 : (k : Int) ≤ 64 := by omega
  have a9 : (0 : Int) ≤ k := by omega
  simp (disch := first | assumption | omega | decide | (apply in64m <;> omega) | (apply And.intro <;> omega) | fail) only [iter_up, p_HCoord_l11, show IntKind.i64.bits = 64 from rfl, cond_true, cond_false, need_pos, idx0, idx1, idx2, idx3, Option.bind_some, Int.toNat_natCast, a2, a6, a7, List.set_cons_zero, List.set_cons_succ, List.length_cons, List.length_nil, bx1, ba1, bx3, ba2, bx7, ba4, bx15, ba8, Int.reduceDiv, Int.reducePow, Int.reduceToNat, decide_true, decide_false, Int.reduceEq, Int.reduceAdd, Int.reduceLT]
end Go.Proofs.YtkajoiehicpnlaaDoor.Wk
