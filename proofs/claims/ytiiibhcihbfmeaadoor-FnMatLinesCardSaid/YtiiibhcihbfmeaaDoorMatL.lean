/- Proved: the law of the rows and columns of a matrix, of what is printed of it. Its arguments are words of 64 bits. -/
import Derived.Test.YtiiibhcihbfmeaaDoorGrid
import Derived.Test.YtiiibhcihbfmeaaDoorScaled
import Derived.Test.YtiiibhcihbfmeaaDoorFltInt
namespace Go.Proofs.YtiiibhcihbfmeaaDoor.Wk
open Go.Vm
set_option linter.unusedVariables false
set_option linter.unusedSimpArgs false
def okM (m : TImpl_Mat) : Bool := Flt.okF Flt.K10 m.e0 && (Flt.okF Flt.K10 m.e1 && (Flt.okF Flt.K10 m.e2 && (Flt.okF Flt.K10 m.e3 && (Flt.okF Flt.K10 m.e4 && (Flt.okF Flt.K10 m.e5 && (Flt.okF Flt.K10 m.e6 && (Flt.okF Flt.K10 m.e7 && (Flt.okF Flt.K10 m.e8))))))))
theorem entries_p {F : Nat} (hF : 1073741826 ≤ F) (l : List TImpl_Mat) (hp : l.length < 1000) : p_entries F l = some (l.all okM) := by
  unfold p_entries
  have outer : iter (p_entries_l2 l F) F (0 : Int) = some (if l.all okM = true then Sum.inl () else Sum.inr false) := by
    refine scan_loop0 l _ _ _ (fun K k hk => ?_) (fun K k x hx => ?_) (by omega)
    · unfold p_entries_l2; rw [cond_f (decide_eq_false (by omega))]
    · have hk := (List.getElem?_eq_some_iff.1 hx).1
      unfold p_entries_l2
      have hg : p_Grid F [[x.e0, x.e1, x.e2, x.e3, x.e4, x.e5, x.e6, x.e7, x.e8]] 9 (4652218415073722368 : Nat) = some (okM x) := by
        rw [grid_p (by simp; omega) (by simp; omega) (by simp) (by simp)]
        simp [gridB, rowB, Flt.K10, okM, Bool.and_assoc]
      rw [cond_t (decide_eq_true (by omega)), idx_get hx, Option.bind_some, need_pos (by rfl), hg, Option.bind_some]
      simp only [succ_cast]
      cases hc : okM x with
      | false => rfl
      | true => rw [cond_f (show (!true) = false from rfl), need_pos (in64 (by omega) (by omega))]; rfl
  rw [outer, Option.bind_some]
  split
  · rename_i h; rw [h]; rfl
  · rename_i h
    have : l.all okM = false := by simpa using h
    rw [this]; rfl
/-- a number that is whole and within the bound -/
def W (x : Nat) (n : Int) : Prop := Flt.I x n ∧ -1024 ≤ n ∧ n ≤ 1024
theorem W_of {x : Nat} (h : Flt.okF Flt.K10 x = true) : ∃ n, W x n := by
  obtain ⟨n, h1, h2, h3⟩ := Flt.okF_K10 h
  exact ⟨n, h1, h2, h3⟩
def WM (m : TImpl_Mat) (a0 a1 a2 a3 a4 a5 a6 a7 a8 : Int) : Prop := W m.e0 a0 ∧ W m.e1 a1 ∧ W m.e2 a2 ∧ W m.e3 a3 ∧ W m.e4 a4 ∧ W m.e5 a5 ∧ W m.e6 a6 ∧ W m.e7 a7 ∧ W m.e8 a8
theorem WM_of {m : TImpl_Mat} (h : okM m = true) : ∃ a0 a1 a2 a3 a4 a5 a6 a7 a8, WM m a0 a1 a2 a3 a4 a5 a6 a7 a8 := by
  simp only [okM, Bool.and_eq_true] at h
  obtain ⟨h0, h1, h2, h3, h4, h5, h6, h7, h8⟩ := h
  obtain ⟨a0, k0⟩ := W_of h0
  obtain ⟨a1, k1⟩ := W_of h1
  obtain ⟨a2, k2⟩ := W_of h2
  obtain ⟨a3, k3⟩ := W_of h3
  obtain ⟨a4, k4⟩ := W_of h4
  obtain ⟨a5, k5⟩ := W_of h5
  obtain ⟨a6, k6⟩ := W_of h6
  obtain ⟨a7, k7⟩ := W_of h7
  obtain ⟨a8, k8⟩ := W_of h8
  exact ⟨a0, a1, a2, a3, a4, a5, a6, a7, a8, k0, k1, k2, k3, k4, k5, k6, k7, k8⟩
theorem row0 (a : TImpl_Mat) : p_MatRow a (0 : Int) = some (⟨a.e0, a.e1, a.e2⟩, true) := by rfl
theorem col0 (a : TImpl_Mat) : p_MatCol a (0 : Int) = some (⟨a.e0, a.e3, a.e6⟩, true) := by rfl
theorem row1 (a : TImpl_Mat) : p_MatRow a (1 : Int) = some (⟨a.e3, a.e4, a.e5⟩, true) := by rfl
theorem col1 (a : TImpl_Mat) : p_MatCol a (1 : Int) = some (⟨a.e1, a.e4, a.e7⟩, true) := by rfl
theorem row2 (a : TImpl_Mat) : p_MatRow a (2 : Int) = some (⟨a.e6, a.e7, a.e8⟩, true) := by rfl
theorem col2 (a : TImpl_Mat) : p_MatCol a (2 : Int) = some (⟨a.e2, a.e5, a.e8⟩, true) := by rfl
theorem wrap_neg {i : Int} (h1 : -9223372036854775808 ≤ i) (h2 : i < 0) : (2 : Int) < IntKind.u64.wrap i := by
  simp only [IntKind.wrap, IntKind.signed, IntKind.bits]
  simp
  omega
theorem row_out (a : TImpl_Mat) {i : Int} (h1 : -9223372036854775808 ≤ i) (h2 : i < 0 ∨ 2 < i) : p_MatRow a i = some (⟨0, 0, 0⟩, false) := by
  have h : pp_MatRow a i = some () := by
    show pp_Mat_VecRow ⟨a⟩ i = some ()
    unfold pp_Mat_VecRow
    rcases h2 with h2 | h2
    · rw [cond_f (decide_eq_false (by omega))]
      unfold pp_Mat_At
      rw [cond_t (decide_eq_true (wrap_neg h1 h2))]
    · rw [cond_t (decide_eq_true h2)]
  unfold p_MatRow
  rw [h]; rfl
theorem col_out (a : TImpl_Mat) {i : Int} (h1 : -9223372036854775808 ≤ i) (h2 : i < 0 ∨ 2 < i) : p_MatCol a i = some (⟨0, 0, 0⟩, false) := by
  have h : pp_MatCol a i = some () := by
    show pp_Mat_VecCol ⟨a⟩ i = some ()
    unfold pp_Mat_VecCol
    rcases h2 with h2 | h2
    · rw [cond_f (decide_eq_false (by omega))]
      unfold pp_Mat_At
      rw [cond_f (decide_eq_false (by decide)), cond_t (decide_eq_true (wrap_neg h1 h2))]
    · rw [cond_t (decide_eq_true h2)]
  unfold p_MatCol
  rw [h]; rfl
theorem feqs {x : Nat} {m : Int} (hx : W x m) : feq x x = true := by
  rw [Flt.feq_int hx.1 hx.1]; exact decide_eq_true rfl
theorem law_mlines {F : Nat} (hF : 1073741826 ≤ F) (a : TImpl_Mat) (i : Int) (hi : lo .i64 ≤ i) : p_FnMatLines F a i = some true := by
  have hi : -9223372036854775808 ≤ i := hi
  unfold p_FnMatLines
  rw [entries_p hF _ (by simp), Option.bind_some]
  cases h1 : [a].all okM with
  | false => rfl
  | true =>
    rw [cond_f (show (!true) = false from rfl)]
    by_cases hn : i < 0
    · rw [row_out a hi (.inl hn), Option.bind_some, col_out a hi (.inl hn), Option.bind_some, cond_t (decide_eq_true hn)]
      rfl
    · by_cases hb : 2 < i
      · rw [row_out a hi (.inr hb), Option.bind_some, col_out a hi (.inr hb), Option.bind_some, cond_f (decide_eq_false hn), decide_eq_true hb]
        rfl
      · simp only [List.all_cons, List.all_nil, Bool.and_true] at h1
        obtain ⟨a0, a1, a2, a3, a4, a5, a6, a7, a8, k0, k1, k2, k3, k4, k5, k6, k7, k8⟩ := WM_of h1
        have f0 := feqs k0
        have f1 := feqs k1
        have f2 := feqs k2
        have f3 := feqs k3
        have f4 := feqs k4
        have f5 := feqs k5
        have f6 := feqs k6
        have f7 := feqs k7
        have f8 := feqs k8
        obtain rfl | rfl | rfl : i = 0 ∨ i = 1 ∨ i = 2 := by omega
        · rw [row0, Option.bind_some, col0, Option.bind_some]
          show cond (feq a.e0 a.e0 && (feq a.e1 a.e1 && (feq a.e2 a.e2 && true))) (some (feq a.e0 a.e0 && (feq a.e3 a.e3 && (feq a.e6 a.e6 && true)))) (some false) = some true
          simp only [f0, f1, f2, f0, f3, f6]
          rfl
        · rw [row1, Option.bind_some, col1, Option.bind_some]
          show cond (feq a.e3 a.e3 && (feq a.e4 a.e4 && (feq a.e5 a.e5 && true))) (some (feq a.e1 a.e1 && (feq a.e4 a.e4 && (feq a.e7 a.e7 && true)))) (some false) = some true
          simp only [f3, f4, f5, f1, f4, f7]
          rfl
        · rw [row2, Option.bind_some, col2, Option.bind_some]
          show cond (feq a.e6 a.e6 && (feq a.e7 a.e7 && (feq a.e8 a.e8 && true))) (some (feq a.e2 a.e2 && (feq a.e5 a.e5 && (feq a.e8 a.e8 && true)))) (some false) = some true
          simp only [f6, f7, f8, f2, f5, f8]
          rfl
end Go.Proofs.YtiiibhcihbfmeaaDoor.Wk
