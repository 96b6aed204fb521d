/- Proved: the least box about points, axis by axis. -/
import Derived.Test.YtcckkfdlhakkmaaKExt2
namespace Go.Proofs.Ytcckkfdlhakkmaa.Wk
open Go.Vm
set_option linter.unusedVariables false
set_option linter.unusedSimpArgs false
def Vs (m : Nat) (a : Nat → Nat) : Prop := ∀ j, j < m → ∃ q, Flt.V (a j) = some q
theorem lb_k3 {m : Nat} (hm : m ≤ 6) {F : Nat} (hF : 10 ≤ F) {K : (Int × List Nat × List Nat) → Option (Sum (List Nat × List Nat) (List Nat × List Nat))} {k : Nat} (hk : k ≤ 10) {A B : List Nat} {a b c : Nat → Nat} (va : Vs m a) (vb : Vs m b) (vc : Vs m c) :
    p_LeastBox_k3 F ((k : Int), A, B) K (kr m b) (kr m a, kr m c) = K (((k + 1 : Nat) : Int), (kr m fun j => bmin (a j) (b j)), kr m fun j => bmax (c j) (b j)) := by
  unfold p_LeastBox_k3
  have h := lb_loop hm a b c va vb vc F 0 (by omega) (by omega)
  rw [stp_0, stp_0, stp_m, stp_m] at h
  have h' : iter (p_LeastBox_l5 (kr m b)) F ((0 : Int), kr m a, kr m c) = some (.inl ((kr m fun j => bmin (a j) (b j)), kr m fun j => bmax (c j) (b j))) := h
  simp only
  rw [h', Option.bind_some, aft_inl]
  unfold p_LeastBox_k4
  simp only
  rw [need_pos (in64 (by omega) (by omega)), succ_cast]
theorem lb_first {m : Nat} (hm : m ≤ 6) {F : Nat} (hF : 10 ≤ F) {K : (Int × List Nat × List Nat) → Option (Sum (List Nat × List Nat) (List Nat × List Nat))} {L : List (List Nat)} {b : Nat → Nat} (hL : L[0]? = some (kr m b)) (vb : Vs m b) :
    p_LeastBox_l2 L F K ((0 : Int), [], []) = K ((1 : Int), (kr m fun j => bmin (b j) (b j)), kr m fun j => bmax (b j) (b j)) := by
  have hlt := (List.getElem?_eq_some_iff.1 hL).1
  have hi : idx L (0 : Int) = some (kr m b) := idx_get (k := 0) hL
  unfold p_LeastBox_l2
  simp only
  rw [cond_t (decide_eq_true (by omega)), hi, Option.bind_some, cond_t (decide_eq_true trivial), need_pos (by rw [kr_len]; simp; omega), need_pos (by rw [kr_len]; simp; omega), List.nil_append]
  exact lb_k3 (k := 0) hm hF (by omega) vb vb vb
theorem lb_next {m : Nat} (hm : m ≤ 6) {F : Nat} (hF : 10 ≤ F) {K : (Int × List Nat × List Nat) → Option (Sum (List Nat × List Nat) (List Nat × List Nat))} {L : List (List Nat)} {k : Nat} (h0 : 1 ≤ k) (hk : k ≤ 10) {a b c : Nat → Nat} (hL : L[k]? = some (kr m b)) (va : Vs m a) (vb : Vs m b) (vc : Vs m c) :
    p_LeastBox_l2 L F K ((k : Int), kr m a, kr m c) = K (((k + 1 : Nat) : Int), (kr m fun j => bmin (a j) (b j)), kr m fun j => bmax (c j) (b j)) := by
  have hlt := (List.getElem?_eq_some_iff.1 hL).1
  unfold p_LeastBox_l2
  simp only
  rw [cond_t (decide_eq_true (by omega)), idx_get hL, Option.bind_some, cond_f (decide_eq_false (by omega))]
  exact lb_k3 hm hF hk va vb vc
end Go.Proofs.Ytcckkfdlhakkmaa.Wk
