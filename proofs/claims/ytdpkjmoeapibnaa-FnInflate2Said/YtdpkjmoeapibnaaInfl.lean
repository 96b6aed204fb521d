/- Proved: flat lines, put up as places. -/
import Derived.Test.YtdpkjmoeapibnaaFRows2
namespace Go.Proofs.Ytdpkjmoeapibnaa.Wk
open Go.Vm
set_option linter.unusedVariables false
set_option linter.unusedSimpArgs false
/-- the place at a -/
abbrev plcF (t : Nat) (l : List Nat) (a : Nat) : List Nat := (l.drop a).take t
abbrev plcsF (t : Nat) (l : List Nat) (a n : Nat) : List (List Nat) := (List.range n).map fun k => plcF t l (a + k * t)
/-- ends, of numbers of places -/
def endsF (t : Nat) : Nat → List Nat → List Int
  | _, [] => []
  | a, n :: r => ((a + n * t : Nat) : Int) :: endsF t (a + n * t) r
def lastF (t : Nat) : Nat → List Nat → Nat
  | a, [] => a
  | a, n :: r => lastF t (a + n * t) r
theorem lastF_le {t : Nat} : ∀ (ns : List Nat) (a : Nat), a ≤ lastF t a ns
  | [], a => Nat.le_refl _
  | n :: r, a => Nat.le_trans (Nat.le_add_right _ _) (lastF_le r (a + n * t))
theorem endsF_len {t : Nat} : ∀ (ns : List Nat) (a : Nat), (endsF t a ns).length = ns.length
  | [], a => rfl
  | n :: r, a => by simp [endsF, endsF_len r]
theorem EndsG.nat {t : Nat} (ht : 2 ≤ t) {q : Int} : ∀ (e : List Int) (a : Nat), EndsG (t : Int) q (a : Int) e → ∃ ns, e = endsF t a ns ∧ q = (lastF t a ns : Int)
  | [], a, h => ⟨[], rfl, h.symm⟩
  | x :: r, a, h => by
    obtain ⟨h1, h2, h3⟩ := h
    obtain ⟨k, hk⟩ : ∃ k : Nat, x - a = k := ⟨(x - a).toNat, by omega⟩
    rw [hk] at h2
    have h4 : k % t = 0 := by
      have : ((k % t : Nat) : Int) = 0 := by rw [← h2]; rfl
      omega
    obtain ⟨n, rfl⟩ : ∃ n, k = n * t := ⟨k / t, by rw [Nat.div_mul_cancel (Nat.dvd_of_mod_eq_zero h4)]⟩
    have hx : x = ((a + n * t : Nat) : Int) := by omega
    subst hx
    obtain ⟨ns, e1, e2⟩ := EndsG.nat ht r _ h3
    exact ⟨n :: ns, by rw [e1]; rfl, e2⟩
theorem inflate0_p {l : List Nat} {a t : Nat} (h2 : 2 ≤ t) (h9 : t ≤ 9) (hl : l.length ≤ 2000) (ha : a + t ≤ l.length) : p_inflate0 l (a : Int) ((a : Int) + (t : Int)) (t : Int) = some (plcF t l a) := by
  unfold p_inflate0
  rw [need_pos (in64 (by omega) (by omega)), cond_f (nF rfl), need_pos (by omega), need_pos ⟨⟨by omega, by omega⟩, by omega, by omega⟩, need_pos (by simp)]
  have e1 : ((a : Int) + (t : Int)).toNat - ((a : Int)).toNat = t := by omega
  have e2 : ((t : Int)).toNat = t := rfl
  have e3 : ((a : Int)).toNat = a := rfl
  rw [e1, e2, e3]
  have e4 : ((l.drop a).take t).length = t := by simp; omega
  have e5 : ((l.drop a).take t).take (min ((l.drop a).take t).length (List.replicate t (0 : Nat)).length) ++ (List.replicate t (0 : Nat)).drop (min ((l.drop a).take t).length (List.replicate t (0 : Nat)).length) = (l.drop a).take t := by
    rw [e4, List.length_replicate, Nat.min_self, List.take_of_length_le (Nat.le_of_eq e4), List.drop_of_length_le (Nat.le_of_eq List.length_replicate), List.append_nil]
  rw [e5, need_pos e4.symm]
theorem inflate1_loop {l : List Nat} {a t n : Nat} (h2 : 2 ≤ t) (h9 : t ≤ 9) (hl : l.length ≤ 2000) (ha : a + n * t ≤ l.length) : ∀ (F i : Nat), n - i < F → i ≤ n →
    iter (p_inflate1_l2 l (a : Int) ((a + n * t : Nat) : Int) (t : Int)) F (((a + i * t : Nat) : Int), (i : Int), plcsF t l a i ++ List.replicate (n - i) []) = some (.inl (plcsF t l a n)) := by
  have ed : Int.tdiv (((a + n * t : Nat) : Int) - (a : Int)) (t : Int) = (n : Int) := by
    have : ((a + n * t : Nat) : Int) - (a : Int) = ((n * t : Nat) : Int) := by omega
    rw [this]
    show ((n * t / t : Nat) : Int) = _
    rw [Nat.mul_div_cancel _ (by omega)]
  have hn : n ≤ 2000 := Nat.le_trans (Nat.le_mul_of_pos_right n (by omega : 0 < t)) (by omega)
  intro F
  induction F with
  | zero => intro i h; omega
  | succ F ih =>
    intro i h hi
    show p_inflate1_l2 l _ _ _ (iter (p_inflate1_l2 l _ _ _) F) _ = _
    generalize hK : iter (p_inflate1_l2 l (a : Int) ((a + n * t : Nat) : Int) (t : Int)) F = K at *
    unfold p_inflate1_l2
    simp only [ed]
    have en : ((n : Int)).toNat = n := rfl
    rw [en]
    by_cases hin : i < n
    · have hm : (i + 1) * t ≤ n * t := Nat.mul_le_mul_right t hin
      have hs : (i + 1) * t = i * t + t := Nat.succ_mul i t
      rw [cond_t (decide_eq_true (by omega)), need_pos (in64 (by omega) (by omega)), inflate0_p h2 h9 hl (by omega), Option.bind_some, need_pos (by omega), need_pos (by simp; omega), need_pos (in64 (by omega) (by omega)), succ_cast, need_pos (in64 (by omega) (by omega))]
      have e1 : (plcsF t l a i ++ List.replicate (n - i) []).set ((i : Int)).toNat (plcF t l (a + i * t)) = plcsF t l a (i + 1) ++ List.replicate (n - (i + 1)) [] := by
        have : n - i = (n - (i + 1)) + 1 := by omega
        have hlen : (plcsF t l a i).length = i := by simp [plcsF]
        rw [this, List.replicate_succ, show ((i : Int)).toNat = i from rfl, List.set_append_right _ _ (Nat.le_of_eq hlen), hlen, Nat.sub_self, List.set_cons_zero]
        unfold plcsF
        rw [List.range_succ, List.map_append, List.append_assoc]
        rfl
      rw [e1]
      have e2 : (((a + i * t : Nat) : Int) + (t : Int)) = ((a + (i + 1) * t : Nat) : Int) := by omega
      rw [e2]
      exact ih (i + 1) (by omega) hin
    · have : i = n := by omega
      subst this
      rw [cond_f (decide_eq_false (by omega))]
      simp
theorem inflate1_p {F : Nat} {l : List Nat} {a t n : Nat} (h2 : 2 ≤ t) (h9 : t ≤ 9) (hl : l.length ≤ 2000) (ha : a + n * t ≤ l.length) (hF : 2001 < F) :
    p_inflate1 F l (a : Int) ((a + n * t : Nat) : Int) (t : Int) = some (plcsF t l a n) := by
  have ed : Int.tdiv (((a + n * t : Nat) : Int) - (a : Int)) (t : Int) = (n : Int) := by
    have : ((a + n * t : Nat) : Int) - (a : Int) = ((n * t : Nat) : Int) := by omega
    rw [this]
    show ((n * t / t : Nat) : Int) = _
    rw [Nat.mul_div_cancel _ (by omega)]
  have hn : n ≤ 2000 := Nat.le_trans (Nat.le_mul_of_pos_right n (by omega : 0 < t)) (by omega)
  unfold p_inflate1
  have hloop := inflate1_loop (a := a) (n := n) h2 h9 hl ha F 0 (by omega) (by omega)
  rw [need_pos (in64 (by omega) (by omega)), need_pos ⟨by omega, by rw [ed]; exact in64 (by omega) (by omega)⟩, ed, need_pos (by omega)]
  have e0 : ((n : Int)).toNat = n := rfl
  simp only [Nat.zero_mul, Nat.add_zero, Nat.sub_zero, List.range_zero, List.map_nil, List.nil_append] at hloop
  have hloop' : iter (p_inflate1_l2 l (a : Int) ((a + n * t : Nat) : Int) (t : Int)) F ((a : Int), (0 : Int), List.replicate n []) = some (.inl (plcsF t l a n)) := hloop
  rw [e0, hloop', Option.bind_some, aft_inl]
  unfold p_inflate1_k1
  rw [ed, need_pos (by simp)]
end Go.Proofs.Ytdpkjmoeapibnaa.Wk
