/- Proved: the law on boxes that are extended to a point. -/
import Derived.Test.YtcckkfdlhakkmaaKExt3
import Derived.Test.YtcckkfdlhakkmaaFltTo
namespace Go.Proofs.Ytcckkfdlhakkmaa.Wk
open Go.Vm
set_option linter.unusedVariables false
set_option linter.unusedSimpArgs false
theorem vs_of {m : Nat} {l : List Nat} (h : l.length = m) (ho : ∀ x ∈ l, Flt.okF 4697254411347427328 x = true) : Vs m fun j => l.getD j 0 := fun j hj => by
  have hg : l.getD j 0 = l[j]'(by omega) := by rw [List.getD_eq_getElem?_getD, List.getElem?_eq_getElem (by omega)]; rfl
  obtain ⟨n, hn, _⟩ := Flt.okF_K20 (ho (l[j]'(by omega)) (List.getElem_mem _))
  exact ⟨n, by show Flt.V (l.getD j 0) = _; rw [hg]; exact hn⟩
theorem vs_bmin {m : Nat} {a b : Nat → Nat} (va : Vs m a) (vb : Vs m b) : Vs m fun j => bmin (a j) (b j) := fun j hj => by
  obtain ⟨p, hp⟩ := va j hj
  obtain ⟨q, hq⟩ := vb j hj
  exact ⟨_, Flt.bmin_V hp hq⟩
theorem vs_bmax {m : Nat} {a b : Nat → Nat} (va : Vs m a) (vb : Vs m b) : Vs m fun j => bmax (a j) (b j) := fun j hj => by
  obtain ⟨p, hp⟩ := va j hj
  obtain ⟨q, hq⟩ := vb j hj
  exact ⟨_, Flt.bmax_V hp hq⟩
theorem lb_end {F : Nat} {K : (Int × List Nat × List Nat) → Option (Sum (List Nat × List Nat) (List Nat × List Nat))} {L : List (List Nat)} {k : Nat} {A B : List Nat} (h : L.length = k) :
    p_LeastBox_l2 L F K ((k : Int), A, B) = some (.inl (A, B)) := by
  unfold p_LeastBox_l2
  simp only
  rw [cond_f (decide_eq_false (by omega))]
theorem lb_one {m : Nat} (hm : m ≤ 6) {F : Nat} (hF : 10 ≤ F) {b : Nat → Nat} (vb : Vs m b) :
    p_LeastBox F [kr m b] = some ((kr m fun j => bmin (b j) (b j)), kr m fun j => bmax (b j) (b j)) := by
  obtain ⟨G, rfl⟩ : ∃ G, F = G + 4 := ⟨F - 4, by omega⟩
  have e : iter (p_LeastBox_l2 [kr m b] (G + 4)) (G + 4) ((0 : Int), [], []) = some (.inl ((kr m fun j => bmin (b j) (b j)), kr m fun j => bmax (b j) (b j))) := by
    show p_LeastBox_l2 [kr m b] (G + 4) (iter (p_LeastBox_l2 [kr m b] (G + 4)) (G + 3)) _ = _
    rw [lb_first hm hF (rfl : [kr m b][0]? = some (kr m b)) vb]
    show p_LeastBox_l2 [kr m b] (G + 4) (iter (p_LeastBox_l2 [kr m b] (G + 4)) (G + 2)) (((1 : Nat) : Int), _, _) = _
    exact lb_end rfl
  unfold p_LeastBox
  rw [e, Option.bind_some, aft_inl]
  rfl
theorem lb_three {m : Nat} (hm : m ≤ 6) {F : Nat} (hF : 10 ≤ F) {b a c : Nat → Nat} (vb : Vs m b) (va : Vs m a) (vc : Vs m c) :
    p_LeastBox F [kr m b, kr m a, kr m c] = some ((kr m fun j => bmin (bmin (bmin (b j) (b j)) (a j)) (c j)), kr m fun j => bmax (bmax (bmax (b j) (b j)) (a j)) (c j)) := by
  obtain ⟨G, rfl⟩ : ∃ G, F = G + 4 := ⟨F - 4, by omega⟩
  obtain ⟨L, hL⟩ : ∃ L, L = [kr m b, kr m a, kr m c] := ⟨_, rfl⟩
  have l0 : L[0]? = some (kr m b) := by rw [hL]; rfl
  have l1 : L[1]? = some (kr m a) := by rw [hL]; rfl
  have l2 : L[2]? = some (kr m c) := by rw [hL]; rfl
  have ll : L.length = 3 := by rw [hL]; rfl
  rw [← hL]
  have e : iter (p_LeastBox_l2 L (G + 4)) (G + 4) ((0 : Int), [], []) = some (.inl ((kr m fun j => bmin (bmin (bmin (b j) (b j)) (a j)) (c j)), kr m fun j => bmax (bmax (bmax (b j) (b j)) (a j)) (c j))) := by
    show p_LeastBox_l2 L (G + 4) (iter (p_LeastBox_l2 L (G + 4)) (G + 3)) _ = _
    rw [lb_first hm hF l0 vb]
    show p_LeastBox_l2 L (G + 4) (iter (p_LeastBox_l2 L (G + 4)) (G + 2)) (((1 : Nat) : Int), _, _) = _
    rw [lb_next hm hF (by omega) (by omega) l1 (vs_bmin vb vb) va (vs_bmax vb vb)]
    show p_LeastBox_l2 L (G + 4) (iter (p_LeastBox_l2 L (G + 4)) (G + 1)) (((2 : Nat) : Int), _, _) = _
    rw [lb_next hm hF (by omega) (by omega) l2 (vs_bmin (vs_bmin vb vb) va) vc (vs_bmax (vs_bmax vb vb) va)]
    show p_LeastBox_l2 L (G + 4) (iter (p_LeastBox_l2 L (G + 4)) G) (((3 : Nat) : Int), _, _) = _
    exact lb_end ll
  unfold p_LeastBox
  rw [e, Option.bind_some, aft_inl]
  rfl
theorem floats_kr {m : Nat} (hm : m ≤ 6) (f : Nat → Nat) : p_floats (kr m f) = some (kr m f) := by
  unfold p_floats
  rw [need_pos (by rw [kr_len]; omega)]
theorem ke_nil {m : Nat} (hm : m ≤ 6) {F : Nat} (hF : 10 ≤ F) (b : Nat → Nat) :
    p_KExtend F [] [] (kr m b) = some ((kr m fun j => Flt.amin (b j) (b j)), (kr m fun j => Flt.amax (b j) (b j)), true) := by
  have h := ke_loop hm b b b F 0 (by omega) (by omega)
  rw [stp_0, stp_0, stp_m, stp_m] at h
  have h' : iter (p_KExtend_l2 (kr m b)) F ((0 : Int), kr m b, kr m b) = some (.inl ((kr m fun j => Flt.amin (b j) (b j)), kr m fun j => Flt.amax (b j) (b j))) := h
  unfold p_KExtend
  rw [cond_t (decide_eq_true (show (([] : List Nat).length : Int) = 0 from rfl)), need_pos (by rw [kr_len]; omega), need_pos (by rw [kr_len]; omega), h', Option.bind_some, aft_inl]
  unfold p_KExtend_k1
  simp only
  rw [floats_kr hm, Option.bind_some, floats_kr hm, Option.bind_some]
theorem ke_box {m : Nat} (hm : m ≤ 6) (h0 : 0 < m) {F : Nat} (hF : 10 ≤ F) (a b c : Nat → Nat) :
    p_KExtend F (kr m a) (kr m c) (kr m b) = some ((kr m fun j => Flt.amin (a j) (b j)), (kr m fun j => Flt.amax (c j) (b j)), true) := by
  have h := ke_loop hm a b c F 0 (by omega) (by omega)
  rw [stp_0, stp_0, stp_m, stp_m] at h
  have h' : iter (p_KExtend_l4 (kr m b)) F ((0 : Int), kr m a, kr m c) = some (.inl ((kr m fun j => Flt.amin (a j) (b j)), kr m fun j => Flt.amax (c j) (b j))) := h
  unfold p_KExtend
  rw [cond_f (decide_eq_false (by rw [kr_len]; omega)), floats_kr hm, Option.bind_some, floats_kr hm, Option.bind_some, h', Option.bind_some, aft_inl]
  unfold p_KExtend_k3
  simp only
  rw [floats_kr hm, Option.bind_some, floats_kr hm, Option.bind_some]
theorem feq_of {x y : Nat} {p q : Rat} (hx : Flt.V x = some p) (hy : Flt.V y = some q) (h : p = q) : feq x y = true := by
  rw [Flt.feq_val hx hy, h]; simp
theorem tail_p {F : Nat} (hF : 10 ≤ F) {m : Nat} (hm : m ≤ 6) {a0 a1 a2 : List Nat} {L : List (List Nat)} {u v w z : Nat → Nat} (h1 : p_LeastBox F L = some (kr m u, kr m v)) (h2 : p_KExtend F a0 a1 a2 = some (kr m w, kr m z, true))
    (h3 : ∀ j, j < m → feq (w j) (u j) = true) (h4 : ∀ j, j < m → feq (z j) (v j) = true) : p_FnKExtend_k3 a0 a1 a2 F L = some true := by
  unfold p_FnKExtend_k3
  rw [h1, Option.bind_some, h2, Option.bind_some]
  simp only
  rw [cond_t rfl, sp_p hm hF w u h3, Option.bind_some, cond_t rfl, sp_p hm hF z v h4, Option.bind_some]
theorem law_kext {F : Nat} (hF : 2147483660 ≤ F) (a0 a1 a2 : List Nat) : p_FnKExtend F a0 a1 a2 = some true := by
  have kt : p_FnKExtend_k1 a0 a1 a2 F true = some true := by unfold p_FnKExtend_k1; rw [cond_t rfl]
  unfold p_FnKExtend
  by_cases c0 : (2147483647 : Int) < ((a0.length : Nat) : Int)
  · rw [cond_t (decide_eq_true c0), kt]
  rw [cond_f (decide_eq_false c0)]
  by_cases c1 : (2147483647 : Int) < ((a1.length : Nat) : Int)
  · rw [cond_t (decide_eq_true c1), kt]
  rw [cond_f (decide_eq_false c1)]
  by_cases c2 : (2147483647 : Int) < ((a2.length : Nat) : Int)
  · rw [decide_eq_true c2, kt]
  rw [decide_eq_false c2]
  unfold p_FnKExtend_k1
  rw [cond_f rfl]
  by_cases c3' : ¬ ((a0.length : Nat) : Int) = ((a1.length : Nat) : Int)
  · rw [cond_t (nT c3')]
  have c3 := Decidable.not_not.1 c3'
  rw [cond_f (nF c3)]
  obtain ⟨g, hg, hg2⟩ := some_p (ls := [a2]) (p := a2) (by simp) (fun l hl => by rw [List.mem_singleton.1 hl]; omega) (by omega) hF
  rw [hg, Option.bind_some]
  cases g with
  | false => rw [cond_t (rfl : (!false) = true)]
  | true =>
    rw [cond_f (rfl : (!true) = false)]
    obtain ⟨hm, ho, -⟩ := hg2 rfl
    obtain ⟨m, hm2⟩ : ∃ m, m = a2.length := ⟨_, rfl⟩
    rw [← hm2] at hm
    have vb := vs_of hm2.symm ho
    have e2 : a2 = kr m fun j => a2.getD j 0 := by rw [hm2]; exact kr_self a2
    obtain ⟨b, hb⟩ : ∃ b : Nat → Nat, b = fun j => a2.getD j 0 := ⟨_, rfl⟩
    rw [← hb] at e2 vb
    by_cases c4 : (0 : Int) < ((a0.length : Nat) : Int)
    · rw [cond_t (decide_eq_true c4)]
      obtain ⟨g2, hg3, hg4⟩ := some_p (ls := [a0, a1]) (p := a2) (by simp) (fun l hl => by
        rcases List.mem_cons.1 hl with h | h
        · rw [h]; omega
        · rw [List.mem_singleton.1 h]; omega) (by omega) hF
      rw [hg3, Option.bind_some]
      cases g2 with
      | false => rw [cond_t (rfl : (!false) = true)]
      | true =>
        rw [cond_f (rfl : (!true) = false)]
        have t0 := (hg4 rfl).2.2 a0 (by simp)
        have t1 := (hg4 rfl).2.2 a1 (by simp)
        rw [← hm2] at t0 t1
        have va := vs_of t0.1 t0.2
        have vc := vs_of t1.1 t1.2
        have e0 : a0 = kr m fun j => a0.getD j 0 := by rw [← t0.1]; exact kr_self a0
        have e1 : a1 = kr m fun j => a1.getD j 0 := by rw [← t1.1]; exact kr_self a1
        obtain ⟨a, ha⟩ : ∃ a : Nat → Nat, a = fun j => a0.getD j 0 := ⟨_, rfl⟩
        obtain ⟨c, hc⟩ : ∃ c : Nat → Nat, c = fun j => a1.getD j 0 := ⟨_, rfl⟩
        rw [← ha] at e0 va
        rw [← hc] at e1 vc
        have hpos : 0 < m := by have := t0.1; omega
        clear ha hc hb hg2 hg4 hg hg3 t0 t1 ho kt
        subst e0 e1 e2
        obtain ⟨g3, hw, hw2⟩ := within_p hm (show 10 ≤ F by omega) a c
        rw [hw, Option.bind_some]
        cases g3 with
        | false => rw [cond_t (rfl : (!false) = true)]
        | true =>
          rw [cond_f (rfl : (!true) = false)]
          unfold p_FnKExtend_k2
          rw [cond_t (decide_eq_true c4), need_pos (by simp)]
          have hw3 := hw2 rfl
          refine tail_p (by omega) hm (lb_three hm (by omega) vb va vc) (ke_box hm hpos (by omega) a b c) (fun j hj => ?_) (fun j hj => ?_)
          · obtain ⟨p, hp⟩ := va j hj
            obtain ⟨q, hq⟩ := vb j hj
            obtain ⟨r, hr⟩ := vc j hj
            have hle := hw3 j hj
            rw [Flt.fgt_val hp hr] at hle
            have hle2 : ¬ r < p := of_decide_eq_false hle
            refine feq_of (Flt.amin_V hp hq) (Flt.bmin_V (Flt.bmin_V (Flt.bmin_V hq hq) hp) hr) ?_
            unfold Flt.rmin
            grind
          · obtain ⟨p, hp⟩ := va j hj
            obtain ⟨q, hq⟩ := vb j hj
            obtain ⟨r, hr⟩ := vc j hj
            have hle := hw3 j hj
            rw [Flt.fgt_val hp hr] at hle
            have hle2 : ¬ r < p := of_decide_eq_false hle
            refine feq_of (Flt.amax_V hr hq) (Flt.bmax_V (Flt.bmax_V (Flt.bmax_V hq hq) hp) hr) ?_
            unfold Flt.rmax
            grind
    · rw [cond_f (decide_eq_false c4)]
      unfold p_FnKExtend_k2
      rw [cond_f (decide_eq_false c4)]
      have z0 : a0 = [] := List.length_eq_zero_iff.1 (by omega)
      have z1 : a1 = [] := List.length_eq_zero_iff.1 (by omega)
      clear hb hg2 hg ho kt
      subst z0 z1 e2
      refine tail_p (by omega) hm (lb_one hm (by omega) vb) (ke_nil hm (by omega) b) (fun j hj => ?_) (fun j hj => ?_)
      · obtain ⟨q, hq⟩ := vb j hj
        exact feq_of (Flt.amin_V hq hq) (Flt.bmin_V hq hq) rfl
      · obtain ⟨q, hq⟩ := vb j hj
        exact feq_of (Flt.amax_V hq hq) (Flt.bmax_V hq hq) rfl
end Go.Proofs.Ytcckkfdlhakkmaa.Wk
