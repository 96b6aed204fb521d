/- Proved: lines of places in a row. -/
import Derived.Test.YtlafodjpnolmhaaGSml
namespace Go.Proofs.Ytlafodjpnolmhaa.Wk
open Go.Vm
set_option linter.unusedVariables false
set_option linter.unusedSimpArgs false
/-- Ends that ascend by whole places, to q. -/
def EndsG (s : Int) (q : Int) : Int → List Int → Prop
  | p, [] => p = q
  | p, e :: r => p ≤ e ∧ Int.tmod (e - p) s = 0 ∧ EndsG s q e r
theorem goodEnds_loop {s : Int} (hs : 2 ≤ s) {l : List Int} (hl : ∀ x ∈ l, inI .i64 x) (hll : l.length < 4611686018427387904) : ∀ (F i : Nat) (p : Int), l.length - i < F → i ≤ l.length → 0 ≤ p →
    ∃ o, iter (p_goodEnds_l2 l s false) F (p, (i : Int)) = some o ∧ ((∃ q, o = .inl q ∧ EndsG s q p (l.drop i)) ∨ ∃ q, o = .inr (q, false)) := by
  intro F
  induction F with
  | zero => intro i p h; omega
  | succ F ih =>
    intro i p h hi h0
    show ∃ o, p_goodEnds_l2 l s false (iter (p_goodEnds_l2 l s false) F) _ = _ ∧ _
    generalize hK : iter (p_goodEnds_l2 l s false) F = K at *
    unfold p_goodEnds_l2
    simp only
    by_cases hil : i < l.length
    · obtain ⟨x, hx⟩ : ∃ x, l[i]? = some x := ⟨_, List.getElem?_eq_getElem hil⟩
      have hxi := hl x (List.mem_of_getElem? hx)
      have hd : l.drop i = x :: l.drop (i + 1) := by
        rw [List.drop_eq_getElem_cons hil]
        rw [List.getElem?_eq_getElem hil] at hx
        rw [Option.some.inj hx]
      rw [cond_t (decide_eq_true (by omega)), idx_get hx, Option.bind_some, hd]
      by_cases hxp : x < p
      · rw [cond_t (decide_eq_true hxp)]
        exact ⟨_, rfl, .inr ⟨_, rfl⟩⟩
      · have hin : inI .i64 (x - p) := ⟨by simp only [lo]; omega, by have := hxi.2; simp only [Go.Vm.hi] at *; omega⟩
        rw [cond_f (decide_eq_false hxp), need_pos hin, need_pos (by omega)]
        by_cases ht : Int.tmod (x - p) s = 0
        · rw [cond_f (nF ht)]
          unfold p_goodEnds_k3
          simp only [cond_false, cond_f (rfl : false = false)]
          rw [succ_cast, need_pos (in64 (by omega) (by omega))]
          obtain ⟨o, h1, h2⟩ := ih (i + 1) x (by omega) (by omega) (by omega)
          refine ⟨o, h1, ?_⟩
          rcases h2 with ⟨q, e, hq⟩ | h2
          · exact .inl ⟨q, e, by omega, ht, hq⟩
          · exact .inr h2
        · rw [cond_t (nT ht)]
          exact ⟨_, rfl, .inr ⟨_, rfl⟩⟩
    · rw [cond_f (decide_eq_false (by omega)), List.drop_eq_nil_of_le (by omega)]
      exact ⟨_, rfl, .inl ⟨p, rfl, rfl⟩⟩
theorem goodEnds_p {s : Int} (hs : 2 ≤ s) {l : List Int} (hl : ∀ x ∈ l, inI .i64 x) (hll : l.length < 4611686018427387904) {F : Nat} (hF : l.length < F) :
    ∃ q b, p_goodEnds F l (0 : Int) s false = some (q, b) ∧ (b = true → EndsG s q 0 l) := by
  obtain ⟨o, h1, h2⟩ := goodEnds_loop hs hl hll F 0 0 (by omega) (by omega) (by omega)
  have h1' : iter (p_goodEnds_l2 l s false) F ((0 : Int), (0 : Int)) = some o := h1
  unfold p_goodEnds
  rw [h1', Option.bind_some]
  rcases h2 with ⟨q, rfl, hq⟩ | ⟨q, rfl⟩
  · exact ⟨q, true, rfl, fun _ => by simpa using hq⟩
  · exact ⟨q, false, rfl, fun h => by cases h⟩
/-- the place at a -/
abbrev plcF (t : Nat) (l : List Nat) (a : Nat) : List Nat := (l.drop a).take t
abbrev plcsF (t : Nat) (l : List Nat) (a n : Nat) : List (List Nat) := (List.range n).map fun k => plcF t l (a + k * t)
/-- ends, of numbers of places -/
def endsF (t : Nat) : Nat → List Nat → List Int
  | _, [] => []
  | a, n :: r => ((a + n * t : Nat) : Int) :: endsF t (a + n * t) r
def lastF (t : Nat) : Nat → List Nat → Nat
  | a, [] => a
  | a, n :: r => lastF t (a + n * t) r
theorem lastF_le {t : Nat} : ∀ (ns : List Nat) (a : Nat), a ≤ lastF t a ns
  | [], a => Nat.le_refl _
  | n :: r, a => Nat.le_trans (Nat.le_add_right _ _) (lastF_le r (a + n * t))
theorem endsF_len {t : Nat} : ∀ (ns : List Nat) (a : Nat), (endsF t a ns).length = ns.length
  | [], a => rfl
  | n :: r, a => by simp [endsF, endsF_len r]
theorem EndsG.nat {t : Nat} (ht : 2 ≤ t) {q : Int} : ∀ (e : List Int) (a : Nat), EndsG (t : Int) q (a : Int) e → ∃ ns, e = endsF t a ns ∧ q = (lastF t a ns : Int)
  | [], a, h => ⟨[], rfl, h.symm⟩
  | x :: r, a, h => by
    obtain ⟨h1, h2, h3⟩ := h
    obtain ⟨k, hk⟩ : ∃ k : Nat, x - a = k := ⟨(x - a).toNat, by omega⟩
    rw [hk] at h2
    have h4 : k % t = 0 := by
      have : ((k % t : Nat) : Int) = 0 := by rw [← h2]; rfl
      omega
    obtain ⟨n, rfl⟩ : ∃ n, k = n * t := ⟨k / t, by rw [Nat.div_mul_cancel (Nat.dvd_of_mod_eq_zero h4)]⟩
    have hx : x = ((a + n * t : Nat) : Int) := by omega
    subst hx
    obtain ⟨ns, e1, e2⟩ := EndsG.nat ht r _ h3
    exact ⟨n :: ns, by rw [e1]; rfl, e2⟩
theorem inflate0_p {l : List Nat} {a t : Nat} (h2 : 2 ≤ t) (h9 : t ≤ 9) (hl : l.length ≤ 2000) (ha : a + t ≤ l.length) : p_inflate0 l (a : Int) ((a : Int) + (t : Int)) (t : Int) = some (plcF t l a) := by
  unfold p_inflate0
  rw [need_pos (in64 (by omega) (by omega)), cond_f (nF rfl), need_pos (by omega), need_pos ⟨⟨by omega, by omega⟩, by omega, by omega⟩, need_pos (by simp)]
  have e1 : ((a : Int) + (t : Int)).toNat - ((a : Int)).toNat = t := by omega
  have e2 : ((t : Int)).toNat = t := rfl
  have e3 : ((a : Int)).toNat = a := rfl
  rw [e1, e2, e3]
  have e4 : ((l.drop a).take t).length = t := by simp; omega
  have e5 : ((l.drop a).take t).take (min ((l.drop a).take t).length (List.replicate t (0 : Nat)).length) ++ (List.replicate t (0 : Nat)).drop (min ((l.drop a).take t).length (List.replicate t (0 : Nat)).length) = (l.drop a).take t := by
    rw [e4, List.length_replicate, Nat.min_self, List.take_of_length_le (Nat.le_of_eq e4), List.drop_of_length_le (Nat.le_of_eq List.length_replicate), List.append_nil]
  rw [e5, need_pos e4.symm]
theorem inflate1_loop {l : List Nat} {a t n : Nat} (h2 : 2 ≤ t) (h9 : t ≤ 9) (hl : l.length ≤ 2000) (ha : a + n * t ≤ l.length) : ∀ (F i : Nat), n - i < F → i ≤ n →
    iter (p_inflate1_l2 l (a : Int) ((a + n * t : Nat) : Int) (t : Int)) F (((a + i * t : Nat) : Int), (i : Int), plcsF t l a i ++ List.replicate (n - i) []) = some (.inl (plcsF t l a n)) := by
  have ed : Int.tdiv (((a + n * t : Nat) : Int) - (a : Int)) (t : Int) = (n : Int) := by
    have : ((a + n * t : Nat) : Int) - (a : Int) = ((n * t : Nat) : Int) := by omega
    rw [this]
    show ((n * t / t : Nat) : Int) = _
    rw [Nat.mul_div_cancel _ (by omega)]
  have hn : n ≤ 2000 := Nat.le_trans (Nat.le_mul_of_pos_right n (by omega : 0 < t)) (by omega)
  intro F
  induction F with
  | zero => intro i h; omega
  | succ F ih =>
    intro i h hi
    show p_inflate1_l2 l _ _ _ (iter (p_inflate1_l2 l _ _ _) F) _ = _
    generalize hK : iter (p_inflate1_l2 l (a : Int) ((a + n * t : Nat) : Int) (t : Int)) F = K at *
    unfold p_inflate1_l2
    simp only [ed]
    have en : ((n : Int)).toNat = n := rfl
    rw [en]
    by_cases hin : i < n
    · have hm : (i + 1) * t ≤ n * t := Nat.mul_le_mul_right t hin
      have hs : (i + 1) * t = i * t + t := Nat.succ_mul i t
      rw [cond_t (decide_eq_true (by omega)), need_pos (in64 (by omega) (by omega)), inflate0_p h2 h9 hl (by omega), Option.bind_some, need_pos (by omega), need_pos (by simp; omega), need_pos (in64 (by omega) (by omega)), succ_cast, need_pos (in64 (by omega) (by omega))]
      have e1 : (plcsF t l a i ++ List.replicate (n - i) []).set ((i : Int)).toNat (plcF t l (a + i * t)) = plcsF t l a (i + 1) ++ List.replicate (n - (i + 1)) [] := by
        have : n - i = (n - (i + 1)) + 1 := by omega
        have hlen : (plcsF t l a i).length = i := by simp [plcsF]
        rw [this, List.replicate_succ, show ((i : Int)).toNat = i from rfl, List.set_append_right _ _ (Nat.le_of_eq hlen), hlen, Nat.sub_self, List.set_cons_zero]
        unfold plcsF
        rw [List.range_succ, List.map_append, List.append_assoc]
        rfl
      rw [e1]
      have e2 : (((a + i * t : Nat) : Int) + (t : Int)) = ((a + (i + 1) * t : Nat) : Int) := by omega
      rw [e2]
      exact ih (i + 1) (by omega) hin
    · have : i = n := by omega
      subst this
      rw [cond_f (decide_eq_false (by omega))]
      simp
theorem inflate1_p {F : Nat} {l : List Nat} {a t n : Nat} (h2 : 2 ≤ t) (h9 : t ≤ 9) (hl : l.length ≤ 2000) (ha : a + n * t ≤ l.length) (hF : 2001 < F) :
    p_inflate1 F l (a : Int) ((a + n * t : Nat) : Int) (t : Int) = some (plcsF t l a n) := by
  have ed : Int.tdiv (((a + n * t : Nat) : Int) - (a : Int)) (t : Int) = (n : Int) := by
    have : ((a + n * t : Nat) : Int) - (a : Int) = ((n * t : Nat) : Int) := by omega
    rw [this]
    show ((n * t / t : Nat) : Int) = _
    rw [Nat.mul_div_cancel _ (by omega)]
  have hn : n ≤ 2000 := Nat.le_trans (Nat.le_mul_of_pos_right n (by omega : 0 < t)) (by omega)
  unfold p_inflate1
  have hloop := inflate1_loop (a := a) (n := n) h2 h9 hl ha F 0 (by omega) (by omega)
  rw [need_pos (in64 (by omega) (by omega)), need_pos ⟨by omega, by rw [ed]; exact in64 (by omega) (by omega)⟩, ed, need_pos (by omega)]
  have e0 : ((n : Int)).toNat = n := rfl
  simp only [Nat.zero_mul, Nat.add_zero, Nat.sub_zero, List.range_zero, List.map_nil, List.nil_append] at hloop
  have hloop' : iter (p_inflate1_l2 l (a : Int) ((a + n * t : Nat) : Int) (t : Int)) F ((a : Int), (0 : Int), List.replicate n []) = some (.inl (plcsF t l a n)) := hloop
  rw [e0, hloop', Option.bind_some, aft_inl]
  unfold p_inflate1_k1
  rw [ed, need_pos (by simp)]
/-- lines of places -/
def linesF (t : Nat) (l : List Nat) : Nat → List Nat → List (List (List Nat))
  | _, [] => []
  | a, n :: r => plcsF t l a n :: linesF t l (a + n * t) r
theorem linesF_len {t : Nat} {l : List Nat} : ∀ (ns : List Nat) (a : Nat), (linesF t l a ns).length = ns.length
  | [], a => rfl
  | n :: r, a => by simp [linesF, linesF_len r]
/-- where line number i begins -/
def fromF (t : Nat) : Nat → List Nat → Nat → Nat
  | a, [], _ => a
  | a, _ :: _, 0 => a
  | a, n :: r, i + 1 => fromF t (a + n * t) r i
theorem at_F {t : Nat} {l : List Nat} : ∀ (ns : List Nat) (a i n : Nat), ns[i]? = some n →
    (endsF t a ns)[i]? = some ((fromF t a ns i + n * t : Nat) : Int) ∧ (linesF t l a ns)[i]? = some (plcsF t l (fromF t a ns i) n) ∧ fromF t a ns (i + 1) = fromF t a ns i + n * t ∧ fromF t a ns i + n * t ≤ lastF t a ns
  | [], a, i, n, h => by simp at h
  | m :: r, a, 0, n, h => by
    simp at h; subst h
    refine ⟨rfl, rfl, ?_, lastF_le r _⟩
    cases r <;> rfl
  | m :: r, a, i + 1, n, h => at_F r (a + m * t) i n (by simpa using h)
theorem from0 {t a : Nat} : ∀ ns : List Nat, fromF t a ns 0 = a
  | [] => rfl
  | _ :: _ => rfl
theorem set_next {α : Type} {L : List α} {z x : α} {i n : Nat} (hi : i < n) (hx : L[i]? = some x) : (L.take i ++ List.replicate (n - i) z).set i x = L.take (i + 1) ++ List.replicate (n - (i + 1)) z := by
  have hl : (L.take i).length = i := by
    have := (List.getElem?_eq_some_iff.1 hx).1
    simp; omega
  have : n - i = (n - (i + 1)) + 1 := by omega
  rw [this, List.replicate_succ, List.set_append_right _ _ (Nat.le_of_eq hl), hl, Nat.sub_self, List.set_cons_zero, List.take_add_one, hx]
  simp
theorem inflate2_loop {G : Nat} {l : List Nat} {t : Nat} {ns : List Nat} (h2 : 2 ≤ t) (h9 : t ≤ 9) (hl : l.length ≤ 2000) (hns : ns.length ≤ 2000) (ha : lastF t 0 ns ≤ l.length) (hG : 2001 < G) : ∀ (F i : Nat), ns.length - i < F → i ≤ ns.length →
    iter (p_inflate2_l2 l (endsF t 0 ns) (t : Int) G) F ((fromF t 0 ns i : Int), (i : Int), (linesF t l 0 ns).take i ++ List.replicate (ns.length - i) []) = some (.inl (linesF t l 0 ns)) := by
  intro F
  induction F with
  | zero => intro i h; omega
  | succ F ih =>
    intro i h hi
    show p_inflate2_l2 l _ _ _ (iter (p_inflate2_l2 l _ _ _) F) _ = _
    generalize hK : iter (p_inflate2_l2 l (endsF t 0 ns) (t : Int) G) F = K at *
    unfold p_inflate2_l2
    simp only [endsF_len]
    have en : ((ns.length : Int)).toNat = ns.length := rfl
    rw [en]
    by_cases hin : i < ns.length
    · obtain ⟨n, hn⟩ : ∃ n, ns[i]? = some n := ⟨_, List.getElem?_eq_getElem hin⟩
      obtain ⟨e1, e2, e3, e4⟩ := at_F (l := l) ns 0 i n hn
      rw [cond_t (decide_eq_true (by omega)), idx_get e1, Option.bind_some, inflate1_p h2 h9 hl (by omega) hG, Option.bind_some, need_pos (by omega)]
      have hll : ((linesF t l 0 ns).take i).length = i := by simp [linesF_len]; omega
      rw [need_pos (by rw [List.length_append, hll]; simp; omega), succ_cast, need_pos (in64 (by omega) (by omega)), show ((i : Int)).toNat = i from rfl, set_next hin e2, ← e3]
      exact ih (i + 1) (by omega) hin
    · have : i = ns.length := by omega
      subst this
      rw [cond_f (decide_eq_false (by omega))]
      have : (linesF t l 0 ns).take ns.length = linesF t l 0 ns := List.take_of_length_le (by rw [linesF_len]; exact Nat.le_refl _)
      simp [this]
theorem inflate2_p {F : Nat} {l : List Nat} {t : Nat} {ns : List Nat} (h2 : 2 ≤ t) (h9 : t ≤ 9) (hl : l.length ≤ 2000) (hns : ns.length ≤ 2000) (ha : lastF t 0 ns ≤ l.length) (hF : 2001 < F) :
    p_inflate2 F l (0 : Int) (endsF t 0 ns) (t : Int) = some (linesF t l 0 ns) := by
  have hloop := inflate2_loop h2 h9 hl hns ha hF F 0 (by omega) (by omega)
  simp only [List.take_zero, List.nil_append, Nat.sub_zero, from0] at hloop
  unfold p_inflate2
  rw [endsF_len, need_pos (by omega)]
  have hloop' : iter (p_inflate2_l2 l (endsF t 0 ns) (t : Int) F) F ((0 : Int), (0 : Int), List.replicate ns.length []) = some (.inl (linesF t l 0 ns)) := hloop
  rw [show ((ns.length : Int)).toNat = ns.length from rfl, hloop', Option.bind_some, aft_inl]
  unfold p_inflate2_k1
  rw [endsF_len, need_pos (by rw [linesF_len]; rfl)]
/-- a loop that copies -/
theorem copy_loop {α β : Type} (L : List α) (b : ((Int × List β) → Option (Sum (List β) (List β))) → (Int × List β) → Option (Sum (List β) (List β))) (f : α → β)
    (hend : ∀ K (k : Nat) o, L.length ≤ k → b K ((k : Int), o) = some (.inl o)) (hstep : ∀ K (k : Nat) x o, L[k]? = some x → o.length = k → b K ((k : Int), o) = K (((k + 1 : Nat) : Int), o ++ [f x])) :
    ∀ (F k : Nat), L.length - k < F → k ≤ L.length → iter b F ((k : Int), (L.take k).map f) = some (.inl (L.map f)) := by
  intro F
  induction F with
  | zero => intro k h; omega
  | succ F ih =>
    intro k h hk
    show b (iter b F) _ = _
    by_cases hlt : k < L.length
    · obtain ⟨x, hx⟩ : ∃ x, L[k]? = some x := ⟨_, List.getElem?_eq_getElem hlt⟩
      rw [hstep _ k x _ hx (by simp; omega)]
      have : (L.take k).map f ++ [f x] = (L.take (k + 1)).map f := by rw [List.take_add_one, hx]; simp
      rw [this]
      exact ih (k + 1) (by omega) hlt
    · rw [hend _ k _ (by omega), List.take_of_length_le (by omega)]
theorem plain1_p {F : Nat} (L : List (List Nat)) (hL : L.length ≤ 2000) (h1 : ∀ x ∈ L, x.length ≤ 2000) (hF : 2001 < F) : p_plain1 F L = some L := by
  have := copy_loop L (p_plain1_l2 L) id (fun K k o hk => by
    unfold p_plain1_l2
    rw [cond_f (decide_eq_false (by simp only; omega))]) (fun K k x o hx ho => by
    have hk := (List.getElem?_eq_some_iff.1 hx).1
    have := h1 x (List.mem_of_getElem? hx)
    unfold p_plain1_l2 p_floats
    simp only
    rw [cond_t (decide_eq_true (by omega)), idx_get hx, Option.bind_some, need_pos (by omega), Option.bind_some, need_pos (by simp; omega), succ_cast, need_pos (in64 (by omega) (by omega))]
    rfl) F 0 (by omega) (by omega)
  have h' : iter (p_plain1_l2 L) F ((0 : Int), []) = some (.inl L) := by simpa using this
  unfold p_plain1
  rw [h', Option.bind_some]
  rfl
theorem plain2_p {F : Nat} (L : List (List (List Nat))) (hL : L.length ≤ 2000) (h1 : ∀ x ∈ L, x.length ≤ 2000 ∧ ∀ y ∈ x, y.length ≤ 2000) (hF : 2001 < F) : p_plain2 F L = some L := by
  have := copy_loop L (p_plain2_l2 L F) id (fun K k o hk => by
    unfold p_plain2_l2
    rw [cond_f (decide_eq_false (by simp only; omega))]) (fun K k x o hx ho => by
    have hk := (List.getElem?_eq_some_iff.1 hx).1
    have := h1 x (List.mem_of_getElem? hx)
    unfold p_plain2_l2
    simp only
    rw [cond_t (decide_eq_true (by omega)), idx_get hx, Option.bind_some, plain1_p x this.1 this.2 hF, Option.bind_some, need_pos (by simp; omega), succ_cast, need_pos (in64 (by omega) (by omega))]
    rfl) F 0 (by omega) (by omega)
  have h' : iter (p_plain2_l2 L F) F ((0 : Int), []) = some (.inl L) := by simpa using this
  unfold p_plain2
  rw [h', Option.bind_some]
  rfl
end Go.Proofs.Ytlafodjpnolmhaa.Wk
