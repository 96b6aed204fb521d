/- Proved: the law of the lengths of flat lines along the axes. -/
import Derived.Test.YtdpkjmoeapibnaaFlatL
namespace Go.Proofs.Ytdpkjmoeapibnaa.Wk
open Go.Vm Flt
set_option linter.unusedVariables false
set_option linter.unusedSimpArgs false
section
variable {l : List Nat} {f : Nat → Int} {t : Nat} {ns : List Nat}
def totK (f : Nat → Int) (t : Nat) (ns : List Nat) : Nat → Int
  | 0 => 0
  | k + 1 => totK f t ns k + lenF f t (fromF t 0 ns k) (ns.getD k 0 - 1)
def alsK (f : Nat → Int) (t : Nat) (ns : List Nat) (k : Nat) : Prop := ∀ i, i < k → alongF f t (fromF t 0 ns i) (ns.getD i 0 - 1)
theorem lenF_le2 (hf : Whl l f) {a n : Nat} (h2 : 2 ≤ t) (ha : a + n * t ≤ l.length) : 0 ≤ lenF f t a (n - 1) ∧ lenF f t a (n - 1) ≤ 4194304 * n := by
  have := lenF_le hf (t := t) (a := a) (n - 1) (by
    by_cases h : n ≤ 1
    · exact .inr (by omega)
    · obtain ⟨m, rfl⟩ : ∃ m, n = m + 1 := ⟨n - 1, by omega⟩
      have hs : (m + 1) * t = m * t + t := Nat.succ_mul m t
      left
      show a + m * t + 1 < _
      omega)
  omega
theorem from_le (h2 : 2 ≤ t) (ha : lastF t 0 ns ≤ l.length) : ∀ k, k ≤ ns.length → fromF t 0 ns k ≤ l.length
  | 0, _ => by rw [from0]; omega
  | k + 1, h => by
    obtain ⟨n, hn⟩ : ∃ n, ns[k]? = some n := ⟨_, List.getElem?_eq_getElem h⟩
    obtain ⟨_, _, e3, e4⟩ := at_F (t := t) (l := l) ns 0 k n hn
    omega
theorem totK_le (hf : Whl l f) (h2 : 2 ≤ t) (ha : lastF t 0 ns ≤ l.length) : ∀ k, k ≤ ns.length → 0 ≤ totK f t ns k ∧ totK f t ns k ≤ 4194304 * (fromF t 0 ns k)
  | 0, _ => by simp only [totK]; omega
  | k + 1, h => by
    obtain ⟨n, hn⟩ : ∃ n, ns[k]? = some n := ⟨_, List.getElem?_eq_getElem h⟩
    obtain ⟨_, _, e3, e4⟩ := at_F (t := t) (l := l) ns 0 k n hn
    have ih := totK_le hf h2 ha k (by omega)
    have h1 := lenF_le2 hf h2 (a := fromF t 0 ns k) (n := n) (by omega)
    have hd : ns.getD k 0 = n := by rw [List.getD_eq_getElem?_getD, hn]; rfl
    have hm : n ≤ n * t := Nat.le_mul_of_pos_right n (by omega)
    simp only [totK, hd]
    omega
def TotP (f : Nat → Int) (t : Nat) (ns : List Nat) (k : Nat) (z : Nat) : Prop := (∃ r, V z = some r ∧ Bd r (((fromF t 0 ns k + k : Nat) : Rat) * 33554432)) ∧ (alsK f t ns k → I z (totK f t ns k))
theorem length2_loop (hf : Whl l f) (h2 : 2 ≤ t) (h9 : t ≤ 9) (hb : l.length ≤ 2000) (hns : ns.length ≤ 2000) (ha : lastF t 0 ns ≤ l.length) {G : Nat} (hG : 2001 < G) : ∀ (F k z : Nat), ns.length - k < F → k ≤ ns.length → TotP f t ns k z →
    ∃ z', iter (p_length2_l2 l (endsF t 0 ns) (t : Int) G) F ((fromF t 0 ns k : Int), z, (k : Int)) = some (.inl z') ∧ TotP f t ns ns.length z' := by
  intro F
  induction F with
  | zero => intro k z h; omega
  | succ F ih =>
    intro k z h hk hP
    show ∃ z', p_length2_l2 l _ _ G (iter (p_length2_l2 l _ _ G) F) _ = some (.inl z') ∧ _
    generalize hK : iter (p_length2_l2 l (endsF t 0 ns) (t : Int) G) F = K at *
    unfold p_length2_l2
    dsimp only
    rw [endsF_len]
    by_cases hlt : k < ns.length
    · obtain ⟨n, hn⟩ : ∃ n, ns[k]? = some n := ⟨_, List.getElem?_eq_getElem hlt⟩
      obtain ⟨e1, _, e3, e4⟩ := at_F (t := t) (l := l) ns 0 k n hn
      have hd : ns.getD k 0 = n := by rw [List.getD_eq_getElem?_getD, hn]; rfl
      obtain ⟨y, hy, ⟨r, hr, hrb⟩, hex⟩ := length1_p hf (a := fromF t 0 ns k) (n := n) h2 h9 hb (by omega) hG
      obtain ⟨⟨r0, hr0, hrb0⟩, hex0⟩ := hP
      have hm : n ≤ n * t := Nat.le_mul_of_pos_right n (by omega)
      have q1 : ((fromF t 0 ns k + k : Nat) : Rat) ≤ 4000 := nat_le_rat (show fromF t 0 ns k + k ≤ 4000 by omega)
      have q2 : ((n - 1 : Nat) : Rat) ≤ 2000 := nat_le_rat (show n - 1 ≤ 2000 by omega)
      have hB : ((fromF t 0 ns k + k : Nat) : Rat) * 33554432 + ((n - 1 : Nat) : Rat) * 33554432 ≤ 1000000000000 := by grind
      obtain ⟨z', hz'⟩ := add_some hr0 hr hrb0 hrb hB
      obtain ⟨r', hr', hrb'⟩ := bd_add hr0 hr hrb0 hrb hB hz'
      rw [cond_t (decide_eq_true (by omega)), idx_get e1, Option.bind_some, hy, Option.bind_some, hz', Option.bind_some, succ_cast, need_pos (in64m (by omega) (by omega)), ← e3]
      refine ih (k + 1) z' (by omega) hlt ⟨⟨r', hr', ?_⟩, fun hal => ?_⟩
      · have q3 : ((fromF t 0 ns k + k : Nat) : Rat) + ((n - 1 : Nat) : Rat) + 1 ≤ ((fromF t 0 ns (k + 1) + (k + 1) : Nat) : Rat) := by
          have : fromF t 0 ns k + k + (n - 1) + 1 ≤ fromF t 0 ns (k + 1) + (k + 1) := by omega
          have := nat_le_rat this
          rw [Rat.natCast_add (fromF t 0 ns k + k + (n - 1)) 1, Rat.natCast_add (fromF t 0 ns k + k) (n - 1)] at this
          exact this
        unfold Bd at *
        constructor <;> grind
      · have hz0 := hex0 (fun i hi => hal i (by omega))
        have hak := hal k (by omega)
        rw [hd] at hak
        have hyI := hex hak
        have b1 := totK_le hf h2 ha k (by omega)
        have b2 := lenF_le2 hf h2 (a := fromF t 0 ns k) (n := n) (by omega)
        have e : totK f t ns (k + 1) = totK f t ns k + lenF f t (fromF t 0 ns k) (n - 1) := by simp only [totK, hd]
        obtain ⟨z2, hz2, hI⟩ := add_int hz0 hyI (by omega)
        have : z2 = z' := Option.some.inj (hz2.symm.trans hz')
        rw [e, ← this]; exact hI
    · have : k = ns.length := by omega
      subst this
      rw [cond_f (decide_eq_false (by omega))]
      exact ⟨z, rfl, hP⟩
theorem flatLength2_p (hf : Whl l f) (h2 : 2 ≤ t) (h9 : t ≤ 9) (hb : l.length ≤ 2000) (hns : ns.length ≤ 2000) (ha : lastF t 0 ns ≤ l.length) {F : Nat} (hF : 2001 < F) :
    ∃ z, p_FlatLength2 F l (endsF t 0 ns) (t : Int) = some (z, true) ∧ TotP f t ns ns.length z := by
  have h0 : TotP f t ns 0 0 := ⟨⟨0, zero_int, by unfold Bd; rw [from0]; constructor <;> grind⟩, fun _ => zero_int⟩
  obtain ⟨z, hz, hP⟩ := length2_loop hf h2 h9 hb hns ha hF F 0 0 (by omega) (by omega) h0
  rw [from0] at hz
  unfold p_FlatLength2 p_DoorLength2 p_length2
  have hz' : iter (p_length2_l2 l (endsF t 0 ns) (t : Int) F) F ((0 : Int), (0 : Nat), (0 : Int)) = some (.inl z) := hz
  rw [hz']
  exact ⟨z, rfl, hP⟩
/-! ### what the law adds up -/
theorem maxneg (x : Int) : (if x < -x then -x else x) = (x.natAbs : Int) := by split <;> omega
theorem plc_at {a n i j : Nat} (h : a + n * t ≤ l.length) (hi : i < n) (hj : j < t) : ∃ x, (plcsF t l a n)[i]? = some x ∧ idx x (j : Int) = some (l.getD (a + i * t + j) 0) := by
  refine ⟨plcF t l (a + i * t), by simp [plcsF, hi], ?_⟩
  have hm : (i + 1) * t ≤ n * t := Nat.mul_le_mul_right t hi
  have hs : (i + 1) * t = i * t + t := Nat.succ_mul i t
  rw [idx_lt _ j 0 (by simp [plcF]; omega)]
  congr 1
  simp only [List.getD_eq_getElem?_getD, plcF]
  rw [List.getElem?_take, if_pos hj, List.getElem?_drop]
theorem along_loop (hf : Whl l f) {a n : Nat} (h2 : 2 ≤ t) (h9 : t ≤ 9) (hb : l.length ≤ 2000) (ha : a + n * t ≤ l.length) {m : Int} (hm : 0 ≤ m ∧ m ≤ 1000000000000) : ∀ (F i : Nat), n - i < F → 1 ≤ i → alongF f t a (i - 1) → i ≤ n ∨ i = 1 →
    ∃ o, iter (p_gAlong_l4 (plcsF t l a n)) F (m + lenF f t a (i - 1), (i : Int)) = some o ∧ ((o = .inl (m + lenF f t a (n - 1)) ∧ alongF f t a (n - 1)) ∨ o = .inr ((0 : Int), false)) := by
  intro F
  induction F with
  | zero => intro i h; omega
  | succ F ih =>
    intro i h h1 hal hin
    show ∃ o, p_gAlong_l4 _ (iter (p_gAlong_l4 _) F) _ = some o ∧ _
    generalize hK : iter (p_gAlong_l4 (plcsF t l a n)) F = K at *
    have hlen : (plcsF t l a n).length = n := by simp [plcsF]
    unfold p_gAlong_l4
    dsimp only
    rw [hlen]
    by_cases hlt : i < n
    · obtain ⟨k, rfl⟩ : ∃ k, i = k + 1 := ⟨i - 1, by omega⟩
      have hmn : (k + 1 + 1) * t ≤ n * t := Nat.mul_le_mul_right t hlt
      have hs1 : (k + 1 + 1) * t = (k + 1) * t + t := Nat.succ_mul (k + 1) t
      have hs2 : (k + 1) * t = k * t + t := Nat.succ_mul k t
      have hnn : n ≤ 2000 := Nat.le_trans (Nat.le_mul_of_pos_right n (by omega : 0 < t)) (by omega)
      obtain ⟨x1, g1, v1⟩ := plc_at (i := k + 1) (j := 0) ha hlt (by omega)
      obtain ⟨x2, g2, v2⟩ := plc_at (i := k) (j := 0) ha (by omega) (by omega : 0 < t)
      obtain ⟨x3, g3, v3⟩ := plc_at (i := k + 1) (j := 1) ha hlt (by omega)
      obtain ⟨x4, g4, v4⟩ := plc_at (i := k) (j := 1) ha (by omega) (by omega : 1 < t)
      have q31 : x3 = x1 := Option.some.inj (g3.symm.trans g1)
      have q42 : x4 = x2 := Option.some.inj (g4.symm.trans g2)
      subst q31 q42
      have w1 : idx x3 (0 : Int) = _ := v1
      have w2 : idx x4 (0 : Int) = _ := v2
      have w3 : idx x3 (1 : Int) = _ := v3
      have w4 : idx x4 (1 : Int) = _ := v4
      generalize hj : a + (k + 1) * t = j at *
      have hjt : a + k * t = j - t := by omega
      rw [hjt] at w2 w4
      try rw [Nat.add_zero] at w1
      try rw [Nat.add_zero] at w2
      obtain ⟨f1, b1⟩ := hf j (by omega)
      obtain ⟨f2, b2⟩ := hf (j - t) (by omega)
      obtain ⟨f3, b3⟩ := hf (j + 1) (by omega)
      obtain ⟨f4, b4⟩ := hf (j - t + 1) (by omega)
      have c1 : ((k + 1 : Nat) : Int) - 1 = (k : Int) := by omega
      have bl : ∀ {z : Int}, -1048576 ≤ z ∧ z ≤ 1048576 → lo .i64 ≤ z ∧ z ≤ hi .i64 := fun h => ⟨by simp only [lo]; omega, by simp only [hi]; omega⟩
      rw [cond_t (decide_eq_true (by omega)), idx_get g1, Option.bind_some, w1, Option.bind_some, f2i_int f1 (bl b1).1 (bl b1).2, Option.bind_some, c1, need_pos (in64m (by omega) (by omega)), idx_get g2, Option.bind_some, w2, Option.bind_some, f2i_int f2 (bl b2).1 (bl b2).2, Option.bind_some,
        need_pos (in64m (by omega) (by omega)), Option.bind_some, w3, Option.bind_some, f2i_int f3 (bl b3).1 (bl b3).2, Option.bind_some, need_pos (in64m (by omega) (by omega)), Option.bind_some, w4, Option.bind_some, f2i_int f4 (bl b4).1 (bl b4).2, Option.bind_some, need_pos (in64m (by omega) (by omega))]
      have hl := lenF_le hf (t := t) (a := a) k (by omega)
      have step : dX f t j = 0 ∨ dY f t j = 0 → ∃ o, p_gAlong_k5 (m + lenF f t a (k + 1 - 1), ((k + 1 : Nat) : Int)) K (f j) (f (j - t)) (f (j + 1)) (f (j - t + 1)) (m + lenF f t a (k + 1 - 1)) = some o ∧ ((o = .inl (m + lenF f t a (n - 1)) ∧ alongF f t a (n - 1)) ∨ o = .inr ((0 : Int), false)) := by
        intro hd
        unfold p_gAlong_k5
        rw [maxneg, maxneg, Nat.add_sub_cancel]
        rw [need_pos (in64m (by omega) (by omega)), need_pos (in64m (by omega) (by omega)), need_pos (in64m (by omega) (by omega)), need_pos (in64m (by omega) (by omega))]
        dsimp only
        rw [need_pos (in64m (by omega) (by omega))]
        have e : m + lenF f t a k + (((f j - f (j - t)).natAbs : Int) + ((f (j + 1) - f (j - t + 1)).natAbs : Int)) = m + lenF f t a (k + 1 + 1 - 1) := by
          show _ = m + lenF f t a (k + 1)
          simp only [lenF, hj, segF, dX, dY]
          omega
        have e2 : ((k + 1 : Nat) : Int) + 1 = ((k + 1 + 1 : Nat) : Int) := by omega
        rw [e, e2]
        refine ih (k + 1 + 1) (by omega) (by omega) (fun i i1 i2 => ?_) (by omega)
        by_cases hik : i ≤ k
        · exact hal i i1 (by omega)
        · have : i = k + 1 := by omega
          subst this
          rw [hj]; exact hd
      by_cases hx : f j - f (j - t) = 0
      · rw [cond_f (nF hx)]
        exact step (.inl hx)
      · rw [cond_t (nT hx)]
        by_cases hy : f (j + 1) - f (j - t + 1) = 0
        · rw [cond_f (nF hy)]
          exact step (.inr hy)
        · rw [cond_t (nT hy)]
          exact ⟨_, rfl, .inr rfl⟩
    · rw [cond_f (decide_eq_false (by omega))]
      rcases hin with hin | hin
      · have : i = n := by omega
        subst this
        exact ⟨_, rfl, .inl ⟨rfl, hal⟩⟩
      · subst hin
        have : n - 1 = 0 := by omega
        rw [this]
        exact ⟨_, rfl, .inl ⟨rfl, hal⟩⟩
theorem rows_p {F : Nat} {n : Nat} (h2 : 2 ≤ t) (h9 : t ≤ 9) (hl : l.length = n * t) (hb : l.length ≤ 2000) (hF : 2001 < F) : p_Rows F l (t : Int) = some (plcsF t l 0 n) := by
  have hn : n ≤ 2000 := Nat.le_trans (Nat.le_mul_of_pos_right n (by omega : 0 < t)) (by omega)
  have h := rows_loop h2 h9 hl hb F 0 (by omega) (by omega)
  simp only [Nat.zero_mul] at h
  have h' : iter (p_Rows_l2 l (t : Int)) F ((0 : Int), []) = some (.inl (plcsF t l 0 n)) := h
  unfold p_Rows
  rw [h', Option.bind_some, aft_inl]
  rfl
theorem parts_get (i : Nat) (hi : i < ns.length) (s : Int) : ((List.range ns.length).map (partF l s t ns))[i]? = some (partF l s t ns i) := by simp [hi]
theorem alongs_loop (hf : Whl l f) (h2 : 2 ≤ t) (h9 : t ≤ 9) (hb : l.length ≤ 2000) (hns : ns.length ≤ 2000) (ha : lastF t 0 ns ≤ l.length) {G : Nat} (hG : 2001 < G) : ∀ (F k : Nat), ns.length - k < F → k ≤ ns.length → alsK f t ns k →
    ∃ o, iter (p_gAlong_l2 G ((List.range ns.length).map (partF l (t : Int) t ns))) F (totK f t ns k, (k : Int)) = some o ∧ ((o = .inl (totK f t ns ns.length) ∧ alsK f t ns ns.length) ∨ o = .inr ((0 : Int), false)) := by
  intro F
  induction F with
  | zero => intro k h; omega
  | succ F ih =>
    intro k h hk hal
    show ∃ o, p_gAlong_l2 G _ (iter (p_gAlong_l2 G _) F) _ = some o ∧ _
    generalize hK : iter (p_gAlong_l2 G ((List.range ns.length).map (partF l (t : Int) t ns))) F = K at *
    unfold p_gAlong_l2
    dsimp only
    have hM : ((List.range ns.length).map (partF l (t : Int) t ns)).length = ns.length := by simp
    rw [hM]
    by_cases hlt : k < ns.length
    · obtain ⟨n, hn⟩ : ∃ n, ns[k]? = some n := ⟨_, List.getElem?_eq_getElem hlt⟩
      obtain ⟨e1, _, e3, e4⟩ := at_F (t := t) (l := l) ns 0 k n hn
      have hd : ns.getD k 0 = n := by rw [List.getD_eq_getElem?_getD, hn]; rfl
      have hmm : n ≤ n * t := Nat.le_mul_of_pos_right n (by omega)
      rw [cond_t (decide_eq_true (by omega)), idx_get (parts_get k hlt _), Option.bind_some]
      show ∃ o, ((p_Stride (layF (t : Int))).bind _) = some o ∧ _
      rw [(strideF (by omega) (by omega)).1, Option.bind_some]
      dsimp only [partF]
      rw [hd]
      have hpl : ((l.drop (fromF t 0 ns k)).take (n * t)).length = n * t := by simp; omega
      rw [rows_p h2 h9 hpl (by omega) hG, Option.bind_some, plcs_part]
      have b1 := totK_le hf h2 ha k (by omega)
      obtain ⟨o, ho, hor⟩ := along_loop hf (a := fromF t 0 ns k) (n := n) h2 h9 hb (by omega) (m := totK f t ns k) (by omega) G 1 (by omega) (by omega) (fun i i1 i2 => by omega) (.inr rfl)
      have ho' : iter (p_gAlong_l4 (plcsF t l (fromF t 0 ns k) n)) G (totK f t ns k, (1 : Int)) = some o := by
        have : totK f t ns k + lenF f t (fromF t 0 ns k) (1 - 1) = totK f t ns k := by simp [lenF]
        rw [this] at ho; exact ho
      rw [ho', Option.bind_some]
      rcases hor with ⟨rfl, hal2⟩ | rfl
      · rw [aft_inl]
        unfold p_gAlong_k3
        dsimp only
        rw [succ_cast, need_pos (in64m (by omega) (by omega))]
        have e : totK f t ns k + lenF f t (fromF t 0 ns k) (n - 1) = totK f t ns (k + 1) := by simp only [totK, hd]
        rw [e]
        refine ih (k + 1) (by omega) hlt fun i hi => ?_
        by_cases hik : i < k
        · exact hal i hik
        · have : i = k := by omega
          subst this
          rw [hd]; exact hal2
      · rw [aft_inr]
        exact ⟨_, rfl, .inr rfl⟩
    · have : k = ns.length := by omega
      subst this
      rw [cond_f (decide_eq_false (by omega))]
      exact ⟨_, rfl, .inl ⟨rfl, hal⟩⟩
theorem gLines_p (h2 : 2 ≤ t) (h9 : t ≤ 9) (hb : l.length ≤ 2000) (hns : ns.length ≤ 2000) (ha : lastF t 0 ns ≤ l.length) {F : Nat} (hF : 2001 < F) :
    p_gLines (F + 2) (gF l (endsF t 0 ns) (t : Int)) = some ((List.range ns.length).map (partF l (t : Int) t ns)) := by
  have hM : ((List.range ns.length).map (partF l (t : Int) t ns)).length = ns.length := by simp
  show p_gLines_b _ (F + 1) _ = _
  unfold p_gLines_b
  rw [cond_f (by rfl)]
  unfold p_gLines_k1
  rw [cond_f (by rfl), cond_f (by rfl)]
  unfold p_gLines_k2
  rw [cond_f (by rfl), parts_p hb hns ha (by omega), Option.bind_some]
  have hl := build_loop ((List.range ns.length).map (partF l (t : Int) t ns)) (p_gLines_l4 (fun a0 => p_gLines (F + 1) a0) ((List.range ns.length).map (partF l (t : Int) t ns))) (fun K k o hk => by
    unfold p_gLines_l4
    rw [cond_f (decide_eq_false (by simp only; omega))]) (fun K k x o hx ho => by
    have hk := (List.getElem?_eq_some_iff.1 hx).1
    rw [hM] at hk
    have hxe : x = partF l (t : Int) t ns k := by rw [parts_get k hk] at hx; exact (Option.some.inj hx).symm
    unfold p_gLines_l4
    simp only
    rw [cond_t (decide_eq_true (by omega)), idx_get hx, Option.bind_some]
    have hr : p_gLines (F + 1) x = some [x] := by
      subst hxe
      show p_gLines_b _ F _ = _
      unfold p_gLines_b
      rw [cond_f (by rfl)]
      unfold p_gLines_k1
      rw [cond_t (by rfl)]
    rw [hr, Option.bind_some, need_pos (by simp; omega), succ_cast, need_pos (in64 (by omega) (by omega))]) (F + 1) 0 (by omega) (by omega)
  have h' : iter (p_gLines_l4 (fun a0 => p_gLines (F + 1) a0) ((List.range ns.length).map (partF l (t : Int) t ns))) (F + 1) ((0 : Int), []) = some (.inl ((List.range ns.length).map (partF l (t : Int) t ns))) := hl
  rw [h', Option.bind_some, aft_inl]
  rfl
theorem gAlong_p (hf : Whl l f) (h2 : 2 ≤ t) (h9 : t ≤ 9) (hb : l.length ≤ 2000) (hns : ns.length ≤ 2000) (ha : lastF t 0 ns ≤ l.length) {F : Nat} (hF : 2001 < F) :
    ∃ m b, p_gAlong (F + 2) (gF l (endsF t 0 ns) (t : Int)) = some (m, b) ∧ (b = true → m = totK f t ns ns.length ∧ alsK f t ns ns.length) := by
  unfold p_gAlong
  rw [gLines_p h2 h9 hb hns ha hF, Option.bind_some]
  obtain ⟨o, ho, hor⟩ := alongs_loop hf h2 h9 hb hns ha (G := F + 2) (by omega) (F + 2) 0 (by omega) (by omega) (fun i hi => by omega)
  have ho' : iter (p_gAlong_l2 (F + 2) ((List.range ns.length).map (partF l (t : Int) t ns))) (F + 2) ((0 : Int), (0 : Int)) = some o := ho
  rw [ho', Option.bind_some]
  rcases hor with ⟨rfl, hal⟩ | rfl
  · rw [aft_inl]
    exact ⟨_, true, rfl, fun _ => ⟨rfl, hal⟩⟩
  · rw [aft_inr]
    exact ⟨_, false, rfl, fun h => by cases h⟩
end
theorem flat2_holds {F : Nat} (hF : 1073741826 ≤ F) (l : List Nat) (e : List Int) (s : Int) (he : ∀ x ∈ e, inI .i64 x) (hFe : e.length + 1 < F) : p_FnFlatLength2 F l e s = some true := by
  unfold p_FnFlatLength2
  have key : l.length ≤ 2147483647 → e.length ≤ 2147483647 → p_FnFlatLength2_k1 l e s F false = some true := by
    intro hl hle
    unfold p_FnFlatLength2_k1
    rw [cond_f rfl]
    obtain ⟨G, rfl⟩ : ∃ G, F = G + 2 := ⟨F - 2, by omega⟩
    obtain ⟨g, b, hg, hb⟩ : ∃ g b, p_fRows (G + 2) l e s = some (g, b) ∧ (b = true → g = gF l e s ∧ Rws l e s) := by
      exact fRows_p l e s he hl hle (by omega)
    rw [hg, Option.bind_some]
    cases b with
    | false => rw [cond_t (by rfl)]; unfold p_FnFlatLength2_k2; rw [cond_t rfl]
    | true =>
      obtain ⟨rfl, r⟩ := hb rfl
      obtain ⟨t, rfl⟩ : ∃ t : Nat, s = t := ⟨s.toNat, by have := r.lo; omega⟩
      have h2 : 2 ≤ t := by have := r.lo; omega
      have h9 : t ≤ 9 := by have := r.hi; omega
      have hfew := r.few
      obtain ⟨ns, rfl, hq⟩ := EndsG.nat h2 e 0 r.ends
      rw [endsF_len] at hfew
      have hlast : lastF t 0 ns ≤ l.length := by omega
      obtain ⟨b, hb1, hb2⟩ := gEach_p (F := G + 1) l (endsF t 0 ns) (layF (t : Int)) hl (by omega)
      rw [cond_f (by rfl)]
      show (p_gEach (G + 1 + 1) ⟨3, layF (t : Int), 0, l, endsF t 0 ns, [], []⟩).bind _ = _
      rw [hb1, Option.bind_some]
      cases b with
      | false => unfold p_FnFlatLength2_k2; rw [cond_t (by rfl)]
      | true =>
        obtain ⟨f, hf⟩ := hb2 rfl
        unfold p_FnFlatLength2_k2
        rw [cond_f (by rfl)]
        obtain ⟨m, c, hm, hc⟩ := gAlong_p hf h2 h9 (by omega) (by omega) hlast (F := G) (by omega)
        show (p_gAlong (G + 2) (gF l (endsF t 0 ns) (t : Int))).bind _ = _
        rw [hm, Option.bind_some]
        obtain ⟨z, hz, hP⟩ := flatLength2_p hf h2 h9 (by omega) (by omega) hlast (F := G + 2) (by omega)
        rw [hz, Option.bind_some]
        cases c with
        | false => rw [cond_t (by rfl)]
        | true =>
          obtain ⟨rfl, hal⟩ := hc rfl
          rw [cond_f (by rfl), cond_t (by rfl)]
          have b1 := totK_le hf h2 hlast ns.length (Nat.le_refl _)
          have b2 := from_le h2 hlast ns.length (Nat.le_refl _)
          have := feq_int (hP.2 hal) (ofInt_int (n := totK f t ns ns.length) (by omega))
          simp only [this, decide_true]
  by_cases h1 : (2147483647 : Int) < (l.length : Int)
  · rw [cond_t (decide_eq_true h1)]
    rfl
  · rw [cond_f (decide_eq_false h1)]
    by_cases h3 : (2147483647 : Int) < (e.length : Int)
    · rw [decide_eq_true h3]; rfl
    · rw [decide_eq_false h3]
      exact key (by omega) (by omega)
theorem wfI {x : Int} (h : (Lit.int .i64 x).wf = true) : inI .i64 x := by
  simp only [Lit.wf, Bool.and_eq_true, decide_eq_true_eq] at h
  exact h
theorem law_flat2 (l : List Nat) (e : List Int) (s : Int) (he : ∀ x ∈ e, inI .i64 x) : p_FnFlatLength2 (e.length + 1073741826) l e s = some true :=
  flat2_holds (by omega) l e s he (by omega)
end Go.Proofs.Ytdpkjmoeapibnaa.Wk
