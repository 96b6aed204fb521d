/- Proved: the parts of a polygon or of lines, in places. -/
import Derived.Test.YtlafodjpnolmhaaGInf
namespace Go.Proofs.Ytlafodjpnolmhaa.Wk
open Go.Vm
set_option linter.unusedVariables false
set_option linter.unusedSimpArgs false
theorem rows_loop {l : List Nat} {t n : Nat} (h2 : 2 ≤ t) (h9 : t ≤ 9) (hl : l.length = n * t) (hb : l.length ≤ 2000) : ∀ (F i : Nat), n - i < F → i ≤ n →
    iter (p_Rows_l2 l (t : Int)) F (((i * t : Nat) : Int), plcsF t l 0 i) = some (.inl (plcsF t l 0 n)) := by
  intro F
  induction F with
  | zero => intro i h; omega
  | succ F ih =>
    intro i h hi
    have hms : i * t ≤ n * t := Nat.mul_le_mul_right t hi
    have hni : i ≤ 2000 := Nat.le_trans (Nat.le_mul_of_pos_right i (by omega : 0 < t)) (by omega)
    show p_Rows_l2 l _ (iter (p_Rows_l2 l _) F) _ = _
    generalize hK : iter (p_Rows_l2 l (t : Int)) F = K at *
    unfold p_Rows_l2
    simp only
    by_cases hin : i < n
    · have hm : (i + 1) * t ≤ n * t := Nat.mul_le_mul_right t hin
      have hs : (i + 1) * t = i * t + t := Nat.succ_mul i t
      rw [need_pos (in64 (by omega) (by omega)), cond_t (decide_eq_true (by omega))]
      unfold p_Rows_k3
      simp only
      have hlen : (plcsF t l 0 i).length = i := by simp [plcsF]
      rw [decide_eq_true (by omega : (0 : Int) < (t : Int)), cond_t rfl, need_pos (in64 (by omega) (by omega)), need_pos ⟨⟨by omega, by omega⟩, by omega, by omega⟩, need_pos (by rw [hlen]; simp; omega), need_pos (in64 (by omega) (by omega))]
      have e1 : (((i * t : Nat) : Int) + (t : Int)).toNat - (((i * t : Nat) : Int)).toNat = t := by omega
      have e2 : ((i * t : Nat) : Int) + (t : Int) = (((i + 1) * t : Nat) : Int) := by omega
      have e3 : (((i * t : Nat) : Int)).toNat = 0 + i * t := by omega
      rw [e1, e2, e3]
      have e4 : plcsF t l 0 i ++ [(l.drop (0 + i * t)).take t] = plcsF t l 0 (i + 1) := by
        unfold plcsF
        rw [List.range_succ, List.map_append]
        rfl
      rw [e4]
      exact ih (i + 1) (by omega) hin
    · have : i = n := by omega
      subst this
      rw [need_pos (in64 (by omega) (by omega)), cond_f (decide_eq_false (by omega))]
      unfold p_Rows_k3
      rw [cond_f rfl]
theorem gPlaces_q {F : Nat} {l : List Nat} {kd y : Int} {t n : Nat} (h4 : kd ≠ 4) (hst : p_Stride y = some (t : Int)) (h2 : 2 ≤ t) (h9 : t ≤ 9) (hl : l.length = n * t) (hb : l.length ≤ 2000) (hF : 2001 < F) :
    p_gPlaces F ⟨kd, y, 0, l, [], [], []⟩ = some (plcsF t l 0 n) := by
  have hn : n ≤ 2000 := Nat.le_trans (Nat.le_mul_of_pos_right n (by omega : 0 < t)) (by omega)
  unfold p_gPlaces
  rw [cond_t (nT h4)]
  show (p_Stride y).bind _ = _
  rw [hst, Option.bind_some]
  unfold p_Rows
  have h := rows_loop h2 h9 hl hb F 0 (by omega) (by omega)
  simp only [Nat.zero_mul] at h
  have h' : iter (p_Rows_l2 l (t : Int)) F ((0 : Int), []) = some (.inl (plcsF t l 0 n)) := h
  show ((iter (p_Rows_l2 l (t : Int)) F ((0 : Int), [])).bind _).bind _ = _
  rw [h', Option.bind_some, aft_inl]
  rfl
abbrev gL (kd y sr : Int) (l : List Nat) (t : Nat) (ns : List Nat) : TImpl_Geom := ⟨kd, y, sr, l, endsF t 0 ns, [], []⟩
def kk (kd : Int) : Int := if kd = 3 then 8 else 2
theorem kk4 (kd : Int) : kk kd ≠ 4 := by unfold kk; split <;> omega
theorem part_p {F : Nat} {l : List Nat} {kd y sr : Int} {t : Nat} {ns : List Nat} (hkd : kd = 3 ∨ kd = 5) (hb : l.length ≤ 2000) (ha : lastF t 0 ns ≤ l.length) {i n : Nat} (hn : ns[i]? = some n) (hil : i ≤ 2000) :
    p_Part F (gL kd y sr l t ns) (i : Int) = some ⟨kk kd, y, 0, (l.drop (fromF t 0 ns i)).take (n * t), [], [], []⟩ := by
  obtain ⟨e1, _, e3, e4⟩ := at_F (t := t) (l := l) ns 0 i n hn
  unfold p_Part
  rw [cond_f (decide_eq_false (show ¬ kd = 7 by omega)), cond_f (decide_eq_false (show ¬ kd = 6 by omega))]
  have k6 : p_Part_k6 (gL kd y sr l t ns) (i : Int) (fromF t 0 ns i : Int) (kk kd) = some ⟨kk kd, y, 0, (l.drop (fromF t 0 ns i)).take (n * t), [], [], []⟩ := by
    unfold p_Part_k6
    show (idx (endsF t 0 ns) (i : Int)).bind _ = _
    rw [idx_get e1, Option.bind_some]
    have e5 : (((fromF t 0 ns i + n * t : Nat) : Int)).toNat - ((fromF t 0 ns i : Int)).toNat = n * t := by omega
    dsimp only [gL]
    rw [need_pos (by omega), need_pos (by simp; omega), e5]
    rfl
  have key : p_Part_k5 (gL kd y sr l t ns) (i : Int) (fromF t 0 ns i : Int) = some ⟨kk kd, y, 0, (l.drop (fromF t 0 ns i)).take (n * t), [], [], []⟩ := by
    unfold p_Part_k5
    rcases hkd with rfl | rfl
    · exact k6
    · rw [cond_t (by rfl)]
      have : p_KidOf 5 = some 2 := by unfold p_KidOf; rw [cond_t (by rfl), cond_t (by rfl), need_pos (in64 (by omega) (by omega))]; rfl
      show (p_KidOf 5).bind _ = _
      rw [this, Option.bind_some]
      exact k6
  by_cases h0 : i = 0
  · subst h0
    rw [cond_f (by rfl)]
    rw [from0] at key
    rw [from0]
    exact key
  · obtain ⟨j, rfl⟩ : ∃ j, i = j + 1 := ⟨i - 1, by omega⟩
    have hj : j < ns.length := by have := (List.getElem?_eq_some_iff.1 hn).1; omega
    obtain ⟨m, hm⟩ : ∃ m, ns[j]? = some m := ⟨_, List.getElem?_eq_getElem hj⟩
    obtain ⟨f1, _, f3, f4⟩ := at_F (t := t) (l := l) ns 0 j m hm
    have ej : ((j + 1 : Nat) : Int) - 1 = (j : Int) := by omega
    rw [cond_t (decide_eq_true (by omega)), ej, need_pos (in64 (by omega) (by omega))]
    show (idx (endsF t 0 ns) (j : Int)).bind _ = _
    rw [idx_get f1, Option.bind_some, ← f3]
    exact key
/-- a loop that builds a list -/
theorem build_loop {β T : Type} (M : List β) (b : ((Int × List β) → Option (Sum (List β) T)) → (Int × List β) → Option (Sum (List β) T))
    (hend : ∀ K (k : Nat) o, M.length ≤ k → b K ((k : Int), o) = some (.inl o)) (hstep : ∀ K (k : Nat) y o, M[k]? = some y → o.length = k → b K ((k : Int), o) = K (((k + 1 : Nat) : Int), o ++ [y])) :
    ∀ (F k : Nat), M.length - k < F → k ≤ M.length → iter b F ((k : Int), M.take k) = some (.inl M) := by
  intro F
  induction F with
  | zero => intro k h; omega
  | succ F ih =>
    intro k h hk
    show b (iter b F) _ = _
    by_cases hlt : k < M.length
    · obtain ⟨x, hx⟩ : ∃ x, M[k]? = some x := ⟨_, List.getElem?_eq_getElem hlt⟩
      rw [hstep _ k x _ hx (by simp; omega)]
      have : M.take k ++ [x] = M.take (k + 1) := by rw [List.take_add_one, hx]; rfl
      rw [this]
      exact ih (k + 1) (by omega) hlt
    · rw [hend _ k _ (by omega), List.take_of_length_le (by omega)]
abbrev partF (l : List Nat) (kd y : Int) (t : Nat) (ns : List Nat) (i : Nat) : TImpl_Geom := ⟨kk kd, y, 0, (l.drop (fromF t 0 ns i)).take (ns.getD i 0 * t), [], [], []⟩
theorem parts_p {F : Nat} {l : List Nat} {kd y sr : Int} {t : Nat} {ns : List Nat} (hkd : kd = 3 ∨ kd = 5) (hb : l.length ≤ 2000) (hns : ns.length ≤ 2000) (ha : lastF t 0 ns ≤ l.length) (hF : 2001 < F) :
    p_Parts F (gL kd y sr l t ns) = some ((List.range ns.length).map (partF l kd y t ns)) := by
  have hM : ((List.range ns.length).map (partF l kd y t ns)).length = ns.length := by simp
  have hl := build_loop ((List.range ns.length).map (partF l kd y t ns)) (p_Parts_l2 (gL kd y sr l t ns) F (ns.length : Int)) (fun K k o hk => by
    unfold p_Parts_l2
    rw [cond_f (decide_eq_false (by simp only; omega))]) (fun K k x o hx ho => by
    have hk := (List.getElem?_eq_some_iff.1 hx).1
    rw [hM] at hk
    obtain ⟨n, hn⟩ : ∃ n, ns[k]? = some n := ⟨_, List.getElem?_eq_getElem hk⟩
    have hxe : x = ⟨kk kd, y, 0, (l.drop (fromF t 0 ns k)).take (n * t), [], [], []⟩ := by
      rw [List.getElem?_map, List.getElem?_range hk] at hx
      have := Option.some.inj hx
      rw [← this]
      simp [partF, List.getD_eq_getElem?_getD, hn]
    unfold p_Parts_l2
    simp only
    rw [cond_t (decide_eq_true (by omega)), part_p hkd hb ha hn (by omega), Option.bind_some, need_pos (by simp; omega), succ_cast, need_pos (in64 (by omega) (by omega)), hxe]) F 0 (by omega) (by omega)
  have h' : iter (p_Parts_l2 (gL kd y sr l t ns) F (ns.length : Int)) F ((0 : Int), []) = some (.inl ((List.range ns.length).map (partF l kd y t ns))) := hl
  unfold p_Parts
  have hnp : p_NumParts (gL kd y sr l t ns) = some (ns.length : Int) := by
    unfold p_NumParts p_NumParts_k1
    rcases hkd with rfl | rfl
    · rw [cond_t (by rfl), cond_t (by rfl)]
      simp only [gL, endsF_len]
    · rw [cond_f (by rfl), cond_f (by rfl), cond_t (by rfl)]
      simp only [gL, endsF_len]
  rw [hnp, Option.bind_some, h', Option.bind_some, aft_inl]
  rfl
theorem plcs_part {t n a : Nat} (l : List Nat) : plcsF t ((l.drop a).take (n * t)) 0 n = plcsF t l a n := by
  unfold plcsF
  refine List.map_congr_left fun k hk => ?_
  have hk : k < n := List.mem_range.1 hk
  have hm : (k + 1) * t ≤ n * t := Nat.mul_le_mul_right t hk
  have hs : (k + 1) * t = k * t + t := Nat.succ_mul k t
  show (((l.drop a).take (n * t)).drop (0 + k * t)).take t = (l.drop (a + k * t)).take t
  rw [List.drop_take, List.take_take, List.drop_drop, Nat.min_eq_left (by omega), Nat.zero_add]
theorem gPlacess_p {F : Nat} {l : List Nat} {kd y sr : Int} {t : Nat} {ns : List Nat} (hkd : kd = 3 ∨ kd = 5) (hst : p_Stride y = some (t : Int)) (h2 : 2 ≤ t) (h9 : t ≤ 9) (hb : l.length ≤ 2000) (hns : ns.length ≤ 2000) (ha : lastF t 0 ns ≤ l.length) (hF : 2001 < F) :
    p_gPlacess F (gL kd y sr l t ns) = some (linesF t l 0 ns) := by
  have hM : ((List.range ns.length).map (partF l kd y t ns)).length = ns.length := by simp
  have hl := build_loop (linesF t l 0 ns) (p_gPlacess_l2 F ((List.range ns.length).map (partF l kd y t ns))) (fun K k o hk => by
    rw [linesF_len] at hk
    unfold p_gPlacess_l2
    rw [cond_f (decide_eq_false (by simp only [hM]; omega))]) (fun K k x o hx ho => by
    have hk := (List.getElem?_eq_some_iff.1 hx).1
    rw [linesF_len] at hk
    obtain ⟨n, hn⟩ : ∃ n, ns[k]? = some n := ⟨_, List.getElem?_eq_getElem hk⟩
    obtain ⟨e1, e2, e3, e4⟩ := at_F (l := l) ns 0 k n hn
    rw [hx] at e2
    have e2 := Option.some.inj e2
    have hp : ((List.range ns.length).map (partF l kd y t ns))[k]? = some ⟨kk kd, y, 0, (l.drop (fromF t 0 ns k)).take (n * t), [], [], []⟩ := by
      rw [List.getElem?_map, List.getElem?_range hk]
      simp [partF, List.getD_eq_getElem?_getD, hn]
    have hg := gPlaces_q (F := F) (kk4 kd) (l := (l.drop (fromF t 0 ns k)).take (n * t)) (n := n) hst h2 h9 (by simp; omega) (by simp; omega) hF
    unfold p_gPlacess_l2
    simp only [hM]
    rw [cond_t (decide_eq_true (by omega)), idx_get hp, Option.bind_some, hg, Option.bind_some, need_pos (by simp; omega), succ_cast, need_pos (in64 (by omega) (by omega)), plcs_part, e2]) F 0 (by rw [linesF_len]; omega) (by omega)
  have h' : iter (p_gPlacess_l2 F ((List.range ns.length).map (partF l kd y t ns))) F ((0 : Int), []) = some (.inl (linesF t l 0 ns)) := hl
  unfold p_gPlacess
  rw [parts_p hkd hb hns ha hF, Option.bind_some, h', Option.bind_some, aft_inl]
  rfl
theorem gRow_p {F : Nat} (l : List Nat) (hl : l ≠ []) (hb : l.length ≤ 2000) (hF : 2001 < F) : p_gRow F l l = some true := by
  have hne : neO (some l) = true := by
    cases l with
    | nil => exact (hl rfl).elim
    | cons => rfl
  unfold p_gRow
  rw [need_pos hne, need_pos hne, cond_t (by rfl)]
  unfold p_SameFloats
  rw [cond_f (nF rfl)]
  have outer : iter (p_SameFloats_l2 l l) F (0 : Int) = some (if (l.all fun _ => true) = true then Sum.inl () else Sum.inr false) := by
    refine scan_loop0 l _ _ _ (fun K k hk => ?_) (fun K k x hx => ?_) (by omega)
    · unfold p_SameFloats_l2; rw [cond_f (decide_eq_false (by omega))]
    · have hk := (List.getElem?_eq_some_iff.1 hx).1
      unfold p_SameFloats_l2
      rw [cond_t (decide_eq_true (by omega)), idx_get hx, Option.bind_some, Option.bind_some, cond_f (nF rfl), succ_cast, need_pos (in64 (by omega) (by omega)), if_pos rfl]
  rw [outer, if_pos (by simp), Option.bind_some, aft_inl]
  rfl
theorem gRows_p {F : Nat} (L : List (List Nat)) (hL : L.length ≤ 2000) (h1 : ∀ x ∈ L, x ≠ [] ∧ x.length ≤ 2000) (hF : 2001 < F) : p_gRows F L L = some true := by
  unfold p_gRows
  rw [cond_f (nF rfl)]
  have outer : iter (p_gRows_l2 L L F) F (0 : Int) = some (if (L.all fun _ => true) = true then Sum.inl () else Sum.inr false) := by
    refine scan_loop0 L _ _ _ (fun K k hk => ?_) (fun K k x hx => ?_) (by omega)
    · unfold p_gRows_l2; rw [cond_f (decide_eq_false (by omega))]
    · have hk := (List.getElem?_eq_some_iff.1 hx).1
      have := h1 x (List.mem_of_getElem? hx)
      unfold p_gRows_l2
      rw [cond_t (decide_eq_true (by omega)), idx_get hx, Option.bind_some, Option.bind_some, gRow_p x this.1 this.2 hF, Option.bind_some, cond_f (by rfl), succ_cast, need_pos (in64 (by omega) (by omega)), if_pos rfl]
  rw [outer, if_pos (by simp), Option.bind_some, aft_inl]
  rfl
theorem gRowss_p {F : Nat} (L : List (List (List Nat))) (hL : L.length ≤ 2000) (h1 : ∀ y ∈ L, y.length ≤ 2000 ∧ ∀ x ∈ y, x ≠ [] ∧ x.length ≤ 2000) (hF : 2001 < F) : p_gRowss F L L = some true := by
  unfold p_gRowss
  rw [cond_f (nF rfl)]
  have outer : iter (p_gRowss_l2 L L F) F (0 : Int) = some (if (L.all fun _ => true) = true then Sum.inl () else Sum.inr false) := by
    refine scan_loop0 L _ _ _ (fun K k hk => ?_) (fun K k x hx => ?_) (by omega)
    · unfold p_gRowss_l2; rw [cond_f (decide_eq_false (by omega))]
    · have hk := (List.getElem?_eq_some_iff.1 hx).1
      have := h1 x (List.mem_of_getElem? hx)
      unfold p_gRowss_l2
      rw [cond_t (decide_eq_true (by omega)), idx_get hx, Option.bind_some, Option.bind_some, gRows_p x this.1 this.2 hF, Option.bind_some, cond_f (by rfl), succ_cast, need_pos (in64 (by omega) (by omega)), if_pos rfl]
  rw [outer, if_pos (by simp), Option.bind_some, aft_inl]
  rfl
theorem linesF_all {l : List Nat} {t : Nat} (h2 : 2 ≤ t) (h9 : t ≤ 9) (hb : l.length ≤ 2000) : ∀ (ns : List Nat) (a : Nat), lastF t a ns ≤ l.length → ∀ y ∈ linesF t l a ns, y.length ≤ 2000 ∧ ∀ x ∈ y, x ≠ [] ∧ x.length ≤ 2000
  | [], a, _, y, h => by cases h
  | n :: r, a, ha, y, h => by
    have hle : a + n * t ≤ l.length := Nat.le_trans (lastF_le r _) ha
    rcases List.mem_cons.1 h with rfl | h
    · have hn : n ≤ 2000 := Nat.le_trans (Nat.le_mul_of_pos_right n (by omega : 0 < t)) (by omega)
      refine ⟨by simp [plcsF]; omega, fun x hx => ?_⟩
      obtain ⟨k, hk, rfl⟩ := List.mem_map.1 hx
      have hk : k < n := List.mem_range.1 hk
      have hm : (k + 1) * t ≤ n * t := Nat.mul_le_mul_right t hk
      have hs : (k + 1) * t = k * t + t := Nat.succ_mul k t
      have hl : (plcF t l (a + k * t)).length = t := by simp [plcF]; omega
      exact ⟨fun e => by rw [e] at hl; simp at hl; omega, by omega⟩
    · exact linesF_all h2 h9 hb r _ ha y h
end Go.Proofs.Ytlafodjpnolmhaa.Wk
