/- Proved: the law of flat lines, put up as places, joined. -/
import Derived.Test.YtdpkjmoeapibnaaInfl3
namespace Go.Proofs.Ytdpkjmoeapibnaa.Wk
open Go.Vm
set_option linter.unusedVariables false
set_option linter.unusedSimpArgs false
/-- a loop that builds a list -/
theorem build_loop {β T : Type} (M : List β) (b : ((Int × List β) → Option (Sum (List β) T)) → (Int × List β) → Option (Sum (List β) T))
    (hend : ∀ K (k : Nat) o, M.length ≤ k → b K ((k : Int), o) = some (.inl o)) (hstep : ∀ K (k : Nat) y o, M[k]? = some y → o.length = k → b K ((k : Int), o) = K (((k + 1 : Nat) : Int), o ++ [y])) :
    ∀ (F k : Nat), M.length - k < F → k ≤ M.length → iter b F ((k : Int), M.take k) = some (.inl M) := by
  intro F
  induction F with
  | zero => intro k h; omega
  | succ F ih =>
    intro k h hk
    show b (iter b F) _ = _
    by_cases hlt : k < M.length
    · obtain ⟨x, hx⟩ : ∃ x, M[k]? = some x := ⟨_, List.getElem?_eq_getElem hlt⟩
      rw [hstep _ k x _ hx (by simp; omega)]
      have : M.take k ++ [x] = M.take (k + 1) := by rw [List.take_add_one, hx]; rfl
      rw [this]
      exact ih (k + 1) (by omega) hlt
    · rw [hend _ k _ (by omega), List.take_of_length_le (by omega)]
abbrev partF (l : List Nat) (s : Int) (t : Nat) (ns : List Nat) (i : Nat) : TImpl_Geom := ⟨8, layF s, 0, (l.drop (fromF t 0 ns i)).take (ns.getD i 0 * t), [], [], []⟩
theorem parts_p {F : Nat} {l : List Nat} {s : Int} {t : Nat} {ns : List Nat} (hb : l.length ≤ 2000) (hns : ns.length ≤ 2000) (ha : lastF t 0 ns ≤ l.length) (hF : 2001 < F) :
    p_Parts F (gF l (endsF t 0 ns) s) = some ((List.range ns.length).map (partF l s t ns)) := by
  have hM : ((List.range ns.length).map (partF l s t ns)).length = ns.length := by simp
  have hl := build_loop ((List.range ns.length).map (partF l s t ns)) (p_Parts_l2 (gF l (endsF t 0 ns) s) F (ns.length : Int)) (fun K k o hk => by
    unfold p_Parts_l2
    rw [cond_f (decide_eq_false (by simp only; omega))]) (fun K k x o hx ho => by
    have hk := (List.getElem?_eq_some_iff.1 hx).1
    rw [hM] at hk
    obtain ⟨n, hn⟩ : ∃ n, ns[k]? = some n := ⟨_, List.getElem?_eq_getElem hk⟩
    have hxe : x = ⟨8, layF s, 0, (l.drop (fromF t 0 ns k)).take (n * t), [], [], []⟩ := by
      rw [List.getElem?_map, List.getElem?_range hk] at hx
      have := Option.some.inj hx
      rw [← this]
      simp [partF, List.getD_eq_getElem?_getD, hn]
    unfold p_Parts_l2
    simp only
    rw [cond_t (decide_eq_true (by omega)), part_p hb ha hn (by omega), Option.bind_some, need_pos (by simp; omega), succ_cast, need_pos (in64 (by omega) (by omega)), hxe]) F 0 (by omega) (by omega)
  have h' : iter (p_Parts_l2 (gF l (endsF t 0 ns) s) F (ns.length : Int)) F ((0 : Int), []) = some (.inl ((List.range ns.length).map (partF l s t ns))) := hl
  unfold p_Parts
  have hnp : p_NumParts (gF l (endsF t 0 ns) s) = some (ns.length : Int) := by
    unfold p_NumParts p_NumParts_k1
    rw [cond_t (by rfl), cond_t (by rfl)]
    simp only [gF, endsF_len]
  rw [hnp, Option.bind_some, h', Option.bind_some, aft_inl]
  rfl
theorem plcs_part {t n a : Nat} (l : List Nat) : plcsF t ((l.drop a).take (n * t)) 0 n = plcsF t l a n := by
  unfold plcsF
  refine List.map_congr_left fun k hk => ?_
  have hk : k < n := List.mem_range.1 hk
  have hm : (k + 1) * t ≤ n * t := Nat.mul_le_mul_right t hk
  have hs : (k + 1) * t = k * t + t := Nat.succ_mul k t
  show (((l.drop a).take (n * t)).drop (0 + k * t)).take t = (l.drop (a + k * t)).take t
  rw [List.drop_take, List.take_take, List.drop_drop, Nat.min_eq_left (by omega), Nat.zero_add]
theorem gPlacess_p {F : Nat} {l : List Nat} {s : Int} {t : Nat} {ns : List Nat} (hst : s = (t : Int)) (h2 : 2 ≤ t) (h9 : t ≤ 9) (hb : l.length ≤ 2000) (hns : ns.length ≤ 2000) (ha : lastF t 0 ns ≤ l.length) (hF : 2001 < F) :
    p_gPlacess F (gF l (endsF t 0 ns) s) = some (linesF t l 0 ns) := by
  have hM : ((List.range ns.length).map (partF l s t ns)).length = ns.length := by simp
  have hl := build_loop (linesF t l 0 ns) (p_gPlacess_l2 F ((List.range ns.length).map (partF l s t ns))) (fun K k o hk => by
    rw [linesF_len] at hk
    unfold p_gPlacess_l2
    rw [cond_f (decide_eq_false (by simp only [hM]; omega))]) (fun K k x o hx ho => by
    have hk := (List.getElem?_eq_some_iff.1 hx).1
    rw [linesF_len] at hk
    obtain ⟨n, hn⟩ : ∃ n, ns[k]? = some n := ⟨_, List.getElem?_eq_getElem hk⟩
    obtain ⟨e1, e2, e3, e4⟩ := at_F (l := l) ns 0 k n hn
    rw [hx] at e2
    have e2 := Option.some.inj e2
    have hp : ((List.range ns.length).map (partF l s t ns))[k]? = some ⟨8, layF s, 0, (l.drop (fromF t 0 ns k)).take (n * t), [], [], []⟩ := by
      rw [List.getElem?_map, List.getElem?_range hk]
      simp [partF, List.getD_eq_getElem?_getD, hn]
    have hg := gPlaces_p (F := F) (l := (l.drop (fromF t 0 ns k)).take (n * t)) (n := n) hst h2 h9 (by simp; omega) (by simp; omega) hF
    unfold p_gPlacess_l2
    simp only [hM]
    rw [cond_t (decide_eq_true (by omega)), idx_get hp, Option.bind_some, hg, Option.bind_some, need_pos (by simp; omega), succ_cast, need_pos (in64 (by omega) (by omega)), plcs_part, e2]) F 0 (by rw [linesF_len]; omega) (by omega)
  have h' : iter (p_gPlacess_l2 F ((List.range ns.length).map (partF l s t ns))) F ((0 : Int), []) = some (.inl (linesF t l 0 ns)) := hl
  unfold p_gPlacess
  rw [parts_p hb hns ha hF, Option.bind_some, h', Option.bind_some, aft_inl]
  rfl
theorem gRow_p {F : Nat} (l : List Nat) (hl : l ≠ []) (hb : l.length ≤ 2000) (hF : 2001 < F) : p_gRow F l l = some true := by
  have hne : neO (some l) = true := by
    cases l with
    | nil => exact (hl rfl).elim
    | cons => rfl
  unfold p_gRow
  rw [need_pos hne, need_pos hne, cond_t (by rfl)]
  unfold p_SameFloats
  rw [cond_f (nF rfl)]
  have outer : iter (p_SameFloats_l2 l l) F (0 : Int) = some (if (l.all fun _ => true) = true then Sum.inl () else Sum.inr false) := by
    refine scan_loop0 l _ _ _ (fun K k hk => ?_) (fun K k x hx => ?_) (by omega)
    · unfold p_SameFloats_l2; rw [cond_f (decide_eq_false (by omega))]
    · have hk := (List.getElem?_eq_some_iff.1 hx).1
      unfold p_SameFloats_l2
      rw [cond_t (decide_eq_true (by omega)), idx_get hx, Option.bind_some, Option.bind_some, cond_f (nF rfl), succ_cast, need_pos (in64 (by omega) (by omega)), if_pos rfl]
  rw [outer, if_pos (by simp), Option.bind_some, aft_inl]
  rfl
theorem gRows_p {F : Nat} (L : List (List Nat)) (hL : L.length ≤ 2000) (h1 : ∀ x ∈ L, x ≠ [] ∧ x.length ≤ 2000) (hF : 2001 < F) : p_gRows F L L = some true := by
  unfold p_gRows
  rw [cond_f (nF rfl)]
  have outer : iter (p_gRows_l2 L L F) F (0 : Int) = some (if (L.all fun _ => true) = true then Sum.inl () else Sum.inr false) := by
    refine scan_loop0 L _ _ _ (fun K k hk => ?_) (fun K k x hx => ?_) (by omega)
    · unfold p_gRows_l2; rw [cond_f (decide_eq_false (by omega))]
    · have hk := (List.getElem?_eq_some_iff.1 hx).1
      have := h1 x (List.mem_of_getElem? hx)
      unfold p_gRows_l2
      rw [cond_t (decide_eq_true (by omega)), idx_get hx, Option.bind_some, Option.bind_some, gRow_p x this.1 this.2 hF, Option.bind_some, cond_f (by rfl), succ_cast, need_pos (in64 (by omega) (by omega)), if_pos rfl]
  rw [outer, if_pos (by simp), Option.bind_some, aft_inl]
  rfl
theorem gRowss_p {F : Nat} (L : List (List (List Nat))) (hL : L.length ≤ 2000) (h1 : ∀ y ∈ L, y.length ≤ 2000 ∧ ∀ x ∈ y, x ≠ [] ∧ x.length ≤ 2000) (hF : 2001 < F) : p_gRowss F L L = some true := by
  unfold p_gRowss
  rw [cond_f (nF rfl)]
  have outer : iter (p_gRowss_l2 L L F) F (0 : Int) = some (if (L.all fun _ => true) = true then Sum.inl () else Sum.inr false) := by
    refine scan_loop0 L _ _ _ (fun K k hk => ?_) (fun K k x hx => ?_) (by omega)
    · unfold p_gRowss_l2; rw [cond_f (decide_eq_false (by omega))]
    · have hk := (List.getElem?_eq_some_iff.1 hx).1
      have := h1 x (List.mem_of_getElem? hx)
      unfold p_gRowss_l2
      rw [cond_t (decide_eq_true (by omega)), idx_get hx, Option.bind_some, Option.bind_some, gRows_p x this.1 this.2 hF, Option.bind_some, cond_f (by rfl), succ_cast, need_pos (in64 (by omega) (by omega)), if_pos rfl]
  rw [outer, if_pos (by simp), Option.bind_some, aft_inl]
  rfl
end Go.Proofs.Ytdpkjmoeapibnaa.Wk
