/- Proved: setting the places of a multi polygon takes them just if each has as many numbers as the layout says. -/
import Derived.Test.YtlafodjpnolmhaaSetA2
set_option linter.unusedVariables false
set_option linter.unusedSimpArgs false
namespace Go.Proofs.Ytlafodjpnolmhaa.Wk
open Go.Vm
abbrev okP (st : Int) : L1 → Bool := fun y => decide ((y.length : Int) = st)
abbrev okR (st : Int) : L2 → Bool := fun r => r.all (okP st)
abbrev okA (st : Int) : L3 → Bool := fun p => p.all (okR st)
abbrev zG : TImpl_Geom := TImpl_Geom.mk (0 : Int) (0 : Int) (0 : Int) [] [] [] []
theorem set1 {F : Nat} (hF : 1048576 < F) (st : Int) (x : L2) (s : L1) (h : s.length + B2 x ≤ 1048576) :
    iter (p_SetAreas_l6 st x) F ((0 : Int), s) = some (if x.all (okP st) = true then .inl (s ++ x.flatten) else .inr (.inr (.inr (zG, false)))) := by
  have hl := len_sum B1 B1p x
  have e2 : B2 x = (x.map B1).sum + 1 := rfl
  have key := fold_exit (σ := L1) x (p_SetAreas_l6 st x) (fun i s => ((i : Int), s)) (fun s y => s ++ y) (okP st) (.inr (.inr (zG, false))) (fun s => s) (fun i s => s.length + ((x.drop i).map B1).sum ≤ 1048576)
    (fun K s _ => by unfold p_SetAreas_l6; dsimp only; rw [cond_f dge])
    (fun K i y s hy h1 => by
      have hi := lt_get hy
      rw [sum_split B1 hy] at h1
      have e1 : B1 y = y.length + 1 := rfl
      unfold p_SetAreas_l6
      dsimp only
      rw [cond_t (dlt hi), idx_get hy, Option.bind_some]
      by_cases hd : (y.length : Int) = st
      · rw [cond_f (nF hd), need_pos (by omega), need_pos (i64s (by omega)), succ_cast, if_pos (decide_eq_true hd)]
      · rw [cond_t (nT hd), if_neg (by simpa [okP] using hd)]; rfl)
    (fun i y s hy h1 _ => by
      rw [sum_split B1 hy] at h1
      have e1 : B1 y = y.length + 1 := rfl
      rw [List.length_append]; omega) F 0 s (by omega) (by omega) (by rw [List.drop_zero]; omega)
  have key' : iter (p_SetAreas_l6 st x) F ((0 : Int), s) = _ := key
  rw [key', List.drop_zero, fold_flat2]
theorem set2 {F : Nat} (hF : 1048576 < F) (st : Int) (x : L3) (s : L1) (h : s.length + B3 x ≤ 1048576) :
    iter (p_SetAreas_l4 F st x) F ((0 : Int), s, []) = some (if x.all (okR st) = true then .inl (s ++ x.flatten.flatten, endsF s.length x) else .inr (.inr (zG, false))) := by
  have hl := len_sum B2 B2p x
  have e2 : B3 x = (x.map B2).sum + 1 := rfl
  have key := fold_exit (σ := L1 × List Int) x (p_SetAreas_l4 F st x) (fun i s => ((i : Int), s.1, s.2)) (fun s y => (s.1 ++ y.flatten, s.2 ++ [(((s.1 ++ y.flatten).length : Nat) : Int)])) (okR st) (.inr (zG, false)) (fun s => (s.1, s.2)) (fun i s => s.1.length + ((x.drop i).map B2).sum ≤ 1048576 ∧ s.2.length = i)
    (fun K s _ => by unfold p_SetAreas_l4; dsimp only; rw [cond_f dge])
    (fun K i y s hy ⟨h1, h2⟩ => by
      have hi := lt_get hy
      rw [sum_split B2 hy] at h1
      unfold p_SetAreas_l4
      dsimp only
      rw [cond_t (dlt hi), idx_get hy, Option.bind_some, set1 hF st y s.1 (by omega), Option.bind_some]
      by_cases hd : y.all (okP st) = true
      · rw [if_pos hd, aft_inl, if_pos hd]
        unfold p_SetAreas_k5
        dsimp only
        rw [need_pos (by simp only [List.length_cons, List.length_nil]; omega), need_pos (i64s (by omega)), succ_cast]
      · rw [if_neg hd, aft_inr, if_neg hd])
    (fun i y s hy ⟨h1, h2⟩ _ => by
      rw [sum_split B2 hy] at h1
      have e1 := flat_len2 y
      exact ⟨by rw [List.length_append]; omega, by rw [List.length_append, h2]; rfl⟩) F 0 (s, []) (by omega) (by omega) ⟨by rw [List.drop_zero]; dsimp only; omega, rfl⟩
  have key' : iter (p_SetAreas_l4 F st x) F ((0 : Int), s, []) = _ := key
  rw [key', List.drop_zero, fold_ends]
  rfl
theorem set3 {F : Nat} (hF : 1048576 < F) (st : Int) (x : L4) (h : B4 x ≤ 1048576) :
    iter (p_SetAreas_l2 F st x) F ((0 : Int), [], []) = some (if x.all (okA st) = true then .inl (x.flatten.flatten.flatten, endssF 0 x) else .inr (zG, false)) := by
  have hl := len_sum B3 B3p x
  have e2 : B4 x = (x.map B3).sum + 1 := rfl
  have key := fold_exit (σ := L1 × List (List Int)) x (p_SetAreas_l2 F st x) (fun i s => ((i : Int), s.1, s.2)) (fun s y => (s.1 ++ y.flatten.flatten, s.2 ++ [endsF s.1.length y])) (okA st) (zG, false) (fun s => (s.1, s.2)) (fun i s => s.1.length + ((x.drop i).map B3).sum ≤ 1048576 ∧ s.2.length = i)
    (fun K s _ => by unfold p_SetAreas_l2; dsimp only; rw [cond_f dge])
    (fun K i y s hy ⟨h1, h2⟩ => by
      have hi := lt_get hy
      rw [sum_split B3 hy] at h1
      unfold p_SetAreas_l2
      dsimp only
      rw [cond_t (dlt hi), idx_get hy, Option.bind_some, set2 hF st y s.1 (by omega), Option.bind_some]
      by_cases hd : y.all (okR st) = true
      · rw [if_pos hd, aft_inl, if_pos hd]
        unfold p_SetAreas_k3
        dsimp only
        rw [need_pos (by simp only [List.length_cons, List.length_nil]; omega), need_pos (i64s (by omega)), succ_cast]
      · rw [if_neg hd, aft_inr, if_neg hd])
    (fun i y s hy ⟨h1, h2⟩ _ => by
      rw [sum_split B3 hy] at h1
      have e1 := flat_len3 y
      exact ⟨by rw [List.length_append]; omega, by rw [List.length_append, h2]; rfl⟩) F 0 ([], []) (by omega) (by omega) ⟨by rw [List.drop_zero]; simp only [List.length_nil]; omega, rfl⟩
  have key' : iter (p_SetAreas_l2 F st x) F ((0 : Int), [], []) = _ := key
  rw [key', List.drop_zero, fold_endss]
  rfl
theorem set_q {F : Nat} (hF : 1048576 < F) {a st : Int} (hst : p_Layout_Stride a = some st) (x : L4) (h : B4 x ≤ 1048576) :
    p_SetAreas F a x = some (if x.all (okA st) = true then (TImpl_Geom.mk 6 a 0 x.flatten.flatten.flatten [] (endssF 0 x) [], true) else (zG, false)) := by
  have hl := len_sum B3 B3p x
  have e2 : B4 x = (x.map B3).sum + 1 := rfl
  unfold p_SetAreas
  rw [hst, Option.bind_some, coords3_q hF x h, Option.bind_some, set3 hF st x h, Option.bind_some]
  by_cases hd : x.all (okA st) = true
  · rw [if_pos hd, if_pos hd, aft_inl]
    unfold p_SetAreas_k1
    dsimp only
    have e1 := flat_len4 x
    rw [floats_q _ (by omega), Option.bind_some, ints_q _ (by simp), Option.bind_some, intss_q hF _ (by rw [endssF_len]; omega) (endssF_all 0 x h), Option.bind_some]
  · rw [if_neg hd, if_neg hd, aft_inr]
theorem same_floats {F : Nat} (l : List Nat) (hl : l.length ≤ 1048576) (hF : 1048576 < F) : p_SameFloats F l l = some true := by
  unfold p_SameFloats
  rw [cond_f (nF rfl)]
  have key := fold_all (σ := Unit) l (p_SameFloats_l2 l l) (fun i _ => (i : Int)) (fun s _ => s) (fun _ => ()) (fun _ _ => True)
    (fun K s _ => by unfold p_SameFloats_l2; rw [cond_f dge])
    (fun K i y s hy _ => by
      have hi := lt_get hy
      unfold p_SameFloats_l2
      rw [cond_t (dlt hi), idx_get hy, Option.bind_some, Option.bind_some, cond_f (nF rfl), need_pos (i64s (by omega)), succ_cast]) (fun _ _ _ _ _ => trivial) F 0 () (by omega) (by omega) trivial
  have key' : iter (p_SameFloats_l2 l l) F (0 : Int) = some (.inl ()) := key
  rw [key']; rfl
theorem same_ints {F : Nat} (l : List Int) (hl : l.length ≤ 1048576) (hF : 1048576 < F) : p_sameInts F l l = some true := by
  unfold p_sameInts
  rw [cond_f (nF rfl)]
  have key := fold_all (σ := Unit) l (p_sameInts_l2 l l) (fun i _ => (i : Int)) (fun s _ => s) (fun _ => ()) (fun _ _ => True)
    (fun K s _ => by unfold p_sameInts_l2; rw [cond_f dge])
    (fun K i y s hy _ => by
      have hi := lt_get hy
      unfold p_sameInts_l2
      rw [cond_t (dlt hi), idx_get hy, Option.bind_some, Option.bind_some, cond_f (nF rfl), need_pos (i64s (by omega)), succ_cast]) (fun _ _ _ _ _ => trivial) F 0 () (by omega) (by omega) trivial
  have key' : iter (p_sameInts_l2 l l) F (0 : Int) = some (.inl ()) := key
  rw [key']; rfl
theorem same_geom {F : Nat} (hF : 1048600 < F) (k a r : Int) (l : List Nat) (e : List Int) (ee : List (List Int)) (hl : l.length ≤ 1048576) (he : e.length ≤ 1048576) (hee : ee.length ≤ 1048576) (hey : ∀ y ∈ ee, y.length ≤ 1048576) :
    p_SameGeom F (TImpl_Geom.mk k a r l e ee []) (TImpl_Geom.mk k a r l e ee []) = some true := by
  obtain ⟨F, rfl⟩ : ∃ n, F = n + 2 := ⟨F - 2, by omega⟩
  show p_SameGeom_b (fun a0 a1 => p_SameGeom (F + 1) a0 a1) (F + 1) _ _ = _
  unfold p_SameGeom_b
  dsimp only
  rw [cond_f (nF rfl), cond_f (nF rfl), cond_f (nF rfl), same_floats l hl (by omega), Option.bind_some, cond_f (by rfl), same_ints e he (by omega), Option.bind_some, cond_f (by rfl), cond_f (nF rfl), nF (show ((([] : List TImpl_Geom).length : Nat) : Int) = _ from rfl)]
  unfold p_SameGeom_k1
  rw [cond_f (by rfl)]
  have key := fold_all (σ := Unit) ee (p_SameGeom_l5 (TImpl_Geom.mk k a r l e ee []) (TImpl_Geom.mk k a r l e ee []) (F + 1)) (fun i _ => (i : Int)) (fun s _ => s) (fun _ => ()) (fun _ _ => True)
    (fun K s _ => by unfold p_SameGeom_l5; dsimp only; rw [cond_f dge])
    (fun K i y s hy _ => by
      have hi := lt_get hy
      unfold p_SameGeom_l5
      dsimp only
      rw [cond_t (dlt hi), idx_get hy, Option.bind_some, Option.bind_some, same_ints y (hey y (mem_get hy)) (by omega), Option.bind_some, cond_f (by rfl), need_pos (i64s (by omega)), succ_cast]) (fun _ _ _ _ _ => trivial) (F + 1) 0 () (by omega) (by omega) trivial
  have key' : iter (p_SameGeom_l5 (TImpl_Geom.mk k a r l e ee []) (TImpl_Geom.mk k a r l e ee []) (F + 1)) (F + 1) (0 : Int) = some (.inl ()) := key
  rw [key', Option.bind_some, aft_inl]
  rfl
abbrev noE : L1 → Bool := fun y => !decide ((y.length : Int) = 0)
theorem emp1 {F : Nat} (x : L2) (hx : x.length < F) (h2 : x.length ≤ 1048576) : iter (p_FnSetAreas_l7 x) F (0 : Int) = some (if x.all noE = true then .inl () else .inr true) := by
  have key := fold_exit (σ := Unit) x (p_FnSetAreas_l7 x) (fun i _ => (i : Int)) (fun s _ => s) noE true (fun _ => ()) (fun _ _ => True)
    (fun K s _ => by unfold p_FnSetAreas_l7; rw [cond_f dge])
    (fun K i y s hy _ => by
      have hi := lt_get hy
      unfold p_FnSetAreas_l7
      rw [cond_t (dlt hi), idx_get hy, Option.bind_some]
      by_cases hd : (y.length : Int) = 0
      · rw [cond_t (decide_eq_true hd), if_neg (by simp only [noE, hd]; decide)]
      · rw [cond_f (decide_eq_false hd), need_pos (i64s (by omega)), succ_cast, if_pos (nT hd)]) (fun _ _ _ _ _ _ => trivial) F 0 () (by omega) (by omega) trivial
  have key' : iter (p_FnSetAreas_l7 x) F (0 : Int) = _ := key
  rw [key', List.drop_zero]
theorem emp2 {F : Nat} (hF : 1048576 < F) (x : L3) (h : B3 x ≤ 1048576) : iter (p_FnSetAreas_l5 F x) F (0 : Int) = some (if x.all (fun r => r.all noE) = true then .inl () else .inr true) := by
  have hl := len_sum B2 B2p x
  have e2 : B3 x = (x.map B2).sum + 1 := rfl
  have key := fold_exit (σ := Unit) x (p_FnSetAreas_l5 F x) (fun i _ => (i : Int)) (fun s _ => s) (fun r => r.all noE) true (fun _ => ()) (fun _ _ => True)
    (fun K s _ => by unfold p_FnSetAreas_l5; rw [cond_f dge])
    (fun K i y s hy _ => by
      have hi := lt_get hy
      have hy1 := le_sum B2 (mem_get hy)
      have hl1 := len_sum B1 B1p y
      have e3 : B2 y = (y.map B1).sum + 1 := rfl
      unfold p_FnSetAreas_l5
      rw [cond_t (dlt hi), idx_get hy, Option.bind_some, emp1 y (by omega) (by omega), Option.bind_some]
      by_cases hd : y.all noE = true
      · rw [if_pos hd, if_pos hd, aft_inl]
        unfold p_FnSetAreas_k6
        rw [need_pos (i64s (by omega)), succ_cast]
      · rw [if_neg hd, if_neg hd, aft_inr]) (fun _ _ _ _ _ _ => trivial) F 0 () (by omega) (by omega) trivial
  have key' : iter (p_FnSetAreas_l5 F x) F (0 : Int) = _ := key
  rw [key', List.drop_zero]
theorem fold_law (p : L3 → Bool) : ∀ (x : L4) (s : Bool × L1 × List (List Int)), x.foldl (fun s y => (s.1 && p y, s.2.1 ++ y.flatten.flatten, s.2.2 ++ [endsF s.2.1.length y])) s = (s.1 && x.all p, s.2.1 ++ x.flatten.flatten.flatten, s.2.2 ++ endssF s.2.1.length x)
  | [], s => by simp [endssF]
  | a :: x, s => by
    rw [List.foldl_cons, fold_law p x]
    simp only [List.all_cons, Bool.and_assoc, List.flatten_cons, List.flatten_append, List.append_assoc, endssF, List.length_append, List.singleton_append]
theorem loop_law {F : Nat} (hF : 1048576 < F) {a st : Int} (hst : p_Stride a = some st) (x : L4) (h : B4 x ≤ 1048576) :
    iter (p_FnSetAreas_l3 a x F) F (true, (0 : Int), [], []) = some (if x.all (fun p => p.all fun r => r.all noE) = true then .inl (x.all (okA st), x.flatten.flatten.flatten, endssF 0 x) else .inr true) := by
  have hl := len_sum B3 B3p x
  have e2 : B4 x = (x.map B3).sum + 1 := rfl
  have key := fold_exit (σ := Bool × L1 × List (List Int)) x (p_FnSetAreas_l3 a x F) (fun i s => (s.1, (i : Int), s.2.1, s.2.2)) (fun s y => (s.1 && okA st y, s.2.1 ++ y.flatten.flatten, s.2.2 ++ [endsF s.2.1.length y])) (fun p => p.all fun r => r.all noE) true (fun s => (s.1, s.2.1, s.2.2))
    (fun i s => s.2.1.length + ((x.drop i).map B3).sum ≤ 1048576 ∧ s.2.2.length = i)
    (fun K s _ => by unfold p_FnSetAreas_l3; dsimp only; rw [cond_f dge])
    (fun K i y s hy ⟨h1, h2⟩ => by
      have hi := lt_get hy
      have hy1 := le_sum B3 (mem_get hy)
      rw [sum_split B3 hy] at h1
      have e1 := flat_len3 y
      unfold p_FnSetAreas_l3
      dsimp only
      rw [cond_t (dlt hi), idx_get hy, Option.bind_some, emp2 hF y (by omega), Option.bind_some]
      by_cases hd : (y.all fun r => r.all noE) = true
      · rw [if_pos hd, if_pos hd, aft_inl]
        unfold p_FnSetAreas_k4
        dsimp only
        rw [gFlats_q hF hst _ (by omega) y (by omega), Option.bind_some]
        dsimp only
        cases hs : s.1 with
        | false => rw [cond_f (by rfl), Bool.false_and, need_pos (by omega), need_pos (by simp only [List.length_cons, List.length_nil]; omega), need_pos (i64s (by omega)), succ_cast]
        | true => rw [cond_t (by rfl), Bool.true_and, need_pos (by omega), need_pos (by simp only [List.length_cons, List.length_nil]; omega), need_pos (i64s (by omega)), succ_cast]
      · rw [if_neg hd, if_neg hd, aft_inr])
    (fun i y s hy ⟨h1, h2⟩ _ => by
      rw [sum_split B3 hy] at h1
      have e1 := flat_len3 y
      exact ⟨by rw [List.length_append]; omega, by rw [List.length_append, h2]; rfl⟩) F 0 (true, [], []) (by omega) (by omega) ⟨by rw [List.drop_zero]; simp only [List.length_nil]; omega, rfl⟩
  have key' : iter (p_FnSetAreas_l3 a x F) F (true, (0 : Int), [], []) = _ := key
  rw [key', List.drop_zero, fold_law]
  rfl
theorem meStride {s : Int} (h1 : 1 ≤ s) (h9 : s ≤ 9) : ∃ n, p_Stride s = some n ∧ 2 ≤ n ∧ n ≤ 9 ∧ p_Layout_Stride s = some n := by
  have : s = 1 ∨ s = 2 ∨ s = 3 ∨ s = 4 ∨ s = 5 ∨ s = 6 ∨ s = 7 ∨ s = 8 ∨ s = 9 := by omega
  rcases this with rfl | rfl | rfl | rfl | rfl | rfl | rfl | rfl | rfl <;> exact ⟨_, rfl, by decide, by decide, rfl⟩
theorem law_set {F : Nat} (hF : 1048600 < F) (a : Int) (x : L4) (h : B4 x ≤ 1048576) : p_FnSetAreas F a x = some true := by
  have k1t : p_FnSetAreas_k1 a x F true = some true := rfl
  obtain ⟨r, hr⟩ := cnt3 (F := F) (by omega) x h
  unfold p_FnSetAreas
  rw [zf6 (by omega) x h, Option.bind_some, cond_f (by rfl), hr, Option.bind_some]
  by_cases h1 : a < 1
  · rw [cond_t (decide_eq_true h1), k1t]
  rw [cond_f (decide_eq_false h1)]
  by_cases h9 : 9 < a
  · rw [cond_t (decide_eq_true h9), k1t]
  rw [cond_f (decide_eq_false h9)]
  cases decide (2000 < r) with
  | true => exact k1t
  | false =>
    obtain ⟨st, s1, _, _, s2⟩ := meStride (s := a) (by omega) (by omega)
    unfold p_FnSetAreas_k1
    rw [cond_f (by rfl), loop_law (by omega) s1 x h, Option.bind_some]
    by_cases hd : (x.all fun p => p.all fun r => r.all noE) = true
    · rw [if_pos hd, aft_inl]
      unfold p_FnSetAreas_k2
      have hone : p_SetAreas F 1 [[[[4607182418800017408, 4611686018427387904]]]] = some (TImpl_Geom.mk 6 1 0 [4607182418800017408, 4611686018427387904] [] [[2]] [], true) := set_q (F := F) (by omega) (a := 1) (st := 2) rfl _ (by decide)
      rw [set_q (by omega) s2 x h, Option.bind_some, hone, Option.bind_some]
      dsimp only
      rw [cond_t (by rfl)]
      cases hx : x.all (okA st) with
      | true =>
        have hl := len_sum B3 B3p x
        have e2 : B4 x = (x.map B3).sum + 1 := rfl
        have e1 := flat_len4 x
        rw [if_pos rfl]
        dsimp only
        rw [cond_t (by rfl), cond_f (by rfl), same_geom hF 6 a 0 _ _ _ (by omega) (by simp) (by rw [endssF_len]; omega) (endssF_all 0 x h)]
        rfl
      | false => rw [if_neg (by simp)]; rfl
    · rw [if_neg hd, aft_inr]
end Go.Proofs.Ytlafodjpnolmhaa.Wk
