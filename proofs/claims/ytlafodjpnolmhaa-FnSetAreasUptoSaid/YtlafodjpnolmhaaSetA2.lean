/- Plain: what the functions about a multi polygon's places compute, if these are not too many. -/
import Derived.Test.YtlafodjpnolmhaaSetA
set_option linter.unusedVariables false
set_option linter.unusedSimpArgs false
namespace Go.Proofs.Ytlafodjpnolmhaa.Wk
open Go.Vm
/-- The same, where only the bound counts. -/
theorem fold_ex {α σ St V T : Type} (L : List α) (b : (St → Option (Sum V T)) → St → Option (Sum V T)) (mk : Nat → σ → St) (out : σ → V) (Inv : Nat → σ → Prop)
    (hend : ∀ K s, Inv L.length s → b K (mk L.length s) = some (.inl (out s)))
    (hstep : ∀ i x s, L[i]? = some x → Inv i s → ∃ s', Inv (i + 1) s' ∧ ∀ K, b K (mk i s) = K (mk (i + 1) s')) :
    ∀ (F i : Nat) (s : σ), L.length - i < F → i ≤ L.length → Inv i s → ∃ s', Inv L.length s' ∧ iter b F (mk i s) = some (.inl (out s')) := by
  intro F
  induction F with
  | zero => intro i s h; omega
  | succ F ih =>
    intro i s h hi hs
    show ∃ s', Inv L.length s' ∧ b (iter b F) (mk i s) = _
    by_cases hk : i < L.length
    · have hx : L[i]? = some L[i] := List.getElem?_eq_getElem hk
      obtain ⟨s', h1, h2⟩ := hstep i _ s hx hs
      rw [h2]
      exact ih (i + 1) _ (by omega) (by omega) h1
    · have : i = L.length := by omega
      subst this
      exact ⟨s, hs, hend _ s hs⟩
theorem zf4 {F : Nat} (hF : 1048576 < F) (x : L2) (h : B2 x ≤ 1048576) : p_zzFits4 F x = some true := by
  have hl := len_sum B1 B1p x
  unfold B2 at h
  unfold p_zzFits4
  rw [cond_f (decide_eq_false (by omega))]
  have key := fold_all (σ := Unit) x (p_zzFits4_l2 x) (fun i _ => (i : Int)) (fun s _ => s) (fun _ => ()) (fun _ _ => True)
    (fun K s _ => by unfold p_zzFits4_l2; rw [dge]; rfl)
    (fun K i y s hy _ => by
      have hy1 := le_sum B1 (mem_get hy)
      have hi := lt_get hy
      have e1 : B1 y = y.length + 1 := rfl
      unfold p_zzFits4_l2
      rw [cond_t (dlt hi), idx_get hy, Option.bind_some, cond_f (decide_eq_false (by omega)), need_pos (i64s (by omega)), succ_cast]) (fun _ _ _ _ _ => trivial) F 0 () (by omega) (by omega) trivial
  have key' : iter (p_zzFits4_l2 x) F (0 : Int) = some (.inl ()) := key
  rw [key']; rfl
theorem zf5 {F : Nat} (hF : 1048576 < F) (x : L3) (h : B3 x ≤ 1048576) : p_zzFits5 F x = some true := by
  have hl := len_sum B2 B2p x
  unfold B3 at h
  unfold p_zzFits5
  rw [cond_f (decide_eq_false (by omega))]
  have key := fold_all (σ := Unit) x (p_zzFits5_l2 x F) (fun i _ => (i : Int)) (fun s _ => s) (fun _ => ()) (fun _ _ => True)
    (fun K s _ => by unfold p_zzFits5_l2; rw [dge]; rfl)
    (fun K i y s hy _ => by
      have hy1 := le_sum B2 (mem_get hy)
      have hi := lt_get hy
      unfold p_zzFits5_l2
      rw [cond_t (dlt hi), idx_get hy, Option.bind_some, zf4 hF y (by omega), Option.bind_some, cond_f (by rfl), need_pos (i64s (by omega)), succ_cast]) (fun _ _ _ _ _ => trivial) F 0 () (by omega) (by omega) trivial
  have key' : iter (p_zzFits5_l2 x F) F (0 : Int) = some (.inl ()) := key
  rw [key']; rfl
theorem zf6 {F : Nat} (hF : 1048576 < F) (x : L4) (h : B4 x ≤ 1048576) : p_zzFits6 F x = some true := by
  have hl := len_sum B3 B3p x
  unfold B4 at h
  unfold p_zzFits6
  rw [cond_f (decide_eq_false (by omega))]
  have key := fold_all (σ := Unit) x (p_zzFits6_l2 x F) (fun i _ => (i : Int)) (fun s _ => s) (fun _ => ()) (fun _ _ => True)
    (fun K s _ => by unfold p_zzFits6_l2; rw [dge]; rfl)
    (fun K i y s hy _ => by
      have hy1 := le_sum B3 (mem_get hy)
      have hi := lt_get hy
      unfold p_zzFits6_l2
      rw [cond_t (dlt hi), idx_get hy, Option.bind_some, zf5 hF y (by omega), Option.bind_some, cond_f (by rfl), need_pos (i64s (by omega)), succ_cast]) (fun _ _ _ _ _ => trivial) F 0 () (by omega) (by omega) trivial
  have key' : iter (p_zzFits6_l2 x F) F (0 : Int) = some (.inl ()) := key
  rw [key']; rfl
theorem sum_pred {α : Type} (f : α → Nat) (h1 : ∀ x, 1 ≤ f x) : ∀ l : List α, (l.map fun x => f x - 1).sum + l.length = (l.map f).sum
  | [] => rfl
  | x :: l => by
    have := h1 x; have := sum_pred f h1 l
    simp only [List.map_cons, List.sum_cons, List.length_cons]; omega
theorem cnt1 {F : Nat} (x : L2) (hF : x.length < F) (hx : x.length ≤ 1048576) (s : Int) (h0 : 0 ≤ s) (hb : s + ((x.map fun y => B1 y - 1).sum : Nat) ≤ 1048576) :
    ∃ r : Int, s ≤ r ∧ r ≤ s + ((x.map fun y => B1 y - 1).sum : Nat) ∧ iter (p_gCount_l6 x) F (s, (0 : Int)) = some (.inl r) := by
  obtain ⟨r, ⟨h1, h2⟩, h3⟩ := fold_ex (σ := Int) x (p_gCount_l6 x) (fun i s => (s, (i : Int))) (fun s => s) (fun i r => s ≤ r ∧ r + (((x.drop i).map fun y => B1 y - 1).sum : Nat) ≤ s + ((x.map fun y => B1 y - 1).sum : Nat))
    (fun K s _ => by unfold p_gCount_l6; dsimp only; rw [cond_f dge])
    (fun i y r hy ⟨h1, h2⟩ => by
      have hi := lt_get hy
      rw [sum_split (fun y => B1 y - 1) hy] at h2
      have e : B1 y - 1 = y.length := rfl
      rw [e] at h2
      refine ⟨r + (y.length : Int), ⟨by omega, by omega⟩, fun K => ?_⟩
      unfold p_gCount_l6
      dsimp only
      rw [cond_t (dlt hi), idx_get hy, Option.bind_some, need_pos (in64 (by omega) (by omega)), need_pos (i64s (by omega)), succ_cast]) F 0 s (by omega) (by omega) ⟨by omega, by rw [List.drop_zero]; omega⟩
  exact ⟨r, h1, by simpa using h2, h3⟩
theorem cnt2 {F : Nat} (hF : 1048576 < F) (x : L3) (hx : B3 x ≤ 1048576) (s : Int) (h0 : 0 ≤ s) (hb : s + ((x.map fun y => B2 y - 1).sum : Nat) ≤ 1048576) :
    ∃ r : Int, s ≤ r ∧ r ≤ s + ((x.map fun y => B2 y - 1).sum : Nat) ∧ iter (p_gCount_l4 F x) F (s, (0 : Int)) = some (.inl r) := by
  have hl := len_sum B2 B2p x
  have e3 : B3 x = (x.map B2).sum + 1 := rfl
  obtain ⟨r, ⟨h1, h2⟩, h3⟩ := fold_ex (σ := Int) x (p_gCount_l4 F x) (fun i s => (s, (i : Int))) (fun s => s) (fun i r => s ≤ r ∧ r + (((x.drop i).map fun y => B2 y - 1).sum : Nat) ≤ s + ((x.map fun y => B2 y - 1).sum : Nat))
    (fun K s _ => by unfold p_gCount_l4; dsimp only; rw [cond_f dge])
    (fun i y r hy ⟨h1, h2⟩ => by
      have hi := lt_get hy
      rw [sum_split (fun y => B2 y - 1) hy] at h2
      have e : B2 y - 1 = (y.map B1).sum := rfl
      have e2 := sum_pred B1 B1p y
      rw [e] at h2
      obtain ⟨q, k1, k2, k3⟩ := cnt1 (F := F) y (by omega) (by omega) (r + (y.length : Int)) (by omega) (by omega)
      refine ⟨q, ⟨by omega, by omega⟩, fun K => ?_⟩
      unfold p_gCount_l4
      dsimp only
      rw [cond_t (dlt hi), idx_get hy, Option.bind_some, need_pos (in64 (by omega) (by omega)), k3, Option.bind_some, aft_inl]
      unfold p_gCount_k5
      dsimp only
      rw [need_pos (i64s (by omega)), succ_cast]) F 0 s (by omega) (by omega) ⟨by omega, by rw [List.drop_zero]; omega⟩
  exact ⟨r, h1, by simpa using h2, h3⟩
theorem cnt3 {F : Nat} (hF : 1048576 < F) (x : L4) (hx : B4 x ≤ 1048576) : ∃ r : Int, p_gCount F x = some r := by
  have hl := len_sum B3 B3p x
  have e3 : B4 x = (x.map B3).sum + 1 := rfl
  have e4 := sum_pred B3 B3p x
  obtain ⟨r, ⟨h1, h2⟩, h3⟩ := fold_ex (σ := Int) x (p_gCount_l2 x F) (fun i s => (s, (i : Int))) (fun s => s) (fun i r => 0 ≤ r ∧ r + (((x.drop i).map fun y => B3 y - 1).sum : Nat) ≤ 1048576)
    (fun K s _ => by unfold p_gCount_l2; dsimp only; rw [cond_f dge])
    (fun i y r hy ⟨h1, h2⟩ => by
      have hi := lt_get hy
      have hy1 := le_sum B3 (mem_get hy)
      rw [sum_split (fun y => B3 y - 1) hy] at h2
      have e : B3 y - 1 = (y.map B2).sum := rfl
      have e2 := sum_pred B2 B2p y
      rw [e] at h2
      obtain ⟨q, k1, k2, k3⟩ := cnt2 hF y (by omega) (r + (y.length : Int)) (by omega) (by omega)
      refine ⟨q, ⟨by omega, by omega⟩, fun K => ?_⟩
      unfold p_gCount_l2
      dsimp only
      rw [cond_t (dlt hi), idx_get hy, Option.bind_some, need_pos (in64 (by omega) (by omega)), k3, Option.bind_some, aft_inl]
      unfold p_gCount_k3
      dsimp only
      rw [need_pos (i64s (by omega)), succ_cast]) F 0 (x.length : Int) (by omega) (by omega) ⟨by omega, by rw [List.drop_zero]; omega⟩
  refine ⟨r, ?_⟩
  have h4 : iter (p_gCount_l2 x F) F ((x.length : Int), (0 : Int)) = some (.inl r) := h3
  unfold p_gCount
  rw [h4]; rfl
theorem fold_ok2 (p : L1 → Bool) : ∀ (x : L2) (s : Bool × L1), x.foldl (fun s y => (s.1 && p y, s.2 ++ y)) s = (s.1 && x.all p, s.2 ++ x.flatten)
  | [], s => by simp
  | a :: x, s => by rw [List.foldl_cons, fold_ok2 p x]; simp [Bool.and_assoc]
theorem gFlat_q {F : Nat} (hF : 1048576 < F) {a st : Int} (hst : p_Stride a = some st) (x : L2) (hx : B2 x ≤ 1048576) :
    p_gFlat F a false x = some (x.flatten, [], x.all fun y => decide ((y.length : Int) = st)) := by
  have hl := len_sum B1 B1p x
  have e2 : B2 x = (x.map B1).sum + 1 := rfl
  have key := fold_all (σ := Bool × L1) x (p_gFlat_l2 a false x) (fun i s => (s.1, (i : Int), s.2, [])) (fun s y => (s.1 && decide ((y.length : Int) = st), s.2 ++ y)) (fun s => (s.1, s.2, []))
    (fun i s => s.2.length + ((x.drop i).map B1).sum ≤ 1048576)
    (fun K s _ => by unfold p_gFlat_l2; dsimp only; rw [cond_f dge])
    (fun K i y s hy h1 => by
      have hi := lt_get hy
      rw [sum_split B1 hy] at h1
      have e1 : B1 y = y.length + 1 := rfl
      have k3 : ∀ g, p_gFlat_k3 false (s.1, (i : Int), s.2, []) K y g = K (g, ((i + 1 : Nat) : Int), s.2 ++ y, []) := fun g => by
        unfold p_gFlat_k3
        dsimp only
        rw [need_pos (by omega), cond_f rfl, need_pos (i64s (by omega)), succ_cast]
      unfold p_gFlat_l2
      dsimp only
      rw [cond_t (dlt hi), idx_get hy, Option.bind_some, hst, Option.bind_some]
      rw [k3 true, k3 false]
      cases hs : s.1 with
      | false => rw [cond_f rfl, Bool.false_and]
      | true =>
        rw [cond_t rfl, Bool.true_and]
        by_cases hd : (y.length : Int) = st
        · rw [cond_t (decide_eq_true hd), decide_eq_true hd]
        · rw [cond_f (decide_eq_false hd), decide_eq_false hd, cond_f rfl])
    (fun i y s hy h1 => by
      rw [sum_split B1 hy] at h1
      have e1 : B1 y = y.length + 1 := rfl
      rw [List.length_append]; omega) F 0 (true, []) (by omega) (by omega) (by rw [List.drop_zero]; simp only [List.length_nil]; omega)
  have key' : iter (p_gFlat_l2 a false x) F (true, (0 : Int), [], []) = _ := key
  unfold p_gFlat
  rw [key', Option.bind_some, aft_inl]
  rw [List.drop_zero, fold_ok2]
  rfl
theorem fold_ok3 (p : L1 → Bool) (n : Nat) : ∀ (x : L3) (s : Bool × L1 × List Int), x.foldl (fun s y => (s.1 && y.all p, s.2.1 ++ y.flatten, s.2.2 ++ [(n : Int) + (((s.2.1 ++ y.flatten).length : Nat) : Int)])) s = (s.1 && x.all (fun y => y.all p), s.2.1 ++ x.flatten.flatten, s.2.2 ++ endsF (n + s.2.1.length) x)
  | [], s => by simp [endsF]
  | a :: x, s => by
    rw [List.foldl_cons, fold_ok3 p n x]
    simp only [List.all_cons, Bool.and_assoc, List.flatten_cons, List.flatten_append, List.append_assoc, endsF, List.length_append, List.singleton_append]
    have e : (n : Int) + ((s.2.1.length + a.flatten.length : Nat) : Int) = ((n + s.2.1.length + a.flatten.length : Nat) : Int) := by omega
    rw [e, Nat.add_assoc]
theorem gFlats_q {F : Nat} (hF : 1048576 < F) {a st : Int} (hst : p_Stride a = some st) (n : Nat) (hn : n ≤ 1048576) (x : L3) (hx : B3 x ≤ 1048576) :
    p_gFlats F a (n : Int) x = some (x.flatten.flatten, endsF n x, x.all fun r => r.all fun y => decide ((y.length : Int) = st)) := by
  have hl := len_sum B2 B2p x
  have e2 : B3 x = (x.map B2).sum + 1 := rfl
  have key := fold_all (σ := Bool × L1 × List Int) x (p_gFlats_l2 a (n : Int) x F) (fun i s => (s.1, (i : Int), s.2.1, s.2.2)) (fun s y => (s.1 && y.all (fun y => decide ((y.length : Int) = st)), s.2.1 ++ y.flatten, s.2.2 ++ [(n : Int) + (((s.2.1 ++ y.flatten).length : Nat) : Int)])) (fun s => (s.1, s.2.1, s.2.2))
    (fun i s => s.2.1.length + ((x.drop i).map B2).sum ≤ 1048576 ∧ s.2.2.length = i)
    (fun K s _ => by unfold p_gFlats_l2; dsimp only; rw [cond_f dge])
    (fun K i y s hy ⟨h1, h2⟩ => by
      have hi := lt_get hy
      have hy1 := le_sum B2 (mem_get hy)
      rw [sum_split B2 hy] at h1
      have e1 := flat_len2 y
      have k3 : ∀ g, p_gFlats_k3 (n : Int) (s.1, (i : Int), s.2.1, s.2.2) K (g, s.2.1 ++ y.flatten) = K (g, ((i + 1 : Nat) : Int), s.2.1 ++ y.flatten, s.2.2 ++ [(n : Int) + (((s.2.1 ++ y.flatten).length : Nat) : Int)]) := fun g => by
        unfold p_gFlats_k3
        dsimp only
        rw [need_pos (in64 (by omega) (by rw [List.length_append]; omega)), need_pos (by simp only [List.length_cons, List.length_nil]; omega), need_pos (i64s (by omega)), succ_cast]
      unfold p_gFlats_l2
      dsimp only
      rw [cond_t (dlt hi), idx_get hy, Option.bind_some, gFlat_q hF hst y (by omega), Option.bind_some]
      dsimp only
      rw [need_pos (by omega), k3, k3]
      cases hs : s.1 with
      | false => rw [cond_f rfl, Bool.false_and]
      | true => rw [cond_t rfl, Bool.true_and])
    (fun i y s hy ⟨h1, h2⟩ => by
      rw [sum_split B2 hy] at h1
      have e1 := flat_len2 y
      exact ⟨by rw [List.length_append]; omega, by rw [List.length_append, h2]; rfl⟩) F 0 (true, [], []) (by omega) (by omega) ⟨by rw [List.drop_zero]; simp only [List.length_nil]; omega, rfl⟩
  have key' : iter (p_gFlats_l2 a (n : Int) x F) F (true, (0 : Int), [], []) = _ := key
  unfold p_gFlats
  rw [key', Option.bind_some, aft_inl]
  rw [List.drop_zero, fold_ok3]
  rfl
theorem floats_q (x : L1) (h : x.length ≤ 4294967296) : p_floats x = some x := by unfold p_floats; rw [need_pos h]
theorem ints_q (x : List Int) (h : x.length ≤ 4294967296) : p_ints x = some x := by unfold p_ints; rw [need_pos h]
theorem coords1_q {F : Nat} (hF : 1048576 < F) (x : L2) (hx : B2 x ≤ 1048576) : p_coords1 F x = some x := by
  have hl := len_sum B1 B1p x
  have e2 : B2 x = (x.map B1).sum + 1 := rfl
  have key := fold_all (σ := L2) x (p_coords1_l2 x) (fun i s => ((i : Int), s)) (fun s y => s ++ [y]) (fun s => s) (fun i s => s.length = i)
    (fun K s _ => by unfold p_coords1_l2; dsimp only; rw [cond_f dge])
    (fun K i y s hy h1 => by
      have hi := lt_get hy
      have hy1 := le_sum B1 (mem_get hy)
      have e1 : B1 y = y.length + 1 := rfl
      unfold p_coords1_l2
      dsimp only
      rw [cond_t (dlt hi), idx_get hy, Option.bind_some, floats_q y (by omega), Option.bind_some, need_pos (by simp only [List.length_cons, List.length_nil]; omega), need_pos (i64s (by omega)), succ_cast])
    (fun i y s hy h1 => by rw [List.length_append, h1]; rfl) F 0 [] (by omega) (by omega) rfl
  have key' : iter (p_coords1_l2 x) F ((0 : Int), []) = _ := key
  unfold p_coords1
  rw [key', Option.bind_some, aft_inl, List.drop_zero, fold_copy]
  rfl
theorem coords2_q {F : Nat} (hF : 1048576 < F) (x : L3) (hx : B3 x ≤ 1048576) : p_coords2 F x = some x := by
  have hl := len_sum B2 B2p x
  have e2 : B3 x = (x.map B2).sum + 1 := rfl
  have key := fold_all (σ := L3) x (p_coords2_l2 x F) (fun i s => ((i : Int), s)) (fun s y => s ++ [y]) (fun s => s) (fun i s => s.length = i)
    (fun K s _ => by unfold p_coords2_l2; dsimp only; rw [cond_f dge])
    (fun K i y s hy h1 => by
      have hi := lt_get hy
      have hy1 := le_sum B2 (mem_get hy)
      unfold p_coords2_l2
      dsimp only
      rw [cond_t (dlt hi), idx_get hy, Option.bind_some, coords1_q hF y (by omega), Option.bind_some, need_pos (by simp only [List.length_cons, List.length_nil]; omega), need_pos (i64s (by omega)), succ_cast])
    (fun i y s hy h1 => by rw [List.length_append, h1]; rfl) F 0 [] (by omega) (by omega) rfl
  have key' : iter (p_coords2_l2 x F) F ((0 : Int), []) = _ := key
  unfold p_coords2
  rw [key', Option.bind_some, aft_inl, List.drop_zero, fold_copy]
  rfl
theorem coords3_q {F : Nat} (hF : 1048576 < F) (x : L4) (hx : B4 x ≤ 1048576) : p_coords3 F x = some x := by
  have hl := len_sum B3 B3p x
  have e2 : B4 x = (x.map B3).sum + 1 := rfl
  have key := fold_all (σ := L4) x (p_coords3_l2 x F) (fun i s => ((i : Int), s)) (fun s y => s ++ [y]) (fun s => s) (fun i s => s.length = i)
    (fun K s _ => by unfold p_coords3_l2; dsimp only; rw [cond_f dge])
    (fun K i y s hy h1 => by
      have hi := lt_get hy
      have hy1 := le_sum B3 (mem_get hy)
      unfold p_coords3_l2
      dsimp only
      rw [cond_t (dlt hi), idx_get hy, Option.bind_some, coords2_q hF y (by omega), Option.bind_some, need_pos (by simp only [List.length_cons, List.length_nil]; omega), need_pos (i64s (by omega)), succ_cast])
    (fun i y s hy h1 => by rw [List.length_append, h1]; rfl) F 0 [] (by omega) (by omega) rfl
  have key' : iter (p_coords3_l2 x F) F ((0 : Int), []) = _ := key
  unfold p_coords3
  rw [key', Option.bind_some, aft_inl, List.drop_zero, fold_copy]
  rfl
theorem intss_q {F : Nat} (hF : 1048576 < F) (x : List (List Int)) (hx : x.length ≤ 1048576) (hy : ∀ y ∈ x, y.length ≤ 1048576) : p_intss F x = some x := by
  have key := fold_all (σ := List (List Int)) x (p_intss_l2 x) (fun i s => ((i : Int), s)) (fun s y => s ++ [y]) (fun s => s) (fun i s => s.length = i)
    (fun K s _ => by unfold p_intss_l2; dsimp only; rw [cond_f dge])
    (fun K i y s hyy h1 => by
      have hi := lt_get hyy
      have hy1 := hy y (mem_get hyy)
      unfold p_intss_l2
      dsimp only
      rw [cond_t (dlt hi), idx_get hyy, Option.bind_some, ints_q y (by omega), Option.bind_some, need_pos (by simp only [List.length_cons, List.length_nil]; omega), need_pos (i64s (by omega)), succ_cast])
    (fun i y s hy h1 => by rw [List.length_append, h1]; rfl) F 0 [] (by omega) (by omega) rfl
  have key' : iter (p_intss_l2 x) F ((0 : Int), []) = _ := key
  unfold p_intss
  rw [key', Option.bind_some, aft_inl, List.drop_zero, fold_copy]
  rfl
end Go.Proofs.Ytlafodjpnolmhaa.Wk
