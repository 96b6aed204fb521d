/- Proved: flat lines in lists of lines, as the laws' test tells them. -/
import Derived.Test.YtdpkjmoeapibnaaFRows
namespace Go.Proofs.Ytdpkjmoeapibnaa.Wk
open Go.Vm
set_option linter.unusedVariables false
set_option linter.unusedSimpArgs false
abbrev layF (s : Int) : Int := if s = 2 then 1 else if s = 3 then 2 else s
theorem strideF {s : Int} (h2 : 2 ≤ s) (h9 : s ≤ 9) : p_Stride (layF s) = some s ∧ 1 ≤ layF s ∧ layF s ≤ 9 ∧ p_fLayout s = some (layF s) := by
  have : s = 2 ∨ s = 3 ∨ s = 4 ∨ s = 5 ∨ s = 6 ∨ s = 7 ∨ s = 8 ∨ s = 9 := by omega
  rcases this with rfl | rfl | rfl | rfl | rfl | rfl | rfl | rfl <;> exact ⟨rfl, by decide, by decide, rfl⟩
theorem EndsG.app {s q : Int} : ∀ {a b : List Int} {p m : Int}, EndsG s m p a → EndsG s q m b → EndsG s q p (a ++ b)
  | [], b, p, m, h, k => by
    have : p = m := h
    subst this; exact k
  | x :: a, b, p, m, h, k => ⟨h.1, h.2.1, EndsG.app h.2.2 k⟩
theorem goodEnds_loop2 {s : Int} (hs : 2 ≤ s) {l : List Int} (hl : ∀ x ∈ l, inI .i64 x) (hll : l.length < 4611686018427387904) : ∀ (F i : Nat) (p : Int), l.length - i < F → i ≤ l.length → 0 ≤ p →
    ∃ o, iter (p_goodEnds_l2 l s false) F (p, (i : Int)) = some o ∧ ((∃ q, o = .inl q ∧ 0 ≤ q ∧ EndsG s q p (l.drop i)) ∨ ∃ q, o = .inr (q, false) ∧ 0 ≤ q) := by
  intro F
  induction F with
  | zero => intro i p h; omega
  | succ F ih =>
    intro i p h hi h0
    show ∃ o, p_goodEnds_l2 l s false (iter (p_goodEnds_l2 l s false) F) _ = _ ∧ _
    generalize hK : iter (p_goodEnds_l2 l s false) F = K at *
    unfold p_goodEnds_l2
    simp only
    by_cases hil : i < l.length
    · obtain ⟨x, hx⟩ : ∃ x, l[i]? = some x := ⟨_, List.getElem?_eq_getElem hil⟩
      have hxi := hl x (List.mem_of_getElem? hx)
      have hd : l.drop i = x :: l.drop (i + 1) := by
        rw [List.drop_eq_getElem_cons hil]
        rw [List.getElem?_eq_getElem hil] at hx
        rw [Option.some.inj hx]
      rw [cond_t (decide_eq_true (by omega)), idx_get hx, Option.bind_some, hd]
      by_cases hxp : x < p
      · rw [cond_t (decide_eq_true hxp)]
        exact ⟨_, rfl, .inr ⟨_, rfl, h0⟩⟩
      · have hin : inI .i64 (x - p) := ⟨by simp only [lo]; omega, by have := hxi.2; simp only [Go.Vm.hi] at *; omega⟩
        rw [cond_f (decide_eq_false hxp), need_pos hin, need_pos (by omega)]
        by_cases ht : Int.tmod (x - p) s = 0
        · rw [cond_f (nF ht)]
          unfold p_goodEnds_k3
          simp only [cond_false, cond_f (rfl : false = false)]
          rw [succ_cast, need_pos (in64 (by omega) (by omega))]
          obtain ⟨o, h1, h2⟩ := ih (i + 1) x (by omega) (by omega) (by omega)
          refine ⟨o, h1, ?_⟩
          rcases h2 with ⟨q, e, q0, hq⟩ | h2
          · exact .inl ⟨q, e, q0, by omega, ht, hq⟩
          · exact .inr h2
        · rw [cond_t (nT ht)]
          exact ⟨_, rfl, .inr ⟨_, rfl, h0⟩⟩
    · rw [cond_f (decide_eq_false (by omega)), List.drop_eq_nil_of_le (by omega)]
      exact ⟨_, rfl, .inl ⟨p, rfl, h0, rfl⟩⟩
theorem goodEnds_p2 {s : Int} (hs : 2 ≤ s) {l : List Int} (hl : ∀ x ∈ l, inI .i64 x) (hll : l.length < 4611686018427387904) {F : Nat} (hF : l.length < F) {p : Int} (h0 : 0 ≤ p) :
    ∃ q b, p_goodEnds F l p s false = some (q, b) ∧ 0 ≤ q ∧ (b = true → EndsG s q p l) := by
  obtain ⟨o, h1, h2⟩ := goodEnds_loop2 hs hl hll F 0 p (by omega) (by omega) h0
  have h1' : iter (p_goodEnds_l2 l s false) F (p, (0 : Int)) = some o := h1
  unfold p_goodEnds
  rw [h1', Option.bind_some]
  rcases h2 with ⟨q, rfl, q0, hq⟩ | ⟨q, rfl, q0⟩
  · exact ⟨q, true, rfl, q0, fun _ => by simpa using hq⟩
  · exact ⟨q, false, rfl, q0, fun h => by cases h⟩
/-- What is told of lists of lines that lie flat. -/
structure Rwss (l : List Nat) (e : List (List Int)) (s : Int) : Prop where
  lo : 2 ≤ s
  hi : s ≤ 9
  few : l.length + e.flatten.length + e.length ≤ 1999
  whole : Int.tmod (l.length : Int) s = 0
  ends : EndsG s (l.length : Int) 0 e.flatten
abbrev gFF (l : List Nat) (e : List (List Int)) (s : Int) : TImpl_Geom := ⟨6, layF s, 0, l, [], e, []⟩
/-- lists of ends that are not too long -/
structure Fit (e : List (List Int)) : Prop where
  len : e.length ≤ 2147483647
  lens : ∀ x ∈ e, x.length ≤ 2147483647
  nums : ∀ x ∈ e, ∀ y ∈ x, inI .i64 y
def wsum : List (List Int) → Nat
  | [] => 0
  | x :: r => 1 + x.length + wsum r
theorem wsum_eq : ∀ e : List (List Int), wsum e = e.flatten.length + e.length
  | [] => rfl
  | x :: r => by simp only [wsum, wsum_eq r, List.flatten_cons, List.length_append, List.length_cons]; omega
theorem wsum_le : ∀ e : List (List Int), (∀ x ∈ e, x.length ≤ 2147483647) → wsum e ≤ 2147483648 * e.length
  | [], _ => Nat.le_refl _
  | x :: r, h => by
    have := wsum_le r fun y hy => h y (List.mem_cons_of_mem _ hy)
    have := h x (List.mem_cons_self)
    simp only [wsum, List.length_cons]; omega
theorem weightFF {F : Nat} (l : List Nat) (e : List (List Int)) (y : Int) (hl : l.length ≤ 2147483647) (he : Fit e) (hF : 2147483650 ≤ F) (b : Int) :
    p_Weight (F + 2) ⟨6, y, 0, l, [], e, []⟩ b = some (1 + (l.length : Int) + (wsum e : Int)) := by
  have hlen := he.len
  have key : ∀ (r : List (List Int)) (i G : Nat) (n : Int), e.drop i = r → r.length < G → 0 ≤ n → n + wsum r ≤ 4611686020574871552 → iter (p_Weight_l4 ⟨6, y, 0, l, [], e, []⟩) G (n, (i : Int)) = some (.inl (n + wsum r)) := by
    intro r
    induction r with
    | nil =>
      intro i G n hd hG h0 hn
      obtain ⟨G, rfl⟩ : ∃ H, G = H + 1 := ⟨G - 1, by simp at hG; omega⟩
      have : e.length ≤ i := List.drop_eq_nil_iff.1 hd
      show p_Weight_l4 _ (iter (p_Weight_l4 _) G) _ = _
      unfold p_Weight_l4
      rw [cond_f (decide_eq_false (by simp only; omega))]
      simp [wsum]
    | cons x r ih =>
      intro i G n hd hG h0 hn
      obtain ⟨G, rfl⟩ : ∃ H, G = H + 1 := ⟨G - 1, by simp at hG; omega⟩
      have hx : e[i]? = some x := by
        have := congrArg (fun z => z[0]?) hd
        simpa [List.getElem?_drop] using this
      have hi := (List.getElem?_eq_some_iff.1 hx).1
      have hxl := he.lens x (List.mem_of_getElem? hx)
      show p_Weight_l4 _ (iter (p_Weight_l4 _) G) _ = _
      generalize hK : iter (p_Weight_l4 ⟨6, y, 0, l, [], e, []⟩) G = K at *
      unfold p_Weight_l4
      simp only [wsum] at hn
      rw [cond_t (decide_eq_true (by simp only; omega))]
      dsimp only
      rw [idx_get hx, Option.bind_some, need_pos (in64m (by omega) (by omega)), need_pos (in64m (by omega) (by omega)), succ_cast, need_pos (in64m (by omega) (by omega)), ← hK,
        ih (i + 1) G _ (by rw [← List.drop_drop, hd]; rfl) (by simp at hG; omega) (by omega) (by omega)]
      congr 2
      simp only [wsum]; omega
  show p_Weight_b _ (F + 1) _ _ = _
  unfold p_Weight_b
  rw [need_pos (in64 (by omega) (by simp only; omega)), need_pos (in64 (by omega) (by simp only [List.length_nil]; omega))]
  have hw := wsum_le e he.lens
  have h := key e 0 (F + 1) (1 + (l.length : Int)) rfl (by omega) (by omega) (by omega)
  have e0 : (1 + (l.length : Int)) + (([] : List Int).length : Int) = 1 + (l.length : Int) := by simp
  have h' : iter (p_Weight_l4 ⟨6, y, 0, l, [], e, []⟩) (F + 1) (1 + (l.length : Int) + (([] : List Int).length : Int), (0 : Int)) = some (.inl (1 + (l.length : Int) + wsum e)) := by rw [e0]; exact h
  show (iter (p_Weight_l4 ⟨6, y, 0, l, [], e, []⟩) (F + 1) (1 + (l.length : Int) + (([] : List Int).length : Int), (0 : Int))).bind _ = _
  rw [h', Option.bind_some, aft_inl]
  unfold p_Weight_k1
  show (p_Weight_l3 _ _ _ _ _).bind _ = _
  unfold p_Weight_l3
  rw [cond_f (by rfl), Option.bind_some, aft_inl]
  rfl
theorem layoutsFF {F : Nat} (l : List Nat) (e : List (List Int)) (y : Int) (h1 : 1 ≤ y) (h9 : y ≤ 9) : p_gLayouts (F + 2) ⟨6, y, 0, l, [], e, []⟩ (9 : Int) = some true := by
  show p_gLayouts_b _ (F + 1) _ _ = _
  unfold p_gLayouts_b
  show (p_gLayouts_l2 _ _ _ _ _).bind _ = _
  unfold p_gLayouts_l2
  rw [cond_f (by rfl), Option.bind_some, aft_inl]
  unfold p_gLayouts_k1
  rw [cond_t (decide_eq_true h9), cond_t (decide_eq_true h1)]
theorem smallFF {F : Nat} (l : List Nat) (e : List (List Int)) (y : Int) (h1 : 1 ≤ y) (h9 : y ≤ 9) (hl : l.length ≤ 2147483647) (he : Fit e) (hF : 2147483650 ≤ F) :
    p_gSmall (F + 2) [⟨6, y, 0, l, [], e, []⟩] = some (decide (l.length + wsum e ≤ 1999)) := by
  unfold p_gSmall
  have r1 : ∀ v : Int, iter (p_gSmall_l2 [⟨6, y, 0, l, [], e, []⟩] (F + 2)) (F + 1) (v, (1 : Int)) = some (Sum.inl ()) := fun v => rfl
  show (p_gSmall_l2 _ _ (iter (p_gSmall_l2 _ (F + 2)) (F + 1)) _).bind _ = _
  generalize iter (p_gSmall_l2 _ (F + 2)) (F + 1) = K at *
  unfold p_gSmall_l2
  simp only
  have hw := wsum_le e he.lens
  have hlen := he.len
  rw [cond_t (by rfl), show ∀ g : TImpl_Geom, idx [g] (0 : Int) = some g from fun _ => rfl, Option.bind_some, weightFF l e y hl he hF, Option.bind_some, need_pos (in64m (by omega) (by omega))]
  by_cases h : l.length + wsum e ≤ 1999
  · rw [cond_f (decide_eq_false (by omega)), layoutsFF l e y h1 h9, Option.bind_some, cond_f (by rfl), need_pos (by decide)]
    rw [decide_eq_true h]
    show (K (_, (1 : Int))).bind _ = _
    rw [r1]
    rfl
  · rw [cond_t (decide_eq_true (by omega)), Option.bind_some, aft_inr, decide_eq_false h]
theorem goodFF {F : Nat} (l : List Nat) (e : List (List Int)) {s : Int} (h2 : 2 ≤ s) (h9 : s ≤ 9) (he : Fit e) (hF : 2147483650 ≤ F) :
    ∃ b, p_Good (F + 2) (gFF l e s) = some b ∧ (b = true → Int.tmod (l.length : Int) s = 0 ∧ EndsG s (l.length : Int) 0 e.flatten) := by
  have hlen := he.len
  have key : ∀ (r : List (List Int)) (i G : Nat) (to : Int) (ok : Bool), e.drop i = r → r.length < G → 0 ≤ to → (ok = true → EndsG s to 0 (e.take i).flatten) →
      ∃ q b, iter (p_Good_l8 (gFF l e s) (F + 1) s) G (to, ok, (i : Int)) = some (.inl (q, b)) ∧ (b = true → EndsG s q 0 e.flatten) := by
    intro r
    induction r with
    | nil =>
      intro i G to ok hd hG h0 hok
      obtain ⟨G, rfl⟩ : ∃ H, G = H + 1 := ⟨G - 1, by simp at hG; omega⟩
      have hle : e.length ≤ i := List.drop_eq_nil_iff.1 hd
      refine ⟨to, ok, ?_, fun h => by have := hok h; rwa [List.take_of_length_le hle] at this⟩
      show p_Good_l8 _ _ _ (iter (p_Good_l8 _ _ _) G) _ = _
      unfold p_Good_l8
      rw [cond_f (decide_eq_false (by simp only; omega))]
    | cons x r ih =>
      intro i G to ok hd hG h0 hok
      obtain ⟨G, rfl⟩ : ∃ H, G = H + 1 := ⟨G - 1, by simp at hG; omega⟩
      have hx : e[i]? = some x := by
        have := congrArg (fun z => z[0]?) hd
        simpa [List.getElem?_drop] using this
      have hi := (List.getElem?_eq_some_iff.1 hx).1
      have hxl := he.lens x (List.mem_of_getElem? hx)
      have hxn := he.nums x (List.mem_of_getElem? hx)
      obtain ⟨q, b, hq, q0, hb⟩ := goodEnds_p2 h2 hxn (by omega) (F := F + 1) (by omega) h0
      have hd2 : e.drop (i + 1) = r := by rw [← List.drop_drop, hd]; rfl
      have htake : (e.take (i + 1)).flatten = (e.take i).flatten ++ x := by
        rw [List.take_add_one, hx]; simp
      show ∃ q b, p_Good_l8 _ _ _ (iter (p_Good_l8 _ _ _) G) _ = _ ∧ _
      generalize hK : iter (p_Good_l8 (gFF l e s) (F + 1) s) G = K at *
      unfold p_Good_l8
      rw [cond_t (decide_eq_true (by simp only; omega))]
      dsimp only
      rw [idx_get hx, Option.bind_some, hq, Option.bind_some]
      cases ok with
      | true =>
        rw [cond_t rfl, succ_cast, need_pos (in64m (by omega) (by omega)), ← hK]
        exact ih (i + 1) G q b hd2 (by simp at hG; omega) q0 (fun h => by rw [htake]; exact (hok rfl).app (hb h))
      | false =>
        rw [cond_f rfl, succ_cast, need_pos (in64m (by omega) (by omega)), ← hK]
        exact ih (i + 1) G q false hd2 (by simp at hG; omega) q0 (fun h => by cases h)
  show ∃ b, p_Good_b _ (F + 1) _ = some b ∧ _
  unfold p_Good_b
  rw [(strideF h2 h9).1, Option.bind_some, cond_f (by rfl), cond_f (decide_eq_false (by omega)), need_pos (by omega)]
  by_cases ht : Int.tmod (l.length : Int) s = 0
  · rw [cond_f (nF ht), cond_f (by rfl)]
    have k4 : ∃ b, p_Good_k4 (gFF l e s) (F + 1) s () = some b ∧ (b = true → Int.tmod (l.length : Int) s = 0 ∧ EndsG s (l.length : Int) 0 e.flatten) := by
      unfold p_Good_k4
      rw [cond_f (by rfl), cond_f (by rfl)]
      unfold p_Good_k5
      rw [cond_f (by rfl), cond_f (by rfl), cond_f (by rfl)]
      unfold p_Good_k6
      rw [cond_f (by rfl), cond_t (by rfl)]
      obtain ⟨q, b, hq, hb⟩ := key e 0 (F + 1) 0 true rfl (by omega) (by omega) (fun _ => by simp [EndsG])
      have hq' : iter (p_Good_l8 (gFF l e s) (F + 1) s) (F + 1) ((0 : Int), true, (0 : Int)) = some (.inl (q, b)) := hq
      rw [hq', Option.bind_some, aft_inl]
      unfold p_Good_k7
      cases b with
      | false => exact ⟨false, rfl, fun h => by cases h⟩
      | true =>
        rw [cond_t (by rfl)]
        dsimp only
        by_cases hql : q = (l.length : Int)
        · rw [cond_t (decide_eq_true hql)]
          exact ⟨true, rfl, fun _ => ⟨ht, by rw [← hql]; exact hb rfl⟩⟩
        · rw [cond_f (decide_eq_false hql)]
          exact ⟨false, rfl, fun h => by cases h⟩
    by_cases hel : 0 < e.length
    · rw [cond_t (decide_eq_true (by dsimp only; omega)), cond_f (by rfl)]; exact k4
    · rw [cond_f (decide_eq_false (by dsimp only; omega))]; exact k4
  · rw [cond_t (nT ht)]
    exact ⟨_, rfl, fun h => by cases h⟩
theorem fRowss_p {F : Nat} (l : List Nat) (e : List (List Int)) (s : Int) (he : Fit e) (hl : l.length ≤ 2147483647) (hF : 2147483650 ≤ F) :
    ∃ g b, p_fRowss (F + 2) l e s = some (g, b) ∧ (b = true → g = gFF l e s ∧ Rwss l e s) := by
  unfold p_fRowss p_fStride
  by_cases h2 : 2 ≤ s
  · rw [cond_t (decide_eq_true h2), Option.bind_some]
    by_cases h9 : s ≤ 9
    · obtain ⟨e1, y1, y9, e2⟩ := strideF h2 h9
      rw [cond_f (nF h9), e2, Option.bind_some]
      unfold p_gGood
      rw [smallFF l e (layF s) y1 y9 hl he hF, Option.bind_some]
      by_cases h : l.length + wsum e ≤ 1999
      · rw [cond_f (nF h)]
        obtain ⟨b, hb, hb2⟩ := goodFF l e h2 h9 he hF
        have r1 : iter (p_gGood_l2 [⟨6, layF s, 0, l, [], e, []⟩] (F + 2)) (F + 1) (1 : Int) = some (Sum.inl ()) := rfl
        show ∃ g b, (((p_gGood_l2 _ _ (iter (p_gGood_l2 _ (F + 2)) (F + 1)) _).bind _).bind _) = some (g, b) ∧ _
        generalize iter (p_gGood_l2 _ (F + 2)) (F + 1) = K at *
        unfold p_gGood_l2
        rw [cond_t (by rfl), show ∀ g : TImpl_Geom, idx [g] (0 : Int) = some g from fun _ => rfl, Option.bind_some, hb, Option.bind_some]
        cases b with
        | false => exact ⟨_, _, rfl, fun h => by cases h⟩
        | true =>
          rw [cond_f (by rfl), need_pos (by decide)]
          show ∃ g b, (((K (1 : Int)).bind _).bind _) = some (g, b) ∧ _
          rw [r1]
          rw [wsum_eq] at h
          exact ⟨_, _, rfl, fun _ => ⟨rfl, h2, h9, by omega, (hb2 rfl).1, (hb2 rfl).2⟩⟩
      · rw [cond_t (nT h)]
        exact ⟨_, _, rfl, fun h => by cases h⟩
    · rw [cond_t (nT h9)]
      exact ⟨_, _, rfl, fun h => by cases h⟩
  · rw [cond_f (decide_eq_false h2), Option.bind_some]
    exact ⟨_, _, rfl, fun h => by cases h⟩
theorem zzFits3_p {F : Nat} (e : List (List Int)) (hn : ∀ x ∈ e, ∀ y ∈ x, inI .i64 y) (hF : 2147483650 ≤ F) : ∃ b, p_zzFits3 F e = some b ∧ (b = true → Fit e) := by
  unfold p_zzFits3
  by_cases h : e.length ≤ 2147483647
  · rw [cond_f (decide_eq_false (by omega))]
    have hs := scan_loop0 e (p_zzFits3_l2 e) (fun x => decide (x.length ≤ 2147483647)) false
      (fun K k hk => by unfold p_zzFits3_l2; rw [cond_f (decide_eq_false (by omega))])
      (fun K k x hx => by
        have hk := (List.getElem?_eq_some_iff.1 hx).1
        unfold p_zzFits3_l2
        rw [cond_t (decide_eq_true (by omega)), idx_get hx, Option.bind_some]
        by_cases hx2 : x.length ≤ 2147483647
        · rw [cond_f (decide_eq_false (by omega)), succ_cast, need_pos (in64m (by omega) (by omega)), if_pos (decide_eq_true hx2)]
        · rw [cond_t (decide_eq_true (by omega)), if_neg (by simp; omega)]) (F := F) (by omega)
    rw [hs, Option.bind_some]
    by_cases hall : (e.all fun x => decide (x.length ≤ 2147483647)) = true
    · rw [if_pos hall, aft_inl]
      exact ⟨true, rfl, fun _ => ⟨h, fun x hx => of_decide_eq_true (List.all_eq_true.1 hall x hx), hn⟩⟩
    · rw [if_neg hall, aft_inr]
      exact ⟨false, rfl, fun h => by cases h⟩
  · rw [cond_t (decide_eq_true (by omega))]
    exact ⟨false, rfl, fun h => by cases h⟩
end Go.Proofs.Ytdpkjmoeapibnaa.Wk
