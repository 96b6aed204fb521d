/- Proved: what the test of a geometry's good data tells. -/
import Derived.Test.YtdpkjmoeapibnaaDoorGeoM
namespace Go.Proofs.YtdpkjmoeapibnaaDoor.Wk
open Go.Vm
set_option linter.unusedVariables false
set_option linter.unusedSimpArgs false
theorem good_k4_t {g : TImpl_Geom} (W : Wf g) {F : Nat} (hF : gF g ≤ F) {s : Int} (hs : s ≠ 0) : ∃ b, p_Good_k4 g F s () = some b := by
  have k6 : ∀ c, ∃ b, p_Good_k6 g F s c = some b := fun c => by
    unfold p_Good_k6
    cases c with
    | true =>
      rw [cond_t rfl]
      obtain ⟨n, b, h, _⟩ := goodEnds_t W.ends.1 W.ends.2 (F := F) (by have := W.big; omega) (a := 0) (s := s) (by omega) hs (by simp only [Vm.hi]; omega) (decide (g.Kind = 4))
      rw [h, Option.bind_some]
      cases b with
      | true => exact ⟨_, rfl⟩
      | false => exact ⟨_, rfl⟩
    | false =>
      rw [cond_f rfl]
      cases decide (g.Kind = (6 : Int)) with
      | false => exact ⟨_, rfl⟩
      | true =>
        rw [cond_t rfl]
        have h3 := tot_loop (L := g.Endss.length) (P := fun x : Int × Bool => 0 ≤ x.1 ∧ x.1 ≤ hi .i64) (Post := fun o : Sum (Int × Bool) Bool => ∃ v, o = .inl v) (fun x i => (x.1, x.2, i)) (p_Good_l8 g F s) (fun K x hx => by
          unfold p_Good_l8; dsimp only; rw [cond_f (decide_eq_false (by omega))]; exact ⟨_, rfl, _, rfl⟩) (fun K x i hi hx => by
          have hm := List.getElem_mem hi
          obtain ⟨n, b, h, h1, h2⟩ := goodEnds_t (W.endss.2 _ hm).1 (W.endss.2 _ hm).2 (F := F) (by have := W.big.2.2.2.2 _ hm; omega) (a := x.1) (s := s) hx.1 hs hx.2 false
          refine .inr ⟨(n, x.2 && b), ⟨h1, h2⟩, ?_⟩
          unfold p_Good_l8; dsimp only
          rw [cond_t (decide_eq_true (by omega)), idx_get (List.getElem?_eq_getElem hi), Option.bind_some, h, Option.bind_some]
          cases x.2 with
          | true => rw [cond_t rfl, need_pos (inM hi W.endss.1), succ_cast]; rfl
          | false => rw [cond_f rfl, need_pos (inM hi W.endss.1), succ_cast]; rfl) F 0 ((0 : Int), true) (by have := W.big; omega) (by omega) ⟨by omega, by simp only [Vm.hi]; omega⟩
        obtain ⟨o, h4, v, rfl⟩ := h3
        have h5 : iter (p_Good_l8 g F s) F ((0 : Int), true, (0 : Int)) = some (.inl v) := h4
        rw [h5, Option.bind_some, aft_inl]
        unfold p_Good_k7
        cases v.2 <;> cases decide (v.1 = ((g.Flat.length : Nat) : Int)) <;> exact ⟨_, rfl⟩
  have k5 : ∀ c, ∃ b, p_Good_k5 g F s c = some b := fun c => by
    unfold p_Good_k5
    cases c with
    | true => exact ⟨_, rfl⟩
    | false =>
      rw [cond_f rfl]
      by_cases c1 : g.Kind = 3
      · rw [cond_t (decide_eq_true c1)]; exact k6 _
      · rw [cond_f (decide_eq_false c1)]
        by_cases c2 : g.Kind = 4
        · rw [cond_t (decide_eq_true c2)]; exact k6 _
        · rw [cond_f (decide_eq_false c2)]; exact k6 _
  unfold p_Good_k4
  by_cases c1 : g.Kind = 1
  · rw [cond_t (decide_eq_true c1)]
    cases decide (((g.Ends.length : Nat) : Int) = 0) <;> exact ⟨_, rfl⟩
  · rw [cond_f (decide_eq_false c1)]
    by_cases c2 : g.Kind = 2
    · rw [cond_t (decide_eq_true c2)]; exact k5 _
    · rw [cond_f (decide_eq_false c2)]; exact k5 _
/-- What is known of good data that are no collection. -/
structure GoodG (F : Nat) (g : TImpl_Geom) (s : Nat) : Prop where
  s2 : 2 ≤ s
  lay : 1 ≤ g.Layout
  str : p_Stride g.Layout = some (s : Int)
  str' : p_Layout_Stride g.Layout = some (s : Int)
  s9 : g.Layout ≤ 9 → s ≤ 9
  s5 : 5 ≤ g.Layout → g.Layout = s
  dvd : g.Flat.length % s = 0
  kids : g.Kids = []
  endss : g.Kind ≠ 6 → g.Endss = []
  k4 : p_Good_k4 g F s () = some true
theorem good_b {g : TImpl_Geom} (W : Wf g) {F : Nat} (hF : gF g ≤ F) (R : TImpl_Geom → Option Bool) (h7 : g.Kind ≠ 7) : ∃ b, p_Good_b R F g = some b ∧ (b = true → ∃ s, GoodG F g s) := by
  obtain ⟨s, hs, h1, h2⟩ := stride_t g.Layout
  unfold p_Good_b
  rw [hs, Option.bind_some, cond_f (decide_eq_false h7)]
  by_cases c0 : s = 0
  · rw [cond_t (decide_eq_true (by omega))]; exact ⟨_, rfl, fun h => by cases h⟩
  rw [cond_f (decide_eq_false (by omega)), need_pos (by omega)]
  obtain ⟨b1, b2, b3, b4, b5⟩ := h1 c0
  by_cases c1 : Int.tmod ((g.Flat.length : Nat) : Int) (s : Int) = 0
  · rw [cond_f (nF c1)]
    by_cases c2 : (0 : Int) < ((g.Kids.length : Nat) : Int)
    · rw [cond_t (decide_eq_true c2)]; exact ⟨_, rfl, fun h => by cases h⟩
    rw [cond_f (decide_eq_false c2)]
    obtain ⟨b, hb⟩ := good_k4_t W hF (s := (s : Int)) (by omega)
    have hd : g.Flat.length % s = 0 := by
      have : Int.tmod ((g.Flat.length : Nat) : Int) (s : Int) = ((g.Flat.length % s : Nat) : Int) := by
        rw [Int.tmod_eq_emod_of_nonneg (by omega)]; rfl
      omega
    have hkids : g.Kids = [] := List.length_eq_zero_iff.1 (by omega)
    by_cases c3 : (0 : Int) < ((g.Endss.length : Nat) : Int)
    · rw [cond_t (decide_eq_true c3)]
      by_cases c4 : g.Kind = 6
      · rw [cond_f (nF c4), hb]
        exact ⟨b, rfl, fun h => ⟨s, b2, b1, hs, b3, b4, b5, hd, hkids, fun h => absurd c4 h, by rw [hb, h]⟩⟩
      · rw [cond_t (nT c4)]; exact ⟨_, rfl, fun h => by cases h⟩
    · rw [cond_f (decide_eq_false c3), hb]
      exact ⟨b, rfl, fun h => ⟨s, b2, b1, hs, b3, b4, b5, hd, hkids, fun _ => List.length_eq_zero_iff.1 (by omega), by rw [hb, h]⟩⟩
  · rw [cond_t (nT c1)]; exact ⟨_, rfl, fun h => by cases h⟩
theorem good_t : ∀ (N : Nat) (g : TImpl_Geom), gF g ≤ N → WfG g → ∀ F, gF g < F → ∃ b, p_Good F g = some b ∧ (b = true → g.Kind ≠ 7 → ∃ s, GoodG (F - 1) g s) := by
  intro N
  induction N with
  | zero => intro g h hw; have := hw.tell.big.1; omega
  | succ N ih =>
    intro g h hw F hF
    have W := hw.tell
    obtain ⟨G, rfl⟩ : ∃ G, F = G + 1 := ⟨F - 1, by omega⟩
    show ∃ b, p_Good_b (fun a0 => p_Good G a0) G g = some b ∧ (b = true → g.Kind ≠ 7 → ∃ s, GoodG G g s)
    by_cases c7 : g.Kind = 7
    · obtain ⟨s, hs, -, -⟩ := stride_t g.Layout
      unfold p_Good_b
      rw [hs, Option.bind_some, cond_t (decide_eq_true c7)]
      have h3 := tot_loop (L := g.Kids.length) (P := fun _ => True) (Post := fun o : Sum Unit Bool => True) (fun (s : Unit) i => i) (p_Good_l3 g G (fun a0 => p_Good G a0)) (fun K s _ => by
        unfold p_Good_l3; dsimp only; rw [cond_f (decide_eq_false (by omega))]; exact ⟨_, rfl, trivial⟩) (fun K s i hi _ => by
        have hk := W.kid _ (List.getElem_mem hi)
        obtain ⟨b, hb, -⟩ := ih _ (by omega) hk.1 G (by omega)
        obtain ⟨n, hn⟩ := layoutOf_t _ _ (Nat.le_refl _) hk.1 G (by omega)
        by_cases cc : b = true ∧ (g.Layout ≠ 0 → n = g.Layout)
        · refine .inr ⟨(), trivial, ?_⟩
          unfold p_Good_l3; dsimp only
          rw [cond_t (decide_eq_true (by omega)), idx_get (List.getElem?_eq_getElem hi), Option.bind_some, hb, Option.bind_some, cc.1, cond_f (rfl : (!true) = false), need_pos (inM hi W.kids), succ_cast]
          by_cases c0 : g.Layout = 0
          · rw [cond_f (nF c0)]
          · rw [cond_t (nT c0), hn, Option.bind_some, cond_f (nF (cc.2 c0))]
        · refine .inl ⟨.inr false, ?_, trivial⟩
          unfold p_Good_l3; dsimp only
          rw [cond_t (decide_eq_true (by omega)), idx_get (List.getElem?_eq_getElem hi), Option.bind_some, hb, Option.bind_some]
          cases b with
          | false => rw [cond_t (rfl : (!false) = true)]
          | true =>
            rw [cond_f (rfl : (!true) = false), need_pos (inM hi W.kids)]
            have c0 : g.Layout ≠ 0 := fun h => cc ⟨rfl, fun h2 => absurd h h2⟩
            rw [cond_t (nT c0), hn, Option.bind_some, cond_t (nT fun h => cc ⟨rfl, fun _ => h⟩)]) G 0 () (by have := W.big; omega) (by omega) trivial
      obtain ⟨o, h4, -⟩ := h3
      rw [show ((0 : Nat) : Int) = 0 from rfl] at h4
      rw [h4, Option.bind_some]
      cases o with
      | inr r => exact ⟨_, rfl, fun _ h => absurd c7 h⟩
      | inl v =>
        rw [aft_inl]
        unfold p_Good_k1 p_Good_k2
        cases decide ((0 : Int) ≤ g.Layout) <;> exact ⟨_, rfl, fun _ h => absurd c7 h⟩
    · obtain ⟨b, hb, h1⟩ := good_b W (show gF g ≤ G by omega) (fun a0 => p_Good G a0) c7
      exact ⟨b, hb, fun h _ => h1 h⟩
theorem iter_one {S ρ : Type} (b : (S → Option ρ) → S → Option ρ) (n : Nat) (s : S) : iter b (n + 1) s = b (iter b n) s := rfl
/-- The test of one geometry. -/
theorem gGood_p {g : TImpl_Geom} (hw : WfG g) {F : Nat} (hF : gF g + 10 ≤ F) : ∃ b, p_gGood F [g] = some b ∧ (b = true → (g.Kind ≠ 7 → ∃ s, GoodG (F - 1) g s) ∧ p_gLayouts F g 9 = some true ∧ ∃ n, p_Weight F g 2000 = some n ∧ ¬ IntKind.i64.wrap (2000 - n) < 0) := by
  obtain ⟨G, rfl⟩ : ∃ G, F = G + 2 := ⟨F - 2, by omega⟩
  have hlen : (([g] : List TImpl_Geom).length : Int) = 1 := rfl
  have hi0 : idx [g] (0 : Int) = some g := rfl
  obtain ⟨n, hn⟩ := weight_t _ g (Nat.le_refl _) hw (G + 2) (by omega) 2000
  obtain ⟨c, hc⟩ := layouts_t 9 _ g (Nat.le_refl _) hw (G + 2) (by omega)
  obtain ⟨b, hb, hb2⟩ := good_t _ g (Nat.le_refl _) hw (G + 2) (by omega)
  have small : p_gSmall (G + 2) [g] = some (!decide (IntKind.i64.wrap (2000 - n) < 0) && c) := by
    unfold p_gSmall
    rw [iter_one]
    obtain ⟨K, hK⟩ : ∃ K, K = iter (p_gSmall_l2 [g] (G + 2)) (G + 1) := ⟨_, rfl⟩
    rw [← hK]
    unfold p_gSmall_l2
    dsimp only
    rw [hlen, cond_t (decide_eq_true (by omega)), hi0, Option.bind_some, hn, Option.bind_some]
    by_cases c1 : IntKind.i64.wrap (2000 - n) < 0
    · rw [cond_t (decide_eq_true c1), decide_eq_true c1]; rfl
    · rw [cond_f (decide_eq_false c1), decide_eq_false c1, hc, Option.bind_some]
      cases c with
      | false => rfl
      | true =>
        rw [cond_f (rfl : (!true) = false), need_pos (in64 (by omega) (by omega)), hK, iter_one]
        unfold p_gSmall_l2
        dsimp only
        rw [hlen, cond_f (decide_eq_false (by omega)), Option.bind_some, aft_inl]
        rfl
  unfold p_gGood
  rw [small, Option.bind_some]
  cases hsm : (!decide (IntKind.i64.wrap (2000 - n) < 0) && c) with
  | false => exact ⟨false, rfl, fun h => by cases h⟩
  | true =>
    rw [cond_f (rfl : (!true) = false)]
    rw [Bool.and_eq_true] at hsm
    have e : iter (p_gGood_l2 [g] (G + 2)) (G + 2) (0 : Int) = some (if b = true then .inl () else .inr false) := by
      rw [iter_one]
      obtain ⟨K, hK⟩ : ∃ K, K = iter (p_gGood_l2 [g] (G + 2)) (G + 1) := ⟨_, rfl⟩
      rw [← hK]
      unfold p_gGood_l2
      rw [hlen, cond_t (decide_eq_true (by omega)), hi0, Option.bind_some, hb, Option.bind_some]
      cases b with
      | false => rfl
      | true =>
        rw [cond_f (rfl : (!true) = false), need_pos (in64 (by omega) (by omega)), hK, iter_one]
        unfold p_gGood_l2
        rw [hlen, cond_f (decide_eq_false (by omega))]
        rfl
    rw [e, Option.bind_some]
    cases b with
    | false => exact ⟨false, rfl, fun h => by cases h⟩
    | true =>
      exact ⟨true, rfl, fun _ => ⟨fun h => hb2 rfl h, by rw [hc, hsm.2], n, hn, by simpa using hsm.1⟩⟩
/-- The test of sizes. -/
theorem zzFits2_p {g : TImpl_Geom} {F : Nat} (hF : gF g < F) (hw : WfG g) : ∃ b, p_zzFits2 F g = some b ∧ (b = true → g.Flat.length ≤ 2147483647 ∧ g.Ends.length ≤ 2147483647 ∧ g.Endss.length ≤ 2147483647 ∧ g.Kids.length ≤ 2147483647 ∧ ∀ l ∈ g.Endss, l.length ≤ 2147483647) := by
  have W := hw.tell
  unfold p_zzFits2
  by_cases c1 : (2147483647 : Int) < ((g.Flat.length : Nat) : Int)
  · rw [cond_t (decide_eq_true c1)]; exact ⟨_, rfl, fun h => by cases h⟩
  rw [cond_f (decide_eq_false c1)]
  by_cases c2 : (2147483647 : Int) < ((g.Ends.length : Nat) : Int)
  · rw [cond_t (decide_eq_true c2)]; exact ⟨_, rfl, fun h => by cases h⟩
  rw [cond_f (decide_eq_false c2)]
  have h3 : ∃ b, p_zzFits3 F g.Endss = some b ∧ (b = true → g.Endss.length ≤ 2147483647 ∧ ∀ l ∈ g.Endss, l.length ≤ 2147483647) := by
    unfold p_zzFits3
    by_cases c3 : (2147483647 : Int) < ((g.Endss.length : Nat) : Int)
    · rw [cond_t (decide_eq_true c3)]; exact ⟨_, rfl, fun h => by cases h⟩
    rw [cond_f (decide_eq_false c3)]
    have h4 := scan_loop0 g.Endss (p_zzFits3_l2 g.Endss) (fun l => decide (l.length ≤ 2147483647)) false (fun K k hk => by
      unfold p_zzFits3_l2; rw [cond_f (decide_eq_false (by omega))]) (fun K k x hx => by
      have hk := (List.getElem?_eq_some_iff.1 hx).1
      unfold p_zzFits3_l2
      rw [cond_t (decide_eq_true (by omega)), idx_get hx, Option.bind_some]
      by_cases c4 : x.length ≤ 2147483647
      · rw [cond_f (decide_eq_false (by omega)), need_pos (in64 (by omega) (by omega)), if_pos (decide_eq_true c4), succ_cast]
      · rw [cond_t (decide_eq_true (by omega)), if_neg (by simpa using c4)]) (F := F) (by have := W.big; omega)
    rw [h4, Option.bind_some]
    by_cases c5 : (g.Endss.all fun l => decide (l.length ≤ 2147483647)) = true
    · rw [if_pos c5, aft_inl]
      exact ⟨true, rfl, fun _ => ⟨by omega, fun l hl => of_decide_eq_true (List.all_eq_true.1 c5 l hl)⟩⟩
    · rw [if_neg c5, aft_inr]; exact ⟨_, rfl, fun h => by cases h⟩
  obtain ⟨b, hb, h5⟩ := h3
  rw [hb, Option.bind_some]
  cases b with
  | false => exact ⟨_, rfl, fun h => by cases h⟩
  | true =>
    rw [cond_f (rfl : (!true) = false)]
    by_cases c6 : (2147483647 : Int) < ((g.Kids.length : Nat) : Int)
    · rw [cond_t (decide_eq_true c6)]; exact ⟨_, rfl, fun h => by cases h⟩
    rw [cond_f (decide_eq_false c6)]
    exact ⟨_, rfl, fun _ => ⟨by omega, by omega, (h5 rfl).1, by omega, (h5 rfl).2⟩⟩
end Go.Proofs.YtdpkjmoeapibnaaDoor.Wk
