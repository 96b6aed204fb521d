/- Proved: the law of the inner check of numbers. -/
import Derived.Test.YtdpkjmoeapibnaaDoorGEnd
namespace Go.Proofs.YtdpkjmoeapibnaaDoor.Wk
open Go.Vm
set_option linter.unusedVariables false
set_option linter.unusedSimpArgs false
theorem p1_mod {n s : Nat} (hs : 2 ≤ s) (h : n % s = 0) : (n + 1) % s ≠ 0 := by
  obtain ⟨k, hk⟩ := Nat.dvd_of_mod_eq_zero h
  rw [hk, Nat.mul_add_mod, Nat.mod_eq_of_lt (by omega)]
  omega
theorem tm (n s : Nat) : Int.tmod ((n : Nat) : Int) (s : Int) = ((n % s : Nat) : Int) := rfl
theorem ver_loop {y : TGeom_Polygon} {s : Nat} {q : Int} (hs : 2 ≤ s) (hst : y.geom2.geom1.geom0.stride = (s : Int)) (hle : y.geom2.ends.length ≤ 2147483647) : ∀ (G i o : Nat), y.geom2.ends.length - i < G → i ≤ y.geom2.ends.length → o % s = 0 → EndsG (s : Int) q (o : Int) (y.geom2.ends.drop i) →
    iter (p_Verify_l2 y) G ((o : Int), (i : Int)) = some (.inl q) := by
  intro G
  induction G with
  | zero => intro i o h; omega
  | succ G ih =>
    intro i o h hi ho hE
    show p_Verify_l2 y (iter (p_Verify_l2 y) G) _ = _
    obtain ⟨K, hK⟩ : ∃ K, K = iter (p_Verify_l2 y) G := ⟨_, rfl⟩
    rw [← hK] at ih ⊢
    unfold p_Verify_l2
    dsimp only
    by_cases hil : i < y.geom2.ends.length
    · rw [List.drop_eq_getElem_cons hil] at hE
      obtain ⟨h1, h2, h3⟩ := hE
      obtain ⟨x, hx⟩ : ∃ x, x = y.geom2.ends[i] := ⟨_, rfl⟩
      rw [← hx] at h1 h2 h3
      obtain ⟨n, rfl⟩ : ∃ n : Nat, x = (n : Int) := ⟨x.toNat, by omega⟩
      have e1 : ((n : Int) - (o : Int)) = ((n - o : Nat) : Int) := by omega
      rw [e1, tm] at h2
      have h2' : (n - o) % s = 0 := by omega
      have hn : n % s = 0 := by
        have := Nat.dvd_add (Nat.dvd_of_mod_eq_zero h2') (Nat.dvd_of_mod_eq_zero ho)
        rw [show n - o + o = n by omega] at this
        exact Nat.mod_eq_zero_of_dvd this
      rw [cond_t (decide_eq_true (by omega)), idx_get (List.getElem?_eq_getElem hil), Option.bind_some, ← hx, hst, need_pos (by omega), tm, hn, cond_f (nF (show ((0 : Nat) : Int) = 0 from rfl)), cond_f (decide_eq_false (by omega)), need_pos (in64 (by omega) (by omega)), succ_cast]
      exact ih (i + 1) n (by omega) (by omega) hn h3
    · rw [cond_f (decide_eq_false (by omega))]
      rw [List.drop_eq_nil_of_le (by omega)] at hE
      have : (o : Int) = q := hE
      rw [this]
theorem ver_p {g : TImpl_Geom} {F s : Nat} (hs : 2 ≤ s) (hst : p_Layout_Stride g.Layout = some (s : Int)) (hl : g.Flat.length ≤ 4000000000) (he : g.Ends.length ≤ 2147483647) (hk : g.Kind = 2 ∨ g.Kind = 8 ∨ g.Kind = 3 ∨ g.Kind = 5) (hF : g.Ends.length < F)
    (hE : g.Flat.length % s = 0 → g.Kind = 3 ∨ g.Kind = 5 → EndsG (s : Int) (g.Flat.length : Int) 0 g.Ends) : p_Verify F g = some (decide (g.Flat.length % s = 0), true) := by
  have fl : p_floats g.Flat = some g.Flat := by unfold p_floats; rw [need_pos (by omega)]
  have il : p_ints g.Ends = some g.Ends := by unfold p_ints; rw [need_pos (by omega)]
  have sn : ((s : Nat) : Int) ≠ 0 := by omega
  have line : (cond (!decide ((s : Int) = (s : Int))) (some (false, true)) (cond (decide ((s : Int) = (0 : Int))) (cond (!decide (((g.Flat.length : Nat) : Int) = (0 : Int))) (some (false, true)) (some (true, true))) (need ((s : Int) ≠ 0) ((cond (!decide ((Int.tmod ((g.Flat.length : Nat) : Int) (s : Int)) = (0 : Int))) (some (false, true)) (some (true, true))))))) = some (decide (g.Flat.length % s = 0), true) := by
    rw [cond_f (nF rfl), cond_f (decide_eq_false sn), need_pos sn, tm]
    by_cases h : g.Flat.length % s = 0
    · rw [h, cond_f (nF (show ((0 : Nat) : Int) = 0 from rfl))]; rfl
    · rw [cond_t (nT (by omega)), decide_eq_false h]
  have rings : ∀ y : TGeom_Polygon, y.geom2.geom1.geom0.stride = (s : Int) → y.geom2.geom1.geom0.flatCoords = g.Flat → y.geom2.ends = g.Ends → (g.Kind = 3 ∨ g.Kind = 5) →
      (cond (!decide ((s : Int) = (s : Int))) (some (false, true)) (cond (decide ((s : Int) = (0 : Int))) (cond (!decide (((g.Flat.length : Nat) : Int) = (0 : Int))) (some (false, true)) (cond (!decide (((g.Ends.length : Nat) : Int) = (0 : Int))) (some (false, true)) (some (true, true)))) (need ((s : Int) ≠ 0) ((cond (!decide ((Int.tmod ((g.Flat.length : Nat) : Int) (s : Int)) = (0 : Int))) (some (false, true)) ((iter (p_Verify_l2 y) F ((0 : Int), (0 : Int))).bind fun o => aft o some (p_Verify_k1 y))))))) = some (decide (g.Flat.length % s = 0), true) := fun y y1 y2 y3 hk2 => by
    rw [cond_f (nF rfl), cond_f (decide_eq_false sn), need_pos sn, tm]
    by_cases h : g.Flat.length % s = 0
    · have hlp := ver_loop (y := y) (s := s) (q := (g.Flat.length : Int)) hs y1 (by rw [y3]; omega) F 0 0 (by rw [y3]; omega) (by omega) (Nat.zero_mod _) (by rw [List.drop_zero, y3]; exact hE h hk2)
      have hlp' : iter (p_Verify_l2 y) F ((0 : Int), (0 : Int)) = some (.inl (g.Flat.length : Int)) := hlp
      rw [h, cond_f (nF (show ((0 : Nat) : Int) = 0 from rfl)), hlp', Option.bind_some, aft_inl]
      unfold p_Verify_k1
      rw [y2, cond_f (nF rfl)]; rfl
    · rw [cond_t (nT (by omega)), decide_eq_false h]
  unfold p_Verify
  rw [fl, Option.bind_some, cond_f (decide_eq_false (by omega))]
  rcases hk with h | h | h | h
  · rw [cond_t (decide_eq_true h)]
    unfold p_NewLineStringFlat
    rw [hst, Option.bind_some, Option.bind_some]
    dsimp only
    rw [hst, Option.bind_some]
    exact line
  · rw [cond_f (decide_eq_false (by omega)), cond_t (decide_eq_true h)]
    unfold p_NewLinearRingFlat
    rw [hst, Option.bind_some, Option.bind_some]
    dsimp only
    rw [hst, Option.bind_some]
    exact line
  · rw [cond_f (decide_eq_false (by omega)), cond_f (decide_eq_false (by omega)), cond_t (decide_eq_true h), il, Option.bind_some]
    unfold p_NewPolygonFlat
    rw [hst, Option.bind_some, Option.bind_some]
    dsimp only
    rw [hst, Option.bind_some]
    exact rings ⟨⟨⟨⟨g.Layout, (s : Int), g.Flat, 0⟩⟩, g.Ends⟩⟩ rfl rfl rfl (.inl h)
  · rw [cond_f (decide_eq_false (by omega)), cond_f (decide_eq_false (by omega)), cond_f (decide_eq_false (by omega)), cond_f (decide_eq_false (by omega)), cond_t (decide_eq_true h), il, Option.bind_some]
    unfold p_NewMultiLineStringFlat
    rw [hst, Option.bind_some, Option.bind_some]
    dsimp only
    rw [hst, Option.bind_some]
    exact rings ⟨⟨⟨⟨g.Layout, (s : Int), g.Flat, 0⟩⟩, g.Ends⟩⟩ rfl rfl rfl (.inr h)
theorem ends_of {g : TImpl_Geom} {F s : Nat} (G : GoodG F g s) (hw : Wf g) (hF : g.Ends.length < F) (hkd : g.Kind = 3 ∨ g.Kind = 5) (hle : g.Ends.length ≤ 2147483647) : EndsG (s : Int) (g.Flat.length : Int) 0 g.Ends := by
  have k4 := G.k4
  have h2 := G.s2
  obtain ⟨q, b, hq, hq2⟩ := goodEnds_p (s := (s : Int)) (by omega) (l := g.Ends) (fun x hx => hw.ends.2 x hx) (by omega) (F := F) hF
  have k6 : p_Good_k6 g F (s : Int) true = some true → EndsG (s : Int) (g.Flat.length : Int) 0 g.Ends := fun h => by
    unfold p_Good_k6 at h
    rw [cond_t rfl, show decide (g.Kind = (4 : Int)) = false by rcases hkd with h | h <;> rw [h] <;> rfl, hq, Option.bind_some] at h
    cases b with
    | false => cases h
    | true =>
      have h := of_decide_eq_true (Option.some.inj h)
      have := hq2 rfl
      rw [← h]; exact this
  unfold p_Good_k4 at k4
  rcases hkd with h | h
  · rw [cond_f (decide_eq_false (by omega)), cond_f (decide_eq_false (by omega)), decide_eq_false (by omega : ¬ g.Kind = 8)] at k4
    unfold p_Good_k5 at k4
    rw [cond_f rfl, cond_t (decide_eq_true h), decide_eq_true h] at k4
    exact k6 k4
  · rw [cond_f (decide_eq_false (by omega)), cond_f (decide_eq_false (by omega)), decide_eq_false (by omega : ¬ g.Kind = 8)] at k4
    unfold p_Good_k5 at k4
    rw [cond_f rfl, cond_f (decide_eq_false (by omega)), cond_f (decide_eq_false (by omega)), decide_eq_true h] at k4
    exact k6 k4
theorem kinds_of {g : TImpl_Geom} {F s : Nat} (G : GoodG F g s) : g.Kind = 1 ∨ g.Kind = 2 ∨ g.Kind = 3 ∨ g.Kind = 4 ∨ g.Kind = 5 ∨ g.Kind = 6 ∨ g.Kind = 8 := by
  apply Classical.byContradiction
  intro hn
  have k4 := G.k4
  unfold p_Good_k4 at k4
  rw [cond_f (decide_eq_false (by omega)), cond_f (decide_eq_false (by omega)), decide_eq_false (by omega : ¬ g.Kind = 8)] at k4
  unfold p_Good_k5 at k4
  rw [cond_f rfl, cond_f (decide_eq_false (by omega)), cond_f (decide_eq_false (by omega)), decide_eq_false (by omega : ¬ g.Kind = 5)] at k4
  unfold p_Good_k6 at k4
  rw [cond_f rfl, cond_f (decide_eq_false (by omega))] at k4
  cases k4
theorem law_verify {g : TImpl_Geom} {F : Nat} (hw : WfG g) (hF : gF g + 2147483660 ≤ F) (x : Nat) : p_FnVerifyFlat F g x = some true := by
  have kt : p_FnVerifyFlat_k1 g x F true = some true := by unfold p_FnVerifyFlat_k1; rw [cond_t rfl]
  unfold p_FnVerifyFlat
  obtain ⟨b, hb, hb2⟩ := zzFits2_p (F := F) (by omega) hw
  rw [hb, Option.bind_some]
  cases b with
  | false => rw [cond_t (rfl : (!false) = true)]
  | true =>
    obtain ⟨hl, he, -, -, -⟩ := hb2 rfl
    rw [cond_f (rfl : (!true) = false)]
    obtain ⟨c, hc, hc2⟩ := gGood_p hw (F := F) (by omega)
    have hp : p_gPlain F g = some (c && !decide (g.Kind = 7)) := by
      unfold p_gPlain; rw [hc, Option.bind_some]; cases c <;> rfl
    rw [hp, Option.bind_some]
    cases hcc : (c && !decide (g.Kind = 7)) with
    | false => rw [cond_t (rfl : (!false) = true), kt]
    | true =>
      rw [cond_f (rfl : (!true) = false)]
      simp only [Bool.and_eq_true, Bool.not_eq_true', decide_eq_false_iff_not] at hcc
      obtain ⟨s, G⟩ := (hc2 hcc.1).1 hcc.2
      have hkk := kinds_of G
      have h2 := G.s2
      by_cases h1 : g.Kind = 1
      · rw [cond_t (decide_eq_true h1), kt]
      rw [cond_f (decide_eq_false h1)]
      by_cases h4 : g.Kind = 4
      · rw [cond_t (decide_eq_true h4), kt]
      rw [cond_f (decide_eq_false h4)]
      by_cases h6 : g.Kind = 6
      · rw [decide_eq_true h6, kt]
      rw [decide_eq_false h6]
      have hk : g.Kind = 2 ∨ g.Kind = 8 ∨ g.Kind = 3 ∨ g.Kind = 5 := by omega
      unfold p_FnVerifyFlat_k1
      have v1 := ver_p (g := ⟨g.Kind, g.Layout, g.SRID, g.Flat ++ [x], g.Ends, g.Endss, g.Kids⟩) (F := F) h2 G.str' (by simp; omega) (by simp; omega) hk (by simp; omega) (fun h => by
        exfalso
        simp only [List.length_append, List.length_singleton] at h
        exact p1_mod h2 G.dvd h)
      have v2 := ver_p (g := g) (F := F) h2 G.str' (by omega) (by omega) hk (by omega) (fun _ hkd => ends_of G hw.tell (by omega) hkd (by omega))
      rw [cond_f rfl, need_pos (by omega), need_pos (by simp; omega), v1, Option.bind_some, v2, Option.bind_some]
      dsimp only
      rw [cond_t rfl, show decide ((g.Flat ++ [x]).length % s = 0) = false from decide_eq_false (by
        rw [List.length_append, List.length_singleton]; exact p1_mod h2 G.dvd), cond_t (rfl : (!false) = true), decide_eq_true G.dvd, cond_t rfl]
end Go.Proofs.YtdpkjmoeapibnaaDoor.Wk
