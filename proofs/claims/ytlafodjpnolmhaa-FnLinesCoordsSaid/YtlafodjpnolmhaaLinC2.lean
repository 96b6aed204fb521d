/- Proved: the law of the places of a polygon or of lines. -/
import Derived.Test.YtlafodjpnolmhaaLinC
namespace Go.Proofs.Ytlafodjpnolmhaa.Wk
open Go.Vm
set_option linter.unusedVariables false
set_option linter.unusedSimpArgs false
theorem lines_p {g : TImpl_Geom} {F s : Nat} (S : Small (F - 1) g s) (h9 : s ≤ 9) (hw : Wf g) (hkd : g.Kind = 3 ∨ g.Kind = 5) (hF : 4000 < F) : p_FnLinesCoords_k1 g F () = some true := by
  have k4 := S.k4
  have few := S.few
  have h2 := S.s2
  obtain ⟨q, b, hq, hq2⟩ := goodEnds_p (s := (s : Int)) (by omega) (l := g.Ends) (fun x hx => hw.ends.2 x hx) (by omega) (F := F - 1) (by omega)
  have k6 : p_Good_k6 g (F - 1) (s : Int) true = some true → EndsG (s : Int) (g.Flat.length : Int) 0 g.Ends := fun h => by
    unfold p_Good_k6 at h
    rw [cond_t rfl, show decide (g.Kind = (4 : Int)) = false by rcases hkd with h | h <;> rw [h] <;> rfl, hq, Option.bind_some] at h
    cases b with
    | false => cases h
    | true =>
      have h := of_decide_eq_true (Option.some.inj h)
      have := hq2 rfl
      rw [← h]; exact this
  have he : EndsG (s : Int) (g.Flat.length : Int) 0 g.Ends := by
    unfold p_Good_k4 at k4
    rcases hkd with h | h
    · rw [cond_f (decide_eq_false (by omega)), cond_f (decide_eq_false (by omega)), decide_eq_false (by omega : ¬ g.Kind = 8)] at k4
      unfold p_Good_k5 at k4
      rw [cond_f rfl, cond_t (decide_eq_true h), decide_eq_true h] at k4
      exact k6 k4
    · rw [cond_f (decide_eq_false (by omega)), cond_f (decide_eq_false (by omega)), decide_eq_false (by omega : ¬ g.Kind = 8)] at k4
      unfold p_Good_k5 at k4
      rw [cond_f rfl, cond_f (decide_eq_false (by omega)), cond_f (decide_eq_false (by omega)), decide_eq_true h] at k4
      exact k6 k4
  obtain ⟨kd, y, sr, l, e, es, ks⟩ := g
  have hes : es = [] := S.nil
  have hks : ks = [] := S.kids
  subst hes hks
  have hst : p_Stride y = some (s : Int) := S.str
  have hst' : p_Layout_Stride y = some (s : Int) := S.str'
  obtain ⟨ns, e1, hq3⟩ := EndsG.nat h2 e 0 he
  obtain rfl : e = endsF s 0 ns := e1
  have fewl : l.length + (endsF s 0 ns).length ≤ 1999 := few
  have hfew : l.length + ns.length ≤ 1999 := by rw [← endsF_len ns 0 (t := s)]; exact fewl
  have hlast : lastF s 0 ns ≤ l.length := by have : (l.length : Int) = (lastF s 0 ns : Int) := hq3; omega
  have hall := linesF_all h2 h9 (by omega) ns 0 hlast
  have hlen := linesF_len (t := s) (l := l) ns 0
  have fl : p_floats l = some l := by unfold p_floats; rw [need_pos (by omega)]
  have il : p_ints (endsF s 0 ns) = some (endsF s 0 ns) := by unfold p_ints; rw [need_pos (by rw [endsF_len]; omega)]
  have hi := inflate2_p (F := F) h2 h9 (by omega) (by omega) hlast (by omega)
  have hp := plain2_p (F := F) (linesF s l 0 ns) (by omega) (fun x hx => ⟨(hall x hx).1, fun y hy => ((hall x hx).2 y hy).2⟩) (by omega)
  have hL : p_LinesCoords F (gL kd y sr l s ns) = some (linesF s l 0 ns, true) := by
    unfold p_LinesCoords
    dsimp only [gL]
    rw [fl, Option.bind_some]
    rcases hkd with h | h
    · have h : kd = 3 := h
      rw [cond_f (decide_eq_false (by omega)), cond_f (decide_eq_false (by omega)), cond_f (decide_eq_false (by omega)), cond_t (decide_eq_true h), il, Option.bind_some]
      unfold p_NewPolygonFlat
      rw [hst', Option.bind_some, Option.bind_some]
      dsimp only
      rw [hi, Option.bind_some, hp, Option.bind_some]
    · have h : kd = 5 := h
      rw [cond_f (decide_eq_false (by omega)), cond_f (decide_eq_false (by omega)), cond_f (decide_eq_false (by omega)), cond_f (decide_eq_false (by omega)), cond_f (decide_eq_false (by omega)), cond_t (decide_eq_true h), il, Option.bind_some]
      unfold p_NewMultiLineStringFlat
      rw [hst', Option.bind_some, Option.bind_some]
      dsimp only
      rw [hi, Option.bind_some, hp, Option.bind_some]
  unfold p_FnLinesCoords_k1
  show (p_LinesCoords F (gL kd y sr l s ns)).bind _ = _
  rw [hL, Option.bind_some, cond_t rfl]
  show (p_gPlacess F (gL kd y sr l s ns)).bind _ = _
  rw [gPlacess_p hkd hst h2 h9 (by omega) (by omega) hlast (by omega), Option.bind_some, gRowss_p _ (by omega) hall (by omega), Option.bind_some]
theorem law_lines {g : TImpl_Geom} {F : Nat} (hw : WfG g) (hF : gF g + 2147483660 ≤ F) : p_FnLinesCoords F g = some true := by
  unfold p_FnLinesCoords
  obtain ⟨b, hb, hb2⟩ := zzFits2_p (F := F) (by omega) hw
  rw [hb, Option.bind_some]
  cases b with
  | false => rw [cond_t (rfl : (!false) = true)]
  | true =>
    obtain ⟨hl, he, -, -, -⟩ := hb2 rfl
    rw [cond_f (rfl : (!true) = false)]
    obtain ⟨c, hc, hc2⟩ := small_p hw (F := F) (by omega) hl he
    rw [hc, Option.bind_some]
    cases c with
    | false => rw [cond_t (rfl : (!false) = true)]
    | true =>
      rw [cond_f (rfl : (!true) = false)]
      by_cases h3 : g.Kind = 3
      · obtain ⟨s, S, h9⟩ := hc2 rfl (by omega) (by omega)
        rw [cond_f (nF h3), lines_p S h9 hw.tell (.inl h3) (by omega)]
      · rw [cond_t (nT h3)]
        by_cases h5 : g.Kind = 5
        · obtain ⟨s, S, h9⟩ := hc2 rfl (by omega) (by omega)
          rw [cond_f (nF h5), lines_p S h9 hw.tell (.inr h5) (by omega)]
        · rw [cond_t (nT h5)]
end Go.Proofs.Ytlafodjpnolmhaa.Wk
