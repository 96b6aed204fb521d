/- Proved: the law of the lines that are cleaned ahead of a hull, joined. -/
import Derived.Test.YtohpmbodfpjjmaaDoorHullC
namespace Go.Proofs.YtohpmbodfpjjmaaDoor.Wk
open Go.Vm
set_option linter.unusedVariables false
set_option linter.unusedSimpArgs false
theorem flat_p {F : Nat} (hF : BigF F) {l : List Nat} {k : Int} (h1 : 1 ≤ k) (h2 : k ≤ 8) (hb : l.length < 2147483648) :
    (p_flatTo F k l 4715268809856909312 60 = some ([], false)) ∨ ∃ m, l.length = m * strideN k ∧ m ≤ 60 ∧ p_flatTo F k l 4715268809856909312 60 = some ((List.range m).map (plc (strideN k) l), ((List.range m).map (plc (strideN k) l)).all (planeOk 4715268809856909312)) := by
  have hF' : 1073741826 ≤ F := hF
  obtain ⟨e1, _, hs, hs8⟩ := stride_p h1 h2
  generalize strideN k = s at *
  unfold p_flatTo
  rw [cond_f (decide_eq_false (by omega))]
  unfold p_flatTo_k1
  rw [cond_f (decide_eq_false (by omega)), e1, Option.bind_some, need_pos (by omega)]
  have et : Int.tmod ((l.length : Nat) : Int) (s : Int) = ((l.length % s : Nat) : Int) := by rw [Int.tmod_eq_emod_of_nonneg (by omega)]; rfl
  rw [et]
  by_cases hd : l.length % s = 0
  · rw [cond_f (show (!decide (((l.length % s : Nat) : Int) = 0)) = false by simp [hd]), need_pos (in64 (by omega) (by omega))]
    unfold p_flatTo_k2
    by_cases h60 : ((s : Int) * 60) < ((l.length : Nat) : Int)
    · rw [cond_t (decide_eq_true h60)]; exact .inl rfl
    · rw [cond_f (decide_eq_false h60)]
      right
      have hl : l.length = l.length / s * s := by
        have := Nat.div_add_mod l.length s
        rw [hd, Nat.mul_comm] at this; omega
      generalize hm : l.length / s = m at *
      have hm60 : m ≤ 60 := by
        rcases Nat.lt_or_ge 60 m with h | h
        · exfalso
          have := Nat.mul_le_mul_right s h
          have e : (Nat.succ 60) * s = 61 * s := rfl
          omega
        · exact h
      refine ⟨m, hl, hm60, ?_⟩
      have hlp := flat_loop hs hl hb F 0 (by omega) (by omega)
      simp only [Nat.zero_mul, List.range_zero, List.map_nil] at hlp
      rw [show ((0 : Int), ([] : List TImpl_P2)) = (((0 : Nat) : Int), []) from rfl, hlp, Option.bind_some, aft_inl]
      unfold p_flatTo_k3
      rw [planeTo_p hF _ _ (by simp; omega), Option.bind_some]
  · rw [cond_t (show (!decide (((l.length % s : Nat) : Int) = 0)) = true by simp; omega)]
    unfold p_flatTo_k2
    exact .inl rfl
theorem lawC_p {F : Nat} (hF : BigF F) (k : Int) (l : List Nat) (hw : ∀ x, x ∈ l → x < 18446744073709551616) : p_FnHullClean F k l = some true := by
  have hF' : 1073741826 ≤ F := hF
  unfold p_FnHullClean
  by_cases hb : (2147483647 : Int) < ((l.length : Nat) : Int)
  · rw [cond_t (decide_eq_true hb)]
  · rw [cond_f (decide_eq_false hb)]
    have bad : ∀ r : Option Bool, (p_flatTo F k l 4715268809856909312 60 = some ([], false)) → ((p_flatTo F k l 4715268809856909312 60).bind fun y2 => ((cond (!y2.2) ((p_FnHullClean_k1 k l F y2) true) ((p_FnHullClean_k1 k l F y2) (decide (((y2.1.length : Nat) : Int) < (2 : Int))))))) = some true := fun _ h => by
      rw [h]; rfl
    by_cases h1 : k < 1
    · refine bad none ?_
      unfold p_flatTo
      rw [cond_t (decide_eq_true h1)]; rfl
    · by_cases h2 : 8 < k
      · refine bad none ?_
        unfold p_flatTo
        rw [cond_f (decide_eq_false h1), decide_eq_true h2]; rfl
      · rcases flat_p hF (l := l) (k := k) (by omega) (by omega) (by omega) with h | ⟨m, hl, hm60, hfl⟩
        · exact bad none h
        · rw [hfl, Option.bind_some]
          simp only
          cases hall : ((List.range m).map (plc (strideN k) l)).all (planeOk 4715268809856909312) with
          | false => rw [cond_t (show (!false) = true from rfl)]; rfl
          | true =>
            rw [cond_f (show (!true) = false from rfl)]
            have hlen : (((List.range m).map (plc (strideN k) l)).length : Int) = (m : Int) := by simp
            rw [hlen]
            unfold p_FnHullClean_k1
            by_cases hm2 : (m : Int) < 2
            · rw [cond_t (decide_eq_true hm2)]
            · obtain ⟨s1, s2, hs, hs8⟩ := stride_p (k := k) (by omega) (by omega)
              rw [cond_f (decide_eq_false hm2)]
              generalize strideN k = s at *
              have hX : ∃ X : Nat → Int × Int, Whole2 s m l X := by
                have : ∀ i, ∃ p : Int × Int, i < m → At (plc s l i) p.1 p.2 ∧ (-16777216 ≤ p.1 ∧ p.1 ≤ 16777216) ∧ (-16777216 ≤ p.2 ∧ p.2 ≤ 16777216) := fun i => by
                  by_cases hi : i < m
                  · have := List.all_eq_true.1 hall (plc s l i) (List.mem_map.2 ⟨i, List.mem_range.2 hi, rfl⟩)
                    obtain ⟨x, y, ha, hx, hy⟩ := at_of K24_int (by omega) (by omega) this
                    exact ⟨(x, y), fun _ => ⟨ha, hx, hy⟩⟩
                  · exact ⟨(0, 0), fun h => absurd h hi⟩
                exact ⟨fun i => Classical.choose (this i), fun i hi => Classical.choose_spec (this i) hi⟩
              obtain ⟨X, hX⟩ := hX
              have hms : (m - 1) * s + s = m * s := by
                have : (m - 1 + 1) * s = (m - 1) * s + s := by rw [Nat.add_mul]; omega
                rw [← this]; congr 1; omega
              have hr : p_rowsOf F k l = some ((List.range m).map (row s l)) := by
                unfold p_rowsOf
                have hlp := rows_loop hs hs8 hl (by omega) F 0 (by omega) (by omega)
                simp only [Nat.zero_mul, List.range_zero, List.map_nil] at hlp
                rw [s1, Option.bind_some, show ((0 : Int), ([] : List (List Nat))) = (((0 : Nat) : Int), []) from rfl, hlp, Option.bind_some, aft_inl]
                rfl
              have hlw := law_loop hF hs hs8 hl (by omega) hw (by omega) hX true F 0 none [] (by omega) (by omega) (fun j hj => by cases hj) (by simp)
              have hcd := fun k0 hk => code_loop (X := X) k0 hk hs hs8 hl (by omega) (by omega) hX F 0 none [] (by omega) (by omega) (fun j hj => by cases hj) (by simp)
              have hln := runC_len (s := s) (m := m) (l := l) (sk := skipB X) hl (m - 1) 0 none [] (by omega) (by simp)
              rw [Nat.zero_add] at hln
              rw [hr, Option.bind_some]
              simp only
              rw [hlen, need_pos (in64 (by omega) (by omega))]
              rw [show ((-1 : Int), (0 : Int), ([] : List Nat)) = (lastI none, ((0 : Nat) : Int), []) from rfl, hlw, Option.bind_some, aft_inl, Nat.sub_zero]
              generalize hR : runC (row s l) (skipB X) (m - 1) 0 none [] = R at *
              have hlast := row_len hl (show m - 1 < m by omega)
              unfold p_FnHullClean_k2
              have hrl : ((((List.range m).map (row s l)).length : Nat) : Int) - 1 = ((m - 1 : Nat) : Int) := by simp; omega
              rw [hrl, need_pos (in64 (by omega) (by omega)), at_range _ (by omega), Option.bind_some, need_pos (by omega)]
              have hclean : p_HullClean F k l = some (R ++ row s l (m - 1), true) := by
                have hk0 : p_doorHull k l = some ⟨k, s, l⟩ := by unfold p_doorHull; rw [s2, Option.bind_some]
                have hc : p_convexHullCalculator_cleanRing F ⟨k, s, l⟩ l = some (R ++ row s l (m - 1)) := by
                  unfold p_convexHullCalculator_cleanRing
                  have := hcd ⟨k, s, l⟩ rfl
                  rw [Nat.zero_mul] at this
                  rw [show ((none : Option (List Nat)), (0 : Int), ([] : List Nat)) = (Option.map (row s l) none, ((0 : Nat) : Int), []) from rfl, this, Option.bind_some, aft_inl]
                  unfold p_convexHullCalculator_cleanRing_k1
                  simp only
                  have e1 : (((l.length : Nat) : Int) - (s : Int)) = (((m - 1) * s : Nat) : Int) := by omega
                  have e2 : ((((m - 1) * s : Nat) : Int)).toNat = (m - 1) * s := by omega
                  have e3 : (l.drop ((m - 1) * s)).take (l.length - (m - 1) * s) = row s l (m - 1) := by unfold row; congr 1; omega
                  rw [e1, need_pos (in64 (by omega) (by omega)), e2, need_pos ⟨⟨by omega, trivial⟩, by omega, by omega⟩, e3, need_pos (by omega)]
                unfold p_HullClean p_floats p_DoorClean
                rw [need_pos (by omega), Option.bind_some, hk0, Option.bind_some, hc, Option.bind_some, Option.bind_some, need_pos (by rw [List.length_append]; omega), Option.bind_some]
              have hml : m * s ≤ 60 * 8 := Nat.mul_le_mul hm60 hs8
              rw [hclean, Option.bind_some]
              simp only
              rw [cond_t rfl, sameFloats_p _ (by rw [List.length_append]; omega) (by rw [List.length_append]; omega), Option.bind_some]
end Go.Proofs.YtohpmbodfpjjmaaDoor.Wk
