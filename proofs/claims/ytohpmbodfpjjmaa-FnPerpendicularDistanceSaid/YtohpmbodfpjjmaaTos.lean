/- Proved: what the laws' test of whole places in a range tells. -/
import Derived.Test.YtohpmbodfpjjmaaPPd
import Derived.Test.YtohpmbodfpjjmaaPureKit
import Derived.Test.YtohpmbodfpjjmaaFltTo
import Derived.Test.YtohpmbodfpjjmaaExact4s
namespace Go.Proofs.Ytohpmbodfpjjmaa.Wk
open Go.Vm
set_option linter.unusedVariables false
set_option linter.unusedSimpArgs false
theorem wholeTo_p {F : Nat} (hF : BigF F) (m : Nat) (l : List Nat) (hl : l.length < 1000) : p_wholeTo F m l = some (l.all (Flt.wT m)) := by
  have hF' : 1073741826 ≤ F := hF
  unfold p_wholeTo
  have outer : iter (p_wholeTo_l2 m l) F (0 : Int) = some (if l.all (Flt.wT m) = true then Sum.inl () else Sum.inr false) := by
    refine scan_loop0 l _ _ _ (fun K k hk => ?_) (fun K k x hx => ?_) (by omega)
    · unfold p_wholeTo_l2; rw [cond_f (decide_eq_false (by omega))]
    · have hk := (List.getElem?_eq_some_iff.1 hx).1
      unfold p_wholeTo_l2
      rw [cond_t (decide_eq_true (by omega)), idx_get hx, Option.bind_some, succ_cast]
      cases g1 : feq x (Flt.truncN x) with
      | false => rw [cond_t (show (!false) = true from rfl), if_neg (by simp [Flt.wT, g1])]
      | true =>
        rw [cond_f (show (!true) = false from rfl)]
        cases g2 : fgt (Flt.fabs x) m with
        | true => rw [cond_t rfl, if_neg (by simp [Flt.wT, g2])]
        | false => rw [cond_f rfl, need_pos (in64 (by omega) (by omega)), if_pos (by simp [Flt.wT, g1, g2])]
  rw [outer, Option.bind_some]
  split
  · rename_i h; rw [h, aft_inl]; rfl
  · rename_i h; rw [aft_inr, show l.all (Flt.wT m) = false by simpa using h]
def planeOk (m : Nat) (p : TImpl_P2) : Bool := Flt.wT m p.X && Flt.wT m p.Y
theorem planeTo_p {F : Nat} (hF : BigF F) (m : Nat) (l : List TImpl_P2) (hl : l.length < 1000) : p_planeTo F m l = some (l.all (planeOk m)) := by
  have hF' : 1073741826 ≤ F := hF
  unfold p_planeTo
  have outer : iter (p_planeTo_l2 m l F) F (0 : Int) = some (if l.all (planeOk m) = true then Sum.inl () else Sum.inr false) := by
    refine scan_loop0 l _ _ _ (fun K k hk => ?_) (fun K k x hx => ?_) (by omega)
    · unfold p_planeTo_l2; rw [cond_f (decide_eq_false (by omega))]
    · have hk := (List.getElem?_eq_some_iff.1 hx).1
      unfold p_planeTo_l2
      rw [cond_t (decide_eq_true (by omega)), idx_get hx, Option.bind_some, succ_cast, wholeTo_p hF m _ (by simp), Option.bind_some]
      have e : [x.X, x.Y].all (Flt.wT m) = planeOk m x := by simp [planeOk]
      rw [e]
      cases planeOk m x with
      | false => rw [cond_t (show (!false) = true from rfl), if_neg (by simp)]
      | true => rw [cond_f (show (!true) = false from rfl), need_pos (in64 (by omega) (by omega)), if_pos rfl]
  rw [outer, Option.bind_some]
  split
  · rename_i h; rw [h, aft_inl]; rfl
  · rename_i h; rw [aft_inr, show l.all (planeOk m) = false by simpa using h]
/-- p is the place (x, y), whole -/
def At (p : TImpl_P2) (x y : Int) : Prop := Flt.I p.X x ∧ Flt.I p.Y y
theorem at_of {m : Nat} {k : Int} (hk : Flt.I m k) (hk0 : 0 ≤ k) (hk1 : k ≤ 4503599627370496) {p : TImpl_P2} (h : planeOk m p = true) : ∃ x y, At p x y ∧ (-k ≤ x ∧ x ≤ k) ∧ (-k ≤ y ∧ y ≤ k) := by
  simp only [planeOk, Bool.and_eq_true] at h
  obtain ⟨x, h1, h2⟩ := Flt.wT_int hk hk0 hk1 (Flt.fneg_int hk) h.1
  obtain ⟨y, h3, h4⟩ := Flt.wT_int hk hk0 hk1 (Flt.fneg_int hk) h.2
  exact ⟨x, y, ⟨h1, h3⟩, h2, h4⟩
/-- d is the exact point (x, y) -/
def DydAt (d : TSpec_Point) (x y : Rat) : Prop := Dyd d.X x 2 1074 ∧ Dyd d.Y y 2 1074
theorem exactly_p {F : Nat} (hF : BigF F) {p : TImpl_P2} {x y : Int} (h : At p x y) (wx : p.X < 18446744073709551616) (wy : p.Y < 18446744073709551616) : ∃ d, p_exactly F p = some d ∧ DydAt d x y := by
  obtain ⟨d1, e1, k1⟩ := dyd_of wx h.1 hF
  obtain ⟨d2, e2, k2⟩ := dyd_of wy h.2 hF
  exact ⟨⟨d1, d2⟩, by simp only [p_exactly, p_PointOf, e1, e2, Option.bind_some], k1, k2⟩
def crossR (ax ay bx b_y cx cy : Rat) : Rat := (bx - ax) * (cy - ay) - (b_y - ay) * (cx - ax)
theorem cross_p {F : Nat} (hF : BigF F) {a b c : TSpec_Point} {ax ay bx b_y cx cy : Rat} (ha : DydAt a ax ay) (hb : DydAt b bx b_y) (hc : DydAt c cx cy) : ∃ d, p_Cross F a b c = some d ∧ Dyd d (crossR ax ay bx b_y cx cy) 567 8592 := by
  obtain ⟨d1, e1, k1⟩ := dyd_sub hb.1 ha.1 (by omega) (by omega) hF
  obtain ⟨d2, e2, k2⟩ := dyd_sub hc.2 ha.2 (by omega) (by omega) hF
  obtain ⟨d3, e3, k3⟩ := dyd_mul k1 k2 (by omega) (by omega) hF
  obtain ⟨d4, e4, k4⟩ := dyd_sub hb.2 ha.2 (by omega) (by omega) hF
  obtain ⟨d5, e5, k5⟩ := dyd_sub hc.1 ha.1 (by omega) (by omega) hF
  obtain ⟨d6, e6, k6⟩ := dyd_mul k4 k5 (by omega) (by omega) hF
  obtain ⟨d7, e7, k7⟩ := dyd_sub k3 k6 (by omega) (by omega) hF
  exact ⟨d7, by simp only [p_Cross, e1, e2, e3, e4, e5, e6, e7, Option.bind_some], k7⟩
end Go.Proofs.Ytohpmbodfpjjmaa.Wk
