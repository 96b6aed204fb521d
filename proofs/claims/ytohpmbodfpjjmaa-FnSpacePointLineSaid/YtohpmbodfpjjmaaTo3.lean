/- Proved: what the laws' test of whole places in space tells, and their exact points. -/
import Derived.Test.YtohpmbodfpjjmaaFltTo
import Derived.Test.YtohpmbodfpjjmaaDFl3
namespace Go.Proofs.Ytohpmbodfpjjmaa.Wk
open Go.Vm
set_option linter.unusedVariables false
set_option linter.unusedSimpArgs false
theorem wholeTo_p {F : Nat} (hF : BigF F) (m : Nat) (l : List Nat) (hl : l.length < 1000) : p_wholeTo F m l = some (l.all (Flt.wT m)) := by
  have hF' : 1073741826 ≤ F := hF
  unfold p_wholeTo
  have outer : iter (p_wholeTo_l2 m l) F (0 : Int) = some (if l.all (Flt.wT m) = true then Sum.inl () else Sum.inr false) := by
    refine scan_loop0 l _ _ _ (fun K k hk => ?_) (fun K k x hx => ?_) (by omega)
    · unfold p_wholeTo_l2; rw [cond_f (decide_eq_false (by omega))]
    · have hk := (List.getElem?_eq_some_iff.1 hx).1
      unfold p_wholeTo_l2
      rw [cond_t (decide_eq_true (by omega)), idx_get hx, Option.bind_some, succ_cast]
      cases g1 : feq x (Flt.truncN x) with
      | false => rw [cond_t (show (!false) = true from rfl), if_neg (by simp [Flt.wT, g1])]
      | true =>
        rw [cond_f (show (!true) = false from rfl)]
        cases g2 : fgt (Flt.fabs x) m with
        | true => rw [cond_t rfl, if_neg (by simp [Flt.wT, g2])]
        | false => rw [cond_f rfl, need_pos (in64 (by omega) (by omega)), if_pos (by simp [Flt.wT, g1, g2])]
  rw [outer, Option.bind_some]
  split
  · rename_i h; rw [h, aft_inl]; rfl
  · rename_i h; rw [aft_inr, show l.all (Flt.wT m) = false by simpa using h]
def spaceOk (m : Nat) (p : TImpl_P3) : Bool := Flt.wT m p.X && (Flt.wT m p.Y && Flt.wT m p.Z)
theorem spaceTo_p {F : Nat} (hF : BigF F) (m : Nat) (l : List TImpl_P3) (hl : l.length < 1000) : p_spaceTo F m l = some (l.all (spaceOk m)) := by
  have hF' : 1073741826 ≤ F := hF
  unfold p_spaceTo
  have outer : iter (p_spaceTo_l2 m l F) F (0 : Int) = some (if l.all (spaceOk m) = true then Sum.inl () else Sum.inr false) := by
    refine scan_loop0 l _ _ _ (fun K k hk => ?_) (fun K k x hx => ?_) (by omega)
    · unfold p_spaceTo_l2; rw [cond_f (decide_eq_false (by omega))]
    · have hk := (List.getElem?_eq_some_iff.1 hx).1
      unfold p_spaceTo_l2
      rw [cond_t (decide_eq_true (by omega)), idx_get hx, Option.bind_some, succ_cast, wholeTo_p hF m _ (by simp), Option.bind_some]
      have e : [x.X, x.Y, x.Z].all (Flt.wT m) = spaceOk m x := by simp [spaceOk]
      rw [e]
      cases spaceOk m x with
      | false => rw [cond_t (show (!false) = true from rfl), if_neg (by simp)]
      | true => rw [cond_f (show (!true) = false from rfl), need_pos (in64 (by omega) (by omega)), if_pos rfl]
  rw [outer, Option.bind_some]
  split
  · rename_i h; rw [h, aft_inl]; rfl
  · rename_i h; rw [aft_inr, show l.all (spaceOk m) = false by simpa using h]
/-- p is the place (x, y, z), whole -/
def At3 (p : TImpl_P3) (x y z : Int) : Prop := Flt.I p.X x ∧ Flt.I p.Y y ∧ Flt.I p.Z z
theorem at3_of {m : Nat} {k : Int} (hk : Flt.I m k) (hk0 : 0 ≤ k) (hk1 : k ≤ 4503599627370496) {p : TImpl_P3} (h : spaceOk m p = true) : ∃ x y z, At3 p x y z ∧ (-k ≤ x ∧ x ≤ k) ∧ (-k ≤ y ∧ y ≤ k) ∧ (-k ≤ z ∧ z ≤ k) := by
  simp only [spaceOk, Bool.and_eq_true] at h
  obtain ⟨x, h1, h2⟩ := Flt.wT_int hk hk0 hk1 (Flt.fneg_int hk) h.1
  obtain ⟨y, h3, h4⟩ := Flt.wT_int hk hk0 hk1 (Flt.fneg_int hk) h.2.1
  obtain ⟨z, h5, h6⟩ := Flt.wT_int hk hk0 hk1 (Flt.fneg_int hk) h.2.2
  exact ⟨x, y, z, ⟨h1, h3, h5⟩, h2, h4, h6⟩
structure Wf3 (p : TImpl_P3) : Prop where
  x : p.X < 18446744073709551616
  y : p.Y < 18446744073709551616
  z : p.Z < 18446744073709551616
/-- d is the exact point (x, y, z) -/
def DydAt3 (d : TSpec_Point3) (x y z : Rat) (m k : Nat) : Prop := Dyd d.X x m k ∧ Dyd d.Y y m k ∧ Dyd d.Z z m k
theorem exactly3_p {F : Nat} (hF : BigF F) {p : TImpl_P3} {x y z : Int} (h : At3 p x y z) (w : Wf3 p) : ∃ d, p_exactly3 F p = some d ∧ DydAt3 d x y z 2 1074 := by
  obtain ⟨d1, e1, k1⟩ := dyd_of w.x h.1 hF
  obtain ⟨d2, e2, k2⟩ := dyd_of w.y h.2.1 hF
  obtain ⟨d3, e3, k3⟩ := dyd_of w.z h.2.2 hF
  exact ⟨⟨d1, d2, d3⟩, by simp only [p_exactly3, p_PointOf3, e1, e2, e3, Option.bind_some], k1, k2, k3⟩
end Go.Proofs.Ytohpmbodfpjjmaa.Wk
