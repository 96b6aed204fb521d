/- Proved: what is told of places between two others. -/
import Derived.Test.YtohpmbodfpjjmaaDoorOriF
namespace Go.Proofs.YtohpmbodfpjjmaaDoor.Wk
open Go.Vm
set_option linter.unusedVariables false
set_option linter.unusedSimpArgs false
def btwR (p q r : Rat) : Prop := (p ≤ r ∧ r ≤ q) ∨ (q ≤ r ∧ r ≤ p)
def btwI (p q r : Int) : Prop := (p ≤ r ∧ r ≤ q) ∨ (q ≤ r ∧ r ≤ p)
instance (p q r : Rat) : Decidable (btwR p q r) := by unfold btwR; infer_instance
instance (p q r : Int) : Decidable (btwI p q r) := by unfold btwI; infer_instance
theorem btw_int (p q r : Int) : btwR p q r ↔ btwI p q r := by
  unfold btwR btwI
  simp only [Rat.intCast_le_intCast]
theorem le_sub (p q : Rat) : p - q ≤ 0 ↔ p ≤ q := by constructor <;> intro h <;> grind
theorem between_p {F : Nat} (hF : BigF F) {a b c : TSpec_Dyadic} {p q r : Rat} (ha : Dyd a p 2 1074) (hb : Dyd b q 2 1074) (hc : Dyd c r 2 1074) : p_Between F a b c = some (decide (btwR p q r)) := by
  unfold p_Between btwR
  rw [dyd_cmp ha hc (by omega) (by omega) hF, dyd_cmp hc hb (by omega) (by omega) hF, dyd_cmp hb hc (by omega) (by omega) hF, dyd_cmp hc ha (by omega) (by omega) hF]
  simp only [Option.bind_some, sgR_le, le_sub]
  by_cases h1 : p ≤ r <;> by_cases h2 : r ≤ q <;> by_cases h3 : q ≤ r <;> by_cases h4 : r ≤ p <;> simp [h1, h2, h3, h4]
theorem turn_same (ax ay bx b_y cx cy : Int) : (bx - ax) * (cy - b_y) - (b_y - ay) * (cx - bx) = turn ax ay bx b_y cx cy := by
  unfold turn
  simp only [Int.sub_mul, Int.mul_sub]
  have c1 := Int.mul_comm ax cy
  have c2 := Int.mul_comm bx ay
  have c3 := Int.mul_comm bx b_y
  have c4 := Int.mul_comm ax b_y
  have c5 := Int.mul_comm cx cy
  have c6 := Int.mul_comm cx b_y
  have c7 := Int.mul_comm cx ay
  have c8 := Int.mul_comm bx cy
  omega
theorem index_p {xa ya xb yb xc yc : Nat} {ax ay bx b_y cx cy : Int} (ha : Flt.I xa ax) (ha' : Flt.I ya ay) (hb : Flt.I xb bx) (hb' : Flt.I yb b_y) (hc : Flt.I xc cx) (hc' : Flt.I yc cy)
    (la : -16777216 ≤ ax ∧ ax ≤ 16777216) (la' : -16777216 ≤ ay ∧ ay ≤ 16777216) (lb : -16777216 ≤ bx ∧ bx ≤ 16777216) (lb' : -16777216 ≤ b_y ∧ b_y ≤ 16777216) (lc : -16777216 ≤ cx ∧ cx ≤ 16777216) (lc' : -16777216 ≤ cy ∧ cy ≤ 16777216) :
    p_OrientationIndex [xa, ya] [xb, yb] [xc, yc] = some (sgI (turn ax ay bx b_y cx cy)) := by
  obtain ⟨r, h1, h2⟩ := filter_p ha ha' hb hb' hc hc' (by omega) (by omega) (by omega) (by omega) (by omega) (by omega)
  obtain ⟨z8, e8, i8⟩ := Flt.sub_int hb ha (by omega)
  obtain ⟨z14, e14, i14⟩ := Flt.sub_int hb' ha' (by omega)
  obtain ⟨z20, e20, i20⟩ := Flt.sub_int hc hb (by omega)
  obtain ⟨z26, e26, i26⟩ := Flt.sub_int hc' hb' (by omega)
  have p1 := prodB (k := 33554432) (f := bx - ax) (m := cy - b_y) (by omega) (by omega) (by omega) (by omega)
  have p2 := prodB (k := 33554432) (f := b_y - ay) (m := cx - bx) (by omega) (by omega) (by omega) (by omega)
  obtain ⟨z28, e28, i28⟩ := Flt.mul_int i8 i26 (by omega)
  obtain ⟨z30, e30, i30⟩ := Flt.mul_int i14 i20 (by omega)
  obtain ⟨z32, e32, i32⟩ := Flt.sub_int i28 i30 (by omega)
  rw [turn_same] at i32
  have q : ∀ (x y : Nat), idx [x, y] (0 : Int) = some x ∧ idx [x, y] (1 : Int) = some y := fun x y => ⟨rfl, rfl⟩
  unfold p_OrientationIndex
  rw [h1, Option.bind_some]
  by_cases hr : r ≤ 1
  · rw [cond_t (decide_eq_true hr)]
    rcases h2 with h2 | ⟨h2, _⟩
    · rw [h2]
    · omega
  · rw [cond_f (decide_eq_false hr)]
    simp only [(q _ _).1, (q _ _).2, Option.bind_some, e8, e14, e20, e26, e28, e30, e32, sign_f i32]
theorem sgI_zero (n : Int) : sgI n = 0 ↔ n = 0 := by
  unfold sgI
  by_cases h1 : n = 0
  · rw [if_pos h1]; omega
  · rw [if_neg h1]; split <;> omega
theorem seg {D u E v : Int} (hD : 0 < D) (h0 : 0 ≤ u) (h1 : u ≤ D) (h : D * v = E * u) : (0 ≤ v ∧ v ≤ E) ∨ (E ≤ v ∧ v ≤ 0) := by
  rcases (show E < 0 ∨ 0 ≤ E by omega) with hE | hE
  · right
    have a1 : D * v ≤ D * 0 := by rw [h, Int.mul_zero]; exact Int.mul_nonpos_of_nonpos_of_nonneg (by omega) h0
    have a2 : D * E ≤ D * v := by
      rw [h, Int.mul_comm D E]
      exact Int.mul_le_mul_of_nonpos_left (by omega) h1
    exact ⟨Int.le_of_mul_le_mul_left a2 hD, Int.le_of_mul_le_mul_left a1 hD⟩
  · left
    have a1 : D * 0 ≤ D * v := by rw [h, Int.mul_zero]; exact Int.mul_nonneg hE h0
    have a2 : D * v ≤ D * E := by rw [h, Int.mul_comm D E]; exact Int.mul_le_mul_of_nonneg_left h1 hE
    exact ⟨Int.le_of_mul_le_mul_left a1 hD, Int.le_of_mul_le_mul_left a2 hD⟩
theorem seg' {a c b a' c' b' : Int} (hne : a ≠ c) (hb : btwI a c b) (h : (c - a) * (b' - a') = (c' - a') * (b - a)) : btwI a' c' b' := by
  unfold btwI at *
  rcases (show a < c ∨ c ≤ a by omega) with hlt | hge
  · have := seg (D := c - a) (u := b - a) (E := c' - a') (v := b' - a') (by omega) (by omega) (by omega) h
    omega
  · have := seg (D := a - c) (u := a - b) (E := c' - a') (v := b' - a') (by omega) (by omega) (by omega) (by
      have e1 : (a - c) * (b' - a') = -((c - a) * (b' - a')) := by rw [← Int.neg_mul]; congr 1; omega
      have e2 : (c' - a') * (a - b) = -((c' - a') * (b - a)) := by rw [← Int.mul_neg]; congr 1; omega
      rw [e1, e2, h])
    omega
theorem turn_zero {ax ay bx b_y cx cy : Int} (h : turn ax ay bx b_y cx cy = 0) : (cx - ax) * (b_y - ay) = (cy - ay) * (bx - ax) := by
  unfold turn at h
  simp only [Int.sub_mul, Int.mul_sub] at *
  have c1 := Int.mul_comm ax cy
  have c2 := Int.mul_comm bx ay
  have c3 := Int.mul_comm bx b_y
  have c4 := Int.mul_comm ax b_y
  have c5 := Int.mul_comm cx cy
  have c6 := Int.mul_comm cx b_y
  have c7 := Int.mul_comm cx ay
  have c8 := Int.mul_comm bx cy
  have c9 := Int.mul_comm ax ay
  omega
/-- what the code tells of a place between others -/
def codeB (ax ay bx b_y cx cy : Int) : Bool := decide (turn ax ay bx b_y cx cy = 0) && (decide (ax ≠ cx ∧ btwI ax cx bx) || decide (ay ≠ cy ∧ btwI ay cy b_y))
theorem is_between_p (k : TXy_convexHullCalculator) {xa ya xb yb xc yc : Nat} {ax ay bx b_y cx cy : Int} (ha : Flt.I xa ax) (ha' : Flt.I ya ay) (hb : Flt.I xb bx) (hb' : Flt.I yb b_y) (hc : Flt.I xc cx) (hc' : Flt.I yc cy)
    (la : -16777216 ≤ ax ∧ ax ≤ 16777216) (la' : -16777216 ≤ ay ∧ ay ≤ 16777216) (lb : -16777216 ≤ bx ∧ bx ≤ 16777216) (lb' : -16777216 ≤ b_y ∧ b_y ≤ 16777216) (lc : -16777216 ≤ cx ∧ cx ≤ 16777216) (lc' : -16777216 ≤ cy ∧ cy ≤ 16777216) :
    p_convexHullCalculator_isBetween k [xa, ya] [xb, yb] [xc, yc] = some (codeB ax ay bx b_y cx cy) := by
  have q : ∀ (x y : Nat), idx [x, y] (0 : Int) = some x ∧ idx [x, y] (1 : Int) = some y := fun x y => ⟨rfl, rfl⟩
  have k2 : p_convexHullCalculator_isBetween_k2 [xa, ya] [xb, yb] [xc, yc] () = some (decide (cy ≤ b_y) && decide (b_y ≤ ay)) := by
    unfold p_convexHullCalculator_isBetween_k2
    simp only [(q _ _).1, (q _ _).2, Option.bind_some, Flt.fle_int hc' hb', Flt.fle_int hb' ha']
    cases decide (cy ≤ b_y) <;> cases decide (b_y ≤ ay) <;> rfl
  have k1 : p_convexHullCalculator_isBetween_k1 [xa, ya] [xb, yb] [xc, yc] () = some (decide (ay ≠ cy ∧ btwI ay cy b_y)) := by
    unfold p_convexHullCalculator_isBetween_k1
    simp only [(q _ _).1, (q _ _).2, Option.bind_some, Flt.feq_int ha' hc', Flt.fle_int ha' hb', Flt.fle_int hb' hc', k2]
    unfold btwI
    by_cases h0 : ay = cy <;> by_cases h1 : ay ≤ b_y <;> by_cases h2 : b_y ≤ cy <;> by_cases h3 : cy ≤ b_y <;> by_cases h4 : b_y ≤ ay <;> simp [h0, h1, h2, h3, h4]
  have k3 : p_convexHullCalculator_isBetween_k3 [xa, ya] [xb, yb] [xc, yc] () = some ((decide (cx ≤ bx) && decide (bx ≤ ax)) || decide (ay ≠ cy ∧ btwI ay cy b_y)) := by
    unfold p_convexHullCalculator_isBetween_k3
    simp only [(q _ _).1, (q _ _).2, Option.bind_some, Flt.fle_int hc hb, Flt.fle_int hb ha, k1]
    cases decide (cx ≤ bx) <;> cases decide (bx ≤ ax) <;> rfl
  unfold p_convexHullCalculator_isBetween
  rw [index_p ha ha' hb hb' hc hc' la la' lb lb' lc lc', Option.bind_some]
  unfold codeB
  by_cases ht : turn ax ay bx b_y cx cy = 0
  · rw [cond_f (show (!decide (sgI (turn ax ay bx b_y cx cy) = 0)) = false by rw [decide_eq_true ((sgI_zero _).2 ht)]; rfl), decide_eq_true ht]
    simp only [(q _ _).1, (q _ _).2, Option.bind_some, Flt.feq_int ha hc, Flt.fle_int ha hb, Flt.fle_int hb hc, k1, k3, Bool.true_and]
    generalize decide (ay ≠ cy ∧ btwI ay cy b_y) = B
    unfold btwI
    by_cases h0 : ax = cx <;> by_cases h1 : ax ≤ bx <;> by_cases h2 : bx ≤ cx <;> by_cases h3 : cx ≤ bx <;> by_cases h4 : bx ≤ ax <;> simp [h0, h1, h2, h3, h4]
  · rw [cond_t (show (!decide (sgI (turn ax ay bx b_y cx cy) = 0)) = true by rw [decide_eq_false (fun h => ht ((sgI_zero _).1 h))]; rfl), decide_eq_false ht]
    rfl
abbrev K24 : Nat := 4715268809856909312
theorem K24_int : Flt.I K24 16777216 := by
  have e : K24 = ofInt 16777216 := by decide +kernel
  rw [e]; exact Flt.ofInt_int (by decide)
theorem turn_swap (ax ay bx b_y cx cy : Int) : turn ax ay cx cy bx b_y = -turn ax ay bx b_y cx cy := by
  unfold turn
  simp only [Int.sub_mul, Int.mul_sub]
  have c1 := Int.mul_comm ax cy
  have c2 := Int.mul_comm bx ay
  have c3 := Int.mul_comm bx b_y
  have c4 := Int.mul_comm ax b_y
  have c5 := Int.mul_comm cx cy
  have c6 := Int.mul_comm cx b_y
  have c7 := Int.mul_comm cx ay
  have c8 := Int.mul_comm bx cy
  omega
theorem on_p {F : Nat} (hF : BigF F) {a b c : TSpec_Point} {ax ay bx b_y cx cy : Int} (ha : DydAt a ax ay) (hb : DydAt b bx b_y) (hc : DydAt c cx cy) :
    p_OnSegment F b a c = some (decide (turn ax ay bx b_y cx cy = 0 ∧ btwI ax cx bx ∧ btwI ay cy b_y)) := by
  unfold p_OnSegment
  rw [orient_p hF ha hc hb, Option.bind_some, cross_int, turn_swap, sgR_int, between_p hF ha.1 hc.1 hb.1, between_p hF ha.2 hc.2 hb.2]
  simp only [Option.bind_some, btw_int]
  generalize turn ax ay bx b_y cx cy = n
  by_cases h : n = 0
  · rw [if_pos (by omega), cond_t (decide_eq_true rfl)]
    by_cases h1 : btwI ax cx bx <;> by_cases h2 : btwI ay cy b_y <;> simp [h, h1, h2]
  · rw [if_neg (show ¬ -n = 0 by omega), cond_f (decide_eq_false (by split <;> omega))]
    simp [h]
end Go.Proofs.YtohpmbodfpjjmaaDoor.Wk
