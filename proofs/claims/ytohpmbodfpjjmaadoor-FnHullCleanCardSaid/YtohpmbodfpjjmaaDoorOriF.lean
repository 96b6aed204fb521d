/- Proved: what the filter of turns tells. -/
import Derived.Test.YtohpmbodfpjjmaaDoorTo
namespace Go.Proofs.YtohpmbodfpjjmaaDoor.Wk
open Go.Vm
set_option linter.unusedVariables false
set_option linter.unusedSimpArgs false
/-- whole numbers from -k to k: products -/
theorem prodB {f m k : Int} (f1 : -k ≤ f) (f2 : f ≤ k) (m1 : -k ≤ m) (m2 : m ≤ k) : -(k * k) ≤ f * m ∧ f * m ≤ k * k := by
  have h1 : (f + k) * (m + k) ≥ 0 := Int.mul_nonneg (by omega) (by omega)
  have h2 : (k - f) * (k - m) ≥ 0 := Int.mul_nonneg (by omega) (by omega)
  have h3 : (f + k) * (k - m) ≥ 0 := Int.mul_nonneg (by omega) (by omega)
  have h4 : (k - f) * (m + k) ≥ 0 := Int.mul_nonneg (by omega) (by omega)
  simp only [Int.add_mul, Int.mul_add, Int.sub_mul, Int.mul_sub] at h1 h2 h3 h4
  have c1 : k * m = m * k := Int.mul_comm _ _
  have c2 : k * f = f * k := Int.mul_comm _ _
  omega
def sgI (n : Int) : Int := if n = 0 then 0 else if n < 0 then -1 else 1
theorem sign_f {z : Nat} {n : Int} (h : Flt.I z n) : p_orientationBasedOnSign z = some (sgI n) := by
  unfold p_orientationBasedOnSign sgI
  rw [Flt.fgt_int h Flt.zero_int, Flt.flt_int h Flt.zero_int]
  by_cases h1 : 0 < n
  · rw [cond_t (decide_eq_true h1), if_neg (by omega), if_neg (by omega)]
  · rw [cond_f (decide_eq_false h1)]
    by_cases h2 : n < 0
    · rw [cond_t (decide_eq_true h2), if_neg (by omega), if_pos h2]
    · rw [cond_f (decide_eq_false h2), if_pos (by omega)]
/-- the filter's bound -/
abbrev cF : Nat := 4382569440205035030
theorem cF_V : ∃ c, Flt.V cF = some c ∧ 0 ≤ c ∧ c * 9007199254740992 ≤ 12 := by
  have e1 : ((5070602400912918 : Int) : Rat) * (2 : Rat) ^ (-102 : Int) * 9007199254740992 = ((5070602400912918 : Int) : Rat) * (2 : Rat) ^ (-49 : Int) := by
    have h : (2 : Rat) ^ (-49 : Int) = (2 : Rat) ^ (-102 : Int) * (2 : Rat) ^ (53 : Int) := by rw [← Flt.zpow_add]; rfl
    have h2 : (2 : Rat) ^ (53 : Int) = 9007199254740992 := by decide
    rw [h, h2, Rat.mul_assoc]
  refine ⟨((5070602400912918 : Int) : Rat) * (2 : Rat) ^ (-102 : Int), ?_, ?_, ?_⟩
  · have h : Ieee.double.read cF = .number false 5070602400912918 (-102) := by decide +kernel
    unfold Flt.V; rw [h]; rfl
  · exact Rat.mul_nonneg (by exact Rat.intCast_le_intCast.2 (show (0 : Int) ≤ 5070602400912918 by decide)) (Rat.le_of_lt (Flt.zpow_pos _))
  · rw [e1]
    have h3 : (12 : Rat) = ((6755399441055744 : Int) : Rat) * (2 : Rat) ^ (-49 : Int) := by
      have h4 : ((6755399441055744 : Int) : Rat) = 12 * (2 : Rat) ^ (49 : Int) := by
        have h2 : (2 : Rat) ^ (49 : Int) = ((562949953421312 : Int) : Rat) := by decide
        have h5 : (12 : Rat) = ((12 : Int) : Rat) := rfl
        rw [h2, h5, ← Rat.intCast_mul]; rfl
      rw [h4, Rat.mul_assoc, ← Flt.zpow_add, show (49 : Int) + -49 = 0 from by decide, Flt.zpow_zero', Rat.mul_one]
    rw [h3]
    exact Rat.mul_le_mul_of_nonneg_right (Rat.intCast_le_intCast.2 (by decide)) (Rat.le_of_lt (Flt.zpow_pos _))
theorem bound_f {g : Nat} {s : Int} (hg : Flt.I g s) (h0 : 0 ≤ s) (h1 : s ≤ 9007199254740992) : ∃ z e, floatBits .mul .f64 cF g = some z ∧ Flt.V z = some e ∧ e ≤ 16 := by
  obtain ⟨c, hc, c0, c1⟩ := cF_V
  have hs0 : (0 : Rat) ≤ (s : Rat) := by exact_mod_cast h0
  have hs1 : (s : Rat) ≤ 9007199254740992 := by
    have c1 : ((9007199254740992 : Int) : Rat) = 9007199254740992 := rfl
    rw [← c1]; exact Rat.intCast_le_intCast.2 h1
  have hp0 : 0 ≤ c * (s : Rat) := Rat.mul_nonneg c0 hs0
  have hp1 : c * (s : Rat) ≤ 12 := Rat.le_trans (Rat.mul_le_mul_of_nonneg_left hs1 c0) c1
  have hab : Flt.ab (c * (s : Rat)) = c * (s : Rat) := by unfold Flt.ab; rw [if_neg (by grind)]
  have big : (12 : Rat) < (2 : Rat) ^ (1023 : Int) := by
    have h : (2 : Rat) ^ (4 : Int) ≤ (2 : Rat) ^ (1023 : Int) := Flt.zpow_le (by omega)
    have e3 : (2 : Rat) ^ (4 : Int) = 16 := by decide
    rw [e3] at h; grind
  obtain ⟨z, r, hz, hr, hR⟩ := Flt.mul_rnd hc hg (by rw [hab]; grind)
  refine ⟨z, r, hz, hr, ?_⟩
  have := hR.lo
  rw [hab] at this
  have e1 : (2 : Rat) ^ (-53 : Int) ≤ (2 : Rat) ^ (-3 : Int) := Flt.zpow_le (by omega)
  have e2 : (2 : Rat) ^ (-1075 : Int) ≤ (2 : Rat) ^ (-3 : Int) := Flt.zpow_le (by omega)
  have e0 : (2 : Rat) ^ (-3 : Int) = 1 / 8 := by decide +kernel
  rw [e0] at e1 e2
  have p1 : (0 : Rat) < (2 : Rat) ^ (-53 : Int) := Flt.zpow_pos _
  have a3 : c * (s : Rat) * (2 : Rat) ^ (-53 : Int) ≤ 12 * (2 : Rat) ^ (-53 : Int) := Rat.mul_le_mul_of_nonneg_right hp1 (Rat.le_of_lt p1)
  grind
theorem k1_p {z g : Nat} {n s : Int} (hz : Flt.I z n) (hg : Flt.I g s) (h0 : 0 ≤ s) (h1 : s ≤ 9007199254740992) : ∃ r, p_orientationIndexFilter_k1 z g = some r ∧ (r = sgI n ∨ (r = 2 ∧ -16 < n ∧ n < 16)) := by
  obtain ⟨b, e, hb, hv, he⟩ := bound_f hg h0 h1
  unfold p_orientationIndexFilter_k1
  rw [hb, Option.bind_some, sign_f hz, Flt.fge_val hz hv, Flt.fge_val (Flt.fneg_V hz) hv]
  by_cases q1 : e ≤ (n : Rat)
  · rw [cond_t (decide_eq_true q1)]; exact ⟨_, rfl, .inl rfl⟩
  · rw [cond_f (decide_eq_false q1)]
    by_cases q2 : e ≤ -(n : Rat)
    · rw [cond_t (decide_eq_true q2)]; exact ⟨_, rfl, .inl rfl⟩
    · rw [cond_f (decide_eq_false q2)]
      refine ⟨_, rfl, .inr ⟨rfl, ?_, ?_⟩⟩
      · have : ((-16 : Int) : Rat) < (n : Rat) := by
          have : ((-16 : Int) : Rat) = -16 := rfl
          rw [this]; grind
        exact Rat.intCast_lt_intCast.1 this
      · have : (n : Rat) < ((16 : Int) : Rat) := by
          have : ((16 : Int) : Rat) = 16 := rfl
          rw [this]; grind
        exact Rat.intCast_lt_intCast.1 this
theorem natAbs_le {n : Int} {k : Nat} (h1 : -(k : Int) ≤ n) (h2 : n ≤ k) : n.natAbs ≤ k := by omega
def turn (ax ay bx b_y cx cy : Int) : Int := (ax - cx) * (b_y - cy) - (ay - cy) * (bx - cx)
theorem filter_p {xa ya xb yb xc yc : Nat} {ax ay bx b_y cx cy : Int} (ha : Flt.I xa ax) (ha' : Flt.I ya ay) (hb : Flt.I xb bx) (hb' : Flt.I yb b_y) (hc : Flt.I xc cx) (hc' : Flt.I yc cy)
    (la : -33554432 ≤ ax ∧ ax ≤ 33554432) (la' : -33554432 ≤ ay ∧ ay ≤ 33554432) (lb : -33554432 ≤ bx ∧ bx ≤ 33554432) (lb' : -33554432 ≤ b_y ∧ b_y ≤ 33554432) (lc : -33554432 ≤ cx ∧ cx ≤ 33554432) (lc' : -33554432 ≤ cy ∧ cy ≤ 33554432) :
    ∃ r, p_orientationIndexFilter [xa, ya] [xb, yb] [xc, yc] = some r ∧ (r = sgI (turn ax ay bx b_y cx cy) ∨ (r = 2 ∧ -16 < turn ax ay bx b_y cx cy ∧ turn ax ay bx b_y cx cy < 16)) := by
  obtain ⟨z5, e5, i5⟩ := Flt.sub_int ha hc (by omega)
  obtain ⟨z11, e11, i11⟩ := Flt.sub_int hb' hc' (by omega)
  have p1 := prodB (k := 67108864) (f := ax - cx) (m := b_y - cy) (by omega) (by omega) (by omega) (by omega)
  obtain ⟨z13, e13, i13⟩ := Flt.mul_int i5 i11 (by omega)
  obtain ⟨z19, e19, i19⟩ := Flt.sub_int ha' hc' (by omega)
  obtain ⟨z25, e25, i25⟩ := Flt.sub_int hb hc (by omega)
  have p2 := prodB (k := 67108864) (f := ay - cy) (m := bx - cx) (by omega) (by omega) (by omega) (by omega)
  obtain ⟨z27, e27, i27⟩ := Flt.mul_int i19 i25 (by omega)
  obtain ⟨z29, e29, i29⟩ := Flt.sub_int i13 i27 (by omega)
  have q : ∀ (x y : Nat), idx [x, y] (0 : Int) = some x ∧ idx [x, y] (1 : Int) = some y := fun x y => ⟨rfl, rfl⟩
  unfold p_orientationIndexFilter
  simp only [(q _ _).1, (q _ _).2, Option.bind_some, e5, e11, e13, e19, e25, e27, e29, sign_f i29, Flt.fgt_int i13 Flt.zero_int, Flt.flt_int i13 Flt.zero_int, Flt.fle_int i27 Flt.zero_int, Flt.fge_int i27 Flt.zero_int]
  change ∃ r, _ ∧ (r = sgI ((ax - cx) * (b_y - cy) - (ay - cy) * (bx - cx)) ∨ _)
  unfold turn
  generalize (ax - cx) * (b_y - cy) = L at *
  generalize (ay - cy) * (bx - cx) = R at *
  by_cases c1 : 0 < L
  · rw [cond_t (decide_eq_true c1)]
    by_cases c2 : R ≤ 0
    · rw [cond_t (decide_eq_true c2)]; exact ⟨_, rfl, .inl rfl⟩
    · rw [cond_f (decide_eq_false c2)]
      obtain ⟨z44, e44, i44⟩ := Flt.add_int i13 i27 (by omega)
      rw [e44, Option.bind_some]
      exact k1_p i29 i44 (by omega) (by omega)
  · rw [cond_f (decide_eq_false c1)]
    by_cases c3 : L < 0
    · rw [cond_t (decide_eq_true c3)]
      by_cases c4 : 0 ≤ R
      · rw [cond_t (decide_eq_true c4)]; exact ⟨_, rfl, .inl rfl⟩
      · rw [cond_f (decide_eq_false c4)]
        obtain ⟨z50, e50, i50⟩ := Flt.sub_int (Flt.fneg_int i13) i27 (by omega)
        rw [e50, Option.bind_some]
        exact k1_p i29 i50 (by omega) (by omega)
    · rw [cond_f (decide_eq_false c3)]; exact ⟨_, rfl, .inl rfl⟩
abbrev K25 : Nat := 4719772409484279808
theorem K25_int : Flt.I K25 33554432 := by
  have e : K25 = ofInt 33554432 := by decide +kernel
  rw [e]; exact Flt.ofInt_int (by decide)
theorem cross_int (ax ay bx b_y cx cy : Int) : crossR ax ay bx b_y cx cy = ((turn ax ay bx b_y cx cy : Int) : Rat) := by
  unfold crossR turn
  simp only [Rat.intCast_sub, Rat.intCast_mul]
  grind
end Go.Proofs.YtohpmbodfpjjmaaDoor.Wk
