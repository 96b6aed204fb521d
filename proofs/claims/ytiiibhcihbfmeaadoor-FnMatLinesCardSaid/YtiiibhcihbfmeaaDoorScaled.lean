/- A side of a box, scaled around its middle. -/
import Derived.Test.YtiiibhcihbfmeaaDoorFltDy
namespace Flt
open Go Go.Vm Ieee
set_option linter.unusedVariables false

abbrev K10 : Nat := 4652218415073722368
theorem K10_int : I K10 1024 := by
  have e : K10 = ofInt 1024 := by decide +kernel
  rw [e]; exact ofInt_int (by decide)
theorem K10_neg : I (fneg K10) (-1024) := by
  have e : fneg K10 = ofInt (-1024) := by decide +kernel
  rw [e]; exact ofInt_int (by decide)
theorem okF_K10 {x : Nat} (h : okF K10 x = true) : ∃ n, I x n ∧ -1024 ≤ n ∧ n ≤ 1024 := okF_int K10_int (by omega) (by omega) K10_neg h

/-- Along one axis: from mn to mx, times f. -/
structure Ch (mn mx f c0 cc s0 s h lo hi : Nat) : Prop where
  e1 : floatBits .add .f64 mn mx = some c0
  e2 : floatBits .mul .f64 Half c0 = some cc
  e3 : floatBits .sub .f64 mx mn = some s0
  e4 : floatBits .mul .f64 (amax f 0) s0 = some s
  e5 : floatBits .mul .f64 Half (fabs (amax s 0)) = some h
  e6 : floatBits .sub .f64 cc h = some lo
  e7 : floatBits .add .f64 cc h = some hi

theorem prod_le {u v a b : Int} (h1 : 0 ≤ u) (h2 : u ≤ a) (h3 : 0 ≤ v) (h4 : v ≤ b) : 0 ≤ u * v ∧ u * v ≤ a * b :=
  ⟨Int.mul_nonneg h1 h3, Int.mul_le_mul h2 h4 h3 (by omega)⟩

theorem chain {mn mx f : Nat} {m n g : Int} (hm : I mn m) (hn : I mx n) (hf : I f g) (h0 : m ≤ n) (h1 : -1024 ≤ m) (h2 : n ≤ 1024) (h3 : g ≤ 1024) :
    ∃ c0 cc s0 s h lo hi d1 d2 e1 e2 e3 : Nat, Ch mn mx f c0 cc s0 s h lo hi ∧ floatBits .sub .f64 hi lo = some d1 ∧ floatBits .sub .f64 mx mn = some d2 ∧ floatBits .mul .f64 (bmax 0 f) d2 = some e1 ∧ feq d1 e1 = true ∧
      floatBits .add .f64 hi lo = some e2 ∧ floatBits .add .f64 mx mn = some e3 ∧ feq e2 e3 = true ∧ (FloatKind.f64.format.order 0 f).isSome = true := by
  obtain ⟨c0, q1, j1⟩ := add_dy hm.J hn.J (by omega) (by omega) (by omega)
  obtain ⟨cc, q2, j2⟩ := mul_dy half_dy j1 (by omega) (by omega) (by omega)
  obtain ⟨s0, q3, j3⟩ := sub_dy hn.J hm.J (by omega) (by omega) (by omega)
  have jf : J 0 (amax f 0) (imax g 0) := amax_dy hf.J zero_int.J
  have b1 : 0 ≤ imax g 0 ∧ imax g 0 ≤ 1024 := by unfold imax; split <;> omega
  obtain ⟨p1, p2⟩ := prod_le b1.1 b1.2 (show 0 ≤ n - m by omega) (show n - m ≤ 2048 by omega)
  generalize hS : imax g 0 * (n - m) = S at p1 p2
  obtain ⟨s, q4, j4⟩ := mul_dy jf j3 (by rw [hS]; omega) (by omega) (by omega)
  rw [hS] at j4
  have j5 := fabs_dy (amax_dy j4 zero_int.J)
  have b2 : ((imax S 0).natAbs : Int) = S := by unfold imax; split <;> omega
  rw [b2] at j5
  obtain ⟨h, q5, j6⟩ := mul_dy half_dy j5 (by omega) (by omega) (by omega)
  obtain ⟨lo, q6, j7⟩ := sub_dy j2 j6 (by omega) (by omega) (by omega)
  obtain ⟨hi, q7, j8⟩ := add_dy j2 j6 (by omega) (by omega) (by omega)
  obtain ⟨d1, q8, j9⟩ := sub_dy j8 j7 (by omega) (by omega) (by omega)
  have jb : J 0 (bmax 0 f) (imax 0 g) := bmax_dy zero_int.J hf.J
  have b3 : imax 0 g = imax g 0 := by unfold imax; split <;> split <;> omega
  rw [b3] at jb
  obtain ⟨e1, q9, j10⟩ := mul_dy jb j3 (by rw [hS]; omega) (by omega) (by omega)
  rw [hS] at j10
  obtain ⟨e2, q10, j11⟩ := add_dy j8 j7 (by omega) (by omega) (by omega)
  obtain ⟨e3, q11, j12⟩ := add_dy hn.J hm.J (by omega) (by omega) (by omega)
  refine ⟨c0, cc, s0, s, h, lo, hi, d1, s0, e1, e2, e3, ⟨q1, q2, q3, q4, q5, q6, q7⟩, q8, q3, q9, ?_, q10, q11, ?_, ord_some zero_int hf⟩
  · rw [feq_dy j9 j10.less]; simp; omega
  · rw [feq_dy j11 j12.less]; simp; omega
/-- Along one axis: from mn to mx, times f. -/
structure Ch3 (mn mx f c0 cc s0 s h lo hi : Nat) : Prop where
  e1 : floatBits .add .f64 mn mx = some c0
  e2 : floatBits .mul .f64 Half c0 = some cc
  e3 : floatBits .sub .f64 mx mn = some s0
  e4 : floatBits .mul .f64 (amax f 0) s0 = some s
  e5 : floatBits .mul .f64 Half (amax s 0) = some h
  e6 : floatBits .sub .f64 cc h = some lo
  e7 : floatBits .add .f64 cc h = some hi

theorem chain3 {mn mx f : Nat} {m n g : Int} (hm : I mn m) (hn : I mx n) (hf : I f g) (h0 : m ≤ n) (h1 : -1024 ≤ m) (h2 : n ≤ 1024) (h3 : g ≤ 1024) :
    ∃ c0 cc s0 s h lo hi d1 d2 e1 e2 e3 : Nat, Ch3 mn mx f c0 cc s0 s h lo hi ∧ floatBits .sub .f64 hi lo = some d1 ∧ floatBits .sub .f64 mx mn = some d2 ∧ floatBits .mul .f64 (bmax 0 f) d2 = some e1 ∧ feq d1 e1 = true ∧
      floatBits .add .f64 hi lo = some e2 ∧ floatBits .add .f64 mx mn = some e3 ∧ feq e2 e3 = true ∧ (FloatKind.f64.format.order 0 f).isSome = true := by
  obtain ⟨c0, q1, j1⟩ := add_dy hm.J hn.J (by omega) (by omega) (by omega)
  obtain ⟨cc, q2, j2⟩ := mul_dy half_dy j1 (by omega) (by omega) (by omega)
  obtain ⟨s0, q3, j3⟩ := sub_dy hn.J hm.J (by omega) (by omega) (by omega)
  have jf : J 0 (amax f 0) (imax g 0) := amax_dy hf.J zero_int.J
  have b1 : 0 ≤ imax g 0 ∧ imax g 0 ≤ 1024 := by unfold imax; split <;> omega
  obtain ⟨p1, p2⟩ := prod_le b1.1 b1.2 (show 0 ≤ n - m by omega) (show n - m ≤ 2048 by omega)
  generalize hS : imax g 0 * (n - m) = S at p1 p2
  obtain ⟨s, q4, j4⟩ := mul_dy jf j3 (by rw [hS]; omega) (by omega) (by omega)
  rw [hS] at j4
  have j5 := amax_dy j4 zero_int.J
  have b2 : imax S 0 = S := by unfold imax; split <;> omega
  rw [b2] at j5
  obtain ⟨h, q5, j6⟩ := mul_dy half_dy j5 (by omega) (by omega) (by omega)
  obtain ⟨lo, q6, j7⟩ := sub_dy j2 j6 (by omega) (by omega) (by omega)
  obtain ⟨hi, q7, j8⟩ := add_dy j2 j6 (by omega) (by omega) (by omega)
  obtain ⟨d1, q8, j9⟩ := sub_dy j8 j7 (by omega) (by omega) (by omega)
  have jb : J 0 (bmax 0 f) (imax 0 g) := bmax_dy zero_int.J hf.J
  have b3 : imax 0 g = imax g 0 := by unfold imax; split <;> split <;> omega
  rw [b3] at jb
  obtain ⟨e1, q9, j10⟩ := mul_dy jb j3 (by rw [hS]; omega) (by omega) (by omega)
  rw [hS] at j10
  obtain ⟨e2, q10, j11⟩ := add_dy j8 j7 (by omega) (by omega) (by omega)
  obtain ⟨e3, q11, j12⟩ := add_dy hn.J hm.J (by omega) (by omega) (by omega)
  refine ⟨c0, cc, s0, s, h, lo, hi, d1, s0, e1, e2, e3, ⟨q1, q2, q3, q4, q5, q6, q7⟩, q8, q3, q9, ?_, q10, q11, ?_, ord_some zero_int hf⟩
  · rw [feq_dy j9 j10.less]; simp; omega
  · rw [feq_dy j11 j12.less]; simp; omega
end Flt
