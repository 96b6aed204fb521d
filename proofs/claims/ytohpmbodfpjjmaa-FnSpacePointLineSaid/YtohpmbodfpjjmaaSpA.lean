/- Proved: the law of the distance of a place in space from a segment: what is near. -/
import Derived.Test.YtohpmbodfpjjmaaRel
import Derived.Test.YtohpmbodfpjjmaaTo3
import Derived.Test.YtohpmbodfpjjmaaExact4
import Derived.Test.YtohpmbodfpjjmaaExact5s
namespace Go.Proofs.Ytohpmbodfpjjmaa.Wk
open Go.Vm Flt
set_option linter.unusedVariables false
set_option linter.unusedSimpArgs false
theorem sqb {x y a b c d : Rat} (hx : 0 ≤ x) (hy : y ≤ (1 + a) * (x * x) + b) (h1 : 1 + a ≤ (1 + c) * (1 + c)) (h2 : b ≤ d * d) (hc : 0 ≤ c) (hd : 0 ≤ d) : y ≤ ((1 + c) * x + d) * ((1 + c) * x + d) := by
  have hxx := Rat.mul_nonneg hx hx
  have a1 := Rat.mul_le_mul_of_nonneg_right h1 hxx
  have a2 : 0 ≤ (1 + c) * x * d := Rat.mul_nonneg (Rat.mul_nonneg (by grind) hx) hd
  have e : ((1 + c) * x + d) * ((1 + c) * x + d) = (1 + c) * (1 + c) * (x * x) + 2 * ((1 + c) * x * d) + d * d := by grind
  rw [e]; grind
abbrev η48 : Rat := 1 / 281474976710656
abbrev η49 : Rat := 1 / 562949953421312
abbrev η50 : Rat := 1 / 1125899906842624
abbrev κ46 : Rat := 1 / 70368744177664
abbrev κ47 : Rat := 1 / 140737488355328
abbrev b95 : Rat := 1 / 39614081257132168796771975168
/-- A root of what is near a sum of squares. -/
theorem sqrt_any {x : Nat} {σ S : Rat} (hx : V x = some σ) (h0 : 0 ≤ σ) (hS0 : 0 ≤ S) (hS : S ≤ 1073741824) (h1 : σ - S ≤ S * η50 + b95) (h2 : S - σ ≤ S * η50 + b95) :
    ∃ z m, p_Sqrt x = some z ∧ V z = some m ∧ 0 ≤ m ∧ (∀ y, 0 ≤ y → S ≤ y * y → m ≤ (1 + η48) * y + κ46) ∧ S ≤ ((1 + η48) * m + κ46) * ((1 + η48) * m + κ46) ∧ m ≤ 65536 := by
  have big : (2 : Rat) ^ (50 : Int) ≤ 2 ^ (2000 : Int) := zpow_le (by omega)
  have e50 : (2 : Rat) ^ (50 : Int) = 1125899906842624 := by decide +kernel
  have hSb := Rat.mul_le_mul_of_nonneg_right hS (show (0 : Rat) ≤ η50 by decide +kernel)
  have hc0 : 1073741824 * η50 + b95 ≤ 1 := by decide +kernel
  have hσ : σ ≤ 1073741825 := by grind
  obtain ⟨z, m, s, hy, hr, hs0, hR, l1, l2, _⟩ := sqrt_rnd hx h0 (by grind)
  have hSq : p_Sqrt x = some z := by unfold p_Sqrt; rw [show FloatKind.f64.format.sqrt x = some z from hy]; rfl
  have hss0 := Rat.mul_nonneg hs0 hs0
  have hsb : s ≤ 32769 := sq_le hs0 (by decide +kernel) (by grind)
  have hab : ab s = s := by unfold ab; rw [if_neg (by grind)]
  have n1 := hR.lo
  have n2 := hR.hi
  rw [hab, e53] at n1 n2
  have ht := tiny_le
  -- a root that is rounded is not below 0
  have hm0 : 0 ≤ m := by
    have hk := V_KK hr
    have hp := zpow_pos (-1074)
    have hh : (2 : Rat) ^ (-1074 : Int) = 2 * 2 ^ (-1075 : Int) := half (-1074)
    have hn : -(2 : Rat) ^ (-1075 : Int) ≤ m := by grind
    cases hsgn : (z / 9223372036854775808 % 2 == 1) with
    | false =>
      rw [hsgn] at hk
      rw [hk]
      exact Rat.mul_nonneg Rat.natCast_nonneg (Rat.le_of_lt hp)
    | true =>
      rw [hsgn] at hk
      by_cases hK : KK (z % 9223372036854775808) = 0
      · rw [hK] at hk
        have e0 : ((0 : Nat) : Rat) * (2 : Rat) ^ (-1074 : Int) = 0 := by rw [show ((0 : Nat) : Rat) = 0 from rfl, Rat.zero_mul]
        rw [e0] at hk
        rw [hk]; decide +kernel
      · have k1 : (1 : Rat) ≤ (KK (z % 9223372036854775808) : Rat) := nat_le_rat (show 1 ≤ _ by omega)
        have k2 := Rat.mul_le_mul_of_nonneg_right k1 (Rat.le_of_lt hp)
        have k3 : m = -((KK (z % 9223372036854775808) : Rat) * 2 ^ (-1074 : Int)) := hk
        grind
  refine ⟨z, m, hSq, hr, hm0, fun y hy0 hSy => ?_, ?_, ?_⟩
  · have q1 : s * s ≤ (1 + η49) * (y * y) + 2 * b95 := by
      have t1 := Rat.mul_le_mul_of_nonneg_right hSy (show (0 : Rat) ≤ 1 + η50 by decide +kernel)
      have t2 : s * s * (1 - 1 / 18014398509481984) ≤ (1 + η50) * (y * y) + b95 := by grind
      have t3 := Rat.mul_le_mul_of_nonneg_right t2 (show (0 : Rat) ≤ 1 + 1 / 9007199254740992 by decide +kernel)
      have c1 : (1 : Rat) ≤ (1 - 1 / 18014398509481984) * (1 + 1 / 9007199254740992) := by decide +kernel
      have t4 := Rat.mul_le_mul_of_nonneg_left c1 hss0
      have c2 : (1 + η50) * (1 + 1 / 9007199254740992) ≤ 1 + η49 := by decide +kernel
      have t5 := Rat.mul_le_mul_of_nonneg_right c2 (Rat.mul_nonneg hy0 hy0)
      have c3 : b95 * (1 + 1 / 9007199254740992) ≤ 2 * b95 := by decide +kernel
      generalize y * y = yy at *
      generalize s * s = ss at *
      have e1 : ((1 + η50) * yy + b95) * (1 + 1 / 9007199254740992) = (1 + η50) * (1 + 1 / 9007199254740992) * yy + b95 * (1 + 1 / 9007199254740992) := by
        generalize (1 + η50) = u
        grind
      rw [e1] at t3
      have e2 : ss * (1 - 1 / 18014398509481984) * (1 + 1 / 9007199254740992) = ss * ((1 - 1 / 18014398509481984) * (1 + 1 / 9007199254740992)) := by rw [Rat.mul_assoc]
      rw [e2] at t3
      grind
    have q2 := sqb hy0 q1 (show 1 + η49 ≤ (1 + η49) * (1 + η49) by decide +kernel) (show 2 * b95 ≤ κ47 * κ47 by decide +kernel) (by decide +kernel) (by decide +kernel)
    have q3 : s ≤ (1 + η49) * y + κ47 := sq_le hs0 (by have := Rat.mul_nonneg (show (0 : Rat) ≤ 1 + η49 by decide +kernel) hy0; have : (0 : Rat) ≤ κ47 := by decide +kernel
                                                       grind) q2
    have q4 := Rat.mul_le_mul_of_nonneg_right q3 (show (0 : Rat) ≤ 1 + u53 by decide +kernel)
    have c4 : (1 + η49) * (1 + u53) ≤ 1 + η48 := by decide +kernel
    have q5 := Rat.mul_le_mul_of_nonneg_right c4 hy0
    have c5 : κ47 * (1 + u53) + tiny ≤ κ46 := by decide +kernel
    have e3 : ((1 + η49) * y + κ47) * (1 + u53) = (1 + η49) * (1 + u53) * y + κ47 * (1 + u53) := by generalize (1 + η49) = u; generalize (1 + u53) = v; grind
    rw [e3] at q4
    generalize (1 + η49) * (1 + u53) * y = A at *
    generalize (1 + η48) * y = B at *
    generalize κ47 * (1 + u53) = D at *
    have e4 : s * (1 + u53) = s + s * u53 := by grind
    rw [e4] at q4
    generalize s * u53 = E at *
    grind
  · have q1 : S ≤ (1 + η49) * (1 + η50) * (s * s) + 2 * b95 := by
      have t1 : S * (1 - η50) ≤ (1 + η50) * (s * s) + b95 := by grind
      have t2 := Rat.mul_le_mul_of_nonneg_right t1 (show (0 : Rat) ≤ 1 + η49 by decide +kernel)
      have c1 : (1 : Rat) ≤ (1 - η50) * (1 + η49) := by decide +kernel
      have t3 := Rat.mul_le_mul_of_nonneg_left c1 hS0
      have c3 : b95 * (1 + η49) ≤ 2 * b95 := by decide +kernel
      generalize s * s = ss at *
      have e1 : ((1 + η50) * ss + b95) * (1 + η49) = (1 + η49) * (1 + η50) * ss + b95 * (1 + η49) := by
        generalize (1 + η50) = u; generalize (1 + η49) = v
        grind
      have e2 : S * (1 - η50) * (1 + η49) = S * ((1 - η50) * (1 + η49)) := by rw [Rat.mul_assoc]
      rw [e1, e2] at t2
      generalize (1 + η49) * (1 + η50) * ss = A at *
      generalize b95 * (1 + η49) = B at *
      rw [Rat.mul_one] at t3
      exact Rat.le_trans t3 (Rat.le_trans t2 (by grind))
    have s1 : s ≤ (1 + 1 / 4503599627370496) * m + 2 * tiny := by
      have t1 : s * (1 - u53) ≤ m + tiny := by grind
      have t2 := Rat.mul_le_mul_of_nonneg_right t1 (show (0 : Rat) ≤ 1 + 1 / 4503599627370496 by decide +kernel)
      have c1 : (1 : Rat) ≤ (1 - u53) * (1 + 1 / 4503599627370496) := by decide +kernel
      have t3 := Rat.mul_le_mul_of_nonneg_left c1 hs0
      have c2 : tiny * (1 + 1 / 4503599627370496) ≤ 2 * tiny := by decide +kernel
      have e1 : s * (1 - u53) * (1 + 1 / 4503599627370496) = s * ((1 - u53) * (1 + 1 / 4503599627370496)) := by rw [Rat.mul_assoc]
      have e2 : (m + tiny) * (1 + 1 / 4503599627370496) = (1 + 1 / 4503599627370496) * m + tiny * (1 + 1 / 4503599627370496) := by rw [Rat.add_mul, Rat.mul_comm m]
      rw [e1, e2] at t2
      rw [Rat.mul_one] at t3
      exact Rat.le_trans t3 (Rat.le_trans t2 (by generalize (1 + 1 / 4503599627370496) * m = A; grind))
    have hb0 : (0 : Rat) ≤ η49 := by decide +kernel
    have q2 := sqb (a := (1 + η49) * (1 + η50) - 1) (c := η49) (d := κ47) hs0 (by
      have : 1 + ((1 + η49) * (1 + η50) - 1) = (1 + η49) * (1 + η50) := by generalize (1 + η49) * (1 + η50) = u; grind
      rw [this]; exact q1) (by
      have : 1 + ((1 + η49) * (1 + η50) - 1) = (1 + η49) * (1 + η50) := by generalize (1 + η49) * (1 + η50) = u; grind
      rw [this]; decide +kernel) (show 2 * b95 ≤ κ47 * κ47 by decide +kernel) hb0 (by decide +kernel)
    have q3 : (1 + η49) * s + κ47 ≤ (1 + η48) * m + κ46 := by
      have t1 := Rat.mul_le_mul_of_nonneg_left s1 (show (0 : Rat) ≤ 1 + η49 by decide +kernel)
      have c1 : (1 + η49) * (1 + 1 / 4503599627370496) ≤ 1 + η48 := by decide +kernel
      have t2 := Rat.mul_le_mul_of_nonneg_right c1 hm0
      have c2 : (1 + η49) * (2 * tiny) + κ47 ≤ κ46 := by decide +kernel
      have e1 : (1 + η49) * ((1 + 1 / 4503599627370496) * m + 2 * tiny) = (1 + η49) * (1 + 1 / 4503599627370496) * m + (1 + η49) * (2 * tiny) := by generalize (1 + η49) = u; generalize (1 + 1 / 4503599627370496 : Rat) = v; grind
      rw [e1] at t1
      generalize (1 + η49) * (1 + 1 / 4503599627370496) * m = A at *
      generalize (1 + η48) * m = B at *
      generalize (1 + η49) * (2 * tiny) = D at *
      generalize (1 + η49) * s = E at *
      grind
    have q0 : 0 ≤ (1 + η49) * s + κ47 := by
      have := Rat.mul_nonneg (show (0 : Rat) ≤ 1 + η49 by decide +kernel) hs0
      have : (0 : Rat) ≤ κ47 := by decide +kernel
      grind
    exact Rat.le_trans q2 (Rat.le_trans (Rat.mul_le_mul_of_nonneg_right q3 q0) (Rat.mul_le_mul_of_nonneg_left q3 (Rat.le_trans q0 q3)))
  · have c : (32769 : Rat) * u53 + tiny ≤ 1 := by decide +kernel
    have := Rat.mul_le_mul_of_nonneg_right hsb (show (0 : Rat) ≤ u53 by decide +kernel)
    grind
/-- Vectors that are near one another have lengths near one another. -/
theorem vec_le {x y z X Y Z e v : Rat} (hx : Bd (X - x) e) (hy : Bd (Y - y) e) (hz : Bd (Z - z) e) (he : 0 ≤ e) (hv : 0 ≤ v) (hS : x * x + y * y + z * z ≤ v * v) : X * X + Y * Y + Z * Z ≤ (v + 2 * e) * (v + 2 * e) := by
  obtain ⟨a, ha⟩ : ∃ a, a = X - x := ⟨_, rfl⟩
  obtain ⟨b, hb⟩ : ∃ b, b = Y - y := ⟨_, rfl⟩
  obtain ⟨c, hc⟩ : ∃ c, c = Z - z := ⟨_, rfl⟩
  rw [← ha] at hx; rw [← hb] at hy; rw [← hc] at hz
  have sqle : ∀ {t : Rat}, Bd t e → t * t ≤ e * e := fun {t} h => by
    obtain ⟨h1, h2⟩ := h
    have : 0 ≤ (e - t) * (e + t) := Rat.mul_nonneg (by grind) (by grind)
    grind
  have s1 := sqle hx
  have s2 := sqle hy
  have s3 := sqle hz
  have nn : ∀ t : Rat, 0 ≤ t * t := fun t => by
    rcases Rat.le_total (a := 0) (b := t) with h | h
    · exact Rat.mul_nonneg h h
    · have := Rat.mul_nonneg (show 0 ≤ -t by grind) (show 0 ≤ -t by grind)
      grind
  have hD : a * a + b * b + c * c ≤ 4 * (e * e) := by have := nn e; grind
  have cs : (x * a + y * b + z * c) * (x * a + y * b + z * c) ≤ (x * x + y * y + z * z) * (a * a + b * b + c * c) := by
    have n1 := nn (x * b - y * a)
    have n2 := nn (x * c - z * a)
    have n3 := nn (y * c - z * b)
    grind
  have vv := nn v
  have ee := nn e
  have hdd : 0 ≤ a * a + b * b + c * c := by have := nn a; have := nn b; have := nn c; grind
  have cs2 : (x * a + y * b + z * c) * (x * a + y * b + z * c) ≤ (2 * (e * v)) * (2 * (e * v)) := by
    have t1 := Rat.mul_le_mul_of_nonneg_right hS hdd
    have t2 := Rat.mul_le_mul_of_nonneg_left hD vv
    have e1 : (2 * (e * v)) * (2 * (e * v)) = v * v * (4 * (e * e)) := by grind
    rw [e1]
    exact Rat.le_trans cs (Rat.le_trans t1 t2)
  have hev : 0 ≤ e * v := Rat.mul_nonneg he hv
  have hd : x * a + y * b + z * c ≤ 2 * (e * v) := by
    rcases Rat.le_total (a := 0) (b := x * a + y * b + z * c) with h | h
    · exact sq_le h (by grind) cs2
    · exact Rat.le_trans h (by grind)
  have eX : X = x + a := by grind
  have eY : Y = y + b := by grind
  have eZ : Z = z + c := by grind
  rw [eX, eY, eZ]
  have e2 : (x + a) * (x + a) + (y + b) * (y + b) + (z + c) * (z + c) = (x * x + y * y + z * z) + 2 * (x * a + y * b + z * c) + (a * a + b * b + c * c) := by grind
  have e3 : (v + 2 * e) * (v + 2 * e) = v * v + 4 * (e * v) + 4 * (e * e) := by grind
  rw [e2, e3]
  generalize x * x + y * y + z * z = p at *
  generalize x * a + y * b + z * c = q at *
  generalize a * a + b * b + c * c = r at *
  grind
theorem bd_neg {t e : Rat} (h : Bd t e) : Bd (-t) e := ⟨by have := h.2; grind, by have := h.1; grind⟩
theorem i0 (a b c : Nat) : idx [a, b, c] (0 : Int) = some a := rfl
theorem i1 (a b c : Nat) : idx [a, b, c] (1 : Int) = some b := rfl
theorem i2 (a b c : Nat) : idx [a, b, c] (2 : Int) = some c := rfl
theorem notNaN_int {x : Nat} {n : Int} (h : I x n) : p_IsNaN x = some false := by
  unfold p_IsNaN
  rw [feq_int h h, decide_eq_true rfl]; rfl
theorem mul_s {a b : Int} (ha : -2048 ≤ a ∧ a ≤ 2048) (hb : -2048 ≤ b ∧ b ≤ 2048) : (a * b).natAbs ≤ 4194304 := by
  rw [Int.natAbs_mul]
  have := Nat.mul_le_mul (show a.natAbs ≤ 2048 by omega) (show b.natAbs ≤ 2048 by omega)
  omega
theorem sqp {n : Int} : 0 ≤ n * n ∧ (n ≠ 0 → 1 ≤ n * n) := by
  have e : n * n = ((n.natAbs * n.natAbs : Nat) : Int) := by rw [Int.natAbs_mul_self]
  refine ⟨by omega, fun h => ?_⟩
  have h0 : 1 ≤ n.natAbs := by omega
  have := Nat.mul_le_mul h0 h0
  omega
abbrev B10 (n : Int) : Prop := -1024 ≤ n ∧ n ≤ 1024
/-- What the program tells of a sum of squares S: nearly its root. -/
def Root (m S : Rat) : Prop := 0 ≤ m ∧ (∀ y, 0 ≤ y → S ≤ y * y → m ≤ (1 + η48) * y + κ46) ∧ S ≤ ((1 + η48) * m + κ46) * ((1 + η48) * m + κ46) ∧ m ≤ 65536
theorem three_sq {a b c : Int} (ha : -2048 ≤ a ∧ a ≤ 2048) (hb : -2048 ≤ b ∧ b ≤ 2048) (hc : -2048 ≤ c ∧ c ≤ 2048) {x y z : Nat} (hx : I x a) (hy : I y b) (hz : I z c) :
    ∃ s1 s2 s3 s4 s5, floatBits .mul .f64 x x = some s1 ∧ floatBits .mul .f64 y y = some s2 ∧ floatBits .add .f64 s1 s2 = some s3 ∧ floatBits .mul .f64 z z = some s4 ∧ floatBits .add .f64 s3 s4 = some s5 ∧ I s5 (a * a + b * b + c * c) ∧ 0 ≤ a * a + b * b + c * c ∧ a * a + b * b + c * c ≤ 12582912 := by
  have m1 := mul_s ha ha
  have m2 := mul_s hb hb
  have m3 := mul_s hc hc
  have n1 := (sqp (n := a)).1
  have n2 := (sqp (n := b)).1
  have n3 := (sqp (n := c)).1
  obtain ⟨s1, e1, i1⟩ := mul_int hx hx (by omega)
  obtain ⟨s2, e2, i2⟩ := mul_int hy hy (by omega)
  obtain ⟨s3, e3, i3⟩ := add_int i1 i2 (by omega)
  obtain ⟨s4, e4, i4⟩ := mul_int hz hz (by omega)
  obtain ⟨s5, e5, i5⟩ := add_int i3 i4 (by omega)
  exact ⟨s1, s2, s3, s4, s5, e1, e2, e3, e4, e5, i5, by omega, by omega⟩
theorem root_int {x : Nat} {n : Int} (h : I x n) (h0 : 0 ≤ n) (h1 : n ≤ 12582912) : ∃ z m, p_Sqrt x = some z ∧ V z = some m ∧ Root m (n : Rat) := by
  have a0 : (0 : Rat) ≤ (n : Rat) := by have := Rat.intCast_le_intCast.2 h0; exact this
  have a1 : (n : Rat) ≤ 12582912 := by have := Rat.intCast_le_intCast.2 h1; exact this
  have c0 : 0 ≤ (n : Rat) * η50 + b95 := by
    have := Rat.mul_nonneg a0 (show (0 : Rat) ≤ η50 by decide +kernel)
    have : (0 : Rat) ≤ b95 := by decide +kernel
    grind
  have hz : (n : Rat) - n = 0 := by grind
  obtain ⟨z, m, h2, h3, h4⟩ := sqrt_any (S := (n : Rat)) (show V x = some (n : Rat) from h) a0 a0 (by grind) (by rw [hz]; exact c0) (by rw [hz]; exact c0)
  exact ⟨z, m, h2, h3, h4⟩
theorem distance_p {p q : TImpl_P3} {px py pz qx qy qz : Int} (hp : At3 p px py pz) (hq : At3 q qx qy qz) (bp : B10 px ∧ B10 py ∧ B10 pz) (bq : B10 qx ∧ B10 qy ∧ B10 qz) :
    ∃ z m, p_Distance [p.X, p.Y, p.Z] [q.X, q.Y, q.Z] = some z ∧ V z = some m ∧ Root m (((px - qx) * (px - qx) + (py - qy) * (py - qy) + (pz - qz) * (pz - qz) : Int) : Rat) := by
  obtain ⟨b1, b2, b3⟩ := bp
  obtain ⟨b4, b5, b6⟩ := bq
  obtain ⟨d1, e1, j1⟩ := sub_int hp.1 hq.1 (by omega)
  obtain ⟨d2, e2, j2⟩ := sub_int hp.2.1 hq.2.1 (by omega)
  obtain ⟨d3, e3, j3⟩ := sub_int hp.2.2 hq.2.2 (by omega)
  obtain ⟨s1, s2, s3, s4, s5, f1, f2, f3, f4, f5, k, k0, k1⟩ := three_sq (by omega) (by omega) (by omega) j1 j2 j3
  obtain ⟨z, m, hz, hm, hR⟩ := root_int k k0 k1
  refine ⟨z, m, ?_, hm, hR⟩
  unfold p_Distance p_Distance_k1
  rw [i2, i2, Option.bind_some, notNaN_int hp.2.2, Option.bind_some, cond_f rfl, Option.bind_some, notNaN_int hq.2.2, Option.bind_some, cond_f rfl]
  simp only [i0, i1, i2, Option.bind_some, e1, e2, e3, f1, f2, f3, f4, f5, hz]
theorem eq3_int {a b : TImpl_P3} {ax ay az bx b_y bz : Int} (ha : At3 a ax ay az) (hb : At3 b bx b_y bz) : p_Equals [a.X, a.Y, a.Z] [b.X, b.Y, b.Z] = some (decide (ax = bx ∧ ay = b_y ∧ az = bz)) := by
  unfold p_Equals
  simp only [i0, i1, i2, Option.bind_some]
  rw [feq_int ha.1 hb.1, feq_int ha.2.1 hb.2.1, feq_int ha.2.2 hb.2.2, notNaN_int ha.2.2]
  by_cases h1 : ax = bx
  · rw [cond_t (decide_eq_true h1)]
    by_cases h2 : ay = b_y
    · rw [cond_t (decide_eq_true h2)]
      by_cases h3 : az = bz
      · rw [cond_t (decide_eq_true h3)]; simp [h1, h2, h3]
      · rw [cond_f (decide_eq_false h3), Option.bind_some, cond_f rfl]; simp [h3]
    · rw [cond_f (decide_eq_false h2)]; simp [h2]
  · rw [cond_f (decide_eq_false h1)]; simp [h1]
abbrev e37 : Rat := 1 / 137438953472
/-- A coordinate of the way to the foot. -/
theorem foot {z101 : Nat} {t : Rat} (ht : App z101 t (1 / 2251799813685248)) (t0 : 0 ≤ t) (t1 : t ≤ 1) {xa xp za : Nat} {a p d : Int} (ha : I xa a) (hp : I xp p) (hd : I za d) (ba : B10 a) (bp : B10 p) (bd : -2048 ≤ d ∧ d ≤ 2048) :
    ∃ z117 z119 z147 X, floatBits .mul .f64 z101 za = some z117 ∧ floatBits .add .f64 xa z117 = some z119 ∧ floatBits .sub .f64 xp z119 = some z147 ∧ V z147 = some X ∧ Bd (X - ((p : Rat) - ((a : Rat) + t * d))) e37 ∧ Bd X 8192 := by
  have d1 : (-2048 : Rat) ≤ (d : Rat) := by have := Rat.intCast_le_intCast.2 bd.1; exact this
  have d2 : (d : Rat) ≤ 2048 := by have := Rat.intCast_le_intCast.2 bd.2; exact this
  have a1 : (-1024 : Rat) ≤ (a : Rat) := by have := Rat.intCast_le_intCast.2 ba.1; exact this
  have a2 : (a : Rat) ≤ 1024 := by have := Rat.intCast_le_intCast.2 ba.2; exact this
  have p1 : (-1024 : Rat) ≤ (p : Rat) := by have := Rat.intCast_le_intCast.2 bp.1; exact this
  have p2 : (p : Rat) ≤ 1024 := by have := Rat.intCast_le_intCast.2 bp.2; exact this
  have hbt : Bd t 1 := ⟨by grind, t1⟩
  have hbd : Bd (d : Rat) 2048 := ⟨d1, d2⟩
  have htd := mul_bd hbt hbd
  obtain ⟨z117, f1, h117⟩ := app_mul (g := 1 / 549755813888) (B := 4096) ht (App.int hd) hbt hbd (by decide +kernel) (by decide +kernel) (by decide +kernel)
  obtain ⟨z119, f2, h119⟩ := app_add (g := 1 / 274877906944) (B := 8192) (App.int ha) h117 (by
    obtain ⟨q1, q2⟩ := htd
    have c : (1 : Rat) * 2048 = 2048 := by decide +kernel
    have c2 : (1 / 549755813888 : Rat) ≤ 1 := by decide +kernel
    rw [c] at q1 q2
    constructor <;> grind) (by decide +kernel) (by decide +kernel)
  obtain ⟨z147, f3, X, hX, x1, x2⟩ := app_sub (g := e37) (B := 16384) (App.int hp) h119 (by
    obtain ⟨q1, q2⟩ := htd
    have c : (1 : Rat) * 2048 = 2048 := by decide +kernel
    have c2 : (1 / 274877906944 : Rat) ≤ 1 := by decide +kernel
    rw [c] at q1 q2
    constructor <;> grind) (by decide +kernel) (by decide +kernel)
  refine ⟨z117, z119, z147, X, f1, f2, f3, hX, ⟨by grind, by grind⟩, ?_⟩
  have c3 : e37 ≤ 1 / 2 := by decide +kernel
  -- the foot lies within the segment
  have hb2 : Bd ((p : Rat) - ((a : Rat) + t * d)) 5000 := by
    obtain ⟨q1, q2⟩ := htd
    have c : (1 : Rat) * 2048 = 2048 := by decide +kernel
    rw [c] at q1 q2
    constructor <;> grind
  obtain ⟨q1, q2⟩ := hb2
  constructor <;> grind
theorem nn (t : Rat) : 0 ≤ t * t := by
  rcases Rat.le_total (a := 0) (b := t) with h | h
  · exact Rat.mul_nonneg h h
  · have := Rat.mul_nonneg (show 0 ≤ -t by grind) (show 0 ≤ -t by grind)
    grind
/-- A rounded number that is no further below 0 than half the least one is not below 0. -/
theorem nonneg_of {z : Nat} {r q : Rat} (h : V z = some r) (hR : Rnd r q) (hq : 0 ≤ q) : 0 ≤ r := by
  have hab : ab q = q := by unfold ab; rw [if_neg (by grind)]
  have n2 := hR.hi
  rw [hab, e53] at n2
  have c : q * u53 ≤ q := by
    have := Rat.mul_le_mul_of_nonneg_left (show u53 ≤ 1 by decide +kernel) hq
    grind
  have hk := V_KK h
  have hp := zpow_pos (-1074)
  have hh : (2 : Rat) ^ (-1074 : Int) = 2 * 2 ^ (-1075 : Int) := half (-1074)
  have hn : -(2 : Rat) ^ (-1075 : Int) ≤ r := by grind
  cases hsgn : (z / 9223372036854775808 % 2 == 1) with
  | false =>
    rw [hsgn] at hk
    rw [hk]
    exact Rat.mul_nonneg Rat.natCast_nonneg (Rat.le_of_lt hp)
  | true =>
    rw [hsgn] at hk
    by_cases hK : KK (z % 9223372036854775808) = 0
    · rw [hK] at hk
      have e0 : ((0 : Nat) : Rat) * (2 : Rat) ^ (-1074 : Int) = 0 := by rw [show ((0 : Nat) : Rat) = 0 from rfl, Rat.zero_mul]
      rw [e0] at hk
      rw [hk]; decide +kernel
    · have k1 : (1 : Rat) ≤ (KK (z % 9223372036854775808) : Rat) := nat_le_rat (show 1 ≤ _ by omega)
      have k2 := Rat.mul_le_mul_of_nonneg_right k1 (Rat.le_of_lt hp)
      have k3 : r = -((KK (z % 9223372036854775808) : Rat) * 2 ^ (-1074 : Int)) := hk
      grind
theorem rnd_share {r q : Rat} (hR : Rnd r q) (hq : 0 ≤ q) : r - q ≤ q * u53 + tiny ∧ q - r ≤ q * u53 + tiny := by
  have hab : ab q = q := by unfold ab; rw [if_neg (by grind)]
  have n1 := hR.lo
  have n2 := hR.hi
  rw [hab, e53] at n1 n2
  have ht := tiny_le
  constructor <;> grind
theorem mul_nn {x : Nat} {X : Rat} (hx : V x = some X) (hb : Bd X 8192) : ∃ z r, floatBits .mul .f64 x x = some z ∧ V z = some r ∧ 0 ≤ r ∧ r - X * X ≤ X * X * u53 + tiny ∧ X * X - r ≤ X * X * u53 + tiny ∧ X * X ≤ 67108864 := by
  have hB := (mul_bd hb hb)
  have c : (8192 : Rat) * 8192 = 67108864 := by decide +kernel
  rw [c] at hB
  obtain ⟨z, r, hz, hr, hR⟩ := mul_rnd hx hx (huge_lt2 hB (by decide +kernel))
  obtain ⟨s1, s2⟩ := rnd_share hR (nn X)
  exact ⟨z, r, hz, hr, nonneg_of hr hR (nn X), s1, s2, hB.2⟩
theorem add_nn {x y : Nat} {a b : Rat} (hx : V x = some a) (hy : V y = some b) (ha : 0 ≤ a) (hb : 0 ≤ b) (hB : a + b ≤ 1073741824) : ∃ z r, floatBits .add .f64 x y = some z ∧ V z = some r ∧ 0 ≤ r ∧ r - (a + b) ≤ (a + b) * u53 + tiny ∧ (a + b) - r ≤ (a + b) * u53 + tiny := by
  have h0 : 0 ≤ a + b := by grind
  obtain ⟨z, r, hz, hr, hR⟩ := add_rnd hx hy (huge_lt2 (B := 1073741824) ⟨by grind, hB⟩ (by decide +kernel))
  obtain ⟨s1, s2⟩ := rnd_share hR h0
  exact ⟨z, r, hz, hr, nonneg_of hr hR h0, s1, s2⟩
theorem sum_near {x y z : Nat} {X Y Z : Rat} (hx : V x = some X) (hy : V y = some Y) (hz : V z = some Z) (bx : Bd X 8192) (b_y : Bd Y 8192) (bz : Bd Z 8192) :
    ∃ s1 s2 s3 s4 s5 q m, floatBits .mul .f64 x x = some s1 ∧ floatBits .mul .f64 y y = some s2 ∧ floatBits .add .f64 s1 s2 = some s3 ∧ floatBits .mul .f64 z z = some s4 ∧ floatBits .add .f64 s3 s4 = some s5 ∧ p_Sqrt s5 = some q ∧ V q = some m ∧ Root m (X * X + Y * Y + Z * Z) := by
  obtain ⟨s1, r1, e1, v1, p1, l1, g1, B1⟩ := mul_nn hx bx
  obtain ⟨s2, r2, e2, v2, p2, l2, g2, B2⟩ := mul_nn hy b_y
  obtain ⟨s4, r4, e4, v4, p4, l4, g4, B4⟩ := mul_nn hz bz
  have hx0 := nn X
  have hy0 := nn Y
  have hz0 := nn Z
  have cu : (0 : Rat) ≤ u53 := by decide +kernel
  have cs : ∀ q : Rat, 0 ≤ q → q ≤ 1073741824 → q * u53 + tiny ≤ 1 := fun q h0 h1 => by
    have := Rat.mul_le_mul_of_nonneg_right h1 cu
    have c : (1073741824 : Rat) * u53 + tiny ≤ 1 := by decide +kernel
    grind
  have k1 := cs _ hx0 (by grind)
  have k2 := cs _ hy0 (by grind)
  have k4 := cs _ hz0 (by grind)
  obtain ⟨s3, r3, e3, v3, p3, l3, g3⟩ := add_nn v1 v2 p1 p2 (by grind)
  have k3 := cs (r1 + r2) (by grind) (by grind)
  obtain ⟨s5, r5, e5, v5, p5, l5, g5⟩ := add_nn v3 v4 p3 p4 (by grind)
  have hS : X * X + Y * Y + Z * Z ≤ 1073741824 := by grind
  have hS0 : 0 ≤ X * X + Y * Y + Z * Z := by grind
  -- all errors together
  have key : r5 - (X * X + Y * Y + Z * Z) ≤ (X * X + Y * Y + Z * Z) * η50 + b95 ∧ (X * X + Y * Y + Z * Z) - r5 ≤ (X * X + Y * Y + Z * Z) * η50 + b95 := by
    clear hx hy hz bx b_y bz B1 B2 B4 cs k1 k2 k3 k4 e1 e2 e3 e4 e5 v1 v2 v3 v4 v5
    generalize X * X = a at *
    generalize Y * Y = b at *
    generalize Z * Z = c at *
    have t0 : (0 : Rat) ≤ tiny := by decide +kernel
    have cb : 20 * tiny ≤ b95 := by decide +kernel
    constructor <;> grind
  obtain ⟨q, m, hq, hm, h4⟩ := sqrt_any v5 p5 hS0 hS key.1 key.2
  exact ⟨s1, s2, s3, s4, s5, q, m, e1, e2, e3, e4, e5, hq, hm, h4⟩
end Go.Proofs.Ytohpmbodfpjjmaa.Wk
