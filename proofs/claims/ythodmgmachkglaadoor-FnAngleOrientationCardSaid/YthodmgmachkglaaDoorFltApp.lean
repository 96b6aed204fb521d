/- Floating numbers that are near what is meant: sums, differences, products, with the errors told. -/
import Derived.Test.YthodmgmachkglaaDoorFltDiv
set_option linter.unusedVariables false
set_option linter.unusedSimpArgs false
namespace Flt
open Go Ieee Go.Vm
/-- x is nearer than e to q. -/
def App (x : Nat) (q e : Rat) : Prop := ∃ r, V x = some r ∧ r - q ≤ e ∧ q - r ≤ e
def Bd (q B : Rat) : Prop := -B ≤ q ∧ q ≤ B
abbrev u53 : Rat := 1 / 9007199254740992
abbrev tiny : Rat := 1 / 1267650600228229401496703205376
abbrev huge : Rat := 1267650600228229401496703205376
theorem App.int {x : Nat} {n : Int} (h : I x n) : App x n 0 := ⟨n, h, by grind, by grind⟩
theorem App.mono {x : Nat} {q e f : Rat} (h : App x q e) (hf : e ≤ f) : App x q f := by
  obtain ⟨r, h1, h2, h3⟩ := h
  exact ⟨r, h1, by grind, by grind⟩
theorem tiny_le : (2 : Rat) ^ (-1075 : Int) ≤ tiny := by
  have h1 : (2 : Rat) ^ (-1075 : Int) ≤ (2 : Rat) ^ (-100 : Int) := zpow_le (by omega)
  have e : (2 : Rat) ^ (-100 : Int) = tiny := by decide +kernel
  rw [e] at h1; exact h1
theorem e53 : (2 : Rat) ^ (-53 : Int) = u53 := by decide +kernel
theorem huge_lt : huge < (2 : Rat) ^ (1022 : Int) := by
  have h1 : (2 : Rat) ^ (101 : Int) ≤ (2 : Rat) ^ (1022 : Int) := zpow_le (by omega)
  have e : (2 : Rat) ^ (101 : Int) = 2 * huge := by decide +kernel
  have e2 : (0 : Rat) < huge := by decide +kernel
  rw [e] at h1
  grind
theorem ab_le {q B : Rat} (h : Bd q B) : ab q ≤ B := by unfold ab; obtain ⟨h1, h2⟩ := h; split <;> grind
theorem le_ab (q : Rat) : Bd q (ab q) := by unfold Bd ab; split <;> constructor <;> grind
theorem huge_lt2 {q B : Rat} (h : Bd q B) (hB : B ≤ huge) : ab q < (2 : Rat) ^ (1023 : Int) := by
  have h1 := ab_le h
  have h2 := huge_lt
  have h3 : (2 : Rat) ^ (1022 : Int) ≤ (2 : Rat) ^ (1023 : Int) := zpow_le (by omega)
  grind
theorem Rnd.near {r q B : Rat} (h : Rnd r q) (hB : Bd q B) : r - q ≤ B * u53 + tiny ∧ q - r ≤ B * u53 + tiny := by
  have h1 := h.lo
  have h2 := h.hi
  have h3 := tiny_le
  have h4 := Rat.mul_le_mul_of_nonneg_right (ab_le hB) (show (0 : Rat) ≤ u53 by decide +kernel)
  rw [e53] at h1 h2
  constructor <;> grind
theorem app_add {x y : Nat} {p q e f B g : Rat} (hx : App x p e) (hy : App y q f) (h1 : Bd (p + q) (B - e - f)) (h2 : B ≤ huge) (hg : e + f + B * u53 + tiny ≤ g) : ∃ z, floatBits .add .f64 x y = some z ∧ App z (p + q) g := by
  obtain ⟨r, hr, r1, r2⟩ := hx
  obtain ⟨s, hs, s1, s2⟩ := hy
  have hb : Bd (r + s) B := by unfold Bd at *; constructor <;> grind
  obtain ⟨z, t, hz, ht, hR⟩ := add_rnd hr hs (huge_lt2 hb h2)
  obtain ⟨t1, t2⟩ := hR.near hb
  exact ⟨z, hz, t, ht, by grind, by grind⟩
theorem app_sub {x y : Nat} {p q e f B g : Rat} (hx : App x p e) (hy : App y q f) (h1 : Bd (p - q) (B - e - f)) (h2 : B ≤ huge) (hg : e + f + B * u53 + tiny ≤ g) : ∃ z, floatBits .sub .f64 x y = some z ∧ App z (p - q) g := by
  obtain ⟨r, hr, r1, r2⟩ := hx
  obtain ⟨s, hs, s1, s2⟩ := hy
  have hb : Bd (r - s) B := by unfold Bd at *; constructor <;> grind
  obtain ⟨z, t, hz, ht, hR⟩ := sub_rnd hr hs (huge_lt2 hb h2)
  obtain ⟨t1, t2⟩ := hR.near hb
  exact ⟨z, hz, t, ht, by grind, by grind⟩
theorem mul_bd {a b A B : Rat} (ha : Bd a A) (hb : Bd b B) : Bd (a * b) (A * B) := by
  obtain ⟨a1, a2⟩ := ha
  obtain ⟨b1, b2⟩ := hb
  have h1 : 0 ≤ (a + A) * (b + B) := Rat.mul_nonneg (by grind) (by grind)
  have h2 : 0 ≤ (A - a) * (B - b) := Rat.mul_nonneg (by grind) (by grind)
  have h3 : 0 ≤ (a + A) * (B - b) := Rat.mul_nonneg (by grind) (by grind)
  have h4 : 0 ≤ (A - a) * (b + B) := Rat.mul_nonneg (by grind) (by grind)
  constructor <;> grind
theorem app_mul {x y : Nat} {p q e f P Q B g : Rat} (hx : App x p e) (hy : App y q f) (hp : Bd p P) (hq : Bd q Q) (hB : (P + e) * (Q + f) ≤ B) (h2 : B ≤ huge) (hg : e * Q + f * P + e * f + B * u53 + tiny ≤ g) : ∃ z, floatBits .mul .f64 x y = some z ∧ App z (p * q) g := by
  obtain ⟨r, hr, r1, r2⟩ := hx
  obtain ⟨s, hs, s1, s2⟩ := hy
  have br : Bd (r - p) e := ⟨by grind, by grind⟩
  have bs : Bd (s - q) f := ⟨by grind, by grind⟩
  have m1 := mul_bd br hq
  have m2 := mul_bd bs hp
  have m3 := mul_bd br bs
  have m4 := mul_bd (show Bd r (P + e) by unfold Bd at *; constructor <;> grind) (show Bd s (Q + f) by unfold Bd at *; constructor <;> grind)
  have hb : Bd (r * s) B := by unfold Bd at *; constructor <;> grind
  obtain ⟨z, t, hz, ht, hR⟩ := mul_rnd hr hs (huge_lt2 hb h2)
  obtain ⟨t1, t2⟩ := hR.near hb
  have e1 : r * s - p * q = (r - p) * q + (s - q) * p + (r - p) * (s - q) := by grind
  unfold Bd at m1 m2 m3
  refine ⟨z, hz, t, ht, ?_, ?_⟩
  · have : t - p * q = (t - r * s) + ((r - p) * q + (s - q) * p + (r - p) * (s - q)) := by rw [← e1]; grind
    rw [this]; grind
  · have : p * q - t = (r * s - t) - ((r - p) * q + (s - q) * p + (r - p) * (s - q)) := by rw [← e1]; grind
    rw [this]; grind
/-- A quotient of whole numbers. -/
theorem app_div {x y : Nat} {m n : Int} {B g : Rat} (hx : I x m) (hy : I y n) (hn : n ≠ 0) (hB : Bd ((m : Rat) / n) B) (h2 : B ≤ 1000000000000) (hg : B * (1 / 4503599627370496) + tiny ≤ g) : ∃ z, floatBits .quo .f64 x y = some z ∧ App z ((m : Rat) / n) g := by
  have hn' : (n : Rat) ≠ 0 := fun e => hn (Rat.intCast_inj.1 (by rw [e]; rfl))
  have hh := huge_lt
  have hab := ab_le hB
  have h3 : (1000000000000 : Rat) ≤ huge := by decide +kernel
  obtain ⟨z, r, hz, hr, hN⟩ := div_rnd hx hy hn' (by grind)
  have l1 := hN.lo
  have l2 := hN.hi
  have e52 : (2 : Rat) ^ (-52 : Int) = 1 / 4503599627370496 := by decide +kernel
  rw [e52] at l1 l2
  have h4 := tiny_le
  have h5 := Rat.mul_le_mul_of_nonneg_right hab (show (0 : Rat) ≤ 1 / 4503599627370496 by decide +kernel)
  exact ⟨z, hz, r, hr, by grind, by grind⟩
end Flt
