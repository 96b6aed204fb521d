/- Proved: the sine of a finite number of no great size is a finite number; the law of the turn from an angle to another. -/
import Derived.Test.YthodmgmachkglaaDoorPAn
import Derived.Test.YthodmgmachkglaaDoorPureKit
import Derived.Test.YthodmgmachkglaaDoorFltTo
import Derived.Test.YthodmgmachkglaaDoorFltApp
set_option linter.unusedVariables false
set_option linter.unusedSimpArgs false
namespace Flt
open Go Ieee Go.Vm
/-- a number between -2^k and 2^k -/
def FB (x : Nat) (k : Int) : Prop := ∃ r, V x = some r ∧ Bd r (2 ^ k)
theorem one_le {k : Int} (h : 0 ≤ k) : (1 : Rat) ≤ 2 ^ k := by
  have := zpow_le (a := 0) (b := k) h
  rw [show (2 : Rat) ^ (0 : Int) = 1 from by decide] at this; exact this
theorem lt1023 {q : Rat} {k : Int} (h : Bd q (2 ^ k)) (hk : k ≤ 1000) : ab q < (2 : Rat) ^ (1023 : Int) := by
  have h1 := ab_le h
  have h2 := zpow_le (a := k) (b := 1000) hk
  have h3 : (2 : Rat) ^ (1000 : Int) < 2 ^ (1023 : Int) := by decide +kernel
  grind
theorem tiny2 : tiny ≤ 1 / 2 := by decide +kernel
theorem near2 {r q : Rat} {k : Int} (hR : Rnd r q) (hq : Bd q (2 ^ k)) (h0 : 0 ≤ k) : Bd r (2 ^ (k + 1)) := by
  obtain ⟨h1, h2⟩ := hR.near hq
  have h3 := one_le h0
  have h4 := tiny2
  have e : (2 : Rat) ^ (k + 1) = 2 ^ k * 2 := by rw [zpow_add, show (2 : Rat) ^ (1 : Int) = 2 from by decide]
  obtain ⟨h5, h6⟩ := hq
  unfold Bd
  rw [e]
  generalize (2 : Rat) ^ k = B at *
  have h7 : B * u53 ≤ B * (1 / 2) := Rat.mul_le_mul_of_nonneg_left (by decide +kernel) (by grind)
  constructor <;> grind
theorem fb_mul {x y : Nat} {a b : Int} (hx : FB x a) (hy : FB y b) (ha : 0 ≤ a) (hb : 0 ≤ b) (h : a + b ≤ 1000) : ∃ z, floatBits .mul .f64 x y = some z ∧ FB z (a + b + 1) := by
  obtain ⟨p, hp, bp⟩ := hx
  obtain ⟨q, hq, bq⟩ := hy
  have hb2 : Bd (p * q) (2 ^ (a + b)) := by rw [zpow_add]; exact mul_bd bp bq
  obtain ⟨z, r, hz, hr, hR⟩ := mul_rnd hp hq (lt1023 hb2 h)
  exact ⟨z, hz, r, hr, near2 hR hb2 (by omega)⟩
theorem bd_le {q : Rat} {a b : Int} (h : Bd q (2 ^ a)) (hab : a ≤ b) : Bd q (2 ^ b) := by
  have := zpow_le hab
  unfold Bd at *
  constructor <;> grind
theorem fb_le {x : Nat} {a b : Int} (h : FB x a) (hab : a ≤ b) : FB x b := by
  obtain ⟨p, hp, bp⟩ := h
  exact ⟨p, hp, bd_le bp hab⟩
theorem fb_add {x y : Nat} {a : Int} (hx : FB x a) (hy : FB y a) (ha : 0 ≤ a) (h : a ≤ 999) : ∃ z, floatBits .add .f64 x y = some z ∧ FB z (a + 2) := by
  obtain ⟨p, hp, bp⟩ := hx
  obtain ⟨q, hq, bq⟩ := hy
  have e : (2 : Rat) ^ (a + 1) = 2 ^ a * 2 := by rw [zpow_add, show (2 : Rat) ^ (1 : Int) = 2 from by decide]
  have hb2 : Bd (p + q) (2 ^ (a + 1)) := by rw [e]; unfold Bd at *; constructor <;> grind
  obtain ⟨z, r, hz, hr, hR⟩ := add_rnd hp hq (lt1023 hb2 (by omega))
  exact ⟨z, hz, r, hr, by have := near2 hR hb2 (by omega); rw [show a + 1 + 1 = a + 2 by omega] at this; exact this⟩
theorem fb_sub {x y : Nat} {a : Int} (hx : FB x a) (hy : FB y a) (ha : 0 ≤ a) (h : a ≤ 999) : ∃ z, floatBits .sub .f64 x y = some z ∧ FB z (a + 2) := by
  obtain ⟨p, hp, bp⟩ := hx
  obtain ⟨q, hq, bq⟩ := hy
  have e : (2 : Rat) ^ (a + 1) = 2 ^ a * 2 := by rw [zpow_add, show (2 : Rat) ^ (1 : Int) = 2 from by decide]
  have hb2 : Bd (p - q) (2 ^ (a + 1)) := by rw [e]; unfold Bd at *; constructor <;> grind
  obtain ⟨z, r, hz, hr, hR⟩ := sub_rnd hp hq (lt1023 hb2 (by omega))
  exact ⟨z, hz, r, hr, by have := near2 hR hb2 (by omega); rw [show a + 1 + 1 = a + 2 by omega] at this; exact this⟩
/-- A word whose amount is at most a number's is a number. -/
theorem fle_fin {x K : Nat} {k : Rat} (hk : V K = some k) (h : fle (fabs x) K = true) : ∃ q, V x = some q ∧ ab q ≤ k := by
  have hf : ∃ q, V x = some q := by
    cases hd : double.read x with
    | number s m e => exact ⟨_, by unfold V; rw [hd]; rfl⟩
    | infinity s =>
      exfalso
      obtain ⟨s2, m, i, hr, _⟩ := V_num hk
      unfold Vm.fle Format.order at h
      rw [read_fabs x s hd, hr] at h
      cases s2 <;> simp [Datum.order] at h
    | nan s t =>
      exfalso
      have hn : (FloatKind.f64.decode (fabs x)).isNaN = true := by
        show (double.read (fabs x)).isNaN = true
        unfold fabs Format.read at *
        rw [double_sw] at *
        simp only [Nat.mod_mod] at *
        split at hd
        · cases hd
        · rename_i h1
          rw [if_neg h1]
          split at hd
          · cases hd
          · rename_i h2
            rw [if_neg h2]
            split at hd
            · cases hd
            · rename_i h3; rw [if_neg h3]; rfl
      have := okF_nn h
      rw [hn] at this
      cases this
  obtain ⟨q, hq⟩ := hf
  refine ⟨q, hq, ?_⟩
  rw [fle_val (fabs_V hq) hk, decide_eq_true_iff] at h
  exact h
/-- Cut towards zero. -/
theorem f2u_val {x : Nat} {q : Rat} (hx : V x = some q) (h0 : -1 < q) {B : Nat} (hB : q ≤ (B : Rat)) (hb : B < 9007199254740992) : ∃ n : Nat, floatToIntVal .f64 x .u64 = some (n : Int) ∧ n ≤ B := by
  obtain ⟨s, m, i, hd, hv⟩ := V_num hx
  have hp : (0 : Rat) ≤ (m : Rat) * 2 ^ i := Rat.mul_nonneg Rat.natCast_nonneg (Rat.le_of_lt (zpow_pos i))
  obtain ⟨t, ht⟩ : ∃ t, t = (m <<< i.toNat) / 2 ^ (-i).toNat := ⟨_, rfl⟩
  have hle := trunc_le m i
  rw [← ht] at hle
  have hs0 : s = true → t = 0 := fun hs => by
    subst hs
    unfold sg at hv
    simp at hv
    have : (t : Rat) < ((1 : Nat) : Rat) := by
      have e : ((1 : Nat) : Rat) = 1 := rfl
      rw [e]; grind
    have : t < 1 := by exact_mod_cast this
    omega
  have htB : t ≤ B := by
    cases s with
    | true => rw [hs0 rfl]; omega
    | false =>
      unfold sg at hv
      simp at hv
      have : (t : Rat) ≤ (B : Rat) := by grind
      exact_mod_cast this
  refine ⟨t, ?_, htB⟩
  have hi : (FloatKind.f64.decode x).toInt .zero = some (t : Int) := by
    show (double.read x).toInt .zero = some (t : Int)
    rw [hd]
    simp only [Datum.toInt, Datum.integral, cut_zero, ← ht]
    congr 1
    unfold signed
    cases s with
    | false => simp
    | true => rw [hs0 rfl]; rfl
  unfold floatToIntVal
  rw [hi]
  have e1 : IntKind.u64.min = 0 := by decide
  have e2 : IntKind.u64.max = 18446744073709551615 := by decide
  dsimp only
  rw [if_pos ⟨by omega, by omega⟩]
end Flt
namespace Go.Proofs.YthodmgmachkglaaDoor.Wk
open Go.Vm Flt
theorem bits_and64 {a c : Nat} (ha : a < 18446744073709551616) (hc : c < 18446744073709551616) : bits .and .u64 (a : Int) (c : Int) = ((a &&& c : Nat) : Int) := by
  unfold bits
  have e0 : (BitVec.ofInt 64 (a : Int) &&& BitVec.ofInt 64 (c : Int)).toNat = a &&& c := by
    rw [BitVec.toNat_and, BitVec.toNat_ofInt, BitVec.toNat_ofInt]
    have e : ∀ z : Nat, z < 18446744073709551616 → ((z : Int) % ((2 ^ 64 : Nat) : Int)).toNat = z := fun z hz => by omega
    rw [e a ha, e c hc]
  show IntKind.u64.wrap (((BitVec.ofInt 64 (a : Int) &&& BitVec.ofInt 64 (c : Int)).toNat : Nat) : Int) = _
  rw [e0]
  have hle : a &&& c ≤ a := Nat.and_le_left
  exact wrap_in .u64 _ (by simp only [lo]; omega) (by simp only [hi]; omega)
theorem K1 : FB 4607182418800017408 0 := by
  obtain ⟨q, h1, h2⟩ := fle_fin (x := 4607182418800017408) (K := 4607182418800017408) (k := ((1 : Int) : Rat)) (wordI 1 (by decide) (by decide +kernel) (by decide +kernel)).1 (by decide +kernel)
  have := le_ab q
  have e : (2 : Rat) ^ (0 : Int) = 1 := by decide
  refine ⟨q, h1, ?_⟩
  rw [e]
  have e2 : ((1 : Int) : Rat) = 1 := rfl
  rw [e2] at h2
  unfold Bd at *
  constructor <;> grind
theorem kst {x : Nat} (h : fle (fabs x) 4607182418800017408 = true) : FB x 0 := by
  obtain ⟨q, h1, h2⟩ := fle_fin (k := ((1 : Int) : Rat)) (wordI 1 (by decide) (by decide +kernel) (by decide +kernel)).1 h
  have := le_ab q
  have e : (2 : Rat) ^ (0 : Int) = 1 := by decide
  refine ⟨q, h1, ?_⟩
  rw [e]
  have e2 : ((1 : Int) : Rat) = 1 := rfl
  rw [e2] at h2
  unfold Bd at *
  constructor <;> grind
theorem K2 : Flt.I 4611686018427387904 2 := (wordI 2 (by decide) (by decide +kernel) (by decide +kernel)).1
theorem k4p : ∃ r, V 4608412980311869571 = some r ∧ 0 ≤ r ∧ r ≤ 2 := by
  obtain ⟨q, h1, h2⟩ := fle_fin (x := 4608412980311869571) (k := ((2 : Int) : Rat)) K2 (by decide +kernel)
  have := le_ab q
  have e2 : ((2 : Int) : Rat) = 2 := rfl
  rw [e2] at h2
  have h3 := flt_val (x := 4608412980311869571) (y := 0) h1 (show V 0 = some (((0 : Int)) : Rat) from zero_int)
  have h4 : Vm.flt 4608412980311869571 0 = false := by decide +kernel
  rw [h4] at h3
  have h5 : ¬ q < ((0 : Int) : Rat) := by
    intro h; rw [decide_eq_true h] at h3; cases h3
  unfold Bd at this
  have e0 : ((0 : Int) : Rat) = 0 := rfl
  rw [e0] at h5
  exact ⟨q, h1, by grind, by grind⟩
set_option maxHeartbeats 1000000 in
theorem k5_p {z23 z26 : Nat} {b : Bool} {j : Int} (h : Bool) (h1 : FB z23 24) (h2 : FB z26 49) : ∃ z, p_sin_k5 z23 (b, j) z26 h = some z ∧ ∃ r, V z = some r := by
  have fin : ∀ {z : Nat} {k : Int}, FB z k → ∀ c : Bool, ∃ w, (cond c (some (fneg z)) (some z)) = some w ∧ ∃ r, V w = some r := fun {z k} hz c => by
    obtain ⟨r, hr, _⟩ := hz
    cases c with
    | true => exact ⟨_, rfl, _, fneg_V hr⟩
    | false => exact ⟨_, rfl, _, hr⟩
  unfold p_sin_k5
  cases h with
  | true =>
    rw [cond_true]
    obtain ⟨z30, e30, f30⟩ := fb_mul (kst (x := 4602678819172646912) (by decide +kernel)) h2 (by omega) (by omega) (by omega)
    obtain ⟨z32, e32, f32⟩ := fb_sub (fb_le K1 (show (0 : Int) ≤ 0 + 49 + 1 by omega)) f30 (by omega) (by omega)
    obtain ⟨z34, e34, f34⟩ := fb_mul h2 h2 (by omega) (by omega) (by omega)
    obtain ⟨z36, e36, f36⟩ := fb_mul (kst (x := 13666448263388469915) (by decide +kernel)) h2 (by omega) (by omega) (by omega)
    obtain ⟨z38, e38, f38⟩ := fb_add f36 (fb_le (kst (x := 4477121864728985349) (by decide +kernel)) (by omega)) (by omega) (by omega)
    obtain ⟨z40, e40, f40⟩ := fb_mul f38 h2 (by omega) (by omega) (by omega)
    obtain ⟨z42, e42, f42⟩ := fb_add f40 (fb_le (kst (x := 13732177093698800582) (by decide +kernel)) (by omega)) (by omega) (by omega)
    obtain ⟨z44, e44, f44⟩ := fb_mul f42 h2 (by omega) (by omega) (by omega)
    obtain ⟨z46, e46, f46⟩ := fb_add f44 (fb_le (kst (x := 4537941361668146421) (by decide +kernel)) (by omega)) (by omega) (by omega)
    obtain ⟨z48, e48, f48⟩ := fb_mul f46 h2 (by omega) (by omega) (by omega)
    obtain ⟨z50, e50, f50⟩ := fb_add f48 (fb_le (kst (x := 13787419979223748497) (by decide +kernel)) (by omega)) (by omega) (by omega)
    obtain ⟨z52, e52, f52⟩ := fb_mul f50 h2 (by omega) (by omega) (by omega)
    obtain ⟨z54, e54, f54⟩ := fb_add f52 (fb_le (kst (x := 4586165620538955083) (by decide +kernel)) (by omega)) (by omega) (by omega)
    obtain ⟨z56, e56, f56⟩ := fb_mul f34 f54 (by omega) (by omega) (by omega)
    obtain ⟨z58, e58, f58⟩ := fb_add (fb_le f32 (b := 900) (by omega)) (fb_le f56 (by omega)) (by omega) (by omega)
    simp only [e30, e32, e34, e36, e38, e40, e42, e44, e46, e48, e50, e52, e54, e56, e58, Option.bind_some]
    exact fin f58 b
  | false =>
    rw [cond_false]
    obtain ⟨z61, e61, f61⟩ := fb_mul h1 h2 (by omega) (by omega) (by omega)
    obtain ⟨z63, e63, f63⟩ := fb_mul (kst (x := 4460209587652500685) (by decide +kernel)) h2 (by omega) (by omega) (by omega)
    obtain ⟨z65, e65, f65⟩ := fb_add f63 (fb_le (kst (x := 13716528389658582877) (by decide +kernel)) (by omega)) (by omega) (by omega)
    obtain ⟨z67, e67, f67⟩ := fb_mul f65 h2 (by omega) (by omega) (by omega)
    obtain ⟨z69, e69, f69⟩ := fb_add f67 (fb_le (kst (x := 4523617212962785441) (by decide +kernel)) (by omega)) (by omega) (by omega)
    obtain ⟨z71, e71, f71⟩ := fb_mul f69 h2 (by omega) (by omega) (by omega)
    obtain ⟨z73, e73, f73⟩ := fb_add f71 (fb_le (kst (x := 13774824197404483331) (by decide +kernel)) (by omega)) (by omega) (by omega)
    obtain ⟨z75, e75, f75⟩ := fb_mul f73 h2 (by omega) (by omega) (by omega)
    obtain ⟨z77, e77, f77⟩ := fb_add f75 (fb_le (kst (x := 4575957461383575504) (by decide +kernel)) (by omega)) (by omega) (by omega)
    obtain ⟨z79, e79, f79⟩ := fb_mul f77 h2 (by omega) (by omega) (by omega)
    obtain ⟨z81, e81, f81⟩ := fb_add f79 (fb_le (kst (x := 13818544856648471880) (by decide +kernel)) (by omega)) (by omega) (by omega)
    obtain ⟨z83, e83, f83⟩ := fb_mul f61 f81 (by omega) (by omega) (by omega)
    obtain ⟨z85, e85, f85⟩ := fb_add (fb_le h1 (b := 900) (by omega)) (fb_le f83 (by omega)) (by omega) (by omega)
    simp only [e61, e63, e65, e67, e69, e71, e73, e75, e77, e79, e81, e83, e85, Option.bind_some]
    exact fin f85 b
theorem k4_p {z23 : Nat} (g : Bool × Int) (h1 : FB z23 24) : ∃ z, p_sin_k4 z23 g = some z ∧ ∃ r, V z = some r := by
  obtain ⟨z26, e26, f26⟩ := fb_mul h1 h1 (by omega) (by omega) (by omega)
  unfold p_sin_k4
  rw [e26, Option.bind_some]
  cases decide (g.2 = (1 : Int)) with
  | true => exact k5_p true h1 f26
  | false => exact k5_p _ h1 f26
theorem k3_p {y w : Nat} {s : Bool} {j : Nat} (hy : FB y 12) (hw : FB w 15) (hj : j ≤ 4098) : ∃ z, p_sin_k3 (y, s) ((j : Int), w) = some z ∧ ∃ r, V z = some r := by
  obtain ⟨z13, e13, f13⟩ := fb_mul hw (kst (x := 4605249456957292544) (by decide +kernel)) (by omega) (by omega) (by omega)
  obtain ⟨z15, e15, f15⟩ := fb_sub (fb_le hy (show (12 : Int) ≤ 15 + 0 + 1 by omega)) f13 (by omega) (by omega)
  obtain ⟨z17, e17, f17⟩ := fb_mul hw (kst (x := 4495793288086814720) (by decide +kernel)) (by omega) (by omega) (by omega)
  obtain ⟨z19, e19, f19⟩ := fb_sub f15 (fb_le f17 (by omega)) (by omega) (by omega)
  obtain ⟨z21, e21, f21⟩ := fb_mul hw (kst (x := 4388835458085048688) (by decide +kernel)) (by omega) (by omega) (by omega)
  obtain ⟨z23, e23, f23⟩ := fb_sub f19 (fb_le f21 (by omega)) (by omega) (by omega)
  have hb : bits .and .u64 (j : Int) (7 : Int) = ((j &&& 7 : Nat) : Int) := bits_and64 (by omega) (c := 7) (by omega)
  have h7 : j &&& 7 ≤ 7 := Nat.and_le_right
  unfold p_sin_k3
  simp only [e13, e15, e17, e19, e21, e23, Option.bind_some, hb]
  by_cases h3 : (3 : Int) < ((j &&& 7 : Nat) : Int)
  · rw [cond_t (decide_eq_true h3), need_pos (inu64 (by omega) (by omega))]
    exact k4_p _ (fb_le f23 (by omega))
  · rw [cond_f (decide_eq_false h3)]
    exact k4_p _ (fb_le f23 (by omega))
theorem k2_p {y : Nat} {s : Bool} {p : Rat} (hy : V y = some p) (h0 : 0 ≤ p) (h1 : p ≤ 2048) : ∃ z, p_sin_k2 (y, s) = some z ∧ ∃ r, V z = some r := by
  have hfy : FB y 12 := ⟨p, hy, by
    have e : (2 : Rat) ^ (12 : Int) = 4096 := by decide +kernel
    rw [e]; unfold Bd; constructor <;> grind⟩
  obtain ⟨c, hc, c0, c2⟩ := k4p
  have hpc0 : 0 ≤ p * c := Rat.mul_nonneg h0 c0
  have hpc : p * c ≤ 2048 * 2 := by
    have m1 := Rat.mul_le_mul_of_nonneg_right h1 c0
    have m2 := Rat.mul_le_mul_of_nonneg_left c2 (show (0 : Rat) ≤ 2048 by decide)
    grind
  have hbd : Bd (p * c) 4096 := by unfold Bd; constructor <;> grind
  have e12 : (2 : Rat) ^ (12 : Int) = 4096 := by decide +kernel
  obtain ⟨z8, r8, e8, v8, hR⟩ := mul_rnd hy hc (lt1023 (k := 12) (by rw [e12]; exact hbd) (by omega))
  obtain ⟨n1, n2⟩ := hR.near hbd
  have ht := tiny2
  have hu : (4096 : Rat) * u53 ≤ 1 / 2 := by decide +kernel
  have hr0 : -1 < r8 := by grind
  have e8' : floatBits .mul .f64 y 4608412980311869571 = some z8 := e8
  obtain ⟨j, ej, hj⟩ := f2u_val v8 hr0 (B := 4097) (by
    have : ((4097 : Nat) : Rat) = 4097 := rfl
    rw [this]; grind) (by omega)
  have hIj : Flt.I (ofInt (j : Int)) (j : Int) := ofInt_int (by omega)
  have hjr : ((j : Int) : Rat) ≤ 4097 := by
    have : ((j : Int) : Rat) ≤ ((4097 : Int) : Rat) := Rat.intCast_le_intCast.2 (by omega)
    exact this
  have hj0 : (0 : Rat) ≤ ((j : Int) : Rat) := by
    have : ((0 : Int) : Rat) ≤ ((j : Int) : Rat) := Rat.intCast_le_intCast.2 (by omega)
    exact this
  unfold p_sin_k2
  simp only
  have hK29 : Flt.I 4737786807993761792 536870912 := (wordI 536870912 (by decide) (by decide +kernel) (by decide +kernel)).1
  have hge : fge y 4737786807993761792 = false := by
    rw [fge_val hy hK29]
    refine decide_eq_false (fun h => ?_)
    have : ((536870912 : Int) : Rat) = 536870912 := rfl
    rw [this] at h
    grind
  rw [cond_f hge, e8', Option.bind_some, ej, Option.bind_some]
  have hb1 : bits .and .u64 (j : Int) (1 : Int) = ((j &&& 1 : Nat) : Int) := bits_and64 (by omega) (c := 1) (by omega)
  rw [hb1]
  have e13 : (2 : Rat) ^ (13 : Int) = 8192 := by decide +kernel
  have hw : FB (ofInt (j : Int)) 13 := ⟨_, hIj, by rw [e13]; unfold Bd; constructor <;> grind⟩
  by_cases h1 : ((j &&& 1 : Nat) : Int) = (1 : Int)
  · rw [cond_t (decide_eq_true h1), need_pos (inu64 (by omega) (by omega))]
    obtain ⟨z93, e93, f93⟩ := fb_add hw (fb_le K1 (by omega)) (by omega) (by omega)
    rw [e93, Option.bind_some, succ_cast]
    exact k3_p hfy f93 (by omega)
  · rw [cond_f (decide_eq_false h1)]
    exact k3_p hfy (fb_le hw (by omega)) (by omega)
/-- The sine of a finite number of no great size. -/
theorem sin_p {x : Nat} {q : Rat} (hx : V x = some q) (hb : Bd q 2048) : ∃ z, p_Sin x = some z ∧ (∃ r, V z = some r) ∧ (q = 0 → z = x) := by
  have hz : V 0 = some ((0 : Int) : Rat) := zero_int
  have e0 : ((0 : Int) : Rat) = 0 := rfl
  rw [e0] at hz
  have main : ∃ z, p_sin x = some z ∧ (∃ r, V z = some r) ∧ (q = 0 → z = x) := by
    unfold p_sin
    rw [feq_val hx hz]
    by_cases h0 : q = 0
    · rw [cond_t (decide_eq_true h0)]
      exact ⟨x, rfl, ⟨q, hx⟩, fun _ => rfl⟩
    · rw [cond_f (decide_eq_false h0)]
      have hn : p_IsNaN x = some false := by
        unfold p_IsNaN
        rw [feq_val hx hx, decide_eq_true rfl]; rfl
      rw [hn, Option.bind_some]
      unfold p_sin_k1
      have hm : ∃ m, V 9218868437227405311 = some m ∧ 2048 < m := by
        refine ⟨((9007199254740991 : Int) : Rat) * 2 ^ (971 : Int), by decide +kernel, by decide +kernel⟩
      obtain ⟨m, hm, hm2⟩ := hm
      have hi : p_IsInf x 0 = some false := by
        unfold p_IsInf
        rw [cond_t (by rfl), fgt_val (fabs_V hx) hm]
        congr 1
        have := ab_le hb
        exact decide_eq_false (by grind)
      rw [cond_false, hi, Option.bind_some, cond_false, flt_val hx hz]
      have fin : ∀ {o : Option Nat}, (∃ z, o = some z ∧ ∃ r, V z = some r) → ∃ z, o = some z ∧ (∃ r, V z = some r) ∧ (q = 0 → z = x) := fun ⟨z, h1, h2⟩ => ⟨z, h1, h2, fun h => absurd h h0⟩
      unfold Bd at hb
      by_cases hneg : q < 0
      · rw [cond_t (decide_eq_true hneg)]
        exact fin (k2_p (fneg_V hx) (by grind) (by grind))
      · rw [cond_f (decide_eq_false hneg)]
        exact fin (k2_p hx (by grind) (by grind))
  obtain ⟨z, h1, h2⟩ := main
  refine ⟨z, ?_, h2⟩
  unfold p_Sin
  rw [h1]; rfl
theorem law_turn (a b : Nat) : p_FnAngleOrientation a b = some true := by
  have K1000 : Flt.I 4652007308841189376 1000 := (wordI 1000 (by decide) (by decide +kernel) (by decide +kernel)).1
  have hz : V 0 = some ((0 : Int) : Rat) := zero_int
  have e0 : ((0 : Int) : Rat) = 0 := rfl
  rw [e0] at hz
  unfold p_FnAngleOrientation
  cases ha : fle (fabs a) 4652007308841189376 with
  | false => rw [cond_false]; rfl
  | true =>
    rw [cond_true]
    cases hb : fle (fabs b) 4652007308841189376 with
    | false => rfl
    | true =>
      obtain ⟨p, hp, bp⟩ := fle_fin K1000 ha
      obtain ⟨q, hq, bq⟩ := fle_fin K1000 hb
      have e3 : ((1000 : Int) : Rat) = 1000 := rfl
      rw [e3] at bp bq
      have b1 := le_ab p
      have b2 := le_ab q
      unfold Bd at b1 b2
      have hbd : Bd (q - p) 2000 := by unfold Bd; constructor <;> grind
      have e11 : (2 : Rat) ^ (11 : Int) = 2048 := by decide +kernel
      obtain ⟨d, r, ed, hd, hR⟩ := sub_rnd hq hp (lt1023 (k := 11) (by rw [e11]; unfold Bd at *; constructor <;> grind) (by omega))
      have ed' : floatBits .sub .f64 b a = some d := ed
      obtain ⟨n1, n2⟩ := hR.near hbd
      have hu : (2000 : Rat) * u53 ≤ 1 / 2 := by decide +kernel
      have ht := tiny2
      obtain ⟨z, ez, ⟨s, hs⟩, hz0⟩ := sin_p hd (show Bd r 2048 by unfold Bd at *; constructor <;> grind)
      have hang : p_AngleOrientation a b = some (if 0 < s then 1 else if s < 0 then -1 else 0) := by
        unfold p_AngleOrientation p_AngleOrientation_9
        rw [ed', Option.bind_some, ez, Option.bind_some, fgt_val hs hz, flt_val hs hz]
        by_cases h1 : 0 < s
        · rw [cond_t (decide_eq_true h1), if_pos h1]; rfl
        · rw [cond_f (decide_eq_false h1), if_neg h1]
          by_cases h2 : s < 0
          · rw [cond_t (decide_eq_true h2), if_pos h2]; rfl
          · rw [cond_f (decide_eq_false h2), if_neg h2]; rfl
      unfold p_FnAngleOrientation_k1
      rw [show (!true) = false from rfl, cond_false, hang, Option.bind_some, ed', Option.bind_some, ez, Option.bind_some, feq_val hp hq]
      have hcp : V 4517110426252607488 = some (((1 : Int) : Rat) * 2 ^ (-20 : Int)) := by decide +kernel
      have hcn : V 13740482463107383296 = some (((-1 : Int) : Rat) * 2 ^ (-20 : Int)) := by decide +kernel
      have c1 : (0 : Rat) < ((1 : Int) : Rat) * 2 ^ (-20 : Int) := by decide +kernel
      have c2 : ((-1 : Int) : Rat) * 2 ^ (-20 : Int) < 0 := by decide +kernel
      by_cases hpq : p = q
      · rw [cond_t (decide_eq_true hpq)]
        have hr0 : r = 0 := by
          have := hR.exact 0 0 (by decide) (by decide) (by rw [hpq]; simp; grind)
          rw [this, hpq]; grind
        have hzd := hz0 hr0
        have hs0 : s = 0 := by
          rw [hzd, hd, hr0] at hs
          exact (Option.some.inj hs).symm
        rw [if_neg (by rw [hs0]; decide), if_neg (by rw [hs0]; decide)]
        rfl
      · rw [cond_f (decide_eq_false hpq), fgt_val hs hcp, flt_val hs hcn]
        by_cases h1 : ((1 : Int) : Rat) * 2 ^ (-20 : Int) < s
        · rw [cond_t (decide_eq_true h1), if_pos (by grind)]; rfl
        · rw [cond_f (decide_eq_false h1)]
          by_cases h2 : s < ((-1 : Int) : Rat) * 2 ^ (-20 : Int)
          · rw [cond_t (decide_eq_true h2), if_neg (by grind), if_pos (by grind)]; rfl
          · rw [cond_f (decide_eq_false h2)]
            split
            · rfl
            · split <;> rfl
end Go.Proofs.YthodmgmachkglaaDoor.Wk
