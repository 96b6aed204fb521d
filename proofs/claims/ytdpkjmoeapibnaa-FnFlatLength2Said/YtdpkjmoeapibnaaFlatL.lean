/- Proved: lengths of lines along the axes, in whole numbers: segments and lines. -/
import Derived.Test.YtdpkjmoeapibnaaFLin
import Derived.Test.YtdpkjmoeapibnaaFltSqrt
namespace Go.Proofs.Ytdpkjmoeapibnaa.Wk
open Go.Vm Flt
set_option linter.unusedVariables false
set_option linter.unusedSimpArgs false
theorem gWhole_p (x : Nat) : ∃ b, p_gWhole x = some b ∧ (b = true → ∃ n, I x n ∧ -1048576 ≤ n ∧ n ≤ 1048576) := by
  unfold p_gWhole
  cases h1 : fge x 13920626448202203136 with
  | false => exact ⟨false, rfl, fun h => by cases h⟩
  | true =>
    cases h2 : fle x 4697254411347427328 with
    | false => exact ⟨false, rfl, fun h => by cases h⟩
    | true =>
      refine ⟨_, rfl, fun h => okF_K20 ?_⟩
      rw [truncN_of (show isNan x = false from okF_nn h2)] at h
      have e : fneg K20 = 13920626448202203136 := by decide +kernel
      unfold okF inR
      rw [e, h1, h2, h]; rfl
/-- a row of whole numbers -/
def Whl (l : List Nat) (f : Nat → Int) : Prop := ∀ j, j < l.length → I (l.getD j 0) (f j) ∧ -1048576 ≤ f j ∧ f j ≤ 1048576
theorem gEach_p {F : Nat} (l : List Nat) (e : List Int) (y : Int) (hb : l.length ≤ 2147483647) (hl : l.length < F) : ∃ b, p_gEach (F + 1) ⟨3, y, 0, l, e, [], []⟩ = some b ∧ (b = true → ∃ f, Whl l f) := by
  have hp : ∀ x, p_gWhole x = some ((p_gWhole x).getD false) := fun x => by obtain ⟨b, hb, _⟩ := gWhole_p x; rw [hb]; rfl
  have h := scan_loop0 l (p_gEach_l4 ⟨3, y, 0, l, e, [], []⟩) (fun x => (p_gWhole x).getD false) false
    (fun K k hk => by unfold p_gEach_l4; rw [cond_f (decide_eq_false (by simp only; omega))])
    (fun K k x hx => by
      have hk := (List.getElem?_eq_some_iff.1 hx).1
      unfold p_gEach_l4
      rw [cond_t (decide_eq_true (by simp only; omega))]
      dsimp only
      rw [idx_get hx, Option.bind_some, hp x, Option.bind_some]
      cases (p_gWhole x).getD false with
      | true => rw [cond_f (by rfl), succ_cast, need_pos (in64m (by omega) (by omega))]; rfl
      | false => rfl) hl
  show ∃ b, p_gEach_b _ F _ = some b ∧ _
  unfold p_gEach_b
  rw [h, Option.bind_some]
  split
  · rename_i hall
    refine ⟨true, ?_, fun _ => ?_⟩
    · rw [aft_inl]
      unfold p_gEach_k1
      obtain ⟨G, rfl⟩ : ∃ G, F = G + 1 := ⟨F - 1, by omega⟩
      show (p_gEach_l3 _ _ _ _).bind _ = _
      unfold p_gEach_l3
      rw [cond_f (by rfl)]
      rfl
    · have : ∀ j, ∃ n, j < l.length → I (l.getD j 0) n ∧ -1048576 ≤ n ∧ n ≤ 1048576 := fun j => by
        by_cases hj : j < l.length
        · obtain ⟨b, hb, hb2⟩ := gWhole_p (l.getD j 0)
          have hm : (p_gWhole (l.getD j 0)).getD false = true := List.all_eq_true.1 hall _ (by rw [List.getD_eq_getElem?_getD, List.getElem?_eq_getElem hj]; exact List.getElem_mem hj)
          rw [hb] at hm
          obtain ⟨n, hn⟩ := hb2 hm
          exact ⟨n, fun _ => hn⟩
        · exact ⟨0, fun h => absurd h hj⟩
      exact ⟨fun j => (this j).choose, fun j => (this j).choose_spec⟩
  · exact ⟨false, rfl, fun h => by cases h⟩
/-- the segment that ends at the place j -/
def dX (f : Nat → Int) (t j : Nat) : Int := f j - f (j - t)
def dY (f : Nat → Int) (t j : Nat) : Int := f (j + 1) - f (j - t + 1)
def segF (f : Nat → Int) (t j : Nat) : Int := ((dX f t j).natAbs + (dY f t j).natAbs : Nat)
def lenF (f : Nat → Int) (t a : Nat) : Nat → Int
  | 0 => 0
  | k + 1 => lenF f t a k + segF f t (a + (k + 1) * t)
def alongF (f : Nat → Int) (t a k : Nat) : Prop := ∀ i, 1 ≤ i → i ≤ k → dX f t (a + i * t) = 0 ∨ dY f t (a + i * t) = 0
theorem sq_natAbs (a : Int) : a * a = ((a.natAbs * a.natAbs : Nat) : Int) := by rw [Int.natAbs_mul_self]
theorem sq_small {a : Int} (h : a.natAbs ≤ 2097152) : (a * a).natAbs ≤ 4398046511104 := by
  rw [Int.natAbs_mul]
  have := Nat.mul_le_mul h h
  omega
theorem seg_p {x1 x0 y1 y0 : Nat} {a b c d : Int} (h1 : I x1 a) (h2 : I x0 b) (h3 : I y1 c) (h4 : I y0 d) (ha : -1048576 ≤ a ∧ a ≤ 1048576) (hb : -1048576 ≤ b ∧ b ≤ 1048576) (hc : -1048576 ≤ c ∧ c ≤ 1048576) (hd : -1048576 ≤ d ∧ d ≤ 1048576) :
    ∃ z14 z23 z25 z27 z29 y, floatBits .sub .f64 x1 x0 = some z14 ∧ floatBits .sub .f64 y1 y0 = some z23 ∧ floatBits .mul .f64 z14 z14 = some z25 ∧ floatBits .mul .f64 z23 z23 = some z27 ∧ floatBits .add .f64 z25 z27 = some z29 ∧ p_Sqrt z29 = some y ∧
      (∃ r, V y = some r ∧ Bd r 16777216) ∧ (a - b = 0 ∨ c - d = 0 → I y (((a - b).natAbs + (c - d).natAbs : Nat) : Int)) := by
  obtain ⟨z14, e14, i14⟩ := sub_int h1 h2 (by omega)
  obtain ⟨z23, e23, i23⟩ := sub_int h3 h4 (by omega)
  have s1 : ((a - b) * (a - b)).natAbs ≤ 4398046511104 := sq_small (by omega)
  have s2 : ((c - d) * (c - d)).natAbs ≤ 4398046511104 := sq_small (by omega)
  obtain ⟨z25, e25, i25⟩ := mul_int i14 i14 (by omega)
  obtain ⟨z27, e27, i27⟩ := mul_int i23 i23 (by omega)
  obtain ⟨z29, e29, i29⟩ := add_int i25 i27 (by omega)
  have q1 : 0 ≤ (a - b) * (a - b) := by rw [sq_natAbs]; omega
  have q2 : 0 ≤ (c - d) * (c - d) := by rw [sq_natAbs]; omega
  obtain ⟨N, hN⟩ : ∃ N : Nat, (a - b) * (a - b) + (c - d) * (c - d) = (N : Int) := ⟨((a - b) * (a - b) + (c - d) * (c - d)).toNat, by omega⟩
  have hNb : N ≤ 8796093022208 := by omega
  have hv : V z29 = some ((N : Nat) : Rat) := by have := i29; rw [hN] at this; unfold I at this; rw [Rat.intCast_natCast] at this; exact this
  have hNr : (N : Rat) ≤ 8796093022208 := nat_le_rat hNb
  have big : (2 : Rat) ^ (50 : Int) ≤ 2 ^ (2000 : Int) := zpow_le (by omega)
  have e50 : (2 : Rat) ^ (50 : Int) = 1125899906842624 := by decide +kernel
  obtain ⟨y, r, s, hy, hr, hs0, hR, l1, l2, _⟩ := sqrt_rnd hv Rat.natCast_nonneg (by grind)
  have hS : p_Sqrt z29 = some y := by unfold p_Sqrt; rw [show FloatKind.f64.format.sqrt z29 = some y from hy]; rfl
  refine ⟨z14, z23, z25, z27, z29, y, e14, e23, e25, e27, e29, hS, ⟨r, hr, ?_⟩, fun h => ?_⟩
  · have hss : s * s ≤ 8388608 * 8388608 := by grind
    have hs1 : s ≤ 8388608 := sq_le hs0 (by decide +kernel) hss
    obtain ⟨n1, n2⟩ := hR.near (B := 8388608) ⟨by grind, hs1⟩
    have : (8388608 : Rat) * u53 + tiny ≤ 1 := by decide +kernel
    constructor <;> grind
  · have key : ∀ k : Nat, (a - b) * (a - b) + (c - d) * (c - d) = ((k * k : Nat) : Int) → k ≤ 2097152 → I y k := fun k hk hkb => by
      rw [hk] at i29
      obtain ⟨z, hz, hi⟩ := sqrt_int i29 (by omega)
      have : z = y := Option.some.inj (hz.symm.trans hy)
      rw [← this]; exact hi
    rcases h with h | h
    · have := key (c - d).natAbs (by rw [h, ← sq_natAbs]; omega) (by omega)
      rw [h]; simpa using this
    · have := key (a - b).natAbs (by rw [h, ← sq_natAbs]; omega) (by omega)
      rw [h]; simpa using this
theorem segF_le {l : List Nat} {f : Nat → Int} (hf : Whl l f) {t j : Nat} (hj : j + 1 < l.length) : 0 ≤ segF f t j ∧ segF f t j ≤ 4194304 := by
  have h1 := hf j (by omega); have h2 := hf (j - t) (by omega); have h3 := hf (j + 1) hj; have h4 := hf (j - t + 1) (by omega)
  unfold segF dX dY
  omega
theorem lenF_le {l : List Nat} {f : Nat → Int} (hf : Whl l f) {t a : Nat} : ∀ k, a + k * t + 1 < l.length ∨ k = 0 → 0 ≤ lenF f t a k ∧ lenF f t a k ≤ 4194304 * k
  | 0, _ => by simp [lenF]
  | k + 1, h => by
    have hs : (k + 1) * t = k * t + t := Nat.succ_mul k t
    have h1 := lenF_le hf (t := t) (a := a) k (by omega)
    have h2 := segF_le hf (t := t) (j := a + (k + 1) * t) (by omega)
    simp only [lenF]
    omega
/-- what is known of a sum after k segments -/
def SumP (f : Nat → Int) (t a k : Nat) (z : Nat) : Prop := (∃ r, V z = some r ∧ Bd r ((k : Rat) * 33554432)) ∧ (alongF f t a k → I z (lenF f t a k))
theorem bd_add {z y z' : Nat} {r s B C : Rat} (hz : V z = some r) (hy : V y = some s) (hr : Bd r B) (hs : Bd s C) (hB : B + C ≤ 1000000000000) (hadd : floatBits .add .f64 z y = some z') : ∃ r', V z' = some r' ∧ Bd r' (B + C + 1) := by
  have hb : Bd (r + s) (B + C) := by unfold Bd at *; constructor <;> grind
  have hh : (1000000000000 : Rat) ≤ huge := by decide +kernel
  obtain ⟨z2, t, h1, h2, hR⟩ := add_rnd hz hy (huge_lt2 hb (by grind))
  have : z2 = z' := Option.some.inj (h1.symm.trans hadd)
  subst this
  obtain ⟨n1, n2⟩ := hR.near hb
  have h3 := Rat.mul_le_mul_of_nonneg_right hB (show (0 : Rat) ≤ u53 by decide +kernel)
  have h4 : (1000000000000 : Rat) * u53 + tiny ≤ 1 := by decide +kernel
  refine ⟨t, h2, ?_⟩
  unfold Bd at *
  constructor <;> grind
theorem add_some {z y : Nat} {r s B C : Rat} (hz : V z = some r) (hy : V y = some s) (hr : Bd r B) (hs : Bd s C) (hB : B + C ≤ 1000000000000) : ∃ z', floatBits .add .f64 z y = some z' := by
  have hb : Bd (r + s) (B + C) := by unfold Bd at *; constructor <;> grind
  have hh : (1000000000000 : Rat) ≤ huge := by decide +kernel
  obtain ⟨z2, t, h1, h2, hR⟩ := add_rnd hz hy (huge_lt2 hb (by grind))
  exact ⟨z2, h1⟩
theorem length1_loop {l : List Nat} {f : Nat → Int} (hf : Whl l f) {a t n : Nat} (h2 : 2 ≤ t) (h9 : t ≤ 9) (hb : l.length ≤ 2000) (ha : a + n * t ≤ l.length) : ∀ (F i : Nat) (z : Nat), n - i < F → i + 1 ≤ n → SumP f t a i z →
    ∃ z', iter (p_length1_l2 l ((a + n * t : Nat) : Int) (t : Int)) F (z, ((a + (i + 1) * t : Nat) : Int)) = some (.inl z') ∧ SumP f t a (n - 1) z' := by
  intro F
  induction F with
  | zero => intro i z h; omega
  | succ F ih =>
    intro i z h hi hP
    have hm : (i + 1) * t ≤ n * t := Nat.mul_le_mul_right t hi
    have hs : (i + 1) * t = i * t + t := Nat.succ_mul i t
    have hs2 : (i + 1 + 1) * t = (i + 1) * t + t := Nat.succ_mul (i + 1) t
    have hn : n ≤ 2000 := Nat.le_trans (Nat.le_mul_of_pos_right n (by omega : 0 < t)) (by omega)
    show ∃ z', p_length1_l2 l _ _ (iter (p_length1_l2 l _ _) F) _ = some (.inl z') ∧ _
    generalize hK : iter (p_length1_l2 l ((a + n * t : Nat) : Int) (t : Int)) F = K at *
    unfold p_length1_l2
    dsimp only
    by_cases hin : i + 1 < n
    · have hm2 : (i + 1 + 1) * t ≤ n * t := Nat.mul_le_mul_right t hin
      generalize hj : a + (i + 1) * t = j at *
      have hjt : j - t = a + i * t := by omega
      obtain ⟨f1, b1⟩ := hf j (by omega)
      obtain ⟨f2, b2⟩ := hf (j - t) (by omega)
      obtain ⟨f3, b3⟩ := hf (j + 1) (by omega)
      obtain ⟨f4, b4⟩ := hf (j - t + 1) (by omega)
      obtain ⟨z14, z23, z25, z27, z29, y, e14, e23, e25, e27, e29, eS, ⟨r, hr, hrb⟩, hex⟩ := seg_p f1 f2 f3 f4 b1 b2 b3 b4
      obtain ⟨⟨r0, hr0, hrb0⟩, hex0⟩ := hP
      have c1 : (j : Int) - (t : Int) = ((j - t : Nat) : Int) := by omega
      have c2 : (j : Int) + 1 = ((j + 1 : Nat) : Int) := by omega
      have c3 : (j : Int) + 1 - (t : Int) = ((j - t + 1 : Nat) : Int) := by omega
      have hi2 : (i : Rat) ≤ 2000 := nat_le_rat (show i ≤ 2000 by omega)
      have hB : (i : Rat) * 33554432 + 16777216 ≤ 1000000000000 := by grind
      obtain ⟨z', hz'⟩ := add_some hr0 hr hrb0 hrb hB
      obtain ⟨r', hr', hrb'⟩ := bd_add hr0 hr hrb0 hrb hB hz'
      rw [cond_t (decide_eq_true (by omega)), idx_lt l j 0 (by omega), Option.bind_some, need_pos (in64m (by omega) (by omega)), c1, idx_lt l (j - t) 0 (by omega), Option.bind_some, e14, Option.bind_some, need_pos (in64m (by omega) (by omega)),
        c2, idx_lt l (j + 1) 0 (by omega), Option.bind_some, need_pos (in64m (by omega) (by omega)), need_pos (in64m (by omega) (by omega)), ← c2, c3, idx_lt l (j - t + 1) 0 (by omega), Option.bind_some, e23, Option.bind_some, e25, Option.bind_some, e27, Option.bind_some, e29, Option.bind_some, eS, Option.bind_some, hz', Option.bind_some, need_pos (in64m (by omega) (by omega))]
      have c4 : (j : Int) + (t : Int) = ((a + (i + 1 + 1) * t : Nat) : Int) := by omega
      rw [c4]
      refine ih (i + 1) z' (by omega) (by omega) ⟨⟨r', hr', ?_⟩, fun hal => ?_⟩
      · have : ((i + 1 : Nat) : Rat) = (i : Rat) + 1 := by rw [Rat.natCast_add]; rfl
        rw [this]
        unfold Bd at *
        constructor <;> grind
      · have hz0 := hex0 (fun k k1 k2 => hal k k1 (by omega))
        have hd := hal (i + 1) (by omega) (Nat.le_refl _)
        rw [hj] at hd
        have hy := hex hd
        have hl := lenF_le hf (t := t) (a := a) i (by omega)
        have hsg := segF_le hf (t := t) (j := j) (by omega)
        have e : lenF f t a (i + 1) = lenF f t a i + segF f t j := by simp only [lenF, hj]
        obtain ⟨z2, hz2, hI⟩ := add_int hz0 (show I y (segF f t j) from hy) (by omega)
        have : z2 = z' := Option.some.inj (hz2.symm.trans hz')
        rw [e, ← this]; exact hI
    · have hin2 : i + 1 = n := by omega
      subst hin2
      rw [cond_f (decide_eq_false (by omega))]
      exact ⟨z, rfl, hP⟩
theorem length1_p {l : List Nat} {f : Nat → Int} (hf : Whl l f) {a t n F : Nat} (h2 : 2 ≤ t) (h9 : t ≤ 9) (hb : l.length ≤ 2000) (ha : a + n * t ≤ l.length) (hF : 2001 < F) :
    ∃ z, p_length1 F l (a : Int) ((a + n * t : Nat) : Int) (t : Int) = some z ∧ SumP f t a (n - 1) z := by
  have h0 : SumP f t a 0 0 := ⟨⟨0, zero_int, by unfold Bd; grind⟩, fun _ => zero_int⟩
  have hn : n ≤ 2000 := Nat.le_trans (Nat.le_mul_of_pos_right n (by omega : 0 < t)) (by omega)
  unfold p_length1
  rw [need_pos (in64 (by omega) (by omega))]
  have c : (a : Int) + (t : Int) = ((a + (0 + 1) * t : Nat) : Int) := by omega
  rw [c]
  by_cases h : n = 0
  · subst h
    obtain ⟨G, rfl⟩ : ∃ G, F = G + 1 := ⟨F - 1, by omega⟩
    refine ⟨0, ?_, h0⟩
    show ((p_length1_l2 _ _ _ _ _).bind _) = _
    unfold p_length1_l2
    rw [cond_f (decide_eq_false (by dsimp only; omega))]
    rfl
  · obtain ⟨z, hz, hP⟩ := length1_loop hf h2 h9 hb ha F 0 0 (by omega) (by omega) h0
    rw [hz]
    exact ⟨z, rfl, hP⟩
end Go.Proofs.Ytdpkjmoeapibnaa.Wk
