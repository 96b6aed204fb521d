/- Floors of quotients of whole numbers. -/
import Derived.Test.YtdchenbdnalbcaaGreatFltInj
import Derived.Test.YtdchenbdnalbcaaGreatFltDiv
set_option linter.unusedVariables false
set_option linter.unusedSimpArgs false
namespace Flt
open Go Ieee Go.Vm
def floorD (x : Nat) : Nat := FloatKind.f64.encode ((FloatKind.f64.decode x).integral .down)
def floorS (x : Nat) (d : Ieee.Datum) : Sem Value :=
  match d with
  | .nan s t =>
    if FloatKind.f64.format.quiet t = t then pure (.float .f64 x) else do
      let kept ← choose (.extern "math.Floor,Ceil,Trunc,RoundToEven.signallingNaN kept" 2)
      pure (.float .f64 (if kept == 1 then x else FloatKind.f64.encode (.nan s (FloatKind.f64.format.quiet t))))
  | d => pure (.float .f64 (FloatKind.f64.encode (d.integral .down)))
theorem run_floor (P : Program) (x : Nat) (h : isNan x = false) (w : World) : (Extern.MathFloor.toIntegral "math.archFloor" .down #[.float .f64 x]).run P w = .ok (.float .f64 (floorD x)) w := by
  have e : Extern.MathFloor.toIntegral "math.archFloor" .down #[.float .f64 x] = floorS x (FloatKind.f64.decode x) := rfl
  rw [e]
  unfold floorD
  unfold isNan at h
  generalize FloatKind.f64.decode x = d at *
  cases d with
  | number s m e => rfl
  | infinity s => rfl
  | nan s t => cases h
theorem cut_down (n d : Nat) : Toward.down.cut false n d = n / 2 ^ d := by
  have h : Toward.down.cut false n d = Toward.zero.cut false n d := rfl
  rw [h, cut_zero]
theorem trunc_lt (m : Nat) (i : Int) : (m : Rat) * 2 ^ i < (((m <<< i.toNat) / 2 ^ (-i).toNat + 1 : Nat) : Rat) := by
  have h : m <<< i.toNat < ((m <<< i.toNat) / 2 ^ (-i).toNat + 1) * 2 ^ (-i).toNat := by
    rw [Nat.mul_comm]; exact Nat.lt_mul_div_succ _ (Nat.two_pow_pos _)
  rw [Nat.shiftLeft_eq] at h ⊢
  generalize hq : m * 2 ^ i.toNat / 2 ^ (-i).toNat + 1 = q at *
  have h' : (m : Rat) * ((2 ^ i.toNat : Nat) : Rat) < (q : Rat) * ((2 ^ (-i).toNat : Nat) : Rat) := by exact_mod_cast h
  rw [← zpow_nat, ← zpow_nat] at h'
  have e1 : (2 : Rat) ^ (((-i).toNat : Nat) : Int) * 2 ^ (min i 0) = 1 := by
    rw [← zpow_add]; have : (((-i).toNat : Nat) : Int) + min i 0 = 0 := by omega
    rw [this, zpow_zero']
  have e2 : (2 : Rat) ^ ((i.toNat : Nat) : Int) * 2 ^ (min i 0) = 2 ^ i := by rw [← zpow_add]; congr 1; omega
  have hp := zpow_pos (min i 0)
  generalize (2 : Rat) ^ (((-i).toNat : Nat) : Int) = a at *
  generalize (2 : Rat) ^ ((i.toNat : Nat) : Int) = b at *
  generalize (2 : Rat) ^ (min i 0) = c at *
  have f := Rat.mul_lt_mul_of_pos_right h' hp
  have g : (q : Rat) = (q : Rat) * a * c := by rw [Rat.mul_assoc, e1, Rat.mul_one]
  rw [← e2, g, ← Rat.mul_assoc]
  exact f
theorem floor_val {x : Nat} {q : Rat} (hx : V x = some q) (h1 : 1 ≤ q) (h2 : q < 9007199254740992) : isNan x = false ∧ ∃ t : Nat, I (floorD x) (t : Int) ∧ (t : Rat) ≤ q ∧ q < ((t + 1 : Nat) : Rat) := by
  obtain ⟨s, m, i, hrd, hv⟩ := V_num hx
  have hnn : isNan x = false := by
    unfold isNan
    show (double.read x).isNaN = false
    rw [hrd]; rfl
  refine ⟨hnn, ?_⟩
  have hp : (0 : Rat) ≤ (m : Rat) * 2 ^ i := Rat.mul_nonneg Rat.natCast_nonneg (Rat.le_of_lt (zpow_pos i))
  have hs : s = false := by
    cases s with
    | false => rfl
    | true => unfold sg at hv; simp at hv; grind
  subst hs
  have hv' : (m : Rat) * 2 ^ i = q := by unfold sg at hv; simpa using hv
  have ht := trunc_le m i
  have ht2 := trunc_lt m i
  have e : floorD x = double.write (.number false ((m <<< i.toNat) / 2 ^ (-i).toNat) 0) := by
    show double.write ((double.read x).integral .down) = _
    rw [hrd]
    simp only [Datum.integral, cut_down]
  generalize hT : (m <<< i.toNat) / 2 ^ (-i).toNat = T at *
  rw [hv'] at ht ht2
  have hb : ((T : Int)).natAbs ≤ 9007199254740992 := by
    have : (T : Rat) < ((9007199254740992 : Nat) : Rat) := by
      have : ((9007199254740992 : Nat) : Rat) = 9007199254740992 := rfl
      grind
    have := Rat.natCast_lt_natCast.1 this
    omega
  have hm : sg false ((T : Rat) * 2 ^ (0 : Int)) = ((T : Int) : Rat) := by
    rw [zpow_zero', Rat.mul_one]; simp [sg, Rat.intCast_natCast]
  obtain ⟨r2, hr2, hR⟩ := write_rnd false T 0 (sg_lt hm (ab_int_lt hb))
  rw [hm] at hR
  have hr3 := hR.int hb
  rw [← e] at hr2
  exact ⟨T, by rw [I, hr2, hr3], ht, ht2⟩
/-- A quotient that can be told exactly, is. -/
theorem quo_exact {x y : Nat} {p q : Rat} {c E : Int} (hx : V x = some p) (hy : V y = some q) (h0 : q ≠ 0) (hc : p / q = (c : Rat) * 2 ^ E) (hb : c.natAbs ≤ 9007199254740992) (hE : -1074 ≤ E) (hE2 : E ≤ 900) : ∃ z, double.div x y = some z ∧ V z = some (p / q) := by
  obtain ⟨s, m, i, hrx, hvx⟩ := V_num hx
  obtain ⟨t, n, j, hry, hvy⟩ := V_num hy
  have hn : n ≠ 0 := fun e => by subst e; apply h0; rw [← hvy]; unfold sg; cases t <;> simp
  have hm := read_mag hrx
  obtain ⟨N, hN⟩ : ∃ N, N = m <<< (54 + n.log2 - m.log2) := ⟨_, rfl⟩
  have hdig := quot_dig hn hm N _ rfl hN
  generalize hmo : 54 + n.log2 - m.log2 = more at *
  generalize hA : 2 * (N / n) + (N % n != 0).toNat = A at *
  have hdiv : double.div x y = some (double.write (.number (s ^^ t) A (i - j - more - 1))) := by
    unfold Format.div
    rw [hrx, hry]
    unfold Datum.quotient
    simp only [if_neg hn]
    have e54 : double.fractionBits + 2 = 54 := by decide
    rw [e54, hmo, ← hN, hA]
    rfl
  have hp : (0 : Rat) < (2 : Rat) ^ (i - j - more - 1) := zpow_pos _
  have hnq : (0 : Rat) < (n : Rat) := by
    have : 0 < n := Nat.pos_of_ne_zero hn
    exact_mod_cast this
  have hB : p / q = sg (s ^^ t) ((2 * (N : Rat) / n) * 2 ^ (i - j - more - 1)) := by
    have hN' : (N : Rat) = (m : Rat) * 2 ^ ((more : Nat) : Int) := by
      rw [hN, Nat.shiftLeft_eq, zpow_nat]
      exact Rat.natCast_mul _ _
    have hqm : q * sg (s ^^ t) ((2 * (N : Rat) / n) * 2 ^ (i - j - more - 1)) = p := by
      rw [← hvx, ← hvy, sg_mul]
      have e : (t ^^ (s ^^ t)) = s := by cases s <;> cases t <;> rfl
      rw [e]
      congr 1
      have e1 : (2 : Rat) ^ i = 2 ^ j * 2 * 2 ^ ((more : Nat) : Int) * 2 ^ (i - j - more - 1) := by
        have e2 : i = j + (1 + (((more : Nat) : Int) + (i - j - more - 1))) := by omega
        have e3 : (2 : Rat) ^ i = 2 ^ (j + (1 + (((more : Nat) : Int) + (i - j - more - 1)))) := congrArg (fun z : Int => (2 : Rat) ^ z) e2
        rw [e3, zpow_add, zpow_add, zpow_add, pow_one']
        grind
      rw [e1, hN']
      have e4 : (n : Rat) * (2 ^ j) * ((2 * ((m : Rat) * 2 ^ ((more : Nat) : Int)) / n) * 2 ^ (i - j - more - 1)) = ((n : Rat) * (2 * ((m : Rat) * 2 ^ ((more : Nat) : Int)) / n)) * (2 ^ j * 2 ^ (i - j - more - 1)) := by grind
      have e5 : (n : Rat) * (2 * ((m : Rat) * 2 ^ ((more : Nat) : Int)) / n) = 2 * ((m : Rat) * 2 ^ ((more : Nat) : Int)) := by
        have hne : (n : Rat) ≠ 0 := fun e => by rw [e] at hnq; exact absurd hnq (by decide)
        have := Rat.mul_inv_cancel (n : Rat) hne
        rw [Rat.div_def]; grind
      rw [e4, e5]
      grind
    rw [← hqm, Rat.div_def, Rat.mul_comm q, Rat.mul_assoc, Rat.mul_inv_cancel _ h0, Rat.mul_one]
  have hinv : (n : Rat) * (n : Rat)⁻¹ = 1 := Rat.mul_inv_cancel (n : Rat) (fun e => by rw [e] at hnq; exact absurd hnq (by decide))
  obtain ⟨B, hBd⟩ : ∃ B : Rat, B = 2 * (N : Rat) / n := ⟨_, rfl⟩
  rw [← hBd] at hB
  have hBn : B * n = 2 * (N : Rat) := by rw [hBd, Rat.div_def]; grind
  have hAB : (A : Rat) = B := by
    have h1 : A * n = 2 * N := by
      by_cases hz : N % n = 0
      · have hd := Nat.div_add_mod N n
        rw [hz, Nat.add_zero] at hd
        have e0 : (N % n != 0).toNat = 0 := by rw [hz]; rfl
        rw [← hA, e0, Nat.add_zero, Nat.mul_assoc, Nat.mul_comm (N / n) n, hd]
      · exfalso
        apply hz
        rcases hdig with ⟨h1, _⟩ | ⟨_, _, h3⟩
        · exact h1
        · have hE0 : (0 : Rat) < 2 ^ E := zpow_pos E
          have hB0 : 0 ≤ B := by
            have hN0 : (0 : Rat) ≤ (N : Rat) := Rat.natCast_nonneg
            rw [hBd, Rat.div_def]; exact Rat.mul_nonneg (by grind) (Rat.le_of_lt (Rat.inv_pos.2 hnq))
          have hac : ab (c : Rat) = (c.natAbs : Rat) := by
            have h := sg_natAbs c
            rw [← h, sg_ab (by rw [zpow_zero', Rat.mul_one]; exact Rat.natCast_nonneg), zpow_zero', Rat.mul_one]
          have hBT : B * 2 ^ (i - j - more - 1) = (c.natAbs : Rat) * 2 ^ E := by
            have h1 : ab (p / q) = B * 2 ^ (i - j - more - 1) := by rw [hB, sg_ab (Rat.mul_nonneg hB0 (Rat.le_of_lt hp))]
            have h2 : ab (p / q) = (c.natAbs : Rat) * 2 ^ E := by rw [hc, ab_mul hE0, hac]
            rw [← h1, h2]
          obtain ⟨e, he⟩ : ∃ e, e = E - (i - j - more - 1) := ⟨_, rfl⟩
          have hEe : (2 : Rat) ^ E = 2 ^ (i - j - more - 1) * 2 ^ e := by rw [← zpow_add]; congr 1; omega
          have hBe : B = (c.natAbs : Rat) * 2 ^ e := by
            rw [hEe] at hBT
            generalize (2 : Rat) ^ (i - j - more - 1) = T at *
            have hT0 : T ≠ 0 := fun h => by rw [h] at hp; exact absurd hp (by decide)
            have h1 : B * T * T⁻¹ = (c.natAbs : Rat) * (T * 2 ^ e) * T⁻¹ := by rw [hBT]
            have h2 := Rat.mul_inv_cancel T hT0
            have h3 : (c.natAbs : Rat) * (T * 2 ^ e) * T⁻¹ = (c.natAbs : Rat) * 2 ^ e * (T * T⁻¹) := by grind
            rw [h3, Rat.mul_assoc, h2, Rat.mul_one, Rat.mul_one] at h1
            exact h1
          have hBge : (18014398509481984 : Rat) ≤ B := by
            have c3 : 9007199254740992 * (n : Rat) ≤ (N : Rat) := by
              have : ((9007199254740992 * n : Nat) : Rat) ≤ ((N : Nat) : Rat) := Rat.natCast_le_natCast.2 h3
              rw [Rat.natCast_mul] at this
              exact this
            have h4 := Rat.mul_le_mul_of_nonneg_right c3 (Rat.le_of_lt (Rat.inv_pos.2 hnq))
            have e1 : 9007199254740992 * (n : Rat) * (n : Rat)⁻¹ = 9007199254740992 := by rw [Rat.mul_assoc, hinv, Rat.mul_one]
            rw [e1] at h4
            have e2 : B = 2 * ((N : Rat) * (n : Rat)⁻¹) := by rw [hBd, Rat.div_def, Rat.mul_assoc]
            rw [e2]; grind
          have hcb : (c.natAbs : Rat) ≤ 9007199254740992 := by
            have : ((c.natAbs : Nat) : Rat) ≤ ((9007199254740992 : Nat) : Rat) := Rat.natCast_le_natCast.2 hb
            exact this
          have he1 : 1 ≤ e := by
            apply Classical.byContradiction
            intro hne
            have h5 : (2 : Rat) ^ e ≤ 1 := by have := zpow_le (a := e) (b := 0) (by omega); rw [zpow_zero'] at this; exact this
            have h9 := Rat.mul_le_mul_of_nonneg_left h5 (show (0 : Rat) ≤ (c.natAbs : Rat) from Rat.natCast_nonneg)
            rw [← hBe, Rat.mul_one] at h9
            grind
          obtain ⟨k, hk⟩ : ∃ k : Nat, e - 1 = (k : Int) := ⟨(e - 1).toNat, by omega⟩
          have h10 : (N : Rat) = (c.natAbs : Rat) * ((2 ^ k : Nat) : Rat) * (n : Rat) := by
            have h11 := half e
            rw [hk, zpow_nat] at h11
            rw [hBe, h11] at hBn
            generalize ((2 ^ k : Nat) : Rat) = M at *
            grind
          have h12 : N = c.natAbs * 2 ^ k * n := by
            rw [← Rat.natCast_mul, ← Rat.natCast_mul] at h10
            exact Rat.natCast_inj.1 h10
          rw [h12]; exact Nat.mul_mod_left _ _
    have h1' : (A : Rat) * n = 2 * (N : Rat) := by
      have := congrArg (fun z : Nat => (z : Rat)) h1
      simp only [Rat.natCast_mul] at this
      exact this
    have e1 : (A : Rat) * n * (n : Rat)⁻¹ = B * n * (n : Rat)⁻¹ := by rw [h1', hBn]
    rw [Rat.mul_assoc, Rat.mul_assoc, hinv, Rat.mul_one, Rat.mul_one] at e1
    exact e1
  have hq : sg (s ^^ t) ((A : Rat) * 2 ^ (i - j - more - 1)) = (c : Rat) * 2 ^ E := by rw [hAB, ← hB, hc]
  obtain ⟨r, hr, hR⟩ := write_rnd (s ^^ t) A (i - j - more - 1) (sg_lt hq (ab_dy hb hE2))
  rw [hq] at hR
  have h13 := hR.exact c E hb hE rfl
  exact ⟨_, hdiv, by rw [hr, h13, hc]⟩
/-- The floor of a quotient of whole numbers. -/
theorem quo_floor {x y : Nat} {m n : Nat} (hx : I x (m : Int)) (hy : I y (n : Int)) (h1 : 1 ≤ n) (h2 : n ≤ m) (h3 : m ≤ 134217728) : ∃ z, floatBits .quo .f64 x y = some z ∧ isNan z = false ∧ I (floorD z) ((m / n : Nat) : Int) := by
  have hn0 : (0 : Rat) < (n : Rat) := by
    have : ((0 : Nat) : Rat) < ((n : Nat) : Rat) := Rat.natCast_lt_natCast.2 (by omega)
    exact this
  have hnne : (n : Rat) ≠ 0 := fun e => by rw [e] at hn0; exact absurd hn0 (by decide)
  have hxq : V x = some (m : Rat) := by have := hx; unfold I at this; rw [Rat.intCast_natCast] at this; exact this
  have hyq : V y = some (n : Rat) := by have := hy; unfold I at this; rw [Rat.intCast_natCast] at this; exact this
  have hinv : (n : Rat) * (n : Rat)⁻¹ = 1 := Rat.mul_inv_cancel (n : Rat) hnne
  obtain ⟨Q, hQ⟩ : ∃ Q : Rat, Q = (m : Rat) / (n : Rat) := ⟨_, rfl⟩
  have hQn : Q * n = m := by rw [hQ, Rat.div_def, Rat.mul_assoc, Rat.mul_comm (n : Rat)⁻¹, hinv, Rat.mul_one]
  have hdm := Nat.div_add_mod m n
  have hml := Nat.mod_lt m (show 0 < n by omega)
  obtain ⟨t, ht⟩ : ∃ t, t = m / n := ⟨_, rfl⟩
  obtain ⟨u, hu⟩ : ∃ u, u = m % n := ⟨_, rfl⟩
  rw [← ht, ← hu] at hdm
  rw [← hu] at hml
  rw [← ht]
  have ht1 : 1 ≤ t := by rw [ht]; exact Nat.div_pos h2 (by omega)
  have htm : t ≤ m := by rw [ht]; exact Nat.div_le_self _ _
  have fin : ∀ {z : Nat} {r : Rat}, V z = some r → (t : Rat) ≤ r → r < ((t + 1 : Nat) : Rat) → isNan z = false ∧ I (floorD z) (t : Int) := fun {z r} hz hl hr => by
    have l1 : ((1 : Nat) : Rat) ≤ ((t : Nat) : Rat) := Rat.natCast_le_natCast.2 ht1
    have l2 : ((t + 1 : Nat) : Rat) ≤ ((134217729 : Nat) : Rat) := Rat.natCast_le_natCast.2 (by omega)
    have c1 : ((1 : Nat) : Rat) = 1 := rfl
    have c2 : ((134217729 : Nat) : Rat) = 134217729 := rfl
    obtain ⟨a, t', b1, b2, b3⟩ := floor_val hz (by grind) (by grind)
    refine ⟨a, ?_⟩
    have : t' = t := by
      have d1 : (t' : Rat) < ((t + 1 : Nat) : Rat) := by grind
      have d2 : (t : Rat) < ((t' + 1 : Nat) : Rat) := by grind
      have := Rat.natCast_lt_natCast.1 d1
      have := Rat.natCast_lt_natCast.1 d2
      omega
    rw [← this]; exact b1
  by_cases h0 : u = 0
  · have hmt : m = n * t := by rw [h0] at hdm; omega
    have hQt : Q = (t : Rat) := by
      rw [hmt, Rat.natCast_mul] at hQn
      have e1 : Q * n * (n : Rat)⁻¹ = (n : Rat) * t * (n : Rat)⁻¹ := by rw [hQn]
      have e2 : (n : Rat) * t * (n : Rat)⁻¹ = t * (n * (n : Rat)⁻¹) := by grind
      rw [e2, Rat.mul_assoc, hinv, Rat.mul_one, Rat.mul_one] at e1
      exact e1
    obtain ⟨z, hz, hv⟩ := quo_exact (c := (t : Int)) (E := 0) hxq hyq hnne (by rw [← hQ, hQt, zpow_zero', Rat.mul_one, Rat.intCast_natCast]) (by omega) (by omega) (by omega)
    rw [← hQ, hQt] at hv
    obtain ⟨a, b⟩ := fin hv Rat.le_refl (Rat.natCast_lt_natCast.2 (by omega))
    exact ⟨z, hz, a, b⟩
  · have hm3 : (m : Rat) ≤ ((134217728 : Nat) : Rat) := Rat.natCast_le_natCast.2 h3
    have c0 : ((134217728 : Nat) : Rat) = 134217728 := rfl
    have hQ0 : 0 ≤ Q := by
      have : (0 : Rat) ≤ (m : Rat) := Rat.natCast_nonneg
      rw [hQ, Rat.div_def]; exact Rat.mul_nonneg this (Rat.le_of_lt (Rat.inv_pos.2 hn0))
    have hn1 : (1 : Rat) ≤ (n : Rat) := by
      have : ((1 : Nat) : Rat) ≤ ((n : Nat) : Rat) := Rat.natCast_le_natCast.2 h1
      exact this
    have hQm : Q ≤ m := by
      have := Rat.mul_le_mul_of_nonneg_left hn1 hQ0
      rw [hQn, Rat.mul_one] at this
      exact this
    have habQ : ab Q = Q := by unfold ab; rw [if_neg (by grind)]
    obtain ⟨z, r, hz, hv, hN⟩ := div_rnd hxq hyq hnne (by
      rw [← hQ, habQ]
      have : (134217728 : Rat) < 2 ^ (1022 : Int) := by decide +kernel
      grind)
    rw [← hQ] at hN
    obtain ⟨n1, n2⟩ := hN
    rw [habQ] at n1 n2
    have e52 : (2 : Rat) ^ (-52 : Int) = 1 / 4503599627370496 := by decide +kernel
    have etiny : (2 : Rat) ^ (-1075 : Int) ≤ 1 / 4503599627370496 := by decide +kernel
    rw [e52] at n1 n2
    have htn : (t : Rat) * n + u = m := by
      have : ((n * t + u : Nat) : Rat) = (m : Rat) := by rw [hdm]
      rw [Rat.natCast_add, Rat.natCast_mul] at this
      grind
    have hu1 : (1 : Rat) ≤ (u : Rat) := by
      have : ((1 : Nat) : Rat) ≤ ((u : Nat) : Rat) := Rat.natCast_le_natCast.2 (by omega)
      exact this
    have hu2 : (u : Rat) + 1 ≤ (n : Rat) := by
      have : ((u + 1 : Nat) : Rat) ≤ ((n : Nat) : Rat) := Rat.natCast_le_natCast.2 (by omega)
      rw [Rat.natCast_add] at this
      exact this
    have hnm : (n : Rat) ≤ (m : Rat) := Rat.natCast_le_natCast.2 h2
    -- the distance, times n
    have m1 := Rat.mul_le_mul_of_nonneg_right n1 (Rat.le_of_lt hn0)
    have m2 := Rat.mul_le_mul_of_nonneg_right n2 (Rat.le_of_lt hn0)
    generalize (2 : Rat) ^ (-1075 : Int) = tn at *
    have k1 : (Q * (1 / 4503599627370496) + tn) * n ≤ 1 / 2 := by
      have a1 : (Q * (1 / 4503599627370496) + tn) * n = (Q * n) * (1 / 4503599627370496) + tn * n := by grind
      have a2 := Rat.mul_le_mul_of_nonneg_right etiny (Rat.le_of_lt hn0)
      rw [a1, hQn]
      grind
    have lo1 : (t : Rat) ≤ r := by
      apply Classical.byContradiction
      intro hc
      have hc' : r < (t : Rat) := by grind
      have := Rat.mul_lt_mul_of_pos_right hc' hn0
      have a3 : (Q - r) * n = Q * n - r * n := by grind
      rw [a3, hQn] at m2
      grind
    have hi1 : r < ((t + 1 : Nat) : Rat) := by
      apply Classical.byContradiction
      intro hc
      have e1 : ((t + 1 : Nat) : Rat) = (t : Rat) + 1 := by rw [Rat.natCast_add]; rfl
      have hc' : (t : Rat) + 1 ≤ r := by grind
      have := Rat.mul_le_mul_of_nonneg_right hc' (Rat.le_of_lt hn0)
      have a3 : (r - Q) * n = r * n - Q * n := by grind
      have a4 : ((t : Rat) + 1) * n = t * n + n := by grind
      rw [a3, hQn] at m1
      rw [a4] at this
      grind
    obtain ⟨a, b⟩ := fin hv lo1 hi1
    exact ⟨z, hz, a, b⟩
end Flt
