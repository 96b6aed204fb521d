/- Proved: the law of the square of a place's distance from a segment, joined. -/
import Derived.Test.YtohpmbodfpjjmaaSegD
namespace Go.Proofs.Ytohpmbodfpjjmaa.Wk
open Go.Vm
set_option linter.unusedVariables false
set_option linter.unusedSimpArgs false
abbrev B10 (n : Int) : Prop := -1024 ≤ n ∧ n ≤ 1024
theorem bdI {n : Int} {k : Int} (h1 : -k ≤ n) (h2 : n ≤ k) : Flt.Bd (n : Rat) (k : Rat) := by
  refine ⟨?_, Rat.intCast_le_intCast.2 h2⟩
  rw [← Rat.intCast_neg]; exact Rat.intCast_le_intCast.2 h1
/-- the square of the distance of two places, the second of which is near what is meant -/
theorem dist_p {xp yp c1 c2 : Nat} {px py : Int} {X Y : Rat} (hx : Flt.I xp px) (hy : Flt.I yp py) (lx : B10 px) (ly : B10 py) (h1 : Flt.App c1 X (1 / 549755813888)) (h2 : Flt.App c2 Y (1 / 549755813888)) (bX : Flt.Bd X 4096) (bY : Flt.Bd Y 4096) :
    ∃ z, p_distanceFromSegmentSquared_k1 [xp, yp] (c1, c2) = some z ∧ Flt.App z (((px : Rat) - X) * ((px : Rat) - X) + ((py : Rat) - Y) * ((py : Rat) - Y)) (1 / 4194304) ∧ z < 18446744073709551616 := by
  have e1024 : ((1024 : Int) : Rat) = 1024 := rfl
  have bp := bdI lx.1 lx.2
  have bq := bdI ly.1 ly.2
  rw [e1024] at bp bq
  have bx : Flt.Bd ((px : Rat) - X) 5120 := by unfold Flt.Bd at *; constructor <;> grind
  have by_ : Flt.Bd ((py : Rat) - Y) 5120 := by unfold Flt.Bd at *; constructor <;> grind
  obtain ⟨z16, e16, a16⟩ := Flt.app_sub (B := 8192) (g := 1 / 274877906944) (Flt.App.int hx) h1 (by unfold Flt.Bd at *; constructor <;> grind) (by decide +kernel) (by decide +kernel)
  obtain ⟨z20, e20, a20⟩ := Flt.app_sub (B := 8192) (g := 1 / 274877906944) (Flt.App.int hy) h2 (by unfold Flt.Bd at *; constructor <;> grind) (by decide +kernel) (by decide +kernel)
  obtain ⟨z22, e22, a22⟩ := Flt.app_mul (P := 5120) (Q := 5120) (B := 33554432) (g := 1 / 16777216) a16 a16 bx bx (by decide +kernel) (by decide +kernel) (by decide +kernel)
  obtain ⟨z24, e24, a24⟩ := Flt.app_mul (P := 5120) (Q := 5120) (B := 33554432) (g := 1 / 16777216) a20 a20 by_ by_ (by decide +kernel) (by decide +kernel) (by decide +kernel)
  have m1 := Flt.mul_bd bx bx
  have m2 := Flt.mul_bd by_ by_
  obtain ⟨z26, e26, a26⟩ := Flt.app_add (B := 67108864) (g := 1 / 4194304) a22 a24 (by unfold Flt.Bd at *; constructor <;> grind) (by decide +kernel) (by decide +kernel)
  refine ⟨z26, ?_, a26, wf64 (floatBits_wf e26)⟩
  unfold p_distanceFromSegmentSquared_k1
  have q : ∀ (x y : Nat), idx [x, y] (0 : Int) = some x ∧ idx [x, y] (1 : Int) = some y := fun x y => ⟨rfl, rfl⟩
  simp only [(q _ _).1, (q _ _).2, Option.bind_some, e16, e20, e22, e24, e26]
theorem prod11 {f m : Int} (f1 : -2048 ≤ f) (f2 : f ≤ 2048) (m1 : -2048 ≤ m) (m2 : m ≤ 2048) : -4194304 ≤ f * m ∧ f * m ≤ 4194304 := by
  have h1 : (f + 2048) * (m + 2048) ≥ 0 := Int.mul_nonneg (by omega) (by omega)
  have h2 : (2048 - f) * (2048 - m) ≥ 0 := Int.mul_nonneg (by omega) (by omega)
  have h3 : (f + 2048) * (2048 - m) ≥ 0 := Int.mul_nonneg (by omega) (by omega)
  have h4 : (2048 - f) * (m + 2048) ≥ 0 := Int.mul_nonneg (by omega) (by omega)
  simp only [Int.add_mul, Int.mul_add, Int.sub_mul, Int.mul_sub] at h1 h2 h3 h4
  omega
theorem sq_pos {f : Int} (h : f ≠ 0) : 1 ≤ f * f := by
  rcases (show f < 0 ∨ 0 < f by omega) with h | h
  · have : 0 < (-f) * (-f) := Int.mul_pos (by omega) (by omega)
    rw [Int.neg_mul_neg] at this; omega
  · have : 0 < f * f := Int.mul_pos h h
    omega
theorem sq_nn (f : Int) : 0 ≤ f * f := by
  by_cases h : f = 0
  · subst h; decide
  · have := sq_pos h; omega
theorem quo_le {q L : Rat} (hL : 0 < L) (hL2 : L ≤ 8388608) (h : q * L ≤ -1) : q ≤ -(1 / 8388608) := by
  by_cases hq : q ≤ -(1 / 8388608)
  · exact hq
  · exfalso
    have h1 : -(1 / 8388608) < q := by grind
    have := Rat.mul_lt_mul_of_pos_right h1 hL
    grind
theorem at_p {xa ya xb yb xp yp z7 z11 : Nat} {ax ay bx b_y px py : Int} (ia : Flt.I xa ax) (ia' : Flt.I ya ay) (ib : Flt.I xb bx) (ib' : Flt.I yb b_y) (ip : Flt.I xp px) (ip' : Flt.I yp py)
    (la : B10 ax) (la' : B10 ay) (lb : B10 bx) (lb' : B10 b_y) (lp : B10 px) (lp' : B10 py) (i7 : Flt.I z7 (bx - ax)) (i11 : Flt.I z11 (b_y - ay)) (hne : ¬ (bx - ax = 0 ∧ b_y - ay = 0)) :
    ∃ z, p_distanceFromSegmentSquared_k2 [xb, yb] [xp, yp] xa ya z7 z11 true = some z ∧ Flt.App z (sqTo ax ay bx b_y px py) (1 / 4194304) ∧ z < 18446744073709551616 := by
  have q : ∀ (x y : Nat), idx [x, y] (0 : Int) = some x ∧ idx [x, y] (1 : Int) = some y := fun x y => ⟨rfl, rfl⟩
  obtain ⟨z32, e32, i32⟩ := Flt.sub_int ip ia (by omega)
  obtain ⟨z38, e38, i38⟩ := Flt.sub_int ip' ia' (by omega)
  have b1 := prod11 (f := px - ax) (m := bx - ax) (by omega) (by omega) (by omega) (by omega)
  have b2 := prod11 (f := py - ay) (m := b_y - ay) (by omega) (by omega) (by omega) (by omega)
  have b3 := prod11 (f := bx - ax) (m := bx - ax) (by omega) (by omega) (by omega) (by omega)
  have b4 := prod11 (f := b_y - ay) (m := b_y - ay) (by omega) (by omega) (by omega) (by omega)
  obtain ⟨z34, e34, i34⟩ := Flt.mul_int i32 i7 (by omega)
  obtain ⟨z40, e40, i40⟩ := Flt.mul_int i38 i11 (by omega)
  obtain ⟨z42, e42, i42⟩ := Flt.add_int i34 i40 (by omega)
  obtain ⟨z44, e44, i44⟩ := Flt.mul_int i7 i7 (by omega)
  obtain ⟨z46, e46, i46⟩ := Flt.mul_int i11 i11 (by omega)
  obtain ⟨z48, e48, i48⟩ := Flt.add_int i44 i46 (by omega)
  have hL1 : 1 ≤ (bx - ax) * (bx - ax) + (b_y - ay) * (b_y - ay) := by
    have s1 := sq_nn (bx - ax)
    have s2 := sq_nn (b_y - ay)
    by_cases h : bx - ax = 0
    · have := sq_pos (show b_y - ay ≠ 0 from fun e => hne ⟨h, e⟩); omega
    · have := sq_pos h; omega
  -- what is meant, in whole numbers
  have eL : dotR ax ay bx b_y ax ay bx b_y = (((bx - ax) * (bx - ax) + (b_y - ay) * (b_y - ay) : Int) : Rat) := by
    unfold dotR; simp only [Rat.intCast_add, Rat.intCast_mul, Rat.intCast_sub]
  have en : dotR ax ay bx b_y ax ay px py = (((px - ax) * (bx - ax) + (py - ay) * (b_y - ay) : Int) : Rat) := by
    unfold dotR; simp only [Rat.intCast_add, Rat.intCast_mul, Rat.intCast_sub]; grind
  have eA : dotR ax ay px py ax ay px py = ((px : Rat) - ax) * ((px : Rat) - ax) + ((py : Rat) - ay) * ((py : Rat) - ay) := rfl
  have eB : dotR bx b_y px py bx b_y px py = ((px : Rat) - bx) * ((px : Rat) - bx) + ((py : Rat) - b_y) * ((py : Rat) - b_y) := rfl
  obtain ⟨S, hsq⟩ : ∃ S, S = sqTo ax ay bx b_y px py := ⟨_, rfl⟩
  rw [← hsq]
  have hcr : crossR ax ay bx b_y px py * crossR ax ay bx b_y px py = (((px : Rat) - ax) * ((px : Rat) - ax) + ((py : Rat) - ay) * ((py : Rat) - ay)) * (((bx - ax) * (bx - ax) + (b_y - ay) * (b_y - ay) : Int) : Rat) - (((px - ax) * (bx - ax) + (py - ay) * (b_y - ay) : Int) : Rat) * (((px - ax) * (bx - ax) + (py - ay) * (b_y - ay) : Int) : Rat) := by
    unfold crossR; simp only [Rat.intCast_add, Rat.intCast_mul, Rat.intCast_sub]; grind
  have hLx : (((bx - ax) * (bx - ax) + (b_y - ay) * (b_y - ay) : Int) : Rat) = ((bx : Rat) - ax) * ((bx : Rat) - ax) + ((b_y : Rat) - ay) * ((b_y : Rat) - ay) := by simp only [Rat.intCast_add, Rat.intCast_mul, Rat.intCast_sub]
  have hnx : (((px - ax) * (bx - ax) + (py - ay) * (b_y - ay) : Int) : Rat) = ((px : Rat) - ax) * ((bx : Rat) - ax) + ((py : Rat) - ay) * ((b_y : Rat) - ay) := by simp only [Rat.intCast_add, Rat.intCast_mul, Rat.intCast_sub]
  unfold sqTo at hsq
  rw [eL, en, eA, eB] at hsq
  have b1024 : ∀ {n : Int}, B10 n → Flt.Bd (n : Rat) 4096 := fun {n} h => by
    have := bdI h.1 h.2
    have e : ((1024 : Int) : Rat) = 1024 := rfl
    rw [e] at this
    unfold Flt.Bd at *; constructor <;> grind
  have z0 : (0 : Rat) ≤ 1 / 549755813888 := by decide +kernel
  obtain ⟨zA, eA', aA, wA⟩ := dist_p ip ip' lp lp' ((Flt.App.int ia).mono z0) ((Flt.App.int ia').mono z0) (b1024 la) (b1024 la')
  obtain ⟨zB, eB', aB, wB⟩ := dist_p ip ip' lp lp' ((Flt.App.int ib).mono z0) ((Flt.App.int ib').mono z0) (b1024 lb) (b1024 lb')
  unfold p_distanceFromSegmentSquared_k2
  rw [cond_t rfl]
  simp only [(q _ _).1, (q _ _).2, Option.bind_some, e32, e34, e38, e40, e42, e44, e46, e48]
  generalize hn : (px - ax) * (bx - ax) + (py - ay) * (b_y - ay) = n at *
  generalize hLg : (bx - ax) * (bx - ax) + (b_y - ay) * (b_y - ay) = L at *
  have hLr : (0 : Rat) < (L : Rat) := by
    have : ((0 : Int) : Rat) < (L : Rat) := Rat.intCast_lt_intCast.2 (by omega)
    simpa using this
  have hL8 : (L : Rat) ≤ 8388608 := by
    have e : ((8388608 : Int) : Rat) = 8388608 := rfl
    rw [← e]; exact Rat.intCast_le_intCast.2 (by omega)
  have hqL : (n : Rat) / L * L = n := by
    rw [Rat.div_def, Rat.mul_assoc, Rat.mul_comm _ (L : Rat), Rat.mul_inv_cancel (L : Rat) (fun e => by rw [e] at hLr; exact absurd hLr (by decide)), Rat.mul_one]
  have hL0 : ¬ ((L : Rat) = 0) := fun e => by rw [e] at hLr; exact absurd hLr (by decide)
  have one : ((1 : Int) : Rat) = 1 := rfl
  have cast1 : ∀ {a b : Int}, a + 1 ≤ b → (a : Rat) + 1 ≤ (b : Rat) := fun {a b} h => by
    have := Rat.intCast_le_intCast.2 h
    rw [Rat.intCast_add, one] at this; exact this
  have zero : ((0 : Int) : Rat) = 0 := rfl
  rcases (show n ≤ -1 ∨ (0 ≤ n ∧ n ≤ L) ∨ L + 1 ≤ n by omega) with hc | hc | hc
  · -- ahead of the segment
    have hneg : (n : Rat) / L ≤ -(1 / 8388608) := quo_le hLr hL8 (by
      rw [hqL]
      have := Rat.intCast_le_intCast.2 hc
      have e : ((-1 : Int) : Rat) = -1 := rfl
      rw [e] at this; exact this)
    have hbd : Flt.Bd ((n : Rat) / L) 8388608 := by
      refine ⟨?_, by grind⟩
      have h1 : (-8388608 : Rat) ≤ (n : Rat) := by
        have e : ((-8388608 : Int) : Rat) = -8388608 := rfl
        rw [← e]; exact Rat.intCast_le_intCast.2 (by omega)
      have hL1' : (1 : Rat) ≤ L := by rw [← one]; exact Rat.intCast_le_intCast.2 hL1
      by_cases hx : -8388608 ≤ (n : Rat) / L
      · exact hx
      · exfalso
        have h2 : (n : Rat) / L * L ≤ (n : Rat) / L * 1 := by
          have h3 : 0 ≤ (-((n : Rat) / L)) * ((L : Rat) - 1) := Rat.mul_nonneg (by grind) (by grind)
          grind
        rw [hqL] at h2
        grind
    obtain ⟨z50, e50, r, hr, r1, r2⟩ := Flt.app_div (B := 8388608) (g := 1 / 268435456) i42 i48 (by omega) hbd (by decide +kernel) (by decide +kernel)
    rw [e50, Option.bind_some, Flt.fgt_val hr one_int, Flt.fgt_val hr Flt.zero_int, one, zero]
    have hr0 : r < 0 := by
      have : (1 : Rat) / 268435456 < 1 / 8388608 := by decide +kernel
      grind
    rw [cond_f (decide_eq_false (by grind)), cond_f (decide_eq_false (by grind)), eA']
    refine ⟨zA, rfl, ?_, wA⟩
    rw [hsq, if_pos (.inr (by have e : ((-1 : Int) : Rat) = -1 := rfl; have := Rat.intCast_le_intCast.2 hc; rw [e] at this; grind))]
    exact aA
  · -- beside it
    have hn0 : (0 : Rat) ≤ (n : Rat) := by rw [← zero]; exact Rat.intCast_le_intCast.2 hc.1
    have hnL : (n : Rat) ≤ (L : Rat) := Rat.intCast_le_intCast.2 hc.2
    have hLi : (L : Rat) * (L : Rat)⁻¹ = 1 := Rat.mul_inv_cancel (L : Rat) hL0
    have hLi0 : 0 < (L : Rat)⁻¹ := Rat.inv_pos.2 hLr
    have q0 : 0 ≤ (n : Rat) / L := by rw [Rat.div_def]; exact Rat.mul_nonneg hn0 (Rat.le_of_lt hLi0)
    have q1 : (n : Rat) / L ≤ 1 := by
      have := Rat.mul_le_mul_of_nonneg_right hnL (Rat.le_of_lt hLi0)
      rw [hLi] at this
      rw [Rat.div_def]; exact this
    obtain ⟨z50, e50, r, hr, r1, r2⟩ := Flt.app_div (B := 1) (g := 1 / 2251799813685248) i42 i48 (by omega) ⟨by grind, q1⟩ (by decide +kernel) (by decide +kernel)
    rw [e50, Option.bind_some, Flt.fgt_val hr one_int, Flt.fgt_val hr Flt.zero_int, one, zero]
    have sm : (1 : Rat) / 2251799813685248 < 1 / 8388608 := by decide +kernel
    by_cases hr1 : 1 < r
    · rw [cond_t (decide_eq_true hr1), eB']
      refine ⟨zB, rfl, ?_, wB⟩
      have hnl : n = L := by
        rcases (show n = L ∨ n + 1 ≤ L by omega) with h | h
        · exact h
        · exfalso
          have := cast1 h
          have h1 : ((n : Rat) / L - 1) * L ≤ -1 := by
            have e : ((n : Rat) / L - 1) * L = (n : Rat) / L * L - L := by grind
            rw [e, hqL]; grind
          have := quo_le hLr hL8 h1
          grind
      rw [hsq, if_neg (by
        rintro (h | h)
        · exact hL0 h
        · rw [hnl] at h; grind), if_pos (by rw [hnl]; grind)]
      exact aB
    · rw [cond_f (decide_eq_false hr1)]
      by_cases hr0 : 0 < r
      · rw [cond_t (decide_eq_true hr0)]
        have at50 : Flt.App z50 ((n : Rat) / L) (1 / 2251799813685248) := ⟨r, hr, r1, r2⟩
        have b2048 : ∀ {k : Int}, -2048 ≤ k → k ≤ 2048 → Flt.Bd (k : Rat) 2048 := fun {k} h1 h2 => by
          have := bdI (k := 2048) h1 h2
          have e : ((2048 : Int) : Rat) = 2048 := rfl
          rw [e] at this; exact this
        have bdx := b2048 (k := bx - ax) (by omega) (by omega)
        have bdy := b2048 (k := b_y - ay) (by omega) (by omega)
        have bq : Flt.Bd ((n : Rat) / L) 1 := ⟨by grind, q1⟩
        obtain ⟨z58, e58, a58⟩ := Flt.app_mul (P := 2048) (Q := 1) (B := 2049) (g := 3 / 2199023255552) (Flt.App.int i7) at50 bdx bq (by decide +kernel) (by decide +kernel) (by decide +kernel)
        obtain ⟨z62, e62, a62⟩ := Flt.app_mul (P := 2048) (Q := 1) (B := 2049) (g := 3 / 2199023255552) (Flt.App.int i11) at50 bdy bq (by decide +kernel) (by decide +kernel) (by decide +kernel)
        have m1 := Flt.mul_bd bdx bq
        have m2 := Flt.mul_bd bdy bq
        have e1024 : ((1024 : Int) : Rat) = 1024 := rfl
        have ba := bdI la.1 la.2
        have ba' := bdI la'.1 la'.2
        rw [e1024] at ba ba'
        have sm2 : (3 : Rat) / 2199023255552 < 1 := by decide +kernel
        obtain ⟨z60, e60, a60⟩ := Flt.app_add (B := 3100) (g := 1 / 549755813888) (Flt.App.int ia) a58 (by unfold Flt.Bd at *; constructor <;> grind) (by decide +kernel) (by decide +kernel)
        obtain ⟨z64, e64, a64⟩ := Flt.app_add (B := 3100) (g := 1 / 549755813888) (Flt.App.int ia') a62 (by unfold Flt.Bd at *; constructor <;> grind) (by decide +kernel) (by decide +kernel)
        obtain ⟨zC, eC, aC, wC⟩ := dist_p ip ip' lp lp' a60 a64 (by unfold Flt.Bd at *; constructor <;> grind) (by unfold Flt.Bd at *; constructor <;> grind)
        rw [e58, Option.bind_some, e60, Option.bind_some, e62, Option.bind_some, e64, Option.bind_some, eC]
        refine ⟨zC, rfl, ?_, wC⟩
        have eX : ((px : Rat) - ((ax : Rat) + ((bx - ax : Int) : Rat) * ((n : Rat) / L))) * ((px : Rat) - ((ax : Rat) + ((bx - ax : Int) : Rat) * ((n : Rat) / L))) + ((py : Rat) - ((ay : Rat) + ((b_y - ay : Int) : Rat) * ((n : Rat) / L))) * ((py : Rat) - ((ay : Rat) + ((b_y - ay : Int) : Rat) * ((n : Rat) / L))) =
            ((px : Rat) - ax) * ((px : Rat) - ax) + ((py : Rat) - ay) * ((py : Rat) - ay) - (n : Rat) / L * n := by
          rw [Rat.intCast_sub, Rat.intCast_sub]
          generalize (n : Rat) / L = Q at *
          have h1 : Q * (Q * (L : Rat)) = Q * n := by rw [hqL]
          rw [hLx] at h1
          rw [hnx] at h1 ⊢
          grind
        rw [eX] at aC
        have hS : S = ((px : Rat) - ax) * ((px : Rat) - ax) + ((py : Rat) - ay) * ((py : Rat) - ay) - (n : Rat) / L * n := by
          by_cases hn00 : (n : Rat) ≤ 0
          · rw [hsq, if_pos (.inr hn00)]
            have : (n : Rat) = 0 := by grind
            rw [this]; grind
          · rw [hsq, if_neg (by rintro (h | h); exact hL0 h; exact hn00 h)]
            by_cases hl : (L : Rat) ≤ n
            · rw [if_pos hl]
              have hnl : (n : Rat) = L := by grind
              have hq1 : (n : Rat) / L = 1 := by rw [hnl, Rat.div_def]; exact hLi
              rw [hq1]
              have h2 := hnl
              rw [hnx, hLx] at h2
              rw [hnx]
              grind
            · have e9 : ∀ A : Rat, (A * (L : Rat) - (n : Rat) * n) * (L : Rat)⁻¹ = A * ((L : Rat) * (L : Rat)⁻¹) - (n : Rat) * (L : Rat)⁻¹ * n := fun A => by grind
              rw [if_neg hl, hcr, Rat.div_def, e9, hLi, Rat.mul_one, Rat.div_def]
        rw [hS]; exact aC
      · rw [cond_f (decide_eq_false hr0), eA']
        refine ⟨zA, rfl, ?_, wA⟩
        have hn00 : n = 0 := by
          rcases (show n = 0 ∨ 1 ≤ n by omega) with h | h
          · exact h
          · exfalso
            have := Rat.intCast_le_intCast.2 h
            rw [one] at this
            have h1 : (-((n : Rat) / L)) * L ≤ -1 := by rw [Rat.neg_mul, hqL]; grind
            have := quo_le hLr hL8 h1
            grind
        rw [hsq, if_pos (.inr (by rw [hn00, zero]; grind))]
        exact aA
  · -- behind it
    have hpos : 1 + 1 / 8388608 ≤ (n : Rat) / L := by
      have h1 : (1 - (n : Rat) / L) * L ≤ -1 := by
        have := cast1 hc
        have e : (1 - (n : Rat) / L) * L = L - (n : Rat) / L * L := by grind
        rw [e, hqL]; grind
      have := quo_le hLr hL8 h1
      grind
    have hbd : Flt.Bd ((n : Rat) / L) 8388608 := by
      refine ⟨by grind, ?_⟩
      have h1 : (n : Rat) ≤ 8388608 := by
        have e : ((8388608 : Int) : Rat) = 8388608 := rfl
        rw [← e]; exact Rat.intCast_le_intCast.2 (by omega)
      have hL1' : (1 : Rat) ≤ L := by rw [← one]; exact Rat.intCast_le_intCast.2 hL1
      have h3 : 0 ≤ ((n : Rat) / L) * ((L : Rat) - 1) := Rat.mul_nonneg (by grind) (by grind)
      have h4 : ((n : Rat) / L) * ((L : Rat) - 1) = (n : Rat) / L * L - (n : Rat) / L := by grind
      rw [h4, hqL] at h3
      grind
    obtain ⟨z50, e50, r, hr, r1, r2⟩ := Flt.app_div (B := 8388608) (g := 1 / 268435456) i42 i48 (by omega) hbd (by decide +kernel) (by decide +kernel)
    rw [e50, Option.bind_some, Flt.fgt_val hr one_int, one]
    have hr0 : 1 < r := by
      have : (1 : Rat) / 268435456 < 1 / 8388608 := by decide +kernel
      grind
    rw [cond_t (decide_eq_true hr0), eB']
    refine ⟨zB, rfl, ?_, wB⟩
    have hn1 := cast1 hc
    rw [hsq, if_neg (by
      rintro (h | h)
      · exact hL0 h
      · grind), if_pos (by grind)]
    exact aB
theorem law_seg {F : Nat} (hF : BigF F) (a b p : TImpl_P2) (w1 : a.X < 18446744073709551616) (w2 : a.Y < 18446744073709551616) (w3 : b.X < 18446744073709551616) (w4 : b.Y < 18446744073709551616) (w5 : p.X < 18446744073709551616) (w6 : p.Y < 18446744073709551616) :
    p_FnSegmentDistance2 F a b p = some true := by
  have q : ∀ (x y : Nat), idx [x, y] (0 : Int) = some x ∧ idx [x, y] (1 : Int) = some y := fun x y => ⟨rfl, rfl⟩
  unfold p_FnSegmentDistance2
  rw [planeTo_p hF _ _ (by simp), Option.bind_some]
  cases hc : [p, a, b].all (planeOk 4652218415073722368) with
  | false => rfl
  | true =>
    rw [cond_f (show (!true) = false from rfl)]
    simp only [List.all_cons, List.all_nil, Bool.and_true, Bool.and_eq_true] at hc
    obtain ⟨h3, h1, h2⟩ := hc
    obtain ⟨ax, ay, ia, la, la'⟩ := at_of K10_int (by omega) (by omega) h1
    obtain ⟨bx, b_y, ib, lb, lb'⟩ := at_of K10_int (by omega) (by omega) h2
    obtain ⟨px, py, ip, lp, lp'⟩ := at_of K10_int (by omega) (by omega) h3
    obtain ⟨x, e1, k1⟩ := exactly_p hF ia w1 w2
    obtain ⟨y, e2, k2⟩ := exactly_p hF ib w3 w4
    obtain ⟨z, e3, k3⟩ := exactly_p hF ip w5 w6
    obtain ⟨N, D, d, e4, hd, hD, hN⟩ := squareTo_p hF k1 k2 k3
    have main : ∃ v, p_distanceFromSegmentSquared [a.X, a.Y] [b.X, b.Y] [p.X, p.Y] = some v ∧ Flt.App v (sqTo ax ay bx b_y px py) (1 / 4194304) ∧ v < 18446744073709551616 := by
      obtain ⟨z7, e7, i7⟩ := Flt.sub_int ib.1 ia.1 (by omega)
      obtain ⟨z11, e11, i11⟩ := Flt.sub_int ib.2 ia.2 (by omega)
      unfold p_distanceFromSegmentSquared
      simp only [(q _ _).1, (q _ _).2, Option.bind_some, e7, e11, Flt.feq_int i7 Flt.zero_int, Flt.feq_int i11 Flt.zero_int]
      by_cases hx : bx - ax = 0
      · rw [cond_f (nF hx)]
        by_cases hy : b_y - ay = 0
        · rw [nF hy]
          unfold p_distanceFromSegmentSquared_k2
          rw [cond_f rfl]
          have z0 : (0 : Rat) ≤ 1 / 549755813888 := by decide +kernel
          have b1024 : ∀ {n : Int}, B10 n → Flt.Bd (n : Rat) 4096 := fun {n} h => by
            have := bdI h.1 h.2
            have e : ((1024 : Int) : Rat) = 1024 := rfl
            rw [e] at this
            unfold Flt.Bd at *; constructor <;> grind
          obtain ⟨zA, eA', aA, wA⟩ := dist_p ip.1 ip.2 lp lp' ((Flt.App.int ia.1).mono z0) ((Flt.App.int ia.2).mono z0) (b1024 la) (b1024 la')
          refine ⟨zA, eA', ?_, wA⟩
          have h0 : dotR ax ay bx b_y ax ay bx b_y = 0 := by
            unfold dotR
            have c1 : (bx : Rat) - ax = 0 := by rw [← Rat.intCast_sub, hx]; rfl
            have c2 : (b_y : Rat) - ay = 0 := by rw [← Rat.intCast_sub, hy]; rfl
            rw [c1, c2]; grind
          unfold sqTo
          rw [if_pos (.inl h0)]
          exact aA
        · rw [nT hy]
          exact at_p ia.1 ia.2 ib.1 ib.2 ip.1 ip.2 la la' lb lb' lp lp' i7 i11 (fun h => hy h.2)
      · rw [cond_t (nT hx)]
        exact at_p ia.1 ia.2 ib.1 ib.2 ip.1 ip.2 la la' lb lb' lp lp' i7 i11 (fun h => hx h.1)
    obtain ⟨v, e5, ⟨r, hr, r1, r2⟩, wv⟩ := main
    have e6 : p_SegmentDistance2 a b p = some v := by simp only [p_SegmentDistance2, p_coord, p_DoorSegmentDistance2, e5, Option.bind_some]
    have sm : (1 : Rat) / 4194304 < 1 / 1048576 := by decide +kernel
    have e7 := near_p hF hr wv hd hD hN (by grind) (by grind)
    rw [e6, Option.bind_some, e3, Option.bind_some, e1, Option.bind_some, e2, Option.bind_some, e4, Option.bind_some, e7, Option.bind_some]
end Go.Proofs.Ytohpmbodfpjjmaa.Wk
