/- What the test of whole numbers in a range tells. -/
import Derived.Test.YtbgdonedjgkhiaaFltInt
namespace Flt
open Go Ieee Go.Vm

def truncD (x : Nat) : Nat := FloatKind.f64.encode ((FloatKind.f64.decode x).integral .zero)
/-- a number is whole and from -m to m -/
def inR (m x : Nat) : Bool := fge x (fneg m) && fle x m
def okF (m x : Nat) : Bool := inR m x && feq x (truncD x)

theorem V_num {x : Nat} {q : Rat} (h : V x = some q) : ∃ s m i, double.read x = .number s m i ∧ sg s ((m : Rat) * 2 ^ i) = q := by
  unfold V at h
  generalize double.read x = d at *
  cases d with
  | number s m i => exact ⟨s, m, i, rfl, by simpa [dval] using h⟩
  | _ => cases h

theorem fle_val {x y : Nat} {p q : Rat} (hx : V x = some p) (hy : V y = some q) : fle x y = decide (p ≤ q) := by
  unfold fle
  rw [order_lt hx hy, order_eq hx hy, ← Bool.decide_or]
  congr 1
  exact propext (by grind)
theorem fge_val {x y : Nat} {p q : Rat} (hx : V x = some p) (hy : V y = some q) : fge x y = decide (q ≤ p) := by
  unfold fge
  rw [order_gt hx hy, order_eq hx hy, ← Bool.decide_or]
  congr 1
  exact propext (by grind)
theorem feq_val {x y : Nat} {p q : Rat} (hx : V x = some p) (hy : V y = some q) : feq x y = decide (p = q) := order_eq hx hy

theorem fin_of {x a b : Nat} {p q : Rat} (ha : V a = some p) (hb : V b = some q) (h1 : fge x a = true) (h2 : fle x b = true) : ∃ r, V x = some r := by
  obtain ⟨s, m, i, hra, _⟩ := V_num ha
  obtain ⟨t, n, j, hrb, _⟩ := V_num hb
  unfold fge Format.order at h1
  unfold fle Format.order at h2
  unfold V
  rw [hra] at h1
  rw [hrb] at h2
  generalize double.read x = d at *
  cases d with
  | number u k l => exact ⟨_, rfl⟩
  | infinity u => cases u <;> simp [Datum.order] at h1 h2
  | nan u k => simp [Datum.order] at h1

theorem okF_int {K x : Nat} {k : Int} (hk : I K k) (hk0 : 0 ≤ k) (hk1 : k ≤ 4503599627370496) (hn : I (fneg K) (-k)) (h : okF K x = true) : ∃ n, I x n ∧ -k ≤ n ∧ n ≤ k := by
  unfold okF inR at h
  simp only [Bool.and_eq_true] at h
  obtain ⟨⟨h1, h2⟩, h3⟩ := h
  obtain ⟨r, hr⟩ := fin_of hn hk h1 h2
  rw [fge_val hr hn, decide_eq_true_eq] at h1
  rw [fle_val hr hk, decide_eq_true_eq] at h2
  obtain ⟨s, m, i, hrd, hv⟩ := V_num hr
  have hp : (0 : Rat) ≤ (m : Rat) * 2 ^ i := Rat.mul_nonneg Rat.natCast_nonneg (Rat.le_of_lt (zpow_pos i))
  have ht := trunc_le m i
  have e : truncD x = double.write (.number s ((m <<< i.toNat) / 2 ^ (-i).toNat) 0) := by
    show double.write ((double.read x).integral .zero) = _
    rw [hrd]
    simp only [Datum.integral, cut_zero]
  generalize hT : (m <<< i.toNat) / 2 ^ (-i).toNat = T at *
  have hmk : (m : Rat) * 2 ^ i ≤ (k : Rat) := by
    rw [Rat.intCast_neg] at h1
    unfold sg at hv
    cases s <;> simp at hv <;> grind
  have hTk : (T : Int) ≤ k := by
    have : ((T : Int) : Rat) ≤ (k : Rat) := by rw [Rat.intCast_natCast]; grind
    exact Rat.intCast_le_intCast.1 this
  have hm : sg s ((T : Rat) * 2 ^ (0 : Int)) = ((if s then -(T : Int) else (T : Int) : Int) : Rat) := by
    rw [zpow_zero', Rat.mul_one]
    cases s
    · simp [sg, Rat.intCast_natCast]
    · simp [sg, Rat.intCast_neg, Rat.intCast_natCast]
  have hb : (if s then -(T : Int) else (T : Int) : Int).natAbs ≤ 9007199254740992 := by split <;> omega
  obtain ⟨r2, hr2, hR⟩ := write_rnd s T 0 (sg_lt hm (ab_int_lt hb))
  rw [hm] at hR
  have hr3 := hR.int hb
  rw [← e] at hr2
  rw [feq_val hr hr2, decide_eq_true_eq, hr3] at h3
  refine ⟨_, by rw [I, hr, h3], ?_⟩
  split <;> omega
theorem okF_nn {K x : Nat} (h : fle x K = true) : (FloatKind.f64.decode x).isNaN = false := by
  unfold fle Format.order at h
  show (double.read x).isNaN = false
  generalize double.read x = d at *
  cases d with
  | nan s t => simp [Datum.order] at h
  | number s m e => rfl
  | infinity s => rfl
abbrev K20 : Nat := 4697254411347427328
theorem K20_int : I K20 1048576 := by
  have e : K20 = ofInt 1048576 := by decide +kernel
  rw [e]; exact ofInt_int (by decide)
theorem K20_neg : I (fneg K20) (-1048576) := by
  have e : fneg K20 = ofInt (-1048576) := by decide +kernel
  rw [e]; exact ofInt_int (by decide)
theorem okF_K20 {x : Nat} (h : okF K20 x = true) : ∃ n, I x n ∧ -1048576 ≤ n ∧ n ≤ 1048576 := okF_int K20_int (by omega) (by omega) K20_neg h
end Flt
