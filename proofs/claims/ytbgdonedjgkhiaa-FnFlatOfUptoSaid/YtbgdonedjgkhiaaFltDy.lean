/- Numbers n * 2^E among the floating ones. -/
import Derived.Test.YtbgdonedjgkhiaaFltMin
import Derived.Laws.NewFold
namespace Flt
open Go Go.Vm Ieee
set_option linter.unusedVariables false

/-- x is n * 2^E. -/
def J (E : Int) (x : Nat) (n : Int) : Prop := V x = some ((n : Rat) * 2 ^ E)

theorem I.J {x : Nat} {n : Int} (h : I x n) : J 0 x n := by unfold Flt.J; rw [zpow_zero', Rat.mul_one]; exact h
theorem J.I {x : Nat} {n : Int} (h : J 0 x n) : I x n := by unfold Flt.J at h; rw [zpow_zero', Rat.mul_one] at h; exact h
theorem ab_mul {q c : Rat} (hc : 0 < c) : ab (q * c) = ab q * c := by
  unfold ab
  by_cases h : q < 0
  · have : q * c < 0 := by
      have := Rat.mul_lt_mul_of_pos_right h hc
      rwa [Rat.zero_mul] at this
    rw [if_pos h, if_pos this]; grind
  · have : ¬ q * c < 0 := by
      have := Rat.mul_nonneg (Rat.not_lt.1 h) (Rat.le_of_lt hc)
      exact Rat.not_lt.2 this
    rw [if_neg h, if_neg this]
theorem ab_dy {n E : Int} (h : n.natAbs ≤ 9007199254740992) (hE : E ≤ 900) : ab ((n : Rat) * 2 ^ E) < 2 ^ (1023 : Int) := by
  rw [ab_mul (zpow_pos E)]
  have h1 : ab (n : Rat) ≤ 2 ^ (53 : Int) := by
    have g1 : n ≤ 9007199254740992 := by omega
    have g2 : -9007199254740992 ≤ n := by omega
    have c1 : ((9007199254740992 : Int) : Rat) = 9007199254740992 := rfl
    have c2 : ((-9007199254740992 : Int) : Rat) = -9007199254740992 := by rw [Rat.intCast_neg, c1]
    have g1' : (n : Rat) ≤ 9007199254740992 := by rw [← c1]; exact Rat.intCast_le_intCast.2 g1
    have g2' : (-9007199254740992 : Rat) ≤ (n : Rat) := by rw [← c2]; exact Rat.intCast_le_intCast.2 g2
    have e3 : (2 : Rat) ^ (53 : Int) = 9007199254740992 := by decide
    rw [e3]
    unfold ab; split <;> grind
  have h2 := rat_scale (zpow_pos E) h1
  rw [← zpow_add] at h2
  have h3 : (2 : Rat) ^ (53 + E) ≤ 2 ^ (953 : Int) := zpow_le (by omega)
  have h4 : (2 : Rat) ^ (953 : Int) ≤ 2 ^ (1022 : Int) := zpow_le (by omega)
  have h5 := half 1023
  have h6 := zpow_pos 1022
  have e : (1023 : Int) - 1 = 1022 := by omega
  rw [e] at h5
  grind
theorem add_dy {E : Int} {x y : Nat} {m n : Int} (hx : J E x m) (hy : J E y n) (h : (m + n).natAbs ≤ 9007199254740992) (h1 : -1074 ≤ E) (h2 : E ≤ 900) : ∃ z, floatBits .add .f64 x y = some z ∧ J E z (m + n) := by
  have e : (m : Rat) * 2 ^ E + (n : Rat) * 2 ^ E = ((m + n : Int) : Rat) * 2 ^ E := by rw [Rat.intCast_add]; grind
  obtain ⟨z, r, hz, hr, hR⟩ := add_rnd hx hy (by rw [e]; exact ab_dy h h2)
  rw [e] at hR
  exact ⟨z, hz, by rw [J, hr, hR.exact _ E h h1 rfl]⟩
theorem sub_dy {E : Int} {x y : Nat} {m n : Int} (hx : J E x m) (hy : J E y n) (h : (m - n).natAbs ≤ 9007199254740992) (h1 : -1074 ≤ E) (h2 : E ≤ 900) : ∃ z, floatBits .sub .f64 x y = some z ∧ J E z (m - n) := by
  have e : (m : Rat) * 2 ^ E - (n : Rat) * 2 ^ E = ((m - n : Int) : Rat) * 2 ^ E := by rw [Rat.intCast_sub]; grind
  obtain ⟨z, r, hz, hr, hR⟩ := sub_rnd hx hy (by rw [e]; exact ab_dy h h2)
  rw [e] at hR
  exact ⟨z, hz, by rw [J, hr, hR.exact _ E h h1 rfl]⟩
theorem mul_dy {E F : Int} {x y : Nat} {m n : Int} (hx : J E x m) (hy : J F y n) (h : (m * n).natAbs ≤ 9007199254740992) (h1 : -1074 ≤ E + F) (h2 : E + F ≤ 900) : ∃ z, floatBits .mul .f64 x y = some z ∧ J (E + F) z (m * n) := by
  have e : (m : Rat) * 2 ^ E * ((n : Rat) * 2 ^ F) = ((m * n : Int) : Rat) * 2 ^ (E + F) := by rw [Rat.intCast_mul, zpow_add]; grind
  obtain ⟨z, r, hz, hr, hR⟩ := mul_rnd hx hy (by rw [e]; exact ab_dy h h2)
  rw [e] at hR
  exact ⟨z, hz, by rw [J, hr, hR.exact _ (E + F) h h1 rfl]⟩
/-- One place less. -/
theorem J.less {E : Int} {x : Nat} {n : Int} (h : J E x n) : J (E - 1) x (2 * n) := by
  unfold Flt.J at *
  rw [h, half E, Rat.intCast_mul]
  congr 1
  have : ((2 : Int) : Rat) = 2 := rfl
  rw [this]; grind
theorem dy_inj {E m n : Int} : ((m : Rat) * 2 ^ E = (n : Rat) * 2 ^ E) ↔ m = n := by
  constructor
  · intro h
    have := zpow_pos E
    have : (m : Rat) = (n : Rat) := by
      by_cases h1 : (m : Rat) < (n : Rat)
      · have := Rat.mul_lt_mul_of_pos_right h1 this; grind
      · by_cases h2 : (n : Rat) < (m : Rat)
        · have := Rat.mul_lt_mul_of_pos_right h2 this; grind
        · grind
    exact_mod_cast this
  · intro h; rw [h]
theorem dy_le {E m n : Int} : ((m : Rat) * 2 ^ E ≤ (n : Rat) * 2 ^ E) ↔ m ≤ n := by
  constructor
  · intro h
    rcases Int.lt_or_le n m with h1 | h1
    · have h2 : (n : Rat) < (m : Rat) := by exact_mod_cast h1
      have := Rat.mul_lt_mul_of_pos_right h2 (zpow_pos E)
      grind
    · exact h1
  · intro h
    exact rat_scale (zpow_pos E) (by exact_mod_cast h)
theorem feq_dy {E : Int} {x y : Nat} {m n : Int} (hx : J E x m) (hy : J E y n) : feq x y = decide (m = n) := by
  rw [feq_val hx hy]; congr 1; exact propext dy_inj
theorem fle_dy {E : Int} {x y : Nat} {m n : Int} (hx : J E x m) (hy : J E y n) : fle x y = decide (m ≤ n) := by
  rw [fle_val hx hy]; congr 1; exact propext dy_le
theorem fge_dy {E : Int} {x y : Nat} {m n : Int} (hx : J E x m) (hy : J E y n) : fge x y = decide (n ≤ m) := by
  rw [fge_val hx hy]; congr 1; exact propext dy_le
def imin (m n : Int) : Int := if m ≤ n then m else n
def imax (m n : Int) : Int := if m ≤ n then n else m
theorem rmin_dy {E m n : Int} : rmin ((m : Rat) * 2 ^ E) ((n : Rat) * 2 ^ E) = ((imin m n : Int) : Rat) * 2 ^ E := by
  unfold rmin imin
  by_cases h : m ≤ n
  · rw [if_pos (dy_le.2 h), if_pos h]
  · rw [if_neg (fun h2 => h (dy_le.1 h2)), if_neg h]
theorem rmax_dy {E m n : Int} : rmax ((m : Rat) * 2 ^ E) ((n : Rat) * 2 ^ E) = ((imax m n : Int) : Rat) * 2 ^ E := by
  unfold rmax imax
  by_cases h : m ≤ n
  · rw [if_pos (dy_le.2 h), if_pos h]
  · rw [if_neg (fun h2 => h (dy_le.1 h2)), if_neg h]
theorem bmin_dy {E : Int} {x y : Nat} {m n : Int} (hx : J E x m) (hy : J E y n) : J E (bmin x y) (imin m n) := by rw [J, bmin_V hx hy, rmin_dy]
theorem bmax_dy {E : Int} {x y : Nat} {m n : Int} (hx : J E x m) (hy : J E y n) : J E (bmax x y) (imax m n) := by rw [J, bmax_V hx hy, rmax_dy]
theorem amin_dy {E : Int} {x y : Nat} {m n : Int} (hx : J E x m) (hy : J E y n) : J E (amin x y) (imin m n) := by rw [J, amin_V hx hy, rmin_dy]
theorem amax_dy {E : Int} {x y : Nat} {m n : Int} (hx : J E x m) (hy : J E y n) : J E (amax x y) (imax m n) := by rw [J, amax_V hx hy, rmax_dy]
abbrev Half : Nat := 4602678819172646912
theorem half_dy : J (-1) Half 1 := by
  unfold J V
  have : double.read Half = .number false 4503599627370496 (-53) := by decide +kernel
  rw [this]
  show some (sg false _) = _
  congr 1
  decide +kernel
theorem zero_int : I 0 0 := by
  unfold I V
  have : double.read 0 = .number false 0 (-1074) := by decide +kernel
  rw [this]
  show some (sg false _) = _
  congr 1
  decide +kernel
/-- The sign struck out. -/
def fabs (x : Nat) : Nat := x % 9223372036854775808
theorem sg_ab {s : Bool} {q : Rat} (h : 0 ≤ q) : ab (sg s q) = q := ab_sg s h
theorem fabs_V {x : Nat} {p : Rat} (hx : V x = some p) : V (fabs x) = some (ab p) := by
  unfold V fabs Format.read at *
  rw [double_sw] at *
  simp only [Nat.mod_mod] at *
  have e : (x % 9223372036854775808 / 9223372036854775808 % 2 == 1) = false := by
    have : x % 9223372036854775808 / 9223372036854775808 = 0 := Nat.div_eq_of_lt (Nat.mod_lt _ (by omega))
    rw [this]; rfl
  rw [e]
  have key : ∀ (s : Bool) (m : Nat) (i : Int), dval (.number s m i) = some p → dval (.number false m i) = some (ab p) := fun s m i h => by
    simp only [dval, Option.some.injEq] at h ⊢
    rw [← h, ab_sg s (Rat.mul_nonneg Rat.natCast_nonneg (Rat.le_of_lt (zpow_pos i)))]
    rfl
  generalize (x / 9223372036854775808 % 2 == 1) = s at hx
  split at hx
  · rename_i h; rw [if_pos h]; exact key _ _ _ hx
  · rename_i h
    rw [if_neg h]
    split at hx
    · rename_i h2; rw [if_pos h2]; exact key _ _ _ hx
    · rename_i h2
      split at hx <;> cases hx
theorem ab_int (n : Int) : ab (n : Rat) = ((n.natAbs : Int) : Rat) := by
  unfold ab
  by_cases h : n < 0
  · have h' : (n : Rat) < 0 := by exact_mod_cast h
    have e : ((n.natAbs : Int)) = -n := by omega
    rw [if_pos h', e, Rat.intCast_neg]
  · have h' : ¬ (n : Rat) < 0 := fun h2 => h (by exact_mod_cast h2)
    have e : ((n.natAbs : Int)) = n := by omega
    rw [if_neg h', e]
theorem fabs_dy {E : Int} {x : Nat} {n : Int} (hx : J E x n) : J E (fabs x) n.natAbs := by
  unfold J at *
  rw [fabs_V hx, ab_mul (zpow_pos E), ab_int]
end Flt
namespace Go.Vm
theorem andNot_abs (x : Nat) : bits .andNot .u64 (x : Int) 9223372036854775808 = ((Flt.fabs x : Nat) : Int) := by
  unfold bits Flt.fabs
  have e0 : (BitVec.ofInt IntKind.u64.bits (x : Int) &&& ~~~(BitVec.ofInt IntKind.u64.bits 9223372036854775808)).toNat = x % 9223372036854775808 := by
    have e1 : ~~~(BitVec.ofInt 64 9223372036854775808) = BitVec.ofNat 64 (2 ^ 63 - 1) := by decide
    show (BitVec.ofInt 64 (x : Int) &&& ~~~(BitVec.ofInt 64 9223372036854775808)).toNat = _
    rw [e1, BitVec.toNat_and, BitVec.toNat_ofInt, BitVec.toNat_ofNat]
    have e2 : (2 ^ 63 - 1) % 2 ^ 64 = 2 ^ 63 - 1 := by decide
    rw [e2, Nat.and_two_pow_sub_one_eq_mod]
    have e3 : ((x : Int) % ((2 ^ 64 : Nat) : Int)).toNat = x % 2 ^ 64 := by
      have : ((x : Int) % ((2 ^ 64 : Nat) : Int)) = ((x % 2 ^ 64 : Nat) : Int) := by simp
      rw [this]; rfl
    rw [e3]
    omega
  show IntKind.u64.wrap (((BitVec.ofInt IntKind.u64.bits (x : Int) &&& ~~~(BitVec.ofInt IntKind.u64.bits 9223372036854775808)).toNat : Nat) : Int) = _
  rw [e0]
  exact wrap_in .u64 _ (by simp only [lo]; omega) (by simp only [hi]; have := Nat.mod_lt x (show 0 < 9223372036854775808 by omega); omega)
theorem run_f64bits (P : Program) (x : Nat) (w : World) : (Extern.MathFloatBits.float64bits #[.float .f64 x]).run P w = .ok (.int .u64 x) w := rfl
theorem run_f64frombits (P : Program) (x : Nat) (w : World) : (Extern.MathFloatBits.float64frombits #[.int .u64 (x : Int)]).run P w = .ok (.float .f64 x) w := rfl
section
variable {C : Ctx} {Q : Exit → St → Prop} {ops : Array Oper} {rest : List Oper} {o : Oper} {e : List (Nat × SV)} {obs : List Ob} {d : Nat} {t ty : TypeId} {x y : Operand}
theorem AOp.ibits {op : BinOp} {k : IntKind} {a b z : Int} (hop : op = .and ∨ op = .or ∨ op = .xor ∨ op = .andNot) (ho : o.op = .binOp op t x y ty) (hd : o.dst = some d) (hn : d < C.n) (hx : opS ⟨e, obs⟩ x = some (.d (di k a))) (hy : opS ⟨e, obs⟩ y = some (.d (di k b)))
    (hz : bits op k a b = z) (h : AO C ops rest ⟨(d, .d (di k z)) :: e, obs⟩ Q) : AOp C ops rest o ⟨e, obs⟩ Q :=
  AOp.bin ho hd hn hx hy (by rcases hop with rfl | rfl | rfl | rfl <;> rfl) (fun w => by subst hz; rcases hop with rfl | rfl | rfl | rfl <;> simp [binOp, intBits_and, intBits_or, intBits_xor, intBits_andNot]) h
end
end Go.Vm
namespace Go.Vm
theorem drew_ok {C : Ctx} {s : St} {Ω : List Value} {a : Act} {w : World} (h : Rel C s Ω a w) : Rel C s Ω a w.drew := h.drew
theorem run_fminA (P : Program) (a b : Nat) (ts : Array TypeId) (t : TypeId) (w : World) :
    ∃ r w', (Builtin.min_ ts t #[.float .f64 a, .float .f64 b]).run P w = .ok (.float .f64 r) w' ∧ (w' = w ∨ w' = w.drew) ∧ ((FloatKind.f64.format.order a b).isSome = true → r = bmin a b) := by
  by_cases h : (FloatKind.f64.format.order a b).isSome = true
  · exact ⟨_, _, run_fmin h ts t w, .inl rfl, fun _ => rfl⟩
  · have hn : FloatKind.f64.format.order a b = none := by simpa using h
    simp only [Builtin.min_, List.foldlM_cons, List.foldlM_nil, Builtin.min2, hn, Sem.run_bind, run_choose_drew]
    split
    · exact ⟨_, _, rfl, .inl rfl, fun h2 => by cases h2⟩
    · exact ⟨_, _, rfl, .inr rfl, fun h2 => by cases h2⟩
theorem run_fmaxA (P : Program) (a b : Nat) (ts : Array TypeId) (t : TypeId) (w : World) :
    ∃ r w', (Builtin.max_ ts t #[.float .f64 a, .float .f64 b]).run P w = .ok (.float .f64 r) w' ∧ (w' = w ∨ w' = w.drew) ∧ ((FloatKind.f64.format.order a b).isSome = true → r = bmax a b) := by
  by_cases h : (FloatKind.f64.format.order a b).isSome = true
  · exact ⟨_, _, run_fmax h ts t w, .inl rfl, fun _ => rfl⟩
  · have hn : FloatKind.f64.format.order a b = none := by simpa using h
    simp only [Builtin.max_, List.foldlM_cons, List.foldlM_nil, Builtin.max2, hn, Sem.run_bind, run_choose_drew]
    split
    · exact ⟨_, _, rfl, .inl rfl, fun h2 => by cases h2⟩
    · exact ⟨_, _, rfl, .inr rfl, fun h2 => by cases h2⟩
section
variable {C : Ctx} {Q : Exit → St → Prop} {ops : Array Oper} {rest : List Oper} {o : Oper} {e : List (Nat × SV)} {obs : List Ob} {d : Nat} {t ty : TypeId} {x y : Operand}
/-- A value out of what draws. -/
theorem AOp.drawn {R : Value → Prop} (hd : o.dst = some d) (hn : d < C.n)
    (hv : ∀ Ω a w, Rel C ⟨e, obs⟩ Ω a w → ∃ v w', (execOp a.eval o).run C.P w = .ok (.value v) w' ∧ (w' = w ∨ w' = w.drew) ∧ R v)
    (h : ∀ v, R v → AO C ops rest ⟨(d, .d (.v v)) :: e, obs⟩ Q) : AOp C ops rest o ⟨e, obs⟩ Q := fun Ω a w hr => by
  obtain ⟨v, w', hrun, hw, hR⟩ := hv Ω a w hr
  have hr' : Rel C ⟨e, obs⟩ Ω a w' := by rcases hw with rfl | rfl; exact hr; exact hr.drew
  unfold Oper.wp
  rw [hrun, Oper.upon_value, hd]
  exact h v hR Ω _ w' (hr'.put hn (.d _ _ (.v _)))
theorem AOp.fminA {a b : Nat} {ts : Array TypeId} (ho : o.op = .call { callee := .builtin .min, args := #[x, y], argTypes := ts }) (hd : o.dst = some d) (hn : d < C.n)
    (hx : opS ⟨e, obs⟩ x = some (.d (dfl a))) (hy : opS ⟨e, obs⟩ y = some (.d (dfl b)))
    (h : ∀ r, ((FloatKind.f64.format.order a b).isSome = true → r = bmin a b) → AO C ops rest ⟨(d, .d (dfl r)) :: e, obs⟩ Q) : AOp C ops rest o ⟨e, obs⟩ Q :=
  AOp.drawn (R := fun v => ∃ r, v = .float .f64 r ∧ ((FloatKind.f64.format.order a b).isSome = true → r = bmin a b)) hd hn (fun Ω a' w hr => by
    obtain ⟨r, w', h1, h2, h3⟩ := run_fminA C.P a b ts o.type w
    exact ⟨.float .f64 r, w', by simp [execOp, ho, hr.evalV hx, hr.evalV hy, resolve, invoke, builtin, h1], h2, r, rfl, h3⟩) (fun v ⟨r, he, hr⟩ => by subst he; exact h r hr)
theorem AOp.fmaxA {a b : Nat} {ts : Array TypeId} (ho : o.op = .call { callee := .builtin .max, args := #[x, y], argTypes := ts }) (hd : o.dst = some d) (hn : d < C.n)
    (hx : opS ⟨e, obs⟩ x = some (.d (dfl a))) (hy : opS ⟨e, obs⟩ y = some (.d (dfl b)))
    (h : ∀ r, ((FloatKind.f64.format.order a b).isSome = true → r = bmax a b) → AO C ops rest ⟨(d, .d (dfl r)) :: e, obs⟩ Q) : AOp C ops rest o ⟨e, obs⟩ Q :=
  AOp.drawn (R := fun v => ∃ r, v = .float .f64 r ∧ ((FloatKind.f64.format.order a b).isSome = true → r = bmax a b)) hd hn (fun Ω a' w hr => by
    obtain ⟨r, w', h1, h2, h3⟩ := run_fmaxA C.P a b ts o.type w
    exact ⟨.float .f64 r, w', by simp [execOp, ho, hr.evalV hx, hr.evalV hy, resolve, invoke, builtin, h1], h2, r, rfl, h3⟩) (fun v ⟨r, he, hr⟩ => by subst he; exact h r hr)
end
end Go.Vm
