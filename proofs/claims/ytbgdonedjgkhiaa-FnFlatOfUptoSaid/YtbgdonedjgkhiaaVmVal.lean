/- Operations on numbers and truth values, over the view. -/
import Derived.Test.YtbgdonedjgkhiaaVmMem4
import Derived.Test.YtbgdonedjgkhiaaFlt
namespace Go.Vm
set_option linter.unusedVariables false

abbrev di (k : IntKind) (n : Int) : D := .v (.int k n)
abbrev dint (n : Int) : D := .v (.int .i64 n)
abbrev dfl (x : Nat) : D := .v (.float .f64 x)
abbrev dbool (b : Bool) : D := .v (.bool b)
abbrev dstr (s : ByteArray) : D := .v (.string s)

def lo (k : IntKind) : Int := match k with | .i8 => -128 | .i16 => -32768 | .i32 => -2147483648 | .i64 => -9223372036854775808 | _ => 0
def hi (k : IntKind) : Int := match k with | .i8 => 127 | .i16 => 32767 | .i32 => 2147483647 | .i64 => 9223372036854775807 | .u8 => 255 | .u16 => 65535 | .u32 => 4294967295 | .u64 => 18446744073709551615

theorem wrap_in (k : IntKind) (n : Int) (h1 : lo k ≤ n) (h2 : n ≤ hi k) : k.wrap n = n := by
  cases k <;> simp only [lo, hi] at h1 h2 <;> simp only [IntKind.wrap, IntKind.bits, IntKind.signed, Bool.true_and, Bool.false_and] <;> simp <;> omega

/-- Comparisons of floating numbers. -/
def fgt (x y : Nat) : Bool := Ieee.double.order x y == some .gt
def flt (x y : Nat) : Bool := Ieee.double.order x y == some .lt
def fge (x y : Nat) : Bool := Ieee.double.order x y == some .gt || Ieee.double.order x y == some .eq
def fle (x y : Nat) : Bool := Ieee.double.order x y == some .lt || Ieee.double.order x y == some .eq
def feq (x y : Nat) : Bool := Ieee.double.order x y == some .eq
def fneg (x : Nat) : Nat := Op.negFloat .f64 x
def ofInt (n : Int) : Nat := FloatKind.f64.nearest n

section
variable {C : Ctx} {Q : Exit → St → Prop} {ops : Array Oper} {rest : List Oper} {o : Oper} {e : List (Nat × SV)} {obs : List Ob} {d : Nat}
variable {t ty : TypeId} {x y : Operand}

theorem AOp.iadd {k : IntKind} {a b z : Int} (ho : o.op = .binOp .add t x y ty) (hd : o.dst = some d) (hn : d < C.n) (hx : opS ⟨e, obs⟩ x = some (.d (di k a))) (hy : opS ⟨e, obs⟩ y = some (.d (di k b)))
    (hz : a + b = z) (h1 : lo k ≤ z) (h2 : z ≤ hi k) (h : AO C ops rest ⟨(d, .d (di k z)) :: e, obs⟩ Q) : AOp C ops rest o ⟨e, obs⟩ Q :=
  AOp.bin ho hd hn hx hy rfl (fun w => by subst hz; simp [binOp, Op.intArith, wrap_in k _ h1 h2]) h
theorem AOp.isub {k : IntKind} {a b z : Int} (ho : o.op = .binOp .sub t x y ty) (hd : o.dst = some d) (hn : d < C.n) (hx : opS ⟨e, obs⟩ x = some (.d (di k a))) (hy : opS ⟨e, obs⟩ y = some (.d (di k b)))
    (hz : a - b = z) (h1 : lo k ≤ z) (h2 : z ≤ hi k) (h : AO C ops rest ⟨(d, .d (di k z)) :: e, obs⟩ Q) : AOp C ops rest o ⟨e, obs⟩ Q :=
  AOp.bin ho hd hn hx hy rfl (fun w => by subst hz; simp [binOp, Op.intArith, wrap_in k _ h1 h2]) h
theorem AOp.imul {k : IntKind} {a b z : Int} (ho : o.op = .binOp .mul t x y ty) (hd : o.dst = some d) (hn : d < C.n) (hx : opS ⟨e, obs⟩ x = some (.d (di k a))) (hy : opS ⟨e, obs⟩ y = some (.d (di k b)))
    (hz : a * b = z) (h1 : lo k ≤ z) (h2 : z ≤ hi k) (h : AO C ops rest ⟨(d, .d (di k z)) :: e, obs⟩ Q) : AOp C ops rest o ⟨e, obs⟩ Q :=
  AOp.bin ho hd hn hx hy rfl (fun w => by subst hz; simp [binOp, Op.intArith, wrap_in k _ h1 h2]) h
theorem AOp.iarithW {k : IntKind} {a b : Int} {op : BinOp} (z : Int) (ho : o.op = .binOp op t x y ty) (hd : o.dst = some d) (hn : d < C.n) (hx : opS ⟨e, obs⟩ x = some (.d (di k a))) (hy : opS ⟨e, obs⟩ y = some (.d (di k b)))
    (hz : (op = .add ∧ z = k.wrap (a + b)) ∨ (op = .sub ∧ z = k.wrap (a - b)) ∨ (op = .mul ∧ z = k.wrap (a * b))) (h : AO C ops rest ⟨(d, .d (di k z)) :: e, obs⟩ Q) : AOp C ops rest o ⟨e, obs⟩ Q :=
  AOp.bin ho hd hn hx hy (by rcases hz with ⟨rfl, _⟩ | ⟨rfl, _⟩ | ⟨rfl, _⟩ <;> rfl) (fun w => by rcases hz with ⟨rfl, rfl⟩ | ⟨rfl, rfl⟩ | ⟨rfl, rfl⟩ <;> simp [binOp, Op.intArith]) h
theorem AOp.iquo {k : IntKind} {a b z : Int} (ho : o.op = .binOp .quo t x y ty) (hd : o.dst = some d) (hn : d < C.n) (hx : opS ⟨e, obs⟩ x = some (.d (di k a))) (hy : opS ⟨e, obs⟩ y = some (.d (di k b)))
    (hb : b ≠ 0) (hz : a.tdiv b = z) (h1 : lo k ≤ z) (h2 : z ≤ hi k) (h : AO C ops rest ⟨(d, .d (di k z)) :: e, obs⟩ Q) : AOp C ops rest o ⟨e, obs⟩ Q :=
  AOp.bin ho hd hn hx hy rfl (fun w => by subst hz; simp [binOp, Op.intDiv, hb, wrap_in k _ h1 h2]) h
theorem AOp.irem {k : IntKind} {a b z : Int} (ho : o.op = .binOp .rem t x y ty) (hd : o.dst = some d) (hn : d < C.n) (hx : opS ⟨e, obs⟩ x = some (.d (di k a))) (hy : opS ⟨e, obs⟩ y = some (.d (di k b)))
    (hb : b ≠ 0) (hz : a.tmod b = z) (h : AO C ops rest ⟨(d, .d (di k z)) :: e, obs⟩ Q) : AOp C ops rest o ⟨e, obs⟩ Q :=
  AOp.bin ho hd hn hx hy rfl (fun w => by subst hz; simp [binOp, Op.intDiv, hb]) h
theorem AOp.ilss {k : IntKind} {a b : Int} (ho : o.op = .binOp .lss t x y ty) (hd : o.dst = some d) (hn : d < C.n) (hx : opS ⟨e, obs⟩ x = some (.d (di k a))) (hy : opS ⟨e, obs⟩ y = some (.d (di k b)))
    (h : AO C ops rest ⟨(d, .d (dbool (decide (a < b)))) :: e, obs⟩ Q) : AOp C ops rest o ⟨e, obs⟩ Q :=
  AOp.bin ho hd hn hx hy rfl (fun w => by simp [binOp, Op.intCmp]) h
theorem AOp.ileq {k : IntKind} {a b : Int} (ho : o.op = .binOp .leq t x y ty) (hd : o.dst = some d) (hn : d < C.n) (hx : opS ⟨e, obs⟩ x = some (.d (di k a))) (hy : opS ⟨e, obs⟩ y = some (.d (di k b)))
    (h : AO C ops rest ⟨(d, .d (dbool (decide (a ≤ b)))) :: e, obs⟩ Q) : AOp C ops rest o ⟨e, obs⟩ Q :=
  AOp.bin ho hd hn hx hy rfl (fun w => by simp [binOp, Op.intCmp]) h
theorem AOp.igtr {k : IntKind} {a b : Int} (ho : o.op = .binOp .gtr t x y ty) (hd : o.dst = some d) (hn : d < C.n) (hx : opS ⟨e, obs⟩ x = some (.d (di k a))) (hy : opS ⟨e, obs⟩ y = some (.d (di k b)))
    (h : AO C ops rest ⟨(d, .d (dbool (decide (b < a)))) :: e, obs⟩ Q) : AOp C ops rest o ⟨e, obs⟩ Q :=
  AOp.bin ho hd hn hx hy rfl (fun w => by simp [binOp, Op.intCmp]) h
theorem AOp.igeq {k : IntKind} {a b : Int} (ho : o.op = .binOp .geq t x y ty) (hd : o.dst = some d) (hn : d < C.n) (hx : opS ⟨e, obs⟩ x = some (.d (di k a))) (hy : opS ⟨e, obs⟩ y = some (.d (di k b)))
    (h : AO C ops rest ⟨(d, .d (dbool (decide (b ≤ a)))) :: e, obs⟩ Q) : AOp C ops rest o ⟨e, obs⟩ Q :=
  AOp.bin ho hd hn hx hy rfl (fun w => by simp [binOp, Op.intCmp]) h
theorem AOp.ieql {k : IntKind} {a b : Int} (ho : o.op = .binOp .eql t x y ty) (hd : o.dst = some d) (hn : d < C.n) (hx : opS ⟨e, obs⟩ x = some (.d (di k a))) (hy : opS ⟨e, obs⟩ y = some (.d (di k b)))
    (h : AO C ops rest ⟨(d, .d (dbool (decide (a = b)))) :: e, obs⟩ Q) : AOp C ops rest o ⟨e, obs⟩ Q :=
  AOp.bin ho hd hn hx hy rfl (fun w => by simp [binOp, Op.intCmp]; rfl) h
theorem AOp.ineq {k : IntKind} {a b : Int} (ho : o.op = .binOp .neq t x y ty) (hd : o.dst = some d) (hn : d < C.n) (hx : opS ⟨e, obs⟩ x = some (.d (di k a))) (hy : opS ⟨e, obs⟩ y = some (.d (di k b)))
    (h : AO C ops rest ⟨(d, .d (dbool (!decide (a = b)))) :: e, obs⟩ Q) : AOp C ops rest o ⟨e, obs⟩ Q :=
  AOp.bin ho hd hn hx hy rfl (fun w => by simp [binOp, Op.intCmp]; rfl) h
theorem run_beq {P : Program} {t : TypeId} (h : P.underlying t = some .bool) (a b : Bool) (w : World) : (Op.equal t (.bool a) (.bool b)).run P w = .ok (a == b) w :=
  run_equalIn_bool' w 9999 t a b h
theorem AOp.beql {a b : Bool} (hu : C.P.underlying t = some .bool) (ho : o.op = .binOp .eql t x y ty) (hd : o.dst = some d) (hn : d < C.n) (hx : opS ⟨e, obs⟩ x = some (.d (dbool a))) (hy : opS ⟨e, obs⟩ y = some (.d (dbool b)))
    (h : AO C ops rest ⟨(d, .d (dbool (a == b))) :: e, obs⟩ Q) : AOp C ops rest o ⟨e, obs⟩ Q :=
  AOp.bin ho hd hn hx hy rfl (fun w => by simp [binOp, run_beq hu]) h
theorem AOp.bneq {a b : Bool} (hu : C.P.underlying t = some .bool) (ho : o.op = .binOp .neq t x y ty) (hd : o.dst = some d) (hn : d < C.n) (hx : opS ⟨e, obs⟩ x = some (.d (dbool a))) (hy : opS ⟨e, obs⟩ y = some (.d (dbool b)))
    (h : AO C ops rest ⟨(d, .d (dbool (!(a == b)))) :: e, obs⟩ Q) : AOp C ops rest o ⟨e, obs⟩ Q :=
  AOp.bin ho hd hn hx hy rfl (fun w => by simp [binOp, run_beq hu]) h
theorem AOp.bnot {a : Bool} (ho : o.op = .unOp .not t x) (hd : o.dst = some d) (hn : d < C.n) (hx : opS ⟨e, obs⟩ x = some (.d (dbool a)))
    (h : AO C ops rest ⟨(d, .d (dbool (!a))) :: e, obs⟩ Q) : AOp C ops rest o ⟨e, obs⟩ Q := AOp.un ho hd hn hx (fun w => rfl) h
theorem AOp.ineg {k : IntKind} {a z : Int} (ho : o.op = .unOp .neg t x) (hd : o.dst = some d) (hn : d < C.n) (hx : opS ⟨e, obs⟩ x = some (.d (di k a))) (hz : -a = z) (h1 : lo k ≤ z) (h2 : z ≤ hi k)
    (h : AO C ops rest ⟨(d, .d (di k z)) :: e, obs⟩ Q) : AOp C ops rest o ⟨e, obs⟩ Q :=
  AOp.un ho hd hn hx (fun w => by
    have : 0 - a = z := by omega
    simp [Op.unary, Op.intArith, this, wrap_in k _ h1 h2]) h

theorem AOp.flss {a b : Nat} (ho : o.op = .binOp .lss t x y ty) (hd : o.dst = some d) (hn : d < C.n) (hx : opS ⟨e, obs⟩ x = some (.d (dfl a))) (hy : opS ⟨e, obs⟩ y = some (.d (dfl b)))
    (h : AO C ops rest ⟨(d, .d (dbool (flt a b))) :: e, obs⟩ Q) : AOp C ops rest o ⟨e, obs⟩ Q := AOp.bin ho hd hn hx hy rfl (fun w => by rw [binOp_float_cmp_lss]; rfl) h
theorem AOp.fleq {a b : Nat} (ho : o.op = .binOp .leq t x y ty) (hd : o.dst = some d) (hn : d < C.n) (hx : opS ⟨e, obs⟩ x = some (.d (dfl a))) (hy : opS ⟨e, obs⟩ y = some (.d (dfl b)))
    (h : AO C ops rest ⟨(d, .d (dbool (fle a b))) :: e, obs⟩ Q) : AOp C ops rest o ⟨e, obs⟩ Q := AOp.bin ho hd hn hx hy rfl (fun w => by rw [binOp_float_cmp_leq]; rfl) h
theorem AOp.fgtr {a b : Nat} (ho : o.op = .binOp .gtr t x y ty) (hd : o.dst = some d) (hn : d < C.n) (hx : opS ⟨e, obs⟩ x = some (.d (dfl a))) (hy : opS ⟨e, obs⟩ y = some (.d (dfl b)))
    (h : AO C ops rest ⟨(d, .d (dbool (fgt a b))) :: e, obs⟩ Q) : AOp C ops rest o ⟨e, obs⟩ Q := AOp.bin ho hd hn hx hy rfl (fun w => by rw [binOp_float_cmp_gtr]; rfl) h
theorem AOp.fgeq {a b : Nat} (ho : o.op = .binOp .geq t x y ty) (hd : o.dst = some d) (hn : d < C.n) (hx : opS ⟨e, obs⟩ x = some (.d (dfl a))) (hy : opS ⟨e, obs⟩ y = some (.d (dfl b)))
    (h : AO C ops rest ⟨(d, .d (dbool (fge a b))) :: e, obs⟩ Q) : AOp C ops rest o ⟨e, obs⟩ Q := AOp.bin ho hd hn hx hy rfl (fun w => by rw [binOp_float_cmp_geq]; rfl) h
theorem AOp.feql {a b : Nat} (ho : o.op = .binOp .eql t x y ty) (hd : o.dst = some d) (hn : d < C.n) (hx : opS ⟨e, obs⟩ x = some (.d (dfl a))) (hy : opS ⟨e, obs⟩ y = some (.d (dfl b)))
    (h : AO C ops rest ⟨(d, .d (dbool (feq a b))) :: e, obs⟩ Q) : AOp C ops rest o ⟨e, obs⟩ Q := AOp.bin ho hd hn hx hy rfl (fun w => by rw [binOp_float_cmp_eql]; rfl) h
theorem AOp.fneq {a b : Nat} (ho : o.op = .binOp .neq t x y ty) (hd : o.dst = some d) (hn : d < C.n) (hx : opS ⟨e, obs⟩ x = some (.d (dfl a))) (hy : opS ⟨e, obs⟩ y = some (.d (dfl b)))
    (h : AO C ops rest ⟨(d, .d (dbool (!feq a b))) :: e, obs⟩ Q) : AOp C ops rest o ⟨e, obs⟩ Q := AOp.bin ho hd hn hx hy rfl (fun w => by rw [binOp_float_cmp_neq]; rfl) h
theorem AOp.fneg {a : Nat} (ho : o.op = .unOp .neg t x) (hd : o.dst = some d) (hn : d < C.n) (hx : opS ⟨e, obs⟩ x = some (.d (dfl a)))
    (h : AO C ops rest ⟨(d, .d (dfl (fneg a))) :: e, obs⟩ Q) : AOp C ops rest o ⟨e, obs⟩ Q := AOp.un ho hd hn hx (fun w => rfl) h
theorem AOp.farith {a b r : Nat} {op : BinOp} (ho : o.op = .binOp op t x y ty) (hd : o.dst = some d) (hn : d < C.n) (hx : opS ⟨e, obs⟩ x = some (.d (dfl a))) (hy : opS ⟨e, obs⟩ y = some (.d (dfl b)))
    (hr : floatBits op .f64 a b = some r) (h : AO C ops rest ⟨(d, .d (dfl r)) :: e, obs⟩ Q) : AOp C ops rest o ⟨e, obs⟩ Q :=
  AOp.bin ho hd hn hx hy (by cases op <;> rfl) (fun w => run_float_arith w op t .f64 a b r hr) h

/-- int to float64 and back; between whole numbers. -/
def undK (P : Program) (t : TypeId) : Option TypeDesc := P.underlying t
theorem AOp.i2f {s : TypeId} {q : IntKind} {n : Int} {u : TypeDesc} (ho : o.op = .convert s t x) (hd : o.dst = some d) (hn : d < C.n) (hx : opS ⟨e, obs⟩ x = some (.d (di q n))) (hs : C.P.underlying s = some u) (ht : C.P.underlying t = some (.float .f64))
    (h : AO C ops rest ⟨(d, .d (dfl (ofInt n))) :: e, obs⟩ Q) : AOp C ops rest o ⟨e, obs⟩ Q :=
  AOp.conv ho hd hn hx (fun w => run_convert_int_float w s t q .f64 n (by rw [hs]; rfl) ht) h
theorem AOp.f2i {s : TypeId} {k : IntKind} {b : Nat} {n : Int} {u : TypeDesc} (ho : o.op = .convert s t x) (hd : o.dst = some d) (hn : d < C.n) (hx : opS ⟨e, obs⟩ x = some (.d (dfl b))) (hs : C.P.underlying s = some u) (ht : C.P.underlying t = some (.int k))
    (hv : floatToIntVal .f64 b k = some n) (h : AO C ops rest ⟨(d, .d (di k n)) :: e, obs⟩ Q) : AOp C ops rest o ⟨e, obs⟩ Q :=
  AOp.conv ho hd hn hx (fun w => run_convert_float_int w s t .f64 k b n (by rw [hs]; rfl) ht hv) h
theorem AOp.i2i {s : TypeId} {q k : IntKind} {n z : Int} {u : TypeDesc} (ho : o.op = .convert s t x) (hd : o.dst = some d) (hn : d < C.n) (hx : opS ⟨e, obs⟩ x = some (.d (di q n))) (hs : C.P.underlying s = some u) (ht : C.P.underlying t = some (.int k))
    (hz : k.wrap n = z) (h : AO C ops rest ⟨(d, .d (di k z)) :: e, obs⟩ Q) : AOp C ops rest o ⟨e, obs⟩ Q :=
  AOp.conv ho hd hn hx (fun w => by subst hz; cases u <;> simp [convert, run_underlying hs, run_underlying ht, Conv.intToInt]) h
end
end Go.Vm
