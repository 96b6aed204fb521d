/- Slices, struct values, appending, over the view. -/
import Derived.Test.YtbgdonedjgkhiaaVmMem2
import Derived.Maps.AppendAt
namespace Go.Vm
set_option linter.unusedVariables false

/-- A slice type's element: its number, its cells. -/
def elemT (P : Program) (t : TypeId) : Option (TypeId × Nat) :=
  match P.underlying t with
  | some (.slice e) => (sizeT P e).map fun n => (e, n)
  | _ => none
theorem elemT_spec {P : Program} {t el n : Nat} (h : elemT P t = some (el, n)) : P.underlying t = some (.slice el) ∧ sizeT P el = some n := by
  unfold elemT at h
  split at h
  · rename_i e hu
    cases hs : sizeT P e with
    | none => rw [hs] at h; cases h
    | some k => rw [hs] at h; cases h; exact ⟨hu, hs⟩
  · cases h

section
variable {C : Ctx} {Q : Exit → St → Prop} {ops : Array Oper} {rest : List Oper} {o : Oper} {e : List (Nat × SV)} {obs : List Ob} {d : Nat}

theorem run_indexSlice {P : Program} {t el sz : TypeId} (h : elemT P t = some (el, sz)) (k : IntKind) (i : Int) (b off len cap : Nat) (h0 : 0 ≤ i) (h1 : i < len) (w : World) :
    (Instr.indexAt t (.slice (some ⟨b, off, none⟩) len cap) (.int k i)).run P w = .ok (.pointer (some ⟨b, off + i.toNat * sz, none⟩)) w := by
  obtain ⟨hu, hs⟩ := elemT_spec h
  simp only [Instr.indexAt, asIntOf, Sem.run_bind, Sem.run_pure, Result.andThen_ok, run_underlying hu, h0, h1, and_self, if_true, run_sizeOf hs, Addr.add_of, Sem.run_ite]

theorem AOp.indexDs {t el sz : TypeId} {x ix : Operand} {k : IntKind} {i : Int} {cells : List D} (ho : o.op = .indexAddr t x ix) (hd : o.dst = some d) (hn : d < C.n) (hx : opS ⟨e, obs⟩ x = some (.d (.ds sz cells)))
    (hi : opS ⟨e, obs⟩ ix = some (.d (.v (.int k i)))) (ht : elemT C.P t = some (el, sz)) (hs : 0 < sz) (h0 : 0 ≤ i) (h1 : i.toNat * sz < cells.length)
    (h : AO C ops rest ⟨(d, .ep cells (i.toNat * sz)) :: e, obs⟩ Q) : AOp C ops rest o ⟨e, obs⟩ Q :=
  AOp.value hd hn (fun Ω a w hr => by
    have hv := hr.eval hx
    have hi := hr.evalV hi
    generalize hev : a.eval x = v at hv
    cases hv with
    | d _ _ hv =>
      cases hv with
      | nil => simp at h1
      | ds _ b off len cap _ vals hl hc hb hcell hrr =>
        have hlt : i < len := by
          rw [hl] at h1
          have := Nat.lt_of_mul_lt_mul_right h1
          omega
        refine ⟨_, ?_, .ep b off (i.toNat * sz) cells vals hb hcell hrr⟩
        simp only [execOp, ho, hev, hi, run_indexSlice ht k i b off len cap h0 hlt, Sem.run_bind, Sem.run_pure, Result.andThen_ok]) h
theorem AOp.indexSl {t el sz : TypeId} {x ix : Operand} {k : IntKind} {i : Int} {p off len cap : Nat} (ho : o.op = .indexAddr t x ix) (hd : o.dst = some d) (hn : d < C.n) (hx : opS ⟨e, obs⟩ x = some (.sl p sz off len cap))
    (hi : opS ⟨e, obs⟩ ix = some (.d (.v (.int k i)))) (ht : elemT C.P t = some (el, sz)) (h0 : 0 ≤ i) (h1 : i < len)
    (h : AO C ops rest ⟨(d, .ptr p (off + i.toNat * sz)) :: e, obs⟩ Q) : AOp C ops rest o ⟨e, obs⟩ Q :=
  AOp.value hd hn (fun Ω a w hr => by
    have hv := hr.eval hx
    have hi := hr.evalV hi
    generalize hev : a.eval x = v at hv
    cases hv with
    | sl _ _ _ _ _ b hb =>
      refine ⟨_, ?_, .ptr p (off + i.toNat * sz) b hb⟩
      simp only [execOp, ho, hev, hi, run_indexSlice ht k i b off len cap h0 h1, Sem.run_bind, Sem.run_pure, Result.andThen_ok]) h

theorem run_lenSlice {P : Program} {t el sz ty : TypeId} (h : elemT P t = some (el, sz)) (a : Option Addr) (n c : Nat) (w : World) :
    (Builtin.len_ #[t] ty #[.slice a n c]).run P w = .ok (.int .i64 n) w := by
  obtain ⟨hu, hs⟩ := elemT_spec h
  simp [Builtin.len_, run_underlying hu, goInt]

theorem AOp.lenDs {t el sz : TypeId} {x : Operand} {n : Nat} {cells : List D} (ho : o.op = .call { callee := .builtin .len, args := #[x], argTypes := #[t] }) (hd : o.dst = some d) (hn : d < C.n)
    (hx : opS ⟨e, obs⟩ x = some (.d (.ds sz cells))) (ht : elemT C.P t = some (el, sz)) (hs : 0 < sz) (hl : cells.length = n * sz)
    (h : AO C ops rest ⟨(d, .d (.v (.int .i64 n))) :: e, obs⟩ Q) : AOp C ops rest o ⟨e, obs⟩ Q :=
  AOp.value hd hn (fun Ω a w hr => by
    have hv := hr.eval hx
    generalize hev : a.eval x = v at hv
    cases hv with
    | d _ _ hv =>
      refine ⟨.int .i64 n, ?_, .d _ _ (.v _)⟩
      cases hv with
      | nil _ a c =>
        have : n = 0 := by
          rcases Nat.eq_zero_or_pos n with h0 | h0
          · exact h0
          · have := Nat.mul_pos h0 hs; simp at hl; omega
        subst this
        simp [execOp, ho, hev, resolve, invoke, builtin, run_lenSlice ht]
      | ds _ b off len cap _ vals hl2 hc hb hcell hrr =>
        have : len = n := Nat.eq_of_mul_eq_mul_right hs (by rw [← hl2, hl])
        subst this
        simp [execOp, ho, hev, resolve, invoke, builtin, run_lenSlice ht]) h
/-- A nil slice. -/
theorem AOp.lenNil {t el sz : TypeId} {x : Operand} {c : Nat} {ad : Option Addr} {n : Nat} (ho : o.op = .call { callee := .builtin .len, args := #[x], argTypes := #[t] }) (hd : o.dst = some d) (hn : d < C.n)
    (hx : opS ⟨e, obs⟩ x = some (.d (.v (.slice ad n c)))) (ht : elemT C.P t = some (el, sz))
    (h : AO C ops rest ⟨(d, .d (.v (.int .i64 n))) :: e, obs⟩ Q) : AOp C ops rest o ⟨e, obs⟩ Q :=
  AOp.value hd hn (fun Ω a w hr => ⟨.int .i64 n, by simp [execOp, ho, hr.evalV hx, resolve, invoke, builtin, run_lenSlice ht], .d _ _ (.v _)⟩) h
theorem AOp.lenSl {t el sz : TypeId} {x : Operand} {p off len cap : Nat} (ho : o.op = .call { callee := .builtin .len, args := #[x], argTypes := #[t] }) (hd : o.dst = some d) (hn : d < C.n)
    (hx : opS ⟨e, obs⟩ x = some (.sl p sz off len cap)) (ht : elemT C.P t = some (el, sz))
    (h : AO C ops rest ⟨(d, .d (.v (.int .i64 len))) :: e, obs⟩ Q) : AOp C ops rest o ⟨e, obs⟩ Q :=
  AOp.value hd hn (fun Ω a w hr => by
    have hv := hr.eval hx
    generalize hev : a.eval x = v at hv
    cases hv with
    | sl _ _ _ _ _ b hb => exact ⟨.int .i64 len, by simp [execOp, ho, hev, resolve, invoke, builtin, run_lenSlice ht], .d _ _ (.v _)⟩) h
theorem AOp.lenOwn {t el sz ty : TypeId} {x : Operand} {p n : Nat} {cells : List D} (ho : o.op = .call { callee := .builtin .len, args := #[x], argTypes := #[t] }) (hd : o.dst = some d) (hn : d < C.n)
    (hx : opS ⟨e, obs⟩ x = some (.own p)) (ht : elemT C.P t = some (el, sz)) (hp : obs[p]? = some (.grow ty sz cells)) (hs : 0 < sz) (hl : cells.length = n * sz)
    (h : AO C ops rest ⟨(d, .d (.v (.int .i64 n))) :: e, obs⟩ Q) : AOp C ops rest o ⟨e, obs⟩ Q :=
  AOp.value hd hn (fun Ω a w hr => by
    obtain ⟨m, xs, hΩ, how, hxl, hrr⟩ := hr.growV hp (hr.eval hx)
    have : m = n := Nat.eq_of_mul_eq_mul_right hs (by rw [← how.1, hxl, hl])
    subst this
    refine ⟨.int .i64 m, ?_, .d _ _ (.v _)⟩
    rcases how.2 with ⟨hev, h0⟩ | ⟨g, cap, cur, hev, _⟩
    · subst h0; simp [execOp, ho, hev, resolve, invoke, builtin, run_lenSlice ht]
    · simp [execOp, ho, hev, resolve, invoke, builtin, run_lenSlice ht]) h

theorem AOp.extract {x : Operand} {i : Nat} {vs : List SV} {sv : SV} (ho : o.op = .extract x i) (hd : o.dst = some d) (hn : d < C.n) (hx : opS ⟨e, obs⟩ x = some (.tu vs)) (hi : vs[i]? = some sv)
    (h : AO C ops rest ⟨(d, sv) :: e, obs⟩ Q) : AOp C ops rest o ⟨e, obs⟩ Q :=
  AOp.value hd hn (fun Ω a w hr => by
    have hv := hr.eval hx
    generalize hev : a.eval x = v at hv
    cases hv with
    | tu _ us hl hrr =>
      have hlt := (List.getElem?_eq_some_iff.1 hi).1
      have hu : us[i]? = some us[i] := List.getElem?_eq_getElem (by omega)
      exact ⟨us[i], by simp [execOp, ho, hev, Instr.extract, hu], hrr i _ _ hi hu⟩) h
theorem AOp.extractD {x : Operand} {i : Nat} {vs : List D} {y : D} (ho : o.op = .extract x i) (hd : o.dst = some d) (hn : d < C.n) (hx : opS ⟨e, obs⟩ x = some (.d (.tu vs))) (hi : vs[i]? = some y)
    (h : AO C ops rest ⟨(d, .d y) :: e, obs⟩ Q) : AOp C ops rest o ⟨e, obs⟩ Q :=
  AOp.value hd hn (fun Ω a w hr => by
    have hv := hr.eval hx
    generalize hev : a.eval x = v at hv
    cases hv with
    | d _ _ hv =>
      cases hv with
      | tu _ us hl hrr =>
        have hlt := (List.getElem?_eq_some_iff.1 hi).1
        have hu : us[i]? = some us[i] := List.getElem?_eq_getElem (by omega)
        exact ⟨us[i], by simp [execOp, ho, hev, Instr.extract, hu], .d _ _ (hrr i _ _ hi hu)⟩) h
end
end Go.Vm
