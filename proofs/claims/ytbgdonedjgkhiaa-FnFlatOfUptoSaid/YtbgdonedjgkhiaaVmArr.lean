/- Arrays: of the call's own, and as data; loops gone through round by round. -/
import Derived.Test.YtbgdonedjgkhiaaVmNew
import Derived.Laws.Cover3
import Derived.Test.YtbgdonedjgkhiaaVmRow
set_option linter.unusedVariables false
namespace Go.Vm
/-- A loop, from the head of its body on. -/
def ACL (C : Ctx) (c : Code) (s : St) (Q : Exit → St → Prop) : Prop := ∀ Ω a w, Rel C s Ω a w → ∀ b k cs,
  ∃ e a' w', Lift C Q e a' w' ∧ Arrives C.P (lone (b.at a (.code c :: .inLoop c :: k)) cs w) b k cs e a' w'
def LoopUQ (C : Ctx) (c : Code) (Q : Exit → St → Prop) : Exit → St → Prop
  | .normal, s => ACL C c s Q
  | e, s => Q e s
section
variable {C : Ctx} {s : St} {Q : Exit → St → Prop}
theorem AC.loopU {c : Code} (h : ACL C c s Q) : AC C (.loop c) s Q := fun Ω a w hr b k cs => by
  obtain ⟨e, a', w', hq, harr⟩ := h Ω a w hr b k cs
  exact ⟨e, a', w', hq, .of_steps (.one step_loop) harr⟩
/-- One round of a loop. -/
theorem ACL.round {c : Code} (h : AC C c s (LoopUQ C c Q)) : ACL C c s Q := by
  intro Ω a w hr b k cs
  obtain ⟨e, a₁, w₁, ⟨s₁, Ω₁, hr₁, hq⟩, harr⟩ := h Ω a w hr b (.inLoop c :: k) cs
  cases e with
  | normal =>
    obtain ⟨e₂, a₂, w₂, hq₂, harr₂⟩ := hq Ω₁ a₁ w₁ hr₁ b k cs
    exact ⟨e₂, a₂, w₂, hq₂, .of_steps (Steps.trans harr (.one step_inLoop)) harr₂⟩
  | exit id => exact ⟨_, a₁, w₁, ⟨s₁, Ω₁, hr₁, hq⟩, .pass (x := .inLoop c) rfl (fun _ _ => .inl (by simp)) harr⟩
  | goto l => exact ⟨_, a₁, w₁, ⟨s₁, Ω₁, hr₁, hq⟩, .pass (x := .inLoop c) rfl (fun _ _ => .inl (by simp)) harr⟩
  | ret => exact ⟨_, a₁, w₁, ⟨s₁, Ω₁, hr₁, hq⟩, .pass (x := .inLoop c) rfl (fun _ _ => .inl (by simp)) harr⟩
  | panic ch => exact ⟨_, a₁, w₁, ⟨s₁, Ω₁, hr₁, hq⟩, .pass (x := .inLoop c) rfl (fun _ _ => .inl (by simp)) harr⟩
  | outgrown => exact ⟨_, a₁, w₁, ⟨s₁, Ω₁, hr₁, hq⟩, .pass (x := .inLoop c) rfl (fun _ _ => .inl (by simp)) harr⟩
end
section
variable {C : Ctx} {Q : Exit → St → Prop} {ops : Array Oper} {rest : List Oper} {o : Oper} {e : List (Nat × SV)} {obs : List Ob} {d : Nat}
/-- The address of an element of an own array. -/
theorem AOp.indexArrO {t n el sz p off : Nat} {x ix : Operand} {k : IntKind} {i : Int} (ho : o.op = .indexAddr t x ix) (hd : o.dst = some d) (hn : d < C.n) (hx : opS ⟨e, obs⟩ x = some (.ptr p off)) (hi : opS ⟨e, obs⟩ ix = some (.d (.v (.int k i)))) (ht : arrT C.P t = some (n, el, sz)) (h0 : 0 ≤ i) (h1 : i < n)
    {q : Nat} (hq : off + i.toNat * sz = q) (h : AO C ops rest ⟨(d, .ptr p q) :: e, obs⟩ Q) : AOp C ops rest o ⟨e, obs⟩ Q :=
  AOp.value hd hn (fun Ω a w hr => by
    subst hq
    have hv := hr.eval hx
    have hi := hr.evalV hi
    generalize hev : a.eval x = v at hv
    cases hv with
    | ptr _ _ b hob => exact ⟨_, by simp only [execOp, ho, hev, hi, run_indexArr ht k i b off h0 h1, Sem.run_bind, Sem.run_pure, Result.andThen_ok], .ptr _ _ b hob⟩
    | ptrG _ _ b len cap hob => exact ⟨_, by simp only [execOp, ho, hev, hi, run_indexArr ht k i b off h0 h1, Sem.run_bind, Sem.run_pure, Result.andThen_ok], .ptrG _ _ b len cap hob⟩) h
/-- The address of an element of an array that is data. -/
theorem AOp.indexArrD {t n el sz : Nat} {x ix : Operand} {k : IntKind} {i : Int} {cells : List D} (ho : o.op = .indexAddr t x ix) (hd : o.dst = some d) (hn : d < C.n) (hx : opS ⟨e, obs⟩ x = some (.d (.pt cells))) (hi : opS ⟨e, obs⟩ ix = some (.d (.v (.int k i)))) (ht : arrT C.P t = some (n, el, sz)) (h0 : 0 ≤ i) (h1 : i < n)
    (h : AO C ops rest ⟨(d, .ep cells (i.toNat * sz)) :: e, obs⟩ Q) : AOp C ops rest o ⟨e, obs⟩ Q :=
  AOp.value hd hn (fun Ω a w hr => by
    have hv := hr.eval hx
    have hi := hr.evalV hi
    generalize hev : a.eval x = v at hv
    cases hv with
    | d _ _ hv =>
      cases hv with
      | pt b off _ vals hb hcell hrr =>
        exact ⟨_, by simp only [execOp, ho, hev, hi, run_indexArr ht k i b off h0 h1, Sem.run_bind, Sem.run_pure, Result.andThen_ok], .ep b off (i.toNat * sz) cells vals hb hcell hrr⟩) h
/-- a[:], a an own array. -/
theorem AOp.sliceArr {t n el sz p off : Nat} {x : Operand} (ho : o.op = .slice t x none none none) (hd : o.dst = some d) (hn : d < C.n) (hx : opS ⟨e, obs⟩ x = some (.ptr p off)) (ht : arrT C.P t = some (n, el, sz)) (hfix : ∃ ty cells, obs[p]? = some (.fix ty cells))
    (h : AO C ops rest ⟨(d, .sl p sz off n n) :: e, obs⟩ Q) : AOp C ops rest o ⟨e, obs⟩ Q :=
  AOp.value hd hn (fun Ω a w hr => by
    obtain ⟨ty, cells, hp⟩ := hfix
    have hv := hr.eval hx
    generalize hev : a.eval x = v at hv
    obtain ⟨b, vs, rfl, hΩ, _⟩ := hr.fix hp hv
    obtain ⟨hu, hs⟩ := arrT_spec ht
    have e1 : C.P.arrayLen t = n := by simp [Program.arrayLen, hu]
    have e2 : C.P.elem t = el := by simp [Program.elem, hu]
    refine ⟨.slice (some ⟨b, off, none⟩) n n, ?_, .sl _ _ _ _ _ b hΩ⟩
    have := run_sliceAt_array_all (P := C.P) w t (⟨b, off, none⟩ : Addr) (by rw [e1, e2]; exact hu)
    simp only [execOp, ho, hev, Option.map_none, Sem.run_bind, this, e1, e2, run_sizeOf hs, Result.andThen_ok, slicedAt, Sem.run_pure]
    have e3 : (if n = 0 then (⟨b, off, none⟩ : Addr) else (⟨b, off, none⟩ : Addr).add (0 * sz)) = ⟨b, off, none⟩ := by
      split
      · rfl
      · simp [Addr.add_of]
    rw [e3]; rfl) h
/-- (*[n]T)(s), s data of n elements. -/
theorem AOp.arrPtr {t n el sz : Nat} {x : Operand} {cells : List D} (ho : o.op = .sliceToArrayPointer t x) (hd : o.dst = some d) (hn : d < C.n) (hx : opS ⟨e, obs⟩ x = some (.d (.ds sz cells))) (ht : arrT C.P t = some (n, el, sz)) (hl : cells.length = n * sz) (hz : 0 < sz) (hn0 : 0 < n)
    (h : AO C ops rest ⟨(d, .d (.pt cells)) :: e, obs⟩ Q) : AOp C ops rest o ⟨e, obs⟩ Q :=
  AOp.value hd hn (fun Ω a w hr => by
    have hv := hr.eval hx
    generalize hev : a.eval x = v at hv
    obtain ⟨hu, hs⟩ := arrT_spec ht
    cases hv with
    | d _ _ hv =>
      cases hv with
      | nil =>
        exact absurd hl (by have := Nat.mul_pos hn0 hz; simp; omega)
      | ds _ b off len cap _ vals hl2 hc hb hcell hrr =>
        have hle : n ≤ len := by
          have : n * sz = len * sz := by omega
          have := Nat.eq_of_mul_eq_mul_right hz this
          omega
        exact ⟨_, by simp only [execOp, ho, hev, run_arrayAt w t el n _ len cap hu hle, Sem.run_bind, Sem.run_pure, Result.andThen_ok], .d _ _ (.pt b off cells vals hb hcell hrr)⟩) h
end
theorem arr_lt {α : Type} {l : List α} {i : Int} {y : α} {n : Nat} (h0 : 0 ≤ i) (h : l[i.toNat]? = some y) (hn : l.length = n) : i < n := by
  have := (List.getElem?_eq_some_iff.1 h).1
  omega
section
variable {H : Type} {enc : TypeId × Value → H} {P : Program} {W : World}
theorem arg_array {k base m : Nat} {t e : TypeId} {v : Value} {d : DataW H} {p : List MemPlace} (ht : P.underlying t = some (.array m e)) (hg : goodS P k t = true) (hval : Value.okWide P W .any base t v)
    (h : DataW.Trod enc P W 0 (fun _ => true) true t v d p) : ∃ n xs, RepD W (fun b => b < W.heap.size) (.ag xs) v ∧ Shape P n t xs := by
  obtain ⟨cs, rfl⟩ : ∃ cs, v = .agg cs := by
    simp only [Value.okWide, ht] at hval
    obtain ⟨cs, h1, _⟩ := hval
    exact ⟨cs, h1⟩
  obtain ⟨n, hn⟩ := h
  obtain ⟨xs, hr, hs⟩ := trod_shape n t _ _ (goodS_T k n t hg) hn
  refine ⟨n, xs, ?_, hs⟩
  have := RepD.ag xs (cs.toList) (w := W) (ok := fun b => b < W.heap.size) (by rw [hr.1]; rfl) (fun i x y hx hy => hr.2 i x y hx hy)
  simpa using this
theorem arr_cons {rows : List (List D)} {m : Nat} {S : List D → Prop} (hl : rows.length = m + 1) (hr : ∀ r, r ∈ rows → S r) : ∃ a b, rows = a :: b ∧ S a ∧ b.length = m ∧ ∀ r, r ∈ b → S r := by
  cases rows with
  | nil => simp at hl
  | cons a b => exact ⟨a, b, rfl, hr a (by simp), by simpa using hl, fun r h => hr r (by simp [h])⟩
end
end Go.Vm
