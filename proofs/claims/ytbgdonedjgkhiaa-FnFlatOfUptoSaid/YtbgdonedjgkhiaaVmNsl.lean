/- Slices of which it is told whether they are nil. -/
import Derived.Test.YtbgdonedjgkhiaaVmPure2
import Derived.Test.YtbgdonedjgkhiaaVmAdopt
import Derived.Laws.Cover3
set_option linter.unusedVariables false
namespace Go.Vm
def oN {α : Type} (f : α → D) : Option α → D
  | none => .v (.slice none 0 0)
  | some l => f l
/-- It is nil, or has elements. -/
def neO {α : Type} : Option (List α) → Bool
  | none => true
  | some l => !l.isEmpty
theorem SVLe.oN {α : Type} {f : List α → D} {sz : Nat} (h : f [] = .ds sz []) (x : Option (List α)) : SVLe (.d (oN f x)) (.d (f (x.getD []))) := by
  cases x with
  | none => show SVLe (.d (.v (.slice none 0 0))) (.d (f [])); rw [h]; exact SVLe.nil sz
  | some l => exact SVLe.refl _
theorem neO_cons {α : Type} {f : List α → D} {x : Option (List α)} (hf : ∀ a l, ∃ sz c cs, f (a :: l) = .ds sz (c :: cs)) (h : neO x = true) : ∀ l, x = some l → ∃ sz c cs, f l = .ds sz (c :: cs) := fun l hl => by
  subst hl
  cases l with
  | nil => cases h
  | cons a l => exact hf a l
theorem c0at {a b : List D} {k : Nat} {z : D} (h : a = b) (hz : b[k]? = some z) : a[k]? = some z := h ▸ hz
theorem c0dt {a b z : List D} {k n : Nat} (h : a = b) (hz : (b.drop k).take n = z) : (a.drop k).take n = z := h ▸ hz
theorem SVLe.of_eq {x y : SV} (h : x = y) : SVLe x y := h ▸ SVLe.refl _
section
variable {C : Ctx} {Q : Exit → St → Prop} {ops : Array Oper} {rest : List Oper} {o : Oper} {e : List (Nat × SV)} {obs : List Ob} {d : Nat} {t ty : TypeId} {x y : Operand}
/-- What the last slot is, told otherwise. -/
theorem AO.top {l : List Oper} {x y : SV} (hle : SVLe x y) (h : AO C ops l ⟨(d, y) :: e, obs⟩ Q) : AO C ops l ⟨(d, x) :: e, obs⟩ Q := fun Ω a w hr => by
  refine h Ω a w ((hr.sub (t := d) (x := x) (by simp [get]) hle).congr fun t z hz => ?_)
  simp only [get] at hz ⊢
  split at hz
  · rename_i e1; rw [if_pos e1]; exact hz
  · rename_i e1; rw [if_neg e1, if_neg e1]; exact hz
theorem run_eql_slice_nil (P : Program) (w : World) (t e : TypeId) (a : Option Addr) (l c : Nat) (h : P.underlying t = some (.slice e)) : (binOp .eql t (.slice a l c) (.slice none 0 0)).run P w = .ok (.bool a.isNone) w := by
  simp only [binOp]
  simp [run_equal_slice_nil w t e a l c h]
theorem oN_rep {α : Type} {f : List α → D} {x : Option (List α)} (hne : ∀ l, x = some l → ∃ sz c cs, f l = .ds sz (c :: cs)) {w : World} {ok : Nat → Prop} {v : Value} (h : RepD w ok (oN f x) v) : ∃ a l c, v = .slice a l c ∧ a.isNone = x.isNone := by
  cases x with
  | none => cases h; exact ⟨none, 0, 0, rfl, rfl⟩
  | some l =>
    obtain ⟨sz, c, cs, he⟩ := hne l rfl
    have h' : RepD w ok (f l) v := h
    rw [he] at h'
    cases h' with
    | ds _ b off len cap _ vals => exact ⟨_, _, _, rfl, rfl⟩
theorem AOp.nilEql {α : Type} {f : List α → D} {x0 : Option (List α)} {el : TypeId} (ht : C.P.underlying t = some (.slice el)) (ho : o.op = .binOp .eql t x (.const (.slice none 0 0)) ty) (hd : o.dst = some d) (hn : d < C.n)
    (hx : opS ⟨e, obs⟩ x = some (.d (oN f x0))) (hne : ∀ l, x0 = some l → ∃ sz c cs, f l = .ds sz (c :: cs)) (h : AO C ops rest ⟨(d, .d (dbool x0.isNone)) :: e, obs⟩ Q) : AOp C ops rest o ⟨e, obs⟩ Q :=
  AOp.value hd hn (fun Ω a w hr => by
    have h1 := hr.eval hx
    cases h1 with
    | d _ _ h1 =>
      obtain ⟨b, l, c, hv, hb⟩ := oN_rep hne h1
      refine ⟨.bool x0.isNone, ?_, .d _ _ (.v _)⟩
      have hy : a.eval (.const (.slice none 0 0)) = .slice none 0 0 := rfl
      have hg : eqGuard .eql t x (.const (.slice none 0 0)) (.slice b l c) (.slice none 0 0) = pure () := rfl
      simp only [execOp, ho, hv, hy, hg, Sem.run_bind, Sem.run_pure, Result.andThen_ok, run_eql_slice_nil C.P w t el b l c ht, hb]) h
theorem AOp.nilNeql {α : Type} {f : List α → D} {x0 : Option (List α)} {el : TypeId} (ht : C.P.underlying t = some (.slice el)) (ho : o.op = .binOp .neq t x (.const (.slice none 0 0)) ty) (hd : o.dst = some d) (hn : d < C.n)
    (hx : opS ⟨e, obs⟩ x = some (.d (oN f x0))) (hne : ∀ l, x0 = some l → ∃ sz c cs, f l = .ds sz (c :: cs)) (h : AO C ops rest ⟨(d, .d (dbool (!x0.isNone))) :: e, obs⟩ Q) : AOp C ops rest o ⟨e, obs⟩ Q :=
  AOp.value hd hn (fun Ω a w hr => by
    have h1 := hr.eval hx
    cases h1 with
    | d _ _ h1 =>
      obtain ⟨b, l, c, hv, hb⟩ := oN_rep hne h1
      refine ⟨.bool (!x0.isNone), ?_, .d _ _ (.v _)⟩
      have hy : a.eval (.const (.slice none 0 0)) = .slice none 0 0 := rfl
      have hg : eqGuard .neq t x (.const (.slice none 0 0)) (.slice b l c) (.slice none 0 0) = pure () := rfl
      simp only [execOp, ho, hv, hy, hg, Sem.run_bind, Sem.run_pure, Result.andThen_ok, run_neq_slice_nil w t el b l c ht, hb]) h
theorem AOp.nilEqlS {p sz off n c : Nat} {el : TypeId} (ht : C.P.underlying t = some (.slice el)) (ho : o.op = .binOp .eql t x (.const (.slice none 0 0)) ty) (hd : o.dst = some d) (hn : d < C.n)
    (hx : opS ⟨e, obs⟩ x = some (.sl p sz off n c)) (h : AO C ops rest ⟨(d, .d (dbool false)) :: e, obs⟩ Q) : AOp C ops rest o ⟨e, obs⟩ Q :=
  AOp.value hd hn (fun Ω a w hr => by
    have h1 := hr.eval hx
    generalize hv : a.eval x = v at h1
    cases h1 with
    | sl _ _ _ l c b h1 =>
      refine ⟨.bool false, ?_, .d _ _ (.v _)⟩
      have hy : a.eval (.const (.slice none 0 0)) = .slice none 0 0 := rfl
      have hg : eqGuard .eql t x (.const (.slice none 0 0)) (.slice (some ⟨b, off, none⟩) n c) (.slice none 0 0) = pure () := rfl
      simp only [execOp, ho, hv, hy, hg, Sem.run_bind, Sem.run_pure, Result.andThen_ok, run_eql_slice_nil C.P w t el (some ⟨b, off, none⟩) n c ht, Option.isNone]) h
theorem AOp.nilNeqlS {p sz off n c : Nat} {el : TypeId} (ht : C.P.underlying t = some (.slice el)) (ho : o.op = .binOp .neq t x (.const (.slice none 0 0)) ty) (hd : o.dst = some d) (hn : d < C.n)
    (hx : opS ⟨e, obs⟩ x = some (.sl p sz off n c)) (h : AO C ops rest ⟨(d, .d (dbool true)) :: e, obs⟩ Q) : AOp C ops rest o ⟨e, obs⟩ Q :=
  AOp.value hd hn (fun Ω a w hr => by
    have h1 := hr.eval hx
    generalize hv : a.eval x = v at h1
    cases h1 with
    | sl _ _ _ l c b h1 =>
      refine ⟨.bool true, ?_, .d _ _ (.v _)⟩
      have hy : a.eval (.const (.slice none 0 0)) = .slice none 0 0 := rfl
      have hg : eqGuard .neq t x (.const (.slice none 0 0)) (.slice (some ⟨b, off, none⟩) n c) (.slice none 0 0) = pure () := rfl
      simp only [execOp, ho, hv, hy, hg, Sem.run_bind, Sem.run_pure, Result.andThen_ok, run_neq_slice_nil w t el (some ⟨b, off, none⟩) n c ht, Option.isNone, Bool.not_false]) h
end
/-- make([]T, n), T of one cell, of which the zero is seen as a view of it. -/
theorem AOp.makeLe {C : Ctx} {Q : Exit → St → Prop} {ops : Array Oper} {rest : List Oper} {o : Oper} {e : List (Nat × SV)} {obs : List Ob} {d t : Nat} {x y : Operand} {α : Type} {f : α → SV} {z0 : α} {el bytes : Nat} {z : Value} {n : Int} (ho : o.op = .makeSlice t x y) (hd : o.dst = some d) (hn : d < C.n)
    (hx : opS ⟨e, obs⟩ x = some (.d (.v (.int .i64 n)))) (hy : opS ⟨e, obs⟩ y = some (.d (.v (.int .i64 n)))) (ht : elemT C.P t = some (el, 1)) (hi : (C.P.info? el).map (fun i => (i.zero, i.size, i.bytes)) = some (some z, 1, bytes)) (hz : z.cells = #[z]) (h1 : z.oneCell' = true)
    (hb : bytes ≤ 32768) (h0 : 0 ≤ n) (h63 : n ≤ 4294967296) (hf : SVLe (.d (.v z)) (f z0))
    (h : AO C ops rest ⟨(d, .sl obs.length 1 0 n.toNat n.toNat) :: e, obs ++ [.fix el ((List.replicate n.toNat z0).map f)]⟩ Q) : AOp C ops rest o ⟨e, obs⟩ Q := by
  have hi' : (n.toNat : Int) = n := Int.toNat_of_nonneg h0
  refine AOp.makeSlice (n := n.toNat) ho hd hn (by rw [hi']; exact hx) (by rw [hi']; exact hy) ht hi hz h1 (small' (by omega) hb) (small63 (by omega)) ?_
  refine AO.subO obs.length (ty := el) (cells := List.replicate n.toNat (.d (.v z))) (cells' := (List.replicate n.toNat z0).map f) (by simp) ?_ (by simpa using h)
  rw [List.map_replicate]
  generalize n.toNat = k
  induction k with
  | zero => exact .nil
  | succ k ih => exact .cons hf ih
end Go.Vm
