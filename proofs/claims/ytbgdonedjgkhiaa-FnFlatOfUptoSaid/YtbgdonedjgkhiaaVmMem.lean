/- Operations on memory, over the view. -/
import Derived.Test.YtbgdonedjgkhiaaVmRules
namespace Go.Vm
set_option linter.unusedVariables false

def D.one : D → Bool
  | .v x => x.oneCell'
  | .ag _ => false
  | .tu _ => false
  | _ => true
def SV.one : SV → Bool
  | .d x => x.one
  | .ag _ => false
  | .tu _ => false
  | .any => false
  | _ => true

theorem RepD.one {w : World} {ok : Nat → Prop} {x : D} {v : Value} (h : RepD w ok x v) (h1 : x.one = true) : v.oneCell' = true := by
  cases h with
  | v x => exact h1
  | nil => rfl
  | ds => rfl
  | pt => rfl
  | ag => cases h1
  | ifc => rfl
  | clo => rfl
  | tu => cases h1
theorem RepS.one {w : World} {ok : Nat → Prop} {Ω : List Value} {x : SV} {v : Value} (h : RepS w ok Ω x v) (h1 : x.one = true) (hw : ∀ o, x = .own o → v.oneCell' = true) : v.oneCell' = true := by
  cases h with
  | any => cases h1
  | d x v hd => exact hd.one h1
  | own o v _ h1 => exact h1
  | pre => rfl
  | full => rfl
  | ptr => rfl
  | ptrG => rfl
  | sl => rfl
  | ep => rfl
  | ag => cases h1
  | tu => cases h1
  | ifc => rfl
  | fv => rfl

/-- The cells of a value in memory. -/
def cellsS : SV → List SV
  | .ag l => l
  | .d (.ag l) => l.map .d
  | .d (.v (.agg a)) => a.toList.map fun u => .d (.v u)
  | x => [x]
/-- No own slice among them: its header is one cell all the same, but that is known of its object alone. -/
def SV.plain (x : SV) : Bool := x.one

theorem RepS.plain {w : World} {ok : Nat → Prop} {Ω : List Value} {x : SV} {v : Value} (h : RepS w ok Ω x v) (h1 : x.plain = true) : v.oneCell' = true :=
  h.one h1 (fun o e => by subst e; cases h with | own _ _ _ h2 => exact h2)

theorem RepS.cells {w : World} {ok : Nat → Prop} {Ω : List Value} {x : SV} {v : Value} (h : RepS w ok Ω x v) (h1 : (cellsS x).all SV.plain = true) :
    ∃ vs : List Value, v.cells = vs.toArray ∧ vs.length = (cellsS x).length ∧ (∀ (i : Nat) p q, (cellsS x)[i]? = some p → vs[i]? = some q → RepS w ok Ω p q) ∧ ∀ y, y ∈ vs → y.oneCell' = true := by
  have fin : ∀ vs : List Value, vs.length = (cellsS x).length → (∀ (i : Nat) p q, (cellsS x)[i]? = some p → vs[i]? = some q → RepS w ok Ω p q) → ∀ y, y ∈ vs → y.oneCell' = true := by
    intro vs hl hr y hy
    obtain ⟨i, hi⟩ := List.getElem?_of_mem hy
    have hlt := (List.getElem?_eq_some_iff.1 hi).1
    have hx : (cellsS x)[i]? = some (cellsS x)[i] := List.getElem?_eq_getElem (by omega)
    exact (hr i _ _ hx hi).plain (List.all_eq_true.1 h1 _ (List.mem_of_getElem? hx))
  have single : ∀ u, cellsS x = [x] → v = u → u.oneCell' = true → ∃ vs : List Value, v.cells = vs.toArray ∧ vs.length = (cellsS x).length ∧ (∀ (i : Nat) p q, (cellsS x)[i]? = some p → vs[i]? = some q → RepS w ok Ω p q) ∧ ∀ y, y ∈ vs → y.oneCell' = true := by
    intro u hc hu ho
    subst hu
    refine ⟨[v], (by cases v <;> first | rfl | (cases ho)), (by rw [hc]; rfl), fun i p q hp hq => ?_, fun y hy => (by rw [List.mem_singleton.1 hy]; exact ho)⟩
    rw [hc] at hp
    cases i with
    | zero => cases hp; cases hq; exact h
    | succ i => cases hp
  have h0 := h
  cases h with
  | ag cells vs hl hr => exact ⟨vs, rfl, hl, hr, fin vs hl hr⟩
  | d x v hd =>
    have hd0 := hd
    cases hd with
    | ag cells vs hl hr =>
      have hr' : ∀ (i : Nat) p q, (cellsS (.d (.ag cells)))[i]? = some p → vs[i]? = some q → RepS w ok Ω p q := by
        intro i p q hp hq
        simp only [cellsS, List.getElem?_map, Option.map_eq_some_iff] at hp
        obtain ⟨z, hz, rfl⟩ := hp
        exact .d _ _ (hr i z q hz hq)
      exact ⟨vs, rfl, by simp [cellsS, hl], hr', fin vs (by simp [cellsS, hl]) hr'⟩
    | v =>
      cases v with
      | agg a =>
        have hr' : ∀ (i : Nat) p q, (cellsS (.d (.v (.agg a))))[i]? = some p → a.toList[i]? = some q → RepS w ok Ω p q := by
          intro i p q hp hq
          simp only [cellsS, List.getElem?_map, Option.map_eq_some_iff] at hp
          obtain ⟨z, hz, rfl⟩ := hp
          rw [hz] at hq; cases hq
          exact .d _ _ (.v _)
        exact ⟨a.toList, by simp [Value.cells], by simp [cellsS], hr', fin _ (by simp [cellsS]) hr'⟩
      | _ => exact single _ rfl rfl (h0.plain (by simpa [cellsS] using h1))
    | _ => exact single _ rfl rfl (h0.plain (by simpa [cellsS] using h1))
  | _ => exact single _ rfl rfl (h0.plain (by simpa [cellsS] using h1))

section
variable {C : Ctx} {Q : Exit → St → Prop} {ops : Array Oper} {rest : List Oper} {o : Oper} {e : List (Nat × SV)} {obs : List Ob} {d : Nat}

theorem AOp.box {t : TypeId} {x : Operand} {sv : SV} (ho : o.op = .box t x) (hd : o.dst = some d) (hn : d < C.n) (hx : opS ⟨e, obs⟩ x = some sv) (h1 : (cellsS sv).all SV.plain = true)
    (h : AO C ops rest ⟨(d, .ptr obs.length 0) :: e, obs ++ [.fix t (cellsS sv)]⟩ Q) : AOp C ops rest o ⟨e, obs⟩ Q := by
  refine AOp.step hd hn (fun Ω a w hr => ?_) h
  obtain ⟨vs, hc, hl, hrv, hone⟩ := (hr.eval hx).cells h1
  refine ⟨.pointer (some ⟨w.heap.size, 0, none⟩), _, _, ?_, hr.alloc t (cellsS sv) vs hl hrv hone, .ptr _ _ _ ?_⟩
  · simp only [execOp, ho, Instr.box, newVar, newRow, hc, Sem.run_bind, Sem.run_pure, Result.andThen_ok, run_newObj]; rfl
  · have := hr.mem.len
    dsimp only at this
    rw [this, List.getElem?_append_right (Nat.le_refl _)]; simp

/-- A type's zero value. -/
def zcells (z : Value) : List SV := z.cells.toList.map fun u => .d (.v u)
theorem run_zero {P : Program} {t : TypeId} {z : Value} (hz : (P.info? t).map (·.zero) = some (some z)) (w : World) : (zeroValue t).run P w = .ok z w := by
  cases hq : P.info? t with
  | none => rw [hq] at hz; cases hz
  | some i =>
    rw [hq] at hz
    have : i.zero = some z := by simpa using hz
    simp [zeroValue, typeInfo, hq, this]
theorem AOp.alloc {t : TypeId} {z : Value} (ho : o.op = .alloc t) (hd : o.dst = some d) (hn : d < C.n) (hz : (C.P.info? t).map (·.zero) = some (some z)) (h1 : z.cells.toList.all (·.oneCell') = true)
    (h : AO C ops rest ⟨(d, .ptr obs.length 0) :: e, obs ++ [.fix t (zcells z)]⟩ Q) : AOp C ops rest o ⟨e, obs⟩ Q := by
  refine AOp.step hd hn (fun Ω a w hr => ?_) h
  refine ⟨.pointer (some ⟨w.heap.size, 0, none⟩), _, _, ?_, hr.alloc t (zcells z) z.cells.toList (by simp [zcells]) (fun i p q hp hq => ?_) (fun y hy => List.all_eq_true.1 h1 y hy), .ptr _ _ _ ?_⟩
  · simp only [execOp, ho, Instr.alloc, run_zero hz, newVar, newRow, Sem.run_bind, Sem.run_pure, Result.andThen_ok, run_newObj, Array.toArray_toList]; rfl
  · simp only [zcells, List.getElem?_map, Option.map_eq_some_iff] at hp
    obtain ⟨u, hu, rfl⟩ := hp
    rw [hu] at hq; cases hq
    exact .d _ _ (.v _)
  · have := hr.mem.len
    dsimp only at this
    rw [this, List.getElem?_append_right (Nat.le_refl _)]; simp

/-- A struct's field, by its address. -/
theorem run_fieldAt {P : Program} {t : TypeId} {fs : Array Field} {f : Field} {i : Nat} {a : Addr} (hu : P.underlying t = some (.struct fs)) (hf : fs[i]? = some f) (hs : (P.info? f.type).map (fun i => i.size == 0) = some false) (w : World) :
    (Instr.fieldAt t (.pointer (some a)) i).run P w = .ok (.pointer (some (a.add f.offset))) w := by
  cases hq : P.info? f.type with
  | none => rw [hq] at hs; cases hs
  | some j =>
    rw [hq] at hs
    have hs : ¬ j.size = 0 := by simpa using hs
    simp [Instr.fieldAt, run_underlying hu, hf, Instr.sureAddr, fieldPlace, sizeOf, typeInfo, hq, hs]

theorem Addr.add_of (b o n : Nat) : (⟨b, o, none⟩ : Addr).add n = ⟨b, o + n, none⟩ := Addr.add_lit b o n

/-- How far a field lies behind its struct's beginning. -/
def fieldOff (P : Program) (t : TypeId) (i : Nat) : Option Nat :=
  match P.underlying t with
  | some (.struct fs) => match fs[i]? with
    | some f => match P.info? f.type with
      | some j => if j.size = 0 then none else some f.offset
      | none => none
    | none => none
  | _ => none
theorem run_fieldAt' {P : Program} {t : TypeId} {i k : Nat} {b off : Nat} (hk : fieldOff P t i = some k) (w : World) :
    (Instr.fieldAt t (.pointer (some ⟨b, off, none⟩)) i).run P w = .ok (.pointer (some ⟨b, off + k, none⟩)) w := by
  unfold fieldOff at hk
  split at hk
  · rename_i fs hu
    split at hk
    · rename_i f hf
      split at hk
      · rename_i j hj
        split at hk
        · cases hk
        · rename_i hne
          cases hk
          rw [run_fieldAt hu hf (by rw [hj]; simp [hne]), Addr.add_of]
      · cases hk
    · cases hk
  · cases hk
theorem AOp.fieldAddr {t : TypeId} {x : Operand} {i p off k : Nat} (ho : o.op = .fieldAddr t x i) (hd : o.dst = some d) (hn : d < C.n) (hx : opS ⟨e, obs⟩ x = some (.ptr p off)) (hk : fieldOff C.P t i = some k)
    (h : AO C ops rest ⟨(d, .ptr p (off + k)) :: e, obs⟩ Q) : AOp C ops rest o ⟨e, obs⟩ Q :=
  AOp.value hd hn (fun Ω a w hr => by
    have hv := hr.eval hx
    generalize hev : a.eval x = v at hv
    cases hv with
    | ptr _ _ b hb => exact ⟨_, by simp only [execOp, ho, hev, run_fieldAt' hk, Sem.run_bind, Sem.run_pure, Result.andThen_ok], .ptr _ _ _ hb⟩
    | ptrG _ _ b len cap hb => exact ⟨_, by simp only [execOp, ho, hev, run_fieldAt' hk, Sem.run_bind, Sem.run_pure, Result.andThen_ok], .ptrG _ _ _ _ _ hb⟩) h
theorem AOp.fieldAddrPt {t : TypeId} {x : Operand} {cells : List D} {i k : Nat} (ho : o.op = .fieldAddr t x i) (hd : o.dst = some d) (hn : d < C.n) (hx : opS ⟨e, obs⟩ x = some (.d (.pt cells))) (hk : fieldOff C.P t i = some k)
    (h : AO C ops rest ⟨(d, .ep cells k) :: e, obs⟩ Q) : AOp C ops rest o ⟨e, obs⟩ Q :=
  AOp.value hd hn (fun Ω a w hr => by
    have hv := hr.eval hx
    generalize hev : a.eval x = v at hv
    cases hv with
    | d _ _ hv =>
      cases hv with
      | pt b off _ vals hb hc hrr => exact ⟨_, by simp only [execOp, ho, hev, run_fieldAt' hk, Sem.run_bind, Sem.run_pure, Result.andThen_ok], .ep b off k cells vals hb hc hrr⟩) h
theorem AOp.fieldAddrEp {t : TypeId} {x : Operand} {cells : List D} {i k j : Nat} (ho : o.op = .fieldAddr t x i) (hd : o.dst = some d) (hn : d < C.n) (hx : opS ⟨e, obs⟩ x = some (.ep cells j)) (hk : fieldOff C.P t i = some k)
    (h : AO C ops rest ⟨(d, .ep cells (j + k)) :: e, obs⟩ Q) : AOp C ops rest o ⟨e, obs⟩ Q :=
  AOp.value hd hn (fun Ω a w hr => by
    have hv := hr.eval hx
    generalize hev : a.eval x = v at hv
    cases hv with
    | ep b off _ _ vals hb hc hrr => exact ⟨_, by simp only [execOp, ho, hev, run_fieldAt' hk, Sem.run_bind, Sem.run_pure, Result.andThen_ok]; rfl, by rw [Nat.add_assoc]; exact .ep b off (j + k) cells vals hb hc hrr⟩) h
end
end Go.Vm
