/- Functions: what a call gives, over the view. -/
import Derived.Test.YtbgdonedjgkhiaaVmMem3
namespace Go.Vm
set_option linter.unusedVariables false

def mapO {α β : Type} (f : α → Option β) : List α → Option (List β)
  | [] => some []
  | x :: r => match f x with
    | some y => match mapO f r with
      | some t => some (y :: t)
      | none => none
    | none => none
theorem mapO_get {α β : Type} {f : α → Option β} : ∀ {l : List α} {r : List β}, mapO f l = some r → r.length = l.length ∧ ∀ (i : Nat) x y, l[i]? = some x → r[i]? = some y → f x = some y := by
  intro l
  induction l with
  | nil => intro r h; cases h; exact ⟨rfl, fun i x y hx => by simp at hx⟩
  | cons a l ih =>
    intro r h
    simp only [mapO] at h
    split at h
    · rename_i y hy
      split at h
      · rename_i t ht
        cases h
        obtain ⟨hl, hi⟩ := ih ht
        refine ⟨by simp [hl], fun i p q hp hq => ?_⟩
        cases i with
        | zero => simp at hp hq; subst hp; subst hq; exact hy
        | succ i => simp at hp hq; exact hi i p q hp hq
      · cases h
    · cases h

/-- What is held as data, if nothing of it is written any more. -/
def viewS : Nat → List Ob → SV → Option D
  | 0, _, _ => none
  | n + 1, obs, x => match x with
    | .d y => some y
    | .ptr p off => match obs[p]? with
      | some (.fix ty cells) => (mapO (viewS n obs) (cells.drop off)).map .pt
      | _ => none
    | .own p => match obs[p]? with
      | some (.grow ty sz cells) => some (.ds sz cells)
      | _ => none
    | .sl p sz off len cap => match obs[p]? with
      | some (.fix ty cells) => if off + len * sz ≤ cells.length ∧ len ≤ cap then (mapO (viewS n obs) ((cells.drop off).take (len * sz))).map (.ds sz) else none
      | _ => none
    | .ep cells i => some (.pt (cells.drop i))
    | .ag l => (mapO (viewS n obs) l).map .ag
    | .tu l => (mapO (viewS n obs) l).map .tu
    | .ifc t x => (viewS n obs x).map (.ifc t)
    | .fv (.func f) [] l => (mapO (viewS n obs) l).map (.clo f)
    | .fv _ _ _ => none
    | .pre _ _ => none
    | .full sz cells => some (.ds sz cells)
    | .any => none

def okV (C : Ctx) (w : World) (b : Nat) : Prop := (C.ok b ∨ C.W.heap.size ≤ b) ∧ b < w.heap.size

theorem viewS_rep {C : Ctx} {obs : List Ob} {Ω : List Value} {w : World} (hm : Mem C obs Ω w) (hmay : C.may = []) : ∀ (n : Nat) {x : SV} {v : Value} {y : D}, viewS n obs x = some y → RepS w (okB C obs Ω w) Ω x v → RepD w (okV C w) y v := by
  have hok : ∀ b, okB C obs Ω w b → okV C w b := fun b h => ⟨h.1, h.2.1⟩
  have hnew : ∀ {p : Nat} {ob : Ob} {h : Value} {b : Nat}, obs[p]? = some ob → ob.live = true → Ω[p]? = some h → blk h = some b → okV C w b := fun {p ob h b} e1 l e2 hb => by
    refine ⟨.inr ?_, (hm.obj p ob h e1 e2).lt l hb⟩
    rcases hm.new p ob h b e1 l e2 hb with h | h
    · exact h
    · rw [hmay] at h; cases h
  intro n
  induction n with
  | zero => intro x v y h; cases h
  | succ n ih =>
    intro x v y h hr
    cases hr with
    | any => cases h
    | pre => cases h
    | full sz cells a n hd => cases h; exact hd.mono fun b hb => ⟨hok b hb, rfl⟩
    | d x v hd => cases h; exact hd.mono fun b hb => ⟨hok b hb, rfl⟩
    | ptr p off b hb =>
      simp only [viewS] at h
      split at h
      · rename_i ty cells hp
        obtain ⟨ys, hy, rfl⟩ := Option.map_eq_some_iff.1 h
        obtain ⟨hl, hi⟩ := mapO_get hy
        obtain ⟨b', vs, he, hw, hvl, hrr, h1⟩ := hm.obj p _ _ hp hb
        cases he
        refine .pt b off ys (fun i => (vs.drop off).getD i undef) (hnew hp rfl hb rfl) (fun i hi' => ?_) (fun i z hz => ?_)
        · have hlt : off + i < vs.length := by simp at hl; omega
          rw [cell_of_row w b (off + i) _ ty (0, 0) hw]; simp [hlt]
        · have hlt := (List.getElem?_eq_some_iff.1 hz).1
          have hlt2 : off + i < cells.length := by simp at hl; omega
          have hc : (cells.drop off)[i]? = some cells[off + i] := by rw [List.getElem?_drop]; exact List.getElem?_eq_getElem hlt2
          have hv : vs[off + i]? = some vs[off + i] := List.getElem?_eq_getElem (by omega)
          have e : (vs.drop off).getD i undef = vs[off + i] := by simp [hv]
          rw [e]
          exact ih (hi i _ _ hc hz) (hrr (off + i) _ _ (List.getElem?_eq_getElem hlt2) hv)
      · cases h
    | ptrG p off b len cap hb =>
      simp only [viewS] at h
      split at h
      · rename_i ty cells hp
        obtain ⟨b', vs, he, _⟩ := hm.obj p _ _ hp hb
        cases he
      · cases h
    | sl p sz off len cap b hb =>
      simp only [viewS] at h
      split at h
      · rename_i ty cells hp
        split at h
        · rename_i hle
          obtain ⟨ys, hy, rfl⟩ := Option.map_eq_some_iff.1 h
          obtain ⟨hl, hi⟩ := mapO_get hy
          obtain ⟨b', vs, he, hw, hvl, hrr, h1⟩ := hm.obj p _ _ hp hb
          cases he
          have hyl : ys.length = len * sz := by rw [hl]; simp; omega
          refine .ds sz b off len cap ys (fun i => (vs.drop off).getD i undef) hyl hle.2 (hnew hp rfl hb rfl) (fun i hi' => ?_) (fun i z hz => ?_)
          · have hlt : off + i < vs.length := by omega
            rw [cell_of_row w b (off + i) _ ty (0, 0) hw]; simp [hlt]
          · have hlt := (List.getElem?_eq_some_iff.1 hz).1
            have hlt2 : off + i < cells.length := by omega
            have hc : ((cells.drop off).take (len * sz))[i]? = some cells[off + i] := by rw [List.getElem?_take, if_pos (by omega), List.getElem?_drop]; exact List.getElem?_eq_getElem hlt2
            have hv : vs[off + i]? = some vs[off + i] := List.getElem?_eq_getElem (by omega)
            have e : (vs.drop off).getD i undef = vs[off + i] := by simp [hv]
            rw [e]
            exact ih (hi i _ _ hc hz) (hrr (off + i) _ _ (List.getElem?_eq_getElem hlt2) hv)
        · cases h
      · cases h
    | own p v hb hb1 =>
      simp only [viewS] at h
      split at h
      · rename_i ty sz cells hp
        cases h
        obtain ⟨m, xs, how, hxl, hrr⟩ := hm.obj p _ _ hp hb
        rcases how.2 with ⟨rfl, h0⟩ | ⟨g, cap, cur, rfl, hbg, hg, hnc, hcm, hcs, htake⟩
        · have : cells = [] := by
            have h2 := how.1; subst h0; rw [Nat.zero_mul] at h2
            exact List.eq_nil_of_length_eq_zero (by omega)
          subst this
          exact .nil sz none 0
        · refine .ds sz g 0 m cap cells (fun i => xs.getD i undef) (by rw [← hxl, how.1]) hnc (hnew hp rfl hb rfl) (fun i hi => ?_) (fun i z hz => ?_)
          · have hlt : i < xs.length := by omega
            have hx : xs[i]? = some xs[i] := List.getElem?_eq_getElem hlt
            have := how.cells (g := g) rfl i _ hx
            rw [Addr.add_of] at this
            rw [this]; simp [hx]
          · have hlt := (List.getElem?_eq_some_iff.1 hz).1
            have hx : xs[i]? = some xs[i] := List.getElem?_eq_getElem (by omega)
            have e : xs.getD i undef = xs[i] := by simp [hx]
            rw [e]
            exact (hrr i _ _ hz hx).mono fun b hb => ⟨hok b hb, rfl⟩
      · cases h
    | ep b off i cells vals hb hc hrr =>
      cases h
      refine .pt b (off + i) _ (fun j => vals (i + j)) (hok b hb) (fun j hj => ?_) (fun j z hz => ?_)
      · rw [Nat.add_assoc]; exact hc (i + j) (by simp at hj; omega)
      · rw [List.getElem?_drop] at hz; exact (hrr _ _ hz).mono fun b hb => ⟨hok b hb, rfl⟩
    | ag cells vs hl hrr =>
      simp only [viewS] at h
      obtain ⟨ys, hy, rfl⟩ := Option.map_eq_some_iff.1 h
      obtain ⟨hl2, hi⟩ := mapO_get hy
      refine .ag ys vs (by omega) fun i p q hp hq => ?_
      have hlt := (List.getElem?_eq_some_iff.1 hp).1
      have hc : cells[i]? = some cells[i] := List.getElem?_eq_getElem (by omega)
      exact ih (hi i _ _ hc hp) (hrr i _ _ hc hq)
    | tu cells vs hl hrr =>
      simp only [viewS] at h
      obtain ⟨ys, hy, rfl⟩ := Option.map_eq_some_iff.1 h
      obtain ⟨hl2, hi⟩ := mapO_get hy
      refine .tu ys vs (by omega) fun i p q hp hq => ?_
      have hlt := (List.getElem?_eq_some_iff.1 hp).1
      have hc : cells[i]? = some cells[i] := List.getElem?_eq_getElem (by omega)
      exact ih (hi i _ _ hc hp) (hrr i _ _ hc hq)
    | ifc t x u hx =>
      simp only [viewS] at h
      obtain ⟨z, hz, rfl⟩ := Option.map_eq_some_iff.1 h
      exact .ifc t z u (ih hz hx)
    | fv fn first caps fs cs hf hc h1 h2 =>
      cases fn <;> first | (cases h; done) | skip
      cases first with
      | cons _ _ => cases h
      | nil =>
        have hfs : fs = [] := List.length_eq_zero_iff.1 (by simpa using hf)
        subst hfs
        simp only [viewS] at h
        obtain ⟨ys, hy, rfl⟩ := Option.map_eq_some_iff.1 h
        obtain ⟨hl2, hi⟩ := mapO_get hy
        refine .clo _ ys cs (by omega) fun i p q hp hq => ?_
        have hlt := (List.getElem?_eq_some_iff.1 hp).1
        have hc : caps[i]? = some caps[i] := List.getElem?_eq_getElem (by omega)
        exact ih (hi i _ _ hc hp) (h2 i _ _ hc hq)

/-- The call goes into the function's body. -/
def enters (P : Program) (f : FuncId) : Bool :=
  match P.funcs[f]? with
  | some fn => !(fn.name == "runtime.NumGoroutine") && fn.body.isSome
  | none => false
theorem run_enters {P : Program} {f : FuncId} (h : enters P f = true) (args : Array Value) (w : World) : (callFunc f args).run P w = .ok (.enter f args) w := by
  unfold enters at h
  split at h
  · rename_i fn hf
    rw [Bool.and_eq_true] at h
    have h1 : (fn.name == "runtime.NumGoroutine") = false := by simpa using h.1
    have h2 : fn.body.isNone = false := by cases hb : fn.body with | none => rw [hb] at h; cases h.2 | some c => rfl
    simp only [callFunc, Sem.run_bind, run_program, Result.andThen_ok, hf, h1, h2, Bool.false_eq_true, if_false, Sem.run_pure]
  · cases h

/-- Function f, called with data args, gives some r with R r; nothing that was there has turned; r leads to what args lead to, or to what is new. -/
def FnD (P : Program) (f : FuncId) (args : List D) (R : D → Prop) : Prop :=
  enters P f = true ∧ ∀ (W : World) (ok : Nat → Prop) (vs : List Value), HoldsG W → (∀ b, ok b → b < W.heap.size) → vs.length = args.length →
    (∀ (i : Nat) x v, args[i]? = some x → vs[i]? = some v → RepD W ok x v) →
    Calls P f vs.toArray W fun e w' => ∃ v r, e = .returned v ∧ R r ∧ RowKit.Below W.heap.size W w' ∧ RepD w' (fun b => (ok b ∨ W.heap.size ≤ b) ∧ b < w'.heap.size) r v

theorem FnD.mono {P : Program} {f : FuncId} {args : List D} {R R' : D → Prop} (h : FnD P f args R) (hr : ∀ r, R r → R' r) : FnD P f args R' :=
  ⟨h.1, fun W ok vs h0 h1 h2 h3 => (h.2 W ok vs h0 h1 h2 h3).mono fun e w' ⟨v, r, he, hR, hb, hd⟩ => ⟨v, r, he, hr r hR, hb, hd⟩⟩

theorem Mem.below {C : Ctx} {obs : List Ob} {Ω : List Value} {w w' : World} (h : Mem C obs Ω w) (hb : RowKit.Below w.heap.size w w') :
    Mem C obs Ω w' ∧ ∀ b, okB C obs Ω w b → okB C obs Ω w' b ∧ w'.heap[b]? = w.heap[b]? := by
  have hok : ∀ b, okB C obs Ω w b → okB C obs Ω w' b ∧ w'.heap[b]? = w.heap[b]? := fun b hk => ⟨⟨hk.1, Nat.lt_of_lt_of_le hk.2.1 hb.size, hk.2.2⟩, hb.block b hk.2.1⟩
  refine ⟨⟨h.len, fun o ob k e1 e2 => ?_, h.sep, h.new, ⟨hb.os.trans h.fr.os, hb.tape.trans h.fr.tape, hb.output.trans h.fr.output, Nat.le_trans h.fr.size hb.size, fun b e1 e2 => ?_, h.fr.glob⟩⟩, hok⟩
  · exact (h.obj o ob k e1 e2).mono hok (fun _ _ e => e) fun b hbk hl => hb.block b ((h.obj o ob k e1 e2).lt hl hbk)
  · rw [hb.block b (Nat.lt_of_lt_of_le e1 h.fr.size)]; exact h.fr.block b e1 e2

/-- The package variables still hold it. -/
theorem Fr.holds {C : Ctx} {w : World} (h : Fr C w) (hm : C.may = []) : HoldsG w := ⟨fun p hp => by
  obtain ⟨h1, h2⟩ := h.glob.1 p hp
  exact ⟨Nat.lt_of_lt_of_le h1 h.size, by rw [← h2]; exact cell_heap (h.block _ h1 (by rw [hm]; simp))⟩, fun p hp => by
  obtain ⟨h1, t, u, h2⟩ := h.glob.2.1 p hp
  exact ⟨Nat.lt_of_lt_of_le h1 h.size, t, u, by rw [← h2]; exact cell_heap (h.block _ h1 (by rw [hm]; simp))⟩, fun p hp => by
  obtain ⟨h1, t, a, h2, h3⟩ := h.glob.2.2 p hp
  exact ⟨Nat.lt_of_lt_of_le h1 h.size, t, a, by rw [← h2]; exact cell_heap (h.block _ h1 (by rw [hm]; simp)), h3⟩⟩
theorem Rel.below {C : Ctx} {s : St} {Ω : List Value} {a : Act} {w w' : World} (h : Rel C s Ω a w) (hb : RowKit.Below w.heap.size w w') : Rel C s Ω a w' :=
  ⟨h.defers, h.size, fun t x hx => let ⟨v, hv, hr⟩ := h.env t x hx; ⟨v, hv, hr.mono (h.mem.below hb).2 (fun _ _ e => e)⟩, (h.mem.below hb).1⟩

theorem RepD.valv {w : World} {ok : Nat → Prop} {x u : Value} (h : RepD w ok (.v x) u) : u = x := by cases h; rfl
/-- What leads to no object of the call's own. -/
def dataS : Nat → SV → Option D
  | 0, _ => none
  | n + 1, x => match x with
    | .d y => some y
    | .ep cells i => some (.pt (cells.drop i))
    | .ag l => (mapO (dataS n) l).map .ag
    | .tu l => (mapO (dataS n) l).map .tu
    | .ifc t x => (dataS n x).map (.ifc t)
    | .fv (.func f) [] l => (mapO (dataS n) l).map (.clo f)
    | _ => none
theorem dataS_rep {w : World} {ok : Nat → Prop} {Ω : List Value} : ∀ (n : Nat) {x : SV} {v : Value} {y : D}, dataS n x = some y → RepS w ok Ω x v → RepD w ok y v := by
  intro n
  induction n with
  | zero => intro x v y h; cases h
  | succ n ih =>
    intro x v y h hr
    cases hr with
    | d x v hd => cases h; exact hd
    | ep b off i cells vals hb hc hrr =>
      cases h
      refine .pt b (off + i) _ (fun j => vals (i + j)) hb (fun j hj => ?_) (fun j z hz => ?_)
      · rw [Nat.add_assoc]; exact hc (i + j) (by simp at hj; omega)
      · rw [List.getElem?_drop] at hz; exact hrr _ _ hz
    | ag cells vs hl hrr =>
      simp only [dataS] at h
      obtain ⟨ys, hy, rfl⟩ := Option.map_eq_some_iff.1 h
      obtain ⟨hl2, hi⟩ := mapO_get hy
      refine .ag ys vs (by omega) fun i p q hp hq => ?_
      have hlt := (List.getElem?_eq_some_iff.1 hp).1
      have hc : cells[i]? = some cells[i] := List.getElem?_eq_getElem (by omega)
      exact ih (hi i _ _ hc hp) (hrr i _ _ hc hq)
    | tu cells vs hl hrr =>
      simp only [dataS] at h
      obtain ⟨ys, hy, rfl⟩ := Option.map_eq_some_iff.1 h
      obtain ⟨hl2, hi⟩ := mapO_get hy
      refine .tu ys vs (by omega) fun i p q hp hq => ?_
      have hlt := (List.getElem?_eq_some_iff.1 hp).1
      have hc : cells[i]? = some cells[i] := List.getElem?_eq_getElem (by omega)
      exact ih (hi i _ _ hc hp) (hrr i _ _ hc hq)
    | ifc t x u hx =>
      simp only [dataS] at h
      obtain ⟨z, hz, rfl⟩ := Option.map_eq_some_iff.1 h
      exact .ifc t z u (ih hz hx)
    | fv fn first caps fs cs hf hc h1 h2 =>
      cases fn <;> first | (cases h; done) | skip
      cases first with
      | cons _ _ => cases h
      | nil =>
        have hfs : fs = [] := List.length_eq_zero_iff.1 (by simpa using hf)
        subst hfs
        simp only [dataS] at h
        obtain ⟨ys, hy, rfl⟩ := Option.map_eq_some_iff.1 h
        obtain ⟨hl2, hi⟩ := mapO_get hy
        refine .clo _ ys cs (by omega) fun i p q hp hq => ?_
        have hlt := (List.getElem?_eq_some_iff.1 hp).1
        have hc : caps[i]? = some caps[i] := List.getElem?_eq_getElem (by omega)
        exact ih (hi i _ _ hc hp) (h2 i _ _ hc hq)
    | _ => cases h
def argD (s : St) (x : Operand) : Option D := match opS s x with
  | some y => dataS 9 y
  | none => none
def argV (s : St) (x : Operand) : Option D := match opS s x with
  | some y => viewS 9 s.obs y
  | none => none

/-- Numbers and the like: no memory behind it. -/
def D.flat : D → Bool
  | .v _ => true
  | .ag l => l.all fun | .v _ => true | _ => false
  | .tu l => l.all fun | .v _ => true | _ => false
  | _ => false
theorem RepD.flat {w w' : World} {ok ok' : Nat → Prop} {x : D} {v : Value} (h : RepD w ok x v) (hf : x.flat = true) : RepD w' ok' x v := by
  have aux : ∀ {y : D} {u : Value}, (match y with | .v _ => true | _ => false) = true → RepD w ok y u → RepD w' ok' y u := fun {y u} hy hr => by
    cases hr with
    | v => exact .v _
    | _ => cases hy
  cases h with
  | v => exact .v _
  | ag cells vs hl hr => exact .ag cells vs hl fun i x y hx hy => aux (List.all_eq_true.1 hf x (List.mem_of_getElem? hx)) (hr i x y hx hy)
  | tu cells vs hl hr => exact .tu cells vs hl fun i x y hx hy => aux (List.all_eq_true.1 hf x (List.mem_of_getElem? hx)) (hr i x y hx hy)
  | _ => cases hf

section
variable {C : Ctx} {Q : Exit → St → Prop} {ops : Array Oper} {rest : List Oper} {o : Oper} {e : List (Nat × SV)} {obs : List Ob} {d : Nat}

theorem run_call {P : Program} {f : FuncId} {xs : Array Operand} {ts : Array TypeId} (he : enters P f = true) (ho : o.op = .call { callee := .value (.func f), args := xs, argTypes := ts }) (a : Act) (w : World) :
    (execOp a.eval o).run P w = .ok (.enter f (xs.map a.eval)) w := by
  simp only [execOp, ho, resolve, Act.eval, Deferred.ofValue, Sem.run_bind, Sem.run_pure, Result.andThen_ok, invoke, Array.empty_append, Array.append_empty, run_enters he]

/-- A call with data. -/
theorem AOp.callD {f : FuncId} {xs : List Operand} {ts : Array TypeId} {ys : List D} {R : D → Prop} (ho : o.op = .call { callee := .value (.func f), args := xs.toArray, argTypes := ts }) (hd : o.dst = some d) (hn : d < C.n) (hm : C.may = [])
    (hx : mapO (argD ⟨e, obs⟩) xs = some ys) (hF : FnD C.P f ys R) (h : ∀ r, R r → AO C ops rest ⟨(d, .d r) :: e, obs⟩ Q) : AOp C ops rest o ⟨e, obs⟩ Q := fun Ω a w hr => by
  obtain ⟨hl, hi⟩ := mapO_get hx
  unfold Oper.wp
  rw [run_call hF.1 ho, Oper.upon_enter, List.map_toArray]
  refine (hF.2 w (okB C obs Ω w) (xs.map a.eval) (hr.mem.fr.holds hm) (fun b hb => hb.2.1) (by simp [hl]) fun i y v hy hv => ?_).mono fun ed w' ⟨v, r, he, hR, hb, hrep⟩ => ?_
  · simp only [List.getElem?_map, Option.map_eq_some_iff] at hv
    obtain ⟨x, hxi, rfl⟩ := hv
    have := hi i x y hxi hy
    unfold argD at this
    split at this
    · rename_i z hz
      exact dataS_rep 9 this (hr.eval hz)
    · cases this
  · subst he
    rw [hd]
    refine h r hR Ω _ w' ((hr.below hb).put hn (.d _ _ (hrep.mono fun b hk => ⟨?_, rfl⟩)))
    rcases hk.1 with hk1 | hk1
    · exact ((hr.mem.below hb).2 b hk1).1
    · refine ⟨.inr (Nat.le_trans hr.mem.fr.size hk1), hk.2, fun o' ob k e1 l e2 hbk => ?_⟩
      have := (hr.mem.obj o' ob k e1 e2).lt l hbk
      omega

/-- A call that is handed what the caller goes on writing, too: its result is flat. -/
theorem AOp.callV {f : FuncId} {xs : List Operand} {ts : Array TypeId} {ys : List D} {R : D → Prop} (ho : o.op = .call { callee := .value (.func f), args := xs.toArray, argTypes := ts }) (hd : o.dst = some d) (hn : d < C.n)
    (hm : C.may = []) (hx : mapO (argV ⟨e, obs⟩) xs = some ys) (hF : FnD C.P f ys R) (hf : ∀ r, R r → r.flat = true) (h : ∀ r, R r → AO C ops rest ⟨(d, .d r) :: e, obs⟩ Q) : AOp C ops rest o ⟨e, obs⟩ Q := fun Ω a w hr => by
  obtain ⟨hl, hi⟩ := mapO_get hx
  unfold Oper.wp
  rw [run_call hF.1 ho, Oper.upon_enter, List.map_toArray]
  refine (hF.2 w (okV C w) (xs.map a.eval) (hr.mem.fr.holds hm) (fun b hb => hb.2) (by simp [hl]) fun i y v hy hv => ?_).mono fun ed w' ⟨v, r, he, hR, hb, hrep⟩ => ?_
  · simp only [List.getElem?_map, Option.map_eq_some_iff] at hv
    obtain ⟨x, hxi, rfl⟩ := hv
    have := hi i x y hxi hy
    unfold argV at this
    split at this
    · rename_i z hz
      exact viewS_rep hr.mem hm 9 this (hr.eval hz)
    · cases this
  · subst he
    rw [hd]
    exact h r hR Ω _ w' ((hr.below hb).put hn (.d _ _ (hrep.flat (hf r hR))))

/-- A function without a Go body. -/
theorem AOp.callX {f : FuncId} {xs : List Operand} {ts : Array TypeId} {r : Value} (vals : List Value) (ho : o.op = .call { callee := .value (.func f), args := xs.toArray, argTypes := ts }) (hd : o.dst = some d) (hn : d < C.n)
    (hx : mapO (argD ⟨e, obs⟩) xs = some (vals.map .v)) (hrun : ∀ w, (callFunc f vals.toArray).run C.P w = .ok (.value r) w) (h : AO C ops rest ⟨(d, .d (.v r)) :: e, obs⟩ Q) : AOp C ops rest o ⟨e, obs⟩ Q :=
  AOp.value hd hn (fun Ω a w hr => by
    obtain ⟨hl, hi⟩ := mapO_get hx
    refine ⟨r, ?_, .d _ _ (.v _)⟩
    have : xs.map a.eval = vals := by
      apply List.ext_getElem?
      intro i
      rw [List.getElem?_map]
      rcases Nat.lt_or_ge i xs.length with hlt | hge
      · have h1 : xs[i]? = some xs[i] := List.getElem?_eq_getElem hlt
        have h2 : vals[i]? = some (vals[i]'(by simp at hl; omega)) := List.getElem?_eq_getElem _
        have := hi i _ (.v (vals[i]'(by simp at hl; omega))) h1 (by rw [List.getElem?_map, h2]; rfl)
        unfold argD at this
        split at this
        · rename_i z hz
          rw [h1, h2]
          have hd := dataS_rep 9 this (hr.eval hz)
          exact congrArg some hd.valv
        · cases this
      · rw [List.getElem?_eq_none hge, List.getElem?_eq_none (by simp at hl; omega)]; rfl
    simp only [execOp, ho, resolve, Act.eval, Deferred.ofValue, Sem.run_bind, Sem.run_pure, Result.andThen_ok, invoke, Array.empty_append, Array.append_empty, List.map_toArray, this, hrun]) h
end
end Go.Vm
