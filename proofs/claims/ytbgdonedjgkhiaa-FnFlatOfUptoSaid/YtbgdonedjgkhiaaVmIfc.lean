/- Values of interfaces: they are made, told apart, and their methods called. -/
import Derived.Test.YtbgdonedjgkhiaaVmInl
import Derived.WideLaws
namespace Go.Vm
set_option linter.unusedVariables false

/-- Type t is no interface. -/
def concT (P : Program) (t : TypeId) : Bool := match P.underlying t with
  | some (.interface _) => false
  | some _ => true
  | none => false
theorem run_makeIfc {P : Program} {t : TypeId} (h : concT P t = true) (x : Value) (w : World) : (Instr.makeInterface t x).run P w = .ok (.iface t x) w := by
  unfold concT at h
  split at h
  · cases h
  · rename_i d hd hne
    unfold Instr.makeInterface
    rw [Sem.run_bind, run_underlying hne, Result.andThen_ok]
    split
    · rename_i q; exact (hd q rfl).elim
    · rfl
  · cases h

/-- Does a value of the dynamic type t pass as one of type u? -/
def passT (P : Program) (t u : TypeId) : Option Bool := match P.underlying u with
  | some (.interface want) => match P.info? t with
    | some i => some (Instr.missingMethod want i.methods).isNone
    | none => none
  | some _ => some (t == u)
  | none => none
theorem run_assertYes {P : Program} {t u s : TypeId} (h : passT P t u = some true) (x : Value) (ok : Bool) (w : World) :
    (Instr.typeAssert (.iface t x) s u ok).run P w = .ok (let y := if (match P.underlying u with | some (.interface _) => true | _ => false) then Value.iface t x else x; if ok then .tuple #[y, .bool true] else y) w := by
  unfold passT at h
  unfold Instr.typeAssert
  split at h
  · rename_i want hu
    split at h
    · rename_i i hi
      have hm : Instr.missingMethod want i.methods = none := by
        have := Option.some.inj h
        simpa using this
      simp only [Sem.run_bind, run_underlying hu, Result.andThen_ok, typeInfo, run_program, hi, Sem.run_pure, hm, hu, if_true]
    · cases h
  · rename_i d hne hu
    have htu : t = u := by simpa using Option.some.inj h
    rw [Sem.run_bind, run_underlying hu, Result.andThen_ok, hu]
    cases d with
    | interface q => exact (hne q rfl).elim
    | _ => simp [htu]
  · cases h
theorem run_assertNo {P : Program} {t u s : TypeId} {z : Value} (h : passT P t u = some false) (hz : (P.info? u).map (·.zero) = some (some z)) (x : Value) (w : World) :
    (Instr.typeAssert (.iface t x) s u true).run P w = .ok (.tuple #[z, .bool false]) w := by
  unfold passT at h
  unfold Instr.typeAssert
  have hzr := run_zero hz w
  split at h
  · rename_i want hu
    split at h
    · rename_i i hi
      obtain ⟨m, hm⟩ : ∃ m, Instr.missingMethod want i.methods = some m := by
        have := Option.some.inj h
        cases hq : Instr.missingMethod want i.methods with
        | none => rw [hq] at this; cases this
        | some m => exact ⟨m, rfl⟩
      simp only [Sem.run_bind, run_underlying hu, Result.andThen_ok, typeInfo, run_program, hi, Sem.run_pure, hm, if_true]
      rw [hzr]; rfl
    · cases h
  · rename_i d hne hu
    have htu : ¬ t = u := by simpa using Option.some.inj h
    rw [Sem.run_bind, run_underlying hu, Result.andThen_ok]
    cases d with
    | interface q => exact (hne q rfl).elim
    | _ => simp [htu, hzr]
  · cases h

/-- What an interface's slot holds. -/
def ifcS : SV → Option (TypeId × SV)
  | .ifc t x => some (t, x)
  | .d (.ifc t x) => some (t, .d x)
  | _ => none
theorem RepS.ifcV {w : World} {ok : Nat → Prop} {Ω : List Value} {s x : SV} {t : TypeId} {v : Value} (h : RepS w ok Ω s v) (hs : ifcS s = some (t, x)) : ∃ u, v = .iface t u ∧ RepS w ok Ω x u := by
  cases h with
  | ifc t' y u hy => cases hs; exact ⟨u, rfl, hy⟩
  | d y u hd =>
    cases hd with
    | ifc t' y' u' h' => cases hs; exact ⟨u', rfl, .d _ _ h'⟩
    | _ => cases hs
  | _ => cases hs

/-! ### methods -/
theorem fieldOff_spec {P : Program} {t i k : Nat} (h : fieldOff P t i = some k) : ∃ (fs : Array Field) (f : Field) (j : TypeInfo), P.underlying t = some (.struct fs) ∧ fs[i]? = some f ∧ P.info? f.type = some j ∧ ¬ j.size = 0 ∧ f.offset = k := by
  unfold fieldOff at h
  split at h
  · rename_i fs hu
    split at h
    · rename_i f hf
      split at h
      · rename_i j hj
        split at h
        · cases h
        · rename_i hs; cases h; exact ⟨fs, f, j, hu, hf, hj, hs, rfl⟩
      · cases h
    · cases h
  · cases h
def fieldTy (P : Program) (t : TypeId) (i : Nat) : Option TypeId := match P.underlying t with
  | some (.struct fs) => (fs[i]?).map (·.type)
  | _ => none
/-- The place of an embedded part, behind a pointer: its type and its distance. -/
def stepsT (P : Program) : List FieldStep → TypeId → Nat → Option (TypeId × Nat)
  | [], t, k => some (t, k)
  | s :: r, _, k => if s.deref then none else match fieldOff P s.struct s.index, fieldTy P s.struct s.index with
    | some j, some u => stepsT P r u (k + j)
    | _, _ => none
theorem run_steps {P : Program} : ∀ (l : List FieldStep) (t : TypeId) (k : Nat) {u : TypeId} {j : Nat} (b off : Nat) (w : World), stepsT P l t k = some (u, j) →
    (follow l t (.var ⟨b, off + k, none⟩)).run P w = .ok (u, .var ⟨b, off + j, none⟩) w
  | [], t, k, u, j, b, off, w, h => by cases h; rfl
  | s :: r, t, k, u, j, b, off, w, h => by
    simp only [stepsT] at h
    split at h
    · cases h
    · rename_i hd
      split at h
      · rename_i j' u' h1 h2
        obtain ⟨fs, f, i, hu, hf, hi, hs, ho⟩ := fieldOff_spec h1
        have hty : u' = f.type := by
          unfold fieldTy at h2
          rw [hu] at h2
          simp only [hf, Option.map_some] at h2
          exact (Option.some.inj h2).symm
        subst hty
        have ih := run_steps r f.type (k + j') b off w h
        have e : off + k + f.offset = off + (k + j') := by omega
        unfold follow
        simp only [Sem.run_bind, run_underlying hu, Result.andThen_ok, hf, hd, Bool.false_eq_true, if_false, fieldPlace, sizeOf, typeInfo, run_program, hi, Sem.run_pure, hs, Addr.add_of, e]
        exact ih
      · cases h
/-- The function that a method's name leads to, and how the receiver is found: itself, or so far behind the pointer. -/
def methT (P : Program) (t : TypeId) (name : String) : Option (FuncId × Option Nat) :=
  if P.types.size + Made.depth = 0 then none else
  match P.info? t with
  | some i => match i.methods.find? (·.name == name) with
    | some m => match m.func with
      | some (f, pr) => match m.path.toList with
        | [] => match P.underlying t with
          | some (.pointer _) => if pr then some (f, none) else none
          | some _ => if pr then none else some (f, none)
          | none => none
        | s :: r => if s.deref && pr then match fieldOff P s.struct s.index, fieldTy P s.struct s.index with
            | some k, some u => match stepsT P r u k with
              | some (u2, j) => match P.underlying u2 with
                | some (.pointer _) => none
                | some _ => some (f, some j)
                | none => none
              | none => none
            | _, _ => none
          else none
      | none => none
    | none => none
  | none => none
/-- The receiver. -/
def recvS (sv : SV) : Option Nat → Option SV
  | none => some sv
  | some k => match sv with
    | .ptr o off => some (.ptr o (off + k))
    | .d (.pt cells) => some (.ep cells k)
    | .ep cells i => some (.ep cells (i + k))
    | _ => none
theorem run_method {P : Program} {t : TypeId} {name : String} {f : FuncId} {how : Option Nat} (h : methT P t name = some (f, how)) {w : World} {ok : Nat → Prop} {Ω : List Value} {sv rv : SV} {v : Value} (hv : RepS w ok Ω sv v) (hr : recvS sv how = some rv) (w' : World) :
    ∃ u, (method (P.types.size + Made.depth) t v name).run P w' = .ok (f, u) w' ∧ RepS w ok Ω rv u := by
  unfold methT at h
  split at h
  · cases h
  · rename_i hfuel
    obtain ⟨n, hn⟩ : ∃ n, P.types.size + Made.depth = n + 1 := ⟨P.types.size + Made.depth - 1, by omega⟩
    rw [hn]
    split at h
    · rename_i i hi
      split at h
      · rename_i m hm
        split at h
        · rename_i f' pr hfn
          split at h
          · rename_i hpath
            -- the value itself
            have key : ∀ d, P.underlying t = some d → (∀ q, d = .pointer q → pr = true) → ((∀ q, d ≠ .pointer q) → pr = false) → f' = f → how = none → ∃ u, (method (n + 1) t v name).run P w' = .ok (f, u) w' ∧ RepS w ok Ω rv u := by
              intro d hd hp hnp hf hh
              subst hf hh
              cases hr
              refine ⟨v, ?_, hv⟩
              unfold method
              simp only [Sem.run_bind, typeInfo, run_program, hi, Result.andThen_ok, Sem.run_pure, hm, hpath, follow, hfn, receiverAt, run_underlying hd]
              cases d with
              | pointer q => rw [hp q rfl]; rfl
              | _ => rw [hnp (fun q e => by cases e)]; rfl
            split at h
            · rename_i q hd
              split at h
              · rename_i hpr; cases h
                exact key _ hd (fun _ _ => hpr) (fun hc => absurd rfl (hc q)) rfl rfl
              · cases h
            · rename_i d hne hd
              split at h
              · cases h
              · rename_i hpr; cases h
                exact key _ hd (fun q e => (hne q e).elim) (fun _ => by simpa using hpr) rfl rfl
            · cases h
          · rename_i s r hpath
            split at h
            · rename_i hsd
              rw [Bool.and_eq_true] at hsd
              obtain ⟨hder, hpr⟩ := hsd
              split at h
              · rename_i k u1 h1 h2
                split at h
                · rename_i u2 j hst
                  obtain ⟨fs, fl, i1, hu, hf, hi1, hs, ho⟩ := fieldOff_spec h1
                  have hty : u1 = fl.type := by
                    unfold fieldTy at h2
                    rw [hu] at h2
                    simp only [hf, Option.map_some] at h2
                    exact (Option.some.inj h2).symm
                  subst hty
                  -- the address
                  have haddr : f' = f ∧ how = some j ∧ (∃ d, P.underlying u2 = some d ∧ ∀ q, d ≠ .pointer q) := by
                    split at h
                    · cases h
                    · rename_i d hne hd; cases h; exact ⟨rfl, rfl, _, hd, fun q e => hne q e⟩
                    · cases h
                  obtain ⟨rfl, rfl, d, hd, hdn⟩ := haddr
                  have fin : ∀ b off, v = .pointer (some ⟨b, off, none⟩) → (method (n + 1) t v name).run P w' = .ok (f', .pointer (some ⟨b, off + j, none⟩)) w' := by
                    intro b off hvv
                    subst hvv
                    have hrun := run_steps r fl.type k b off w' hst
                    have e : off + fl.offset = off + k := by omega
                    unfold method
                    simp only [Sem.run_bind, typeInfo, run_program, hi, Result.andThen_ok, Sem.run_pure, hm, hpath, follow, run_underlying hu, hf, hder, if_true, Place.get, asAddr, fieldPlace, sizeOf, hi1, hs, if_false, Addr.add_of, e, hrun, hfn, receiverAt, run_underlying hd, hpr]
                    all_goals (cases d <;> first | rfl | exact absurd rfl (hdn _))
                  cases hv with
                  | ptr o off b hb => cases hr; exact ⟨_, fin b off rfl, .ptr o _ b hb⟩
                  | ptrG o off b len cap hb => cases hr; exact ⟨_, fin b off rfl, .ptrG o _ b len cap hb⟩
                  | ep b off i2 cells vals hb hc hrr =>
                    cases hr
                    refine ⟨_, fin b (off + i2) rfl, ?_⟩
                    rw [Nat.add_assoc]
                    exact .ep b off (i2 + j) cells vals hb hc hrr
                  | d y u hyd =>
                    cases hyd with
                    | pt b off cells vals hb hc hrr => cases hr; exact ⟨_, fin b off rfl, .ep b off j cells vals hb hc hrr⟩
                    | _ => cases hr
                  | _ => cases hr
                · cases h
              · cases h
            · cases h
        · cases h
      · cases h
    · cases h

section
variable {C : Ctx} {Q : Exit → St → Prop} {ops : Array Oper} {rest : List Oper} {o : Oper} {e : List (Nat × SV)} {obs : List Ob} {d : Nat}
theorem AOp.makeIfc {t : TypeId} {x : Operand} {sv : SV} (ho : o.op = .makeInterface t x) (hd : o.dst = some d) (hn : d < C.n) (hx : opS ⟨e, obs⟩ x = some sv) (ht : concT C.P t = true)
    (h : AO C ops rest ⟨(d, .ifc t sv) :: e, obs⟩ Q) : AOp C ops rest o ⟨e, obs⟩ Q :=
  AOp.value hd hn (fun Ω a w hr => ⟨_, by simp only [execOp, ho, run_makeIfc ht, Sem.run_bind, Result.andThen_ok, Sem.run_pure], .ifc t _ _ (hr.eval hx)⟩) h
/-- x.(u) and x.(u), ok, where it passes; b: u is an interface. -/
theorem AOp.assertYes {x : Operand} {s u t : TypeId} {ok b : Bool} {sv y : SV} (ho : o.op = .typeAssert x s u ok) (hd : o.dst = some d) (hn : d < C.n) (hx : opS ⟨e, obs⟩ x = some sv) (hs : ifcS sv = some (t, y)) (hp : passT C.P t u = some true)
    (hb : (match C.P.underlying u with | some (.interface _) => true | _ => false) = b) (h : AO C ops rest ⟨(d, let z := if b then SV.ifc t y else y; if ok then .tu [z, .d (.v (.bool true))] else z) :: e, obs⟩ Q) : AOp C ops rest o ⟨e, obs⟩ Q :=
  AOp.value hd hn (fun Ω a w hr => by
    obtain ⟨v, hv, hrep⟩ := (hr.eval hx).ifcV hs
    refine ⟨if ok then .tuple #[if b then Value.iface t v else v, .bool true] else if b then Value.iface t v else v, by simp only [execOp, ho, hv, run_assertYes hp, Sem.run_bind, Result.andThen_ok, Sem.run_pure, hb], ?_⟩
    have hz : RepS w (okB C obs Ω w) Ω (if b then SV.ifc t y else y) (if b then Value.iface t v else v) := by
      cases b with
      | true => exact .ifc t _ _ hrep
      | false => exact hrep
    cases ok with
    | false => exact hz
    | true =>
      refine .tu _ [_, _] rfl fun i p q hp hq => ?_
      match i, hp, hq with
      | 0, hp, hq => cases hp; cases hq; exact hz
      | 1, hp, hq => cases hp; cases hq; exact .d _ _ (.v _)
      | i + 2, hp, hq => simp at hp) h
theorem AOp.assertNo {x : Operand} {s u t : TypeId} {sv y : SV} {z : Value} (ho : o.op = .typeAssert x s u true) (hd : o.dst = some d) (hn : d < C.n) (hx : opS ⟨e, obs⟩ x = some sv) (hs : ifcS sv = some (t, y)) (hp : passT C.P t u = some false) (hz : (C.P.info? u).map (·.zero) = some (some z))
    (h : AO C ops rest ⟨(d, .tu [.d (.v z), .d (.v (.bool false))]) :: e, obs⟩ Q) : AOp C ops rest o ⟨e, obs⟩ Q :=
  AOp.value hd hn (fun Ω a w hr => by
    obtain ⟨v, hv, hrep⟩ := (hr.eval hx).ifcV hs
    refine ⟨.tuple #[z, .bool false], by simp only [execOp, ho, hv, run_assertNo hp hz, Sem.run_bind, Result.andThen_ok, Sem.run_pure], ?_⟩
    refine .tu _ [_, _] rfl fun i p q hp hq => ?_
    match i, hp, hq with
    | 0, hp, hq => cases hp; cases hq; exact .d _ _ (.v _)
    | 1, hp, hq => cases hp; cases hq; exact .d _ _ (.v _)
    | i + 2, hp, hq => simp at hp) h

/-- The operation enters function f with what ys stand for. -/
def EntersS (C : Ctx) (o : Oper) (s : St) (f : FuncId) (ys : List SV) : Prop := ∀ Ω a w, Rel C s Ω a w → ∃ vs : List Value, (execOp a.eval o).run C.P w = .ok (.enter f vs.toArray) w ∧ vs.length = ys.length ∧
  ∀ (i : Nat) y v, ys[i]? = some y → vs[i]? = some v → RepS w (okB C s.obs Ω w) Ω y v
theorem EntersS.call {f : FuncId} {xs : List Operand} {ts : Array TypeId} {ys : List SV} (he : enters C.P f = true) (ho : o.op = .call { callee := .value (.func f), args := xs.toArray, argTypes := ts }) (hx : mapO (opS ⟨e, obs⟩) xs = some ys) : EntersS C o ⟨e, obs⟩ f ys := fun Ω a w hr => by
  obtain ⟨hlen, hi⟩ := mapO_get hx
  refine ⟨xs.map a.eval, by rw [run_call he ho, List.map_toArray], by simp [hlen], fun i y v hy hv => ?_⟩
  simp only [List.getElem?_map, Option.map_eq_some_iff] at hv
  obtain ⟨x, hxi, rfl⟩ := hv
  exact hr.eval (hi i x y hxi hy)
theorem EntersS.meth {x : Operand} {name : String} {xs : List Operand} {ts : Array TypeId} {ys : List SV} {f : FuncId} {t : TypeId} {how : Option Nat} {sv y rv : SV} (he : enters C.P f = true) (ho : o.op = .call { callee := .invoke x name, args := xs.toArray, argTypes := ts }) (hr0 : opS ⟨e, obs⟩ x = some sv)
    (hs : ifcS sv = some (t, y)) (hm : methT C.P t name = some (f, how)) (hrv : recvS y how = some rv) (hx : mapO (opS ⟨e, obs⟩) xs = some ys) : EntersS C o ⟨e, obs⟩ f (rv :: ys) := fun Ω a w hr => by
  obtain ⟨hlen, hi⟩ := mapO_get hx
  obtain ⟨v, hv, hrep⟩ := (hr.eval hr0).ifcV hs
  obtain ⟨u, hu, hru⟩ := run_method hm hrep hrv w
  refine ⟨u :: xs.map a.eval, ?_, by simp [hlen], fun i z q hz hq => ?_⟩
  · have e1 : (#[Value.iface t v] ++ (xs.map a.eval).toArray).extract 1 (#[Value.iface t v] ++ (xs.map a.eval).toArray).size = (xs.map a.eval).toArray := by
      simp
      exact List.take_of_length_le (by simp)
    have e2 : (#[Value.iface t v] ++ (xs.map a.eval).toArray)[0]? = some (Value.iface t v) := by simp
    simp only [execOp, ho, resolve, Sem.run_bind, Sem.run_pure, Result.andThen_ok, invoke, List.map_toArray, hv, e1, e2, callMethod, run_program, hu, run_enters he]
    simp
  · cases i with
    | zero => simp at hz hq; subst hz; subst hq; exact hru
    | succ i =>
      simp only [List.getElem?_cons_succ, List.getElem?_map, Option.map_eq_some_iff] at hz hq
      obtain ⟨x, hxi, rfl⟩ := hq
      exact hr.eval (hi i x z hxi hz)

/-- A call into a function's body; ks: the caller's slots that are kept. -/
theorem AOp.inlE {f : FuncId} {fn : Func} {c : Code} {ys : List SV} {n : Nat} {rs : List ResultVar} {e1 : List (Nat × SV)} (ks : List Nat) (hE : EntersS C o ⟨e, obs⟩ f ys) (hf : C.P.funcs[f]? = some fn) (hb : fn.body = some c) (hnt : fn.ntmps = n) (hrs : fn.results = rs.toArray)
    (hdn : match o.dst with | some d => d < C.n | none => True) (hl : ys.length ≤ n) (hk : Vm.keep ks e = some e1)
    (h : ∀ vs, AC (C.sub n) c ⟨enumS 0 ys, obs ++ [.frame vs e1]⟩ (InlQ C ops rest o.dst rs obs.length vs Q)) : AOp C ops rest o ⟨e, obs⟩ Q := fun Ω a w hr => by
  obtain ⟨zs, hrun, hlen, hi⟩ := hE Ω a w hr
  subst hnt
  have hrl : fn.results.toList = rs := by rw [hrs]
  unfold Oper.wp
  rw [hrun, Oper.upon_enter]
  obtain ⟨hm, hok⟩ := hr.mem.frame a.tmps e1 (fun t x hx => hr.env t x (keep_get hk hx))
  refine (calls_of_wp hf hb (R := fun ed w' => ∃ (v : Value) (s : St) (Ω' : List Value), ed = .returned v ∧ Mem C s.obs Ω' w' ∧ ∃ r e', RepS w' (okB C s.obs Ω' w') Ω' r v ∧ s.obs[obs.length]? = some (.frame a.tmps e') ∧ AO C ops rest ⟨putO o.dst r e', s.obs.set obs.length .dead⟩ Q) ?_).mono fun ed w' ⟨v, s, Ω', hed, hm', r, e', hrep, hfr, hao⟩ => ?_
  · have hrel : Rel (C.sub fn.ntmps) ⟨enumS 0 ys, obs ++ [.frame a.tmps e1]⟩ (Ω ++ [undef]) { tmps := zs.toArray ++ Array.replicate (fn.ntmps - zs.toArray.size) undef, defers := [] } w := by
      refine ⟨rfl, by simp; omega, fun t x hx => ?_, hm.ctx⟩
      obtain ⟨_, hy⟩ := enumS_get ys 0 t x hx
      rw [Nat.sub_zero] at hy
      have hlt := (List.getElem?_eq_some_iff.1 hy).1
      have hzt : zs[t]? = some zs[t] := List.getElem?_eq_getElem (by omega)
      refine ⟨zs[t], ?_, ?_⟩
      · rw [Array.getElem?_append_left (by simp; omega)]
        simp
      · exact (hi t _ _ hy hzt).mono (fun b hb => ⟨hok b hb, rfl⟩) (fun o v e => get_left e)
    refine wp_mono (h a.tmps _ _ w hrel) fun ed a' w' ⟨s, Ω', hr', hq⟩ => ?_
    have fin : (∃ r e', resS C.P s rs = some r ∧ s.obs[obs.length]? = some (.frame a.tmps e') ∧ AO C ops rest ⟨putO o.dst r e', s.obs.set obs.length .dead⟩ Q) →
        a'.defers = [] ∧ ∃ v, (results fn a'.tmps).run C.P w' = .ok v w' ∧ ∃ (v_1 : Value) (s : St) (Ω' : List Value), Ending.returned v = Ending.returned v_1 ∧ Mem C s.obs Ω' w' ∧ ∃ r e', RepS w' (okB C s.obs Ω' w') Ω' r v_1 ∧ s.obs[obs.length]? = some (.frame a.tmps e') ∧ AO C ops rest ⟨putO o.dst r e', s.obs.set obs.length .dead⟩ Q := by
      intro ⟨r, e', hres, hfr, hao⟩
      rw [← hrl] at hres
      obtain ⟨v, hv, hrep⟩ := resS_rep hr' hres
      exact ⟨hr'.defers, v, hv, v, s, Ω', rfl, hr'.mem.ctx', r, e', hrep, hfr, hao⟩
    cases ed with
    | normal => exact fin hq
    | ret => exact fin hq
    | _ => exact hq.elim
  · subst hed
    obtain ⟨hmk, hokk⟩ := hm'.kill obs.length
    obtain ⟨hh, hΩh⟩ : ∃ h, Ω'[obs.length]? = some h := ⟨_, List.getElem?_eq_getElem (by have := (List.getElem?_eq_some_iff.1 hfr).1; have := hm'.len; omega)⟩
    have hF := hm'.obj _ _ _ hfr hΩh
    have hbase : Rel C ⟨e', s.obs.set obs.length .dead⟩ Ω' a w' :=
      ⟨hr.defers, hr.size, fun t x hx => let ⟨v, hv, hrp⟩ := hF.2 t x hx; ⟨v, hv, hrp.mono (fun b hb => ⟨hokk b hb, rfl⟩) (fun _ _ e => e)⟩, hmk⟩
    cases hd : o.dst with
    | none =>
      rw [hd] at hao
      exact hao Ω' _ w' hbase
    | some d =>
      rw [hd] at hao hdn
      exact hao Ω' _ w' (hbase.put hdn (hrep.mono (fun b hb => ⟨hokk b hb, rfl⟩) (fun _ _ e => e)))

/-- A call with data, of whatever kind. -/
theorem AOp.callE {f : FuncId} {ys : List D} {zs : List SV} {R : D → Prop} (hE : EntersS C o ⟨e, obs⟩ f zs) (hd : o.dst = some d) (hn : d < C.n) (hm : C.may = [])
    (hx : mapO (dataS 9) zs = some ys) (hF : FnD C.P f ys R) (h : ∀ r, R r → AO C ops rest ⟨(d, .d r) :: e, obs⟩ Q) : AOp C ops rest o ⟨e, obs⟩ Q := fun Ω a w hr => by
  obtain ⟨hl, hi⟩ := mapO_get hx
  obtain ⟨vs, hrun, hlen, hv⟩ := hE Ω a w hr
  unfold Oper.wp
  rw [hrun, Oper.upon_enter]
  refine (hF.2 w (okB C obs Ω w) vs (hr.mem.fr.holds hm) (fun b hb => hb.2.1) (by omega) fun i y v hy hvi => ?_).mono fun ed w' ⟨v, r, he, hR, hb, hrep⟩ => ?_
  · have hlt := (List.getElem?_eq_some_iff.1 hy).1
    have hz : zs[i]? = some zs[i] := List.getElem?_eq_getElem (by omega)
    exact dataS_rep 9 (hi i _ _ hz hy) (hv i _ _ hz hvi)
  · subst he
    rw [hd]
    refine h r hR Ω _ w' ((hr.below hb).put hn (.d _ _ (hrep.mono fun b hk => ⟨?_, rfl⟩)))
    rcases hk.1 with hk1 | hk1
    · exact ((hr.mem.below hb).2 b hk1).1
    · refine ⟨.inr (Nat.le_trans hr.mem.fr.size hk1), hk.2, fun o' ob k e1 l e2 hbk => ?_⟩
      have := (hr.mem.obj o' ob k e1 e2).lt l hbk
      omega
end
/-- Is it a pointer, and the nil one? -/
def isNilP : SV → Option Bool
  | .ptr _ _ => some false
  | .ep _ _ => some false
  | .d (.pt _) => some false
  | .d (.v (.pointer none)) => some true
  | _ => none
theorem RepS.nilP {w : World} {ok : Nat → Prop} {Ω : List Value} {s : SV} {b : Bool} {v : Value} (h : RepS w ok Ω s v) (hs : isNilP s = some b) : ∃ u, v = .pointer u ∧ u.isNone = b := by
  cases h with
  | ptr => cases hs; exact ⟨_, rfl, rfl⟩
  | ptrG => cases hs; exact ⟨_, rfl, rfl⟩
  | ep => cases hs; exact ⟨_, rfl, rfl⟩
  | d y u hd =>
    cases hd with
    | pt => cases hs; exact ⟨_, rfl, rfl⟩
    | v u =>
      unfold isNilP at hs
      split at hs
      all_goals first
        | (cases hs; done)
        | skip
      all_goals simp_all
    | _ => cases hs
  | _ => cases hs
section
variable {C : Ctx} {Q : Exit → St → Prop} {ops : Array Oper} {rest : List Oper} {o : Oper} {e : List (Nat × SV)} {obs : List Ob} {d : Nat} {t ty : TypeId} {x y : Operand}
/-- The type of what a package variable holds. -/
def errT (W : World) (g : Nat) : TypeId := match W.cell? ⟨g, 0, none⟩ with
  | some (.iface t _) => t
  | _ => 0
/-- A package variable that holds an error. -/
theorem AOp.loadE {g : Nat} (ho : o.op = .load t (.global g)) (hd : o.dst = some d) (hn : d < C.n) (hm : C.may = []) (ht : aggT C.P t = some false) (hg : g ∈ GlobsE)
    (h : AO C ops rest ⟨(d, .ifc (errT C.W g) .any) :: e, obs⟩ Q) : AOp C ops rest o ⟨e, obs⟩ Q :=
  AOp.value hd hn (fun Ω a w hr => by
    obtain ⟨hlt, u, v, hc0⟩ := hr.mem.fr.glob.2.1 g hg
    have hc : w.cell? ⟨g, 0, none⟩ = some (.iface u v) := by rw [← hc0]; exact cell_heap (hr.mem.fr.block g hlt (by rw [hm]; simp))
    have hu : errT C.W g = u := by unfold errT; rw [hc0]
    refine ⟨.iface u v, ?_, by rw [hu]; exact .ifc _ _ _ (.any _)⟩
    have hev : a.eval (.global g) = .pointer (some ⟨g, 0, none⟩) := rfl
    simp only [execOp, ho, hev, Instr.loadAt, Instr.sureAddr, Sem.run_bind, Sem.run_pure, Result.andThen_ok, run_load1 ht hc]) h
theorem AOp.ifcNeq {sv y : SV} {u : TypeId} (ho : o.op = .binOp .neq t x (.const .nilIface) ty) (hd : o.dst = some d) (hn : d < C.n) (hx : opS ⟨e, obs⟩ x = some sv) (hs : ifcS sv = some (u, y)) (ht : C.P.underlying t = some (.interface (C.P.methodsAt t)))
    (h : AO C ops rest ⟨(d, .d (dbool true)) :: e, obs⟩ Q) : AOp C ops rest o ⟨e, obs⟩ Q :=
  AOp.value hd hn (fun Ω a w hr => by
    obtain ⟨v, hv, _⟩ := (hr.eval hx).ifcV hs
    refine ⟨.bool true, ?_, .d _ _ (.v _)⟩
    have hy : a.eval (.const .nilIface) = .nilIface := rfl
    have hg : eqGuard .neq t x (.const .nilIface) (.iface u v) .nilIface = pure () := rfl
    simp only [execOp, ho, hv, hy, hg, Sem.run_bind, Sem.run_pure, Result.andThen_ok, run_neq_held_nil w t u v ht]) h
theorem AOp.ifcEql {sv y : SV} {u : TypeId} (ho : o.op = .binOp .eql t x (.const .nilIface) ty) (hd : o.dst = some d) (hn : d < C.n) (hx : opS ⟨e, obs⟩ x = some sv) (hs : ifcS sv = some (u, y)) (ht : C.P.underlying t = some (.interface (C.P.methodsAt t)))
    (h : AO C ops rest ⟨(d, .d (dbool false)) :: e, obs⟩ Q) : AOp C ops rest o ⟨e, obs⟩ Q :=
  AOp.value hd hn (fun Ω a w hr => by
    obtain ⟨v, hv, _⟩ := (hr.eval hx).ifcV hs
    refine ⟨.bool false, ?_, .d _ _ (.v _)⟩
    have hy : a.eval (.const .nilIface) = .nilIface := rfl
    have hg : eqGuard .eql t x (.const .nilIface) (.iface u v) .nilIface = pure () := rfl
    simp only [execOp, ho, hv, hy, hg, Sem.run_bind, Sem.run_pure, Result.andThen_ok, run_eql_held_nil w t u v ht]) h
theorem eqGuard_nil (b : BinOp) (t : TypeId) (x : Operand) (P : Program) (w : World) : (eqGuard b t x (.const .nilIface) .nilIface .nilIface).run P w = .ok () w := by
  unfold eqGuard
  cases b <;> simp
theorem AOp.nilNeq (ho : o.op = .binOp .neq t x (.const .nilIface) ty) (hd : o.dst = some d) (hn : d < C.n) (hx : opS ⟨e, obs⟩ x = some (.d (.v .nilIface))) (ht : C.P.underlying t = some (.interface (C.P.methodsAt t)))
    (h : AO C ops rest ⟨(d, .d (dbool false)) :: e, obs⟩ Q) : AOp C ops rest o ⟨e, obs⟩ Q :=
  AOp.value hd hn (fun Ω a w hr => by
    have hv := hr.evalV hx
    refine ⟨.bool false, ?_, .d _ _ (.v _)⟩
    have hy : a.eval (.const .nilIface) = .nilIface := rfl
    simp only [execOp, ho, hv, hy, eqGuard_nil, Sem.run_bind, Sem.run_pure, Result.andThen_ok, run_neq_nil_nil w t ht]) h
theorem AOp.nilEq (ho : o.op = .binOp .eql t x (.const .nilIface) ty) (hd : o.dst = some d) (hn : d < C.n) (hx : opS ⟨e, obs⟩ x = some (.d (.v .nilIface))) (ht : C.P.underlying t = some (.interface (C.P.methodsAt t)))
    (h : AO C ops rest ⟨(d, .d (dbool true)) :: e, obs⟩ Q) : AOp C ops rest o ⟨e, obs⟩ Q :=
  AOp.value hd hn (fun Ω a w hr => by
    have hv := hr.evalV hx
    refine ⟨.bool true, ?_, .d _ _ (.v _)⟩
    have hy : a.eval (.const .nilIface) = .nilIface := rfl
    simp only [execOp, ho, hv, hy, eqGuard_nil, Sem.run_bind, Sem.run_pure, Result.andThen_ok, run_eql_nil_nil w t ht]) h
/-- p == nil, p != nil. -/
theorem AOp.ptrNilEql {sv : SV} {b : Bool} (ho : o.op = .binOp .eql t x (.const (.pointer none)) ty) (hd : o.dst = some d) (hn : d < C.n) (hx : opS ⟨e, obs⟩ x = some sv) (hs : isNilP sv = some b) (ht : C.P.underlying t = some (.pointer (C.P.pointee t)))
    (h : AO C ops rest ⟨(d, .d (dbool b)) :: e, obs⟩ Q) : AOp C ops rest o ⟨e, obs⟩ Q :=
  AOp.value hd hn (fun Ω a w hr => by
    obtain ⟨v, hv, hb⟩ := (hr.eval hx).nilP hs
    refine ⟨.bool b, ?_, .d _ _ (.v _)⟩
    have hy : a.eval (.const (.pointer none)) = .pointer none := rfl
    have hg : eqGuard .eql t x (.const (.pointer none)) (.pointer v) (.pointer none) = pure () := rfl
    simp only [execOp, ho, hv, hy, hg, Sem.run_bind, Sem.run_pure, Result.andThen_ok, run_eql_pointer_nil w t v ht, hb]) h
theorem AOp.ptrNilNeq {sv : SV} {b : Bool} (ho : o.op = .binOp .neq t x (.const (.pointer none)) ty) (hd : o.dst = some d) (hn : d < C.n) (hx : opS ⟨e, obs⟩ x = some sv) (hs : isNilP sv = some b) (ht : C.P.underlying t = some (.pointer (C.P.pointee t)))
    (h : AO C ops rest ⟨(d, .d (dbool (!b))) :: e, obs⟩ Q) : AOp C ops rest o ⟨e, obs⟩ Q :=
  AOp.value hd hn (fun Ω a w hr => by
    obtain ⟨v, hv, hb⟩ := (hr.eval hx).nilP hs
    refine ⟨.bool (!b), ?_, .d _ _ (.v _)⟩
    have hy : a.eval (.const (.pointer none)) = .pointer none := rfl
    have hg : eqGuard .neq t x (.const (.pointer none)) (.pointer v) (.pointer none) = pure () := rfl
    simp only [execOp, ho, hv, hy, hg, Sem.run_bind, Sem.run_pure, Result.andThen_ok, run_neq_pointer_nil w t v ht, hb]) h
end
end Go.Vm
