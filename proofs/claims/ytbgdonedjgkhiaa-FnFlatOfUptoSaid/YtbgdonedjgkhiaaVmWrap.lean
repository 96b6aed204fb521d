/- Functions that defer a closure which recovers: what they give where nothing panics. -/
import Derived.Test.YtbgdonedjgkhiaaFltDy
import Derived.Recover
import Derived.Deep.Draws
namespace Go.Vm
set_option linter.unusedVariables false

/-- The deferred call d is one of function g, with n arguments. -/
def IsDef (P : Program) (g n : Nat) (d : Deferred) : Prop :=
  ∃ fv cap args, d.target = .fn fv cap ∧ (∀ w, (invoke d.target d.args).run P w = .ok (.enter g args) w) ∧ args.size = n

/-- The code c, in which function g is deferred. -/
def AW (C : Ctx) (g n : Nat) (c : Code) (s : St) (Q : Exit → St → Prop) : Prop :=
  ∀ Ω a w, Rel C s Ω a w → c.wp C.P (fun e a w => ∃ d, IsDef C.P g n d ∧ Lift { C with dfs := [d] } Q e a w) a w

theorem AW.seq {C : Ctx} {g n : Nat} {x y : Code} {s : St} {Q : Exit → St → Prop} (h : AC C x s (fun e s' => e = .normal ∧ AW C g n y s' Q)) : AW C g n (.seq x y) s Q := fun Ω a w hr =>
  wp_seq (wp_mono (h Ω a w hr) fun e a w ⟨s, Ω, hr, he, hq⟩ => by
    subst he
    exact hq Ω a w hr)
theorem AW.region {C : Ctx} {g n : Nat} {id : Nat} {l : List Oper} {s : St} {y : Code} {Q : Exit → St → Prop} (h : AO C l.toArray l s (fun e s' => e = .normal ∧ AW C g n y s' Q)) : AW C g n (.seq (.region id l.toArray false) y) s Q :=
  AW.seq (AC.region h)

theorem rel_dfs {C : Ctx} {s : St} {Ω : List Value} {a : Act} {w : World} (h : Rel C s Ω a w) (hC : C.dfs = []) (d : Deferred) : Rel { C with dfs := [d] } s Ω { a with defers := d :: a.defers } w :=
  ⟨by show d :: a.defers = [d]; rw [h.defers, hC], h.size, fun t x hx => h.env t x hx, ⟨h.mem.len, h.mem.obj, h.mem.sep, h.mem.new, ⟨h.mem.fr.os, h.mem.fr.tape, h.mem.fr.output, h.mem.fr.size, h.mem.fr.block, h.mem.fr.glob⟩⟩⟩

/-- The closure is made and deferred. -/
theorem AW.defer {C : Ctx} {g id d : Nat} {o1 o2 : Oper} {y : Code} {e : List (Nat × SV)} {obs : List Ob} {Q : Exit → St → Prop} {caps : List Operand} (hC : C.dfs = []) (h1 : o1.op = .makeFunc (.func g) #[] caps.toArray) (hd : o1.dst = some d) (hn : d < C.n) (hg1 : o1.guard = none)
    (h2 : o2.op = .defer { callee := .value (.tmp d), args := #[], argTypes := #[] }) (hd2 : o2.dst = none) (hg2 : o2.guard = none) (he : enters C.P g = true)
    {cs : List SV} (hcs : mapO (opS ⟨e, obs⟩) caps = some cs) (h : ∀ df, AC { C with dfs := [df] } y ⟨(d, .fv (.func g) [] cs) :: e, obs⟩ Q) : AW C g caps.length (.seq (.region id [o1, o2].toArray false) y) ⟨e, obs⟩ Q := by
  intro Ω a w hr
  refine wp_seq (wp_region_lit ?_)
  unfold wpList
  rw [if_pos (by simp [Region.wanted, hg1])]
  refine .inl ?_
  have r1 : (execOp a.eval o1).run C.P w = .ok (.value (.func (.func g) #[] (caps.map a.eval).toArray)) w := by
    simp [execOp, h1, Instr.makeFunc]
  unfold Oper.wp
  rw [r1, Oper.upon_value, hd]
  unfold wpList
  rw [if_pos (by simp [Region.wanted, hg2])]
  refine .inl ?_
  have hv : (a.put (some d) (.func (.func g) #[] (caps.map a.eval).toArray)).eval (.tmp d) = .func (.func g) #[] (caps.map a.eval).toArray := by
    have := Act.put_get (a := a) (d := d) (v := .func (.func g) #[] (caps.map a.eval).toArray) (by rw [hr.size]; exact hn)
    simp [Act.eval, Act.put, Array.getD_eq_getD_getElem?, hr.size, hn]
  have r2 : (execOp (a.put (some d) (.func (.func g) #[] (caps.map a.eval).toArray)).eval o2).run C.P w = .ok (.defer ⟨.fn (.func g) (caps.map a.eval).toArray, #[]⟩) w := by
    simp [execOp, h2, resolve, hv, Deferred.ofValue]
  unfold Oper.wp
  rw [r2]
  simp only [Oper.upon, hd2]
  have hdef : IsDef C.P g caps.length ⟨.fn (.func g) (caps.map a.eval).toArray, #[]⟩ := by
    refine ⟨_, _, (caps.map a.eval).toArray, rfl, fun w => ?_, by simp⟩
    simp only [invoke, Array.empty_append]
    exact run_enters he _ w
  have hcap : RepS w (okB C obs Ω w) Ω (.fv (.func g) [] cs) (.func (.func g) #[] (caps.map a.eval).toArray) := by
    obtain ⟨hl, hi⟩ := mapO_get hcs
    refine .fv _ _ _ [] _ rfl (by simp [hl]) (fun i x y hx => by simp at hx) (fun i x y hx hy => ?_)
    simp only [List.getElem?_map, Option.map_eq_some_iff] at hy
    obtain ⟨z, hz, rfl⟩ := hy
    exact hr.eval (hi i z x hz hx)
  have hr2 := rel_dfs (hr.put hn hcap) hC ⟨.fn (.func g) (caps.map a.eval).toArray, #[]⟩
  have := h ⟨.fn (.func g) (caps.map a.eval).toArray, #[]⟩ Ω _ w hr2
  exact wp_mono this fun e a w hq => ⟨_, hdef, hq⟩

/-- A function that defers a closure; the closure finds nothing to recover. -/
theorem FnD.wrap {P : Program} {f g m : FuncId} {fn : Func} {c : Code} {args : List D} {R : D → Prop} {n : Nat} {rs : List ResultVar}
    (hc : ∀ (av : Array Value) (w : World), av.size = m → CallsD P g av .returning w fun e u' w' => e = .returned (.tuple #[]) ∧ u' = .returning ∧ w' = w)
    (he : enters P f = true) (hf : P.funcs[f]? = some fn) (hb : fn.body = some c) (hnt : fn.ntmps = n) (hrs : fn.results = rs.toArray) (hn : args.length ≤ n)
    (h : ∀ (W : World) (ok : Nat → Prop), AW ⟨P, W, ok, [], n, []⟩ g m c ⟨enumD 0 args, []⟩ (RetQ P rs R)) : FnD P f args R := by
  subst hnt
  have hrl : fn.results.toList = rs := by rw [hrs]
  subst hrl
  refine ⟨he, fun W ok vs hG hok hl hrep => calls_of_wp_defers hf hb ?_⟩
  have hrel : Rel ⟨P, W, ok, [], fn.ntmps, []⟩ ⟨enumD 0 args, []⟩ [] { tmps := vs.toArray ++ Array.replicate (fn.ntmps - vs.toArray.size) undef, defers := [] } W := by
    refine ⟨rfl, by simp; omega, fun t x hx => ?_, ⟨rfl, fun o ob h e1 => by simp at e1, fun i j a b p q x _ e1 => by simp at e1, fun o ob p b e1 => by simp at e1, ⟨rfl, rfl, rfl, Nat.le_refl _, fun _ _ _ => rfl, hG⟩⟩⟩
    obtain ⟨y, rfl, _, hy⟩ := enumD_get args 0 t x hx
    rw [Nat.sub_zero] at hy
    have hlt := (List.getElem?_eq_some_iff.1 hy).1
    have hv : vs[t]? = some vs[t] := List.getElem?_eq_getElem (by omega)
    refine ⟨vs[t], ?_, .d _ _ ((hrep t _ _ hy hv).mono fun b hb => ⟨⟨.inl hb, hok b hb, fun o ob h e1 => by simp at e1⟩, rfl⟩)⟩
    rw [Array.getElem?_append_left (by simp; omega)]
    simp
  refine wp_mono (h W ok _ _ W hrel) fun ed a w ⟨d, hdef, s, Ω, hr, hq⟩ => ?_
  obtain ⟨fv, cap, av, ht, hinv, hsz⟩ := hdef
  have fin : (∃ r, resD P s fn.results.toList = some r ∧ R r) → Leaves P fn a.tmps (fun e w' => ∃ v r, e = .returned v ∧ R r ∧ RowKit.Below W.heap.size W w' ∧ RepD w' (fun b => (ok b ∨ W.heap.size ≤ b) ∧ b < w'.heap.size) r v) a.defers .returning w := by
    intro ⟨r, hres, hR⟩
    obtain ⟨v, hv, hrep⟩ := results_rep rfl hr hres
    have hd : a.defers = [d] := hr.defers
    rw [hd]
    refine ⟨by simp, fv, cap, g, av, ht, hinv w, (hc av w hsz).mono fun e u' w' ⟨h1, h2, h3⟩ => ?_⟩
    subst h1; subst h2; subst h3
    exact ⟨v, hv, v, r, rfl, hR, ⟨hr.mem.fr.os, hr.mem.fr.tape, hr.mem.fr.output, hr.mem.fr.size, fun b hb => hr.mem.fr.block b hb (by simp)⟩, hrep⟩
  cases ed with
  | normal => exact fin hq
  | ret => exact fin hq
  | _ => exact hq.elim
end Go.Vm
