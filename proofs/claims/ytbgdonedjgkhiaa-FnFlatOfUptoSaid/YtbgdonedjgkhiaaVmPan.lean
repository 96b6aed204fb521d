/- Panics that are recovered: a function that panics; one that defers a closure, which recovers. -/
import Derived.Test.YtbgdonedjgkhiaaVmNew
import Derived.Test.YtbgdonedjgkhiaaVmWrap
import Derived.Test.YtbgdonedjgkhiaaVmLaid
import Derived.Recover
set_option linter.unusedVariables false
namespace Go.Vm
/-- A panic that is under way: with a value, not nil. -/
def PanC (ch : List PanicEntry) : Prop := ∃ t u, ch = [{ v := .iface t u, recovered := false }]
/-- Function f, called with data args, panics; nothing that was there has turned. -/
def FnP (P : Program) (f : FuncId) (args : List D) : Prop :=
  enters P f = true ∧ ∀ (W : World) (ok : Nat → Prop) (vs : List Value), HoldsG W → (∀ b, ok b → b < W.heap.size) → vs.length = args.length →
    (∀ (i : Nat) x v, args[i]? = some x → vs[i]? = some v → RepD W ok x v) →
    Calls P f vs.toArray W fun e w' => (∃ ch, e = .panicked ch ∧ PanC ch) ∧ RowKit.Below W.heap.size W w'
def PanQ : Exit → St → Prop
  | .panic ch, s => PanC ch
  | _, _ => False
theorem rel_start {P : Program} {n : Nat} {args : List D} {W : World} {ok : Nat → Prop} {vs : List Value} (hn : args.length ≤ n) (hG : HoldsG W) (hok : ∀ b, ok b → b < W.heap.size) (hl : vs.length = args.length)
    (hrep : ∀ (i : Nat) x v, args[i]? = some x → vs[i]? = some v → RepD W ok x v) : Rel ⟨P, W, ok, [], n, []⟩ ⟨enumD 0 args, []⟩ [] { tmps := vs.toArray ++ Array.replicate (n - vs.toArray.size) undef, defers := [] } W := by
  refine ⟨rfl, by simp; omega, fun t x hx => ?_, ⟨rfl, fun o ob h e1 => by simp at e1, fun i j a b p q x _ e1 => by simp at e1, fun o ob p b e1 => by simp at e1, ⟨rfl, rfl, rfl, Nat.le_refl _, fun _ _ _ => rfl, hG⟩⟩⟩
  obtain ⟨y, rfl, _, hy⟩ := enumD_get args 0 t x hx
  rw [Nat.sub_zero] at hy
  have hlt := (List.getElem?_eq_some_iff.1 hy).1
  have hv : vs[t]? = some vs[t] := List.getElem?_eq_getElem (by omega)
  refine ⟨vs[t], ?_, .d _ _ ((hrep t _ _ hy hv).mono fun b hb => ⟨⟨.inl hb, hok b hb, fun o ob h e1 => by simp at e1⟩, rfl⟩)⟩
  rw [Array.getElem?_append_left (by simp; omega)]
  simp
theorem FnP.of {P : Program} {f : FuncId} {fn : Func} {c : Code} {args : List D} {n : Nat} (he : enters P f = true) (hf : P.funcs[f]? = some fn) (hb : fn.body = some c) (hnt : fn.ntmps = n) (hn : args.length ≤ n)
    (h : ∀ (W : World) (ok : Nat → Prop), AC ⟨P, W, ok, [], n, []⟩ c ⟨enumD 0 args, []⟩ PanQ) : FnP P f args := by
  subst hnt
  refine ⟨he, fun W ok vs hG hok hl hrep => calls_of_wp hf hb ?_⟩
  refine wp_mono (h W ok _ _ W (rel_start hn hG hok hl hrep)) fun ed a w ⟨s, Ω, hr, hq⟩ => ?_
  cases ed with
  | panic ch => exact ⟨hr.defers, ⟨ch, rfl, hq⟩, ⟨hr.mem.fr.os, hr.mem.fr.tape, hr.mem.fr.output, hr.mem.fr.size, fun b hb => hr.mem.fr.block b hb (by simp)⟩⟩
  | _ => exact hq.elim
section
variable {C : Ctx} {Q : Exit → St → Prop} {ops : Array Oper} {rest : List Oper} {o : Oper} {e : List (Nat × SV)} {obs : List Ob} {d : Nat}
theorem AOp.panic {x : Operand} {t : TypeId} {y : SV} (ho : o.op = .panic x) (hx : opS ⟨e, obs⟩ x = some (.ifc t y)) (h : ∀ ch, PanC ch → Q (.panic ch) ⟨e, obs⟩) : AOp C ops rest o ⟨e, obs⟩ Q := fun Ω a w hr => by
  have hv := hr.eval hx
  generalize hev : a.eval x = v at hv
  cases hv with
  | ifc _ _ u hu =>
    have r1 : (execOp a.eval o).run C.P w = .halt (.panic (.iface t u)) w := by
      simp only [execOp, ho, hev, Sem.run_bind, run_panic_iface]
      rfl
    unfold Oper.wp
    rw [r1]
    exact ⟨⟨e, obs⟩, Ω, hr, h _ ⟨t, u, rfl⟩⟩
/-- A call that panics. -/
theorem AOp.callP {f : FuncId} {xs : List Operand} {ts : Array TypeId} {ys : List D} (ho : o.op = .call { callee := .value (.func f), args := xs.toArray, argTypes := ts }) (hm : C.may = [])
    (hx : mapO (argD ⟨e, obs⟩) xs = some ys) (hF : FnP C.P f ys) (h : ∀ ch, PanC ch → Q (.panic ch) ⟨e, obs⟩) : AOp C ops rest o ⟨e, obs⟩ Q := fun Ω a w hr => by
  obtain ⟨hl, hi⟩ := mapO_get hx
  unfold Oper.wp
  rw [run_call hF.1 ho, Oper.upon_enter, List.map_toArray]
  refine (hF.2 w (okB C obs Ω w) (xs.map a.eval) (hr.mem.fr.holds hm) (fun b hb => hb.2.1) (by simp [hl]) fun i y v hy hv => ?_).mono fun ed w' ⟨⟨ch, he, hp⟩, hb⟩ => ?_
  · simp only [List.getElem?_map, Option.map_eq_some_iff] at hv
    obtain ⟨x, hxi, rfl⟩ := hv
    have := hi i x y hxi hy
    unfold argD at this
    split at this
    · rename_i z hz
      exact dataS_rep 9 this (hr.eval hz)
    · cases this
  · subst he
    exact ⟨⟨e, obs⟩, Ω, hr.below hb, h ch hp⟩
/-- A package variable of a struct of one cell. -/
theorem AOp.loadG1 {t : TypeId} {g : Nat} {v : Value} (ho : o.op = .load t (.global g)) (hd : o.dst = some d) (hn : d < C.n) (hm : C.may = []) (ht : aggT C.P t = some true) (hs : sizeT C.P t = some 1) (hg : (g, v) ∈ Globs)
    (h : AO C ops rest ⟨(d, .d (.ag [.v v])) :: e, obs⟩ Q) (h1 : g % 1048576 = g := by rfl) (h2 : g / 1048576 = 0 := by rfl) : AOp C ops rest o ⟨e, obs⟩ Q :=
  AOp.value hd hn (fun Ω a w hr => by
    have hc := ((hr.mem.fr.holds hm).1 (g, v) hg).2
    simp only [h1, h2] at hc
    refine ⟨.agg [v].toArray, ?_, .d _ _ (.ag [.v v] [v] rfl fun i x y hx hy => ?_)⟩
    · have hev : a.eval (.global g) = .pointer (some ⟨g, 0, none⟩) := rfl
      have := run_loadN (P := C.P) (w := w) (b := g) (off := 0) (vs := [v]) ht hs rfl (fun j hj => by
        obtain rfl : j = 0 := by omega
        simpa using hc)
      simp only [execOp, ho, hev, Instr.loadAt, Instr.sureAddr, Sem.run_bind, Sem.run_pure, Result.andThen_ok, this]
    · cases i with
      | zero => cases hx; cases hy; exact .v _
      | succ i => simp at hx) h
end
/-- The code c, in which function g is deferred; Q vs: what holds behind it, vs being what g has captured. -/
def AWP (C : Ctx) (g : Nat) (c : Code) (s : St) (Q : Array Value → Exit → St → Prop) : Prop :=
  ∀ Ω a w, Rel C s Ω a w → c.wp C.P (fun e a w => ∃ vs, Lift { C with dfs := [⟨.fn (.func g) vs, #[]⟩] } (Q vs) e a w) a w
theorem AWP.seq {C : Ctx} {g : Nat} {x y : Code} {s : St} {Q : Array Value → Exit → St → Prop} (h : AC C x s (fun e s' => e = .normal ∧ AWP C g y s' Q)) : AWP C g (.seq x y) s Q := fun Ω a w hr =>
  wp_seq (wp_mono (h Ω a w hr) fun e a w ⟨s, Ω, hr, he, hq⟩ => by
    subst he
    exact hq Ω a w hr)
/-- The closure is made and deferred; what it has captured is kept in sight. -/
theorem AWP.defer {C : Ctx} {g id d : Nat} {o1 o2 : Oper} {y : Code} {e : List (Nat × SV)} {obs : List Ob} {Q : Array Value → Exit → St → Prop} {caps : List Operand} (hC : C.dfs = []) (h1 : o1.op = .makeFunc (.func g) #[] caps.toArray) (hd : o1.dst = some d) (hn : d < C.n) (hg1 : o1.guard = none)
    (h2 : o2.op = .defer { callee := .value (.tmp d), args := #[], argTypes := #[] }) (hd2 : o2.dst = none) (hg2 : o2.guard = none)
    {cs : List SV} (hcs : mapO (opS ⟨e, obs⟩) caps = some cs) (h : ∀ vs : Array Value, vs.size = caps.length → AC { C with dfs := [⟨.fn (.func g) vs, #[]⟩] } y ⟨e, obs ++ [.frame vs (enumS 0 cs)]⟩ (Q vs)) (hfree : get e d = none) : AWP C g (.seq (.region id [o1, o2].toArray false) y) ⟨e, obs⟩ Q := by
  intro Ω a w hr
  refine wp_seq (wp_region_lit ?_)
  unfold wpList
  rw [if_pos (by simp [Region.wanted, hg1])]
  refine .inl ?_
  have r1 : (execOp a.eval o1).run C.P w = .ok (.value (.func (.func g) #[] (caps.map a.eval).toArray)) w := by
    simp [execOp, h1, Instr.makeFunc]
  unfold Oper.wp
  rw [r1, Oper.upon_value, hd]
  unfold wpList
  rw [if_pos (by simp [Region.wanted, hg2])]
  refine .inl ?_
  have hv : (a.put (some d) (.func (.func g) #[] (caps.map a.eval).toArray)).eval (.tmp d) = .func (.func g) #[] (caps.map a.eval).toArray := by
    have := Act.put_get (a := a) (d := d) (v := .func (.func g) #[] (caps.map a.eval).toArray) (by rw [hr.size]; exact hn)
    simp [Act.eval, Act.put, Array.getD_eq_getD_getElem?, hr.size, hn]
  have r2 : (execOp (a.put (some d) (.func (.func g) #[] (caps.map a.eval).toArray)).eval o2).run C.P w = .ok (.defer ⟨.fn (.func g) (caps.map a.eval).toArray, #[]⟩) w := by
    simp [execOp, h2, resolve, hv, Deferred.ofValue]
  unfold Oper.wp
  rw [r2]
  simp only [Oper.upon, hd2]
  obtain ⟨hl, hi⟩ := mapO_get hcs
  obtain ⟨hm, hok⟩ := hr.mem.frame (caps.map a.eval).toArray (enumS 0 cs) (fun t x hx => by
    obtain ⟨_, hy⟩ := enumS_get cs 0 t x hx
    rw [Nat.sub_zero] at hy
    have hlt := (List.getElem?_eq_some_iff.1 hy).1
    have hxt : caps[t]? = some caps[t] := List.getElem?_eq_getElem (by omega)
    exact ⟨a.eval caps[t], by simp [hxt], hr.eval (hi t _ _ hxt hy)⟩)
  have hrel : Rel { C with dfs := [⟨.fn (.func g) (caps.map a.eval).toArray, #[]⟩] } ⟨e, obs ++ [.frame (caps.map a.eval).toArray (enumS 0 cs)]⟩ (Ω ++ [undef]) { (a.put (some d) (.func (.func g) #[] (caps.map a.eval).toArray)) with defers := ⟨.fn (.func g) (caps.map a.eval).toArray, #[]⟩ :: a.defers } w := by
    refine ⟨by rw [hr.defers, hC], by simp [Act.put, hr.size], fun t x hx => ?_, ⟨hm.len, hm.obj, hm.sep, hm.new, ⟨hm.fr.os, hm.fr.tape, hm.fr.output, hm.fr.size, hm.fr.block, hm.fr.glob⟩⟩⟩
    obtain ⟨v, hv, hrp⟩ := hr.env t x hx
    refine ⟨v, ?_, hrp.mono (fun b hb => ⟨hok b hb, rfl⟩) (fun o v e => get_left e)⟩
    show (a.put (some d) _).tmps[t]? = some v
    rw [Act.put_get (by rw [hr.size]; exact hn)]
    have : t ≠ d := fun e => by rw [e, hfree] at hx; cases hx
    rw [if_neg (Ne.symm this)]; exact hv
  exact wp_mono (h _ (by simp) _ _ w hrel) fun e a w hq => ⟨_, hq⟩
/-- Behind the closure's end. -/
def EndQ (P : Program) (rs : List ResultVar) (k : Nat) (tm : Array Value) (R : D → Prop) : Exit → St → Prop
  | .normal, s | .ret, s => ∃ r e', s.obs[k]? = some (Ob.frame tm e') ∧ resD P ⟨e', s.obs.set k .dead⟩ rs = some r ∧ R r
  | _, _ => False
/-- Behind a panic: the closure's other code c2 is gone through, its test (slots d0, d1) passed. -/
def CatchQ (C : Ctx) (ng d0 d1 : Nat) (c2 : Code) (rs : List ResultVar) (R : D → Prop) (vs : Array Value) : Exit → St → Prop
  | .panic ch, s => PanC ch ∧ ∃ (k : Nat) (cs : List SV), s.obs[k]? = some (Ob.frame vs (enumS 0 cs)) ∧ (vs.size = cs.length ∧ cs.length ≤ ng) ∧ ∀ tm, AC (C.sub ng) c2 ⟨(d1, .d (dbool true)) :: (d0, .any) :: enumS 0 cs, s.obs ++ [.frame tm s.env]⟩ (EndQ C.P rs s.obs.length tm R)
  | _, _ => False
/-- A function that defers a closure, panics, and gives what the closure leaves it to. -/
theorem FnD.catch {P : Program} {f g : FuncId} {fn fg : Func} {c c2 : Code} {args : List D} {R : D → Prop} {n ng id d0 d1 : Nat} {rs : List ResultVar} {o1 o2 : Oper}
    (he : enters P f = true) (hf : P.funcs[f]? = some fn) (hb : fn.body = some c) (hnt : fn.ntmps = n) (hrs : fn.results = rs.toArray) (hn : args.length ≤ n)
    (heg : enters P g = true) (hfg : P.funcs[g]? = some fg) (hbg : fg.body = some (.seq (.region id #[o1, o2] false) c2)) (hng : fg.ntmps = ng) (hrg : fg.results = #[]) (h0 : d0 < ng) (h1 : d1 < ng)
    (ho1 : ∀ (a : Act) (w : World), (execOp a.eval o1).run P w = .ok .recover w) (hd1 : o1.dst = some d0) (hg1 : o1.guard = none)
    (ho2 : ∀ (a : Act) (w : World) t u, a.eval (.tmp d0) = .iface t u → (execOp a.eval o2).run P w = .ok (.value (.bool true)) w) (hd2 : o2.dst = some d1) (hg2 : o2.guard = none)
    (h : ∀ (W : World) (ok : Nat → Prop), AWP ⟨P, W, ok, [], n, []⟩ g c ⟨enumD 0 args, []⟩ (CatchQ ⟨P, W, ok, [], n, []⟩ ng d0 d1 c2 rs R)) : FnD P f args R := by
  subst hnt
  subst hng
  have hrl : fn.results.toList = rs := by rw [hrs]
  subst hrl
  refine ⟨he, fun W ok vs hG hok hl hrep => calls_of_wp_defers hf hb ?_⟩
  refine wp_mono (h W ok _ _ W (rel_start hn hG hok hl hrep)) fun ed a w ⟨cv, s, Ω, hr, hq⟩ => ?_
  cases ed with
  | panic ch =>
    obtain ⟨⟨t, u, rfl⟩, k, cs, hk, ⟨hsz, hlen⟩, hac⟩ := hq
    show Leaves P fn a.tmps _ a.defers _ w
    rw [hr.defers]
    refine ⟨by simp, .func g, cv, g, cv, rfl, by simp only [invoke, Array.empty_append]; exact run_enters heg _ w, ?_⟩
    refine callsD_of_wpS hfg hbg fun c₀ fs hu => ?_
    apply wpS_seq
    apply wpS_region
    -- the closure's slots
    have hfo : ∃ x, Ω[k]? = some x := ⟨_, List.getElem?_eq_getElem (by have := (List.getElem?_eq_some_iff.1 hk).1; have := hr.mem.len; omega)⟩
    obtain ⟨x, hx⟩ := hfo
    have hF := hr.mem.obj _ _ _ hk hx
    obtain ⟨hm, hok'⟩ := hr.mem.frame a.tmps s.env (fun t x hx => hr.env t x hx)
    have hrel : Rel (Ctx.sub ⟨P, W, ok, [], fn.ntmps, []⟩ fg.ntmps) ⟨enumS 0 cs, s.obs ++ [.frame a.tmps s.env]⟩ (Ω ++ [undef]) { tmps := cv ++ Array.replicate (fg.ntmps - cv.size) undef, defers := [] } w := by
      refine ⟨rfl, by simp; omega, fun t x hx => ?_, ⟨hm.len, hm.obj, hm.sep, hm.new, ⟨hm.fr.os, hm.fr.tape, hm.fr.output, hm.fr.size, hm.fr.block, hm.fr.glob⟩⟩⟩
      obtain ⟨v, hv, hrp⟩ := hF.2 t x hx
      refine ⟨v, ?_, hrp.mono (fun b hb => ⟨hok' b hb, rfl⟩) (fun o v e => get_left e)⟩
      rw [Array.getElem?_append_left (Array.getElem?_eq_some_iff.1 hv).1]; exact hv
    generalize hA0 : ({ tmps := cv ++ Array.replicate (fg.ntmps - cv.size) undef, defers := [] } : Act) = A0 at hrel ⊢
    have hrel2 := (hrel.put (d := d0) h0 (x := .any) (v := .iface t u) (.any _)).put (d := d1) h1 (x := .d (dbool true)) (v := .bool true) (.d _ _ (.v _))
    have hev : (A0.put (some d0) (.iface t u)).eval (.tmp d0) = .iface t u := by
      have := hrel.size
      simp only at this
      simp [Act.eval, Act.put, this, h0]
    show wpOpsS P #[o1, o2] _ [0, 1] A0 (c₀ :: fs) w
    unfold wpOpsS
    simp only [List.getElem?_toArray, List.getElem?_cons_zero, Region.wanted, hg1, if_true, ho1, recoverD, hu, hd1]
    unfold wpOpsS
    simp only [List.getElem?_toArray, List.getElem?_cons_succ, List.getElem?_cons_zero, Region.wanted, hg2, if_true, ho2 _ _ t u hev, Oper.upon, hd2]
    unfold wpOpsS
    show c2.wpS P _ _ _ w
    refine wpS_of_wp (wp_mono (hac a.tmps _ _ w hrel2) fun e2 a2 w2 ⟨s2, Ω2, hr2, hq2⟩ => ?_)
    have fin : (∃ r e', s2.obs[s.obs.length]? = some (Ob.frame a.tmps e') ∧ resD P ⟨e', s2.obs.set s.obs.length .dead⟩ fn.results.toList = some r ∧ R r) →
        ∃ v, (results fn a.tmps).run P w2 = .ok v w2 ∧ ∃ v_1 r, Ending.returned v = Ending.returned v_1 ∧ R r ∧ RowKit.Below W.heap.size W w2 ∧ RepD w2 (fun b => (ok b ∨ W.heap.size ≤ b) ∧ b < w2.heap.size) r v_1 := by
      intro ⟨r, e', hfr, hres, hR⟩
      obtain ⟨hmk, hokk⟩ := hr2.mem.kill s.obs.length
      obtain ⟨hh, hΩh⟩ : ∃ h, Ω2[s.obs.length]? = some h := ⟨_, List.getElem?_eq_getElem (by have := (List.getElem?_eq_some_iff.1 hfr).1; have := hr2.mem.len; omega)⟩
      have hF2 := hr2.mem.obj _ _ _ hfr hΩh
      have hbase : Rel ⟨P, W, ok, [], fn.ntmps, [⟨.fn (.func g) cv, #[]⟩]⟩ ⟨e', s2.obs.set s.obs.length .dead⟩ Ω2 a w2 :=
        ⟨hr.defers, hr.size, fun t x hx => let ⟨v, hv, hrp⟩ := hF2.2 t x hx; ⟨v, hv, hrp.mono (fun b hb => ⟨hokk b hb, rfl⟩) (fun _ _ e => e)⟩, ⟨hmk.len, hmk.obj, hmk.sep, hmk.new, ⟨hmk.fr.os, hmk.fr.tape, hmk.fr.output, hmk.fr.size, hmk.fr.block, hmk.fr.glob⟩⟩⟩
      obtain ⟨v, hv, hrp⟩ := results_rep rfl hbase hres
      exact ⟨v, hv, v, r, rfl, hR, ⟨hbase.mem.fr.os, hbase.mem.fr.tape, hbase.mem.fr.output, hbase.mem.fr.size, fun b hb => hbase.mem.fr.block b hb (by simp)⟩, hrp⟩
    have fin2 : (∃ r e', s2.obs[s.obs.length]? = some (Ob.frame a.tmps e') ∧ resD P ⟨e', s2.obs.set s.obs.length .dead⟩ fn.results.toList = some r ∧ R r) →
        bodyPostS P fg c₀ fs (fun
          | .returned _, u', w' => Leaves P fn a.tmps (fun e w' => ∃ v r, e = .returned v ∧ R r ∧ RowKit.Below W.heap.size W w' ∧ RepD w' (fun b => (ok b ∨ W.heap.size ≤ b) ∧ b < w'.heap.size) r v) [] (settle u') w'
          | .panicked chain, u', w' => Leaves P fn a.tmps (fun e w' => ∃ v r, e = .returned v ∧ R r ∧ RowKit.Below W.heap.size W w' ∧ RepD w' (fun b => (ok b ∨ W.heap.size ≤ b) ∧ b < w'.heap.size) r v) [] (raised u' chain) w'
          | .outgrown, _, w' => ∃ v r, Ending.outgrown = .returned v ∧ R r ∧ RowKit.Below W.heap.size W w' ∧ RepD w' (fun b => (ok b ∨ W.heap.size ≤ b) ∧ b < w'.heap.size) r v) .normal a2 ({ c₀ with mode := .panicking [{ v := .iface t u, recovered := true }] } :: fs) w2 := by
      intro h
      obtain ⟨v, hv, hrest⟩ := fin h
      exact ⟨hr2.defers, _, rfl, .tuple #[], by simp [results, hrg], v, hv, hrest⟩
    cases e2 with
    | normal => exact fin2 hq2
    | ret => exact fin2 hq2
    | _ => exact hq2.elim
  | _ => exact hq.elim
theorem run_neqNil {P : Program} {o : Oper} {t ty u : TypeId} {x : Operand} {a : Act} {v : Value} {w : World} (ho : o.op = .binOp .neq t x (.const .nilIface) ty) (ht : P.underlying t = some (.interface (P.methodsAt t))) (hx : a.eval x = .iface u v) : (execOp a.eval o).run P w = .ok (.value (.bool true)) w := by
  have hy : a.eval (.const .nilIface) = .nilIface := rfl
  have hg : eqGuard .neq t x (.const .nilIface) (.iface u v) .nilIface = pure () := rfl
  simp only [execOp, ho, hx, hy, hg, Sem.run_bind, Sem.run_pure, Result.andThen_ok, run_neq_held_nil w t u v ht]
open Go.Lib in
theorem laid_str {P : Program} {W : World} {l : List (String × DataW Unit)} {n : String} {bs : List UInt8} {g : Nat} {t : TypeId} {f : Field} (h : laidMet P l W) (hm : (n, .agg [.lit (.string bs)]) ∈ l) (hg : P.globalNamed n = some g)
    (hty : (P.globals[g]?).map (·.type) = some t) (ht : P.underlying t = some (.struct #[f])) (hf : P.underlying f.type = some .string) (ho : f.offset = 0) (hc : P.cellsOf t = 1) (hce : P.cellsOf f.type = 1) : g < W.heap.size ∧ W.cell? ⟨g, 0, none⟩ = some (.string ⟨bs.toArray⟩) := by
  obtain ⟨g', t', cs, fuel, p, h1, h2, h3, h4⟩ := laidMet.reads h hm
  obtain rfl := Option.some.inj (hg.symm.trans h1)
  obtain rfl := Option.some.inj (hty.symm.trans h2)
  obtain ⟨xs, fm, _, ex, hlen, hl, hel⟩ := DataW.trod_struct ht h4
  have e3 := DataW.agg.inj (Prod.mk.inj ex).1
  have hd := hel 0 f rfl
  rw [ho, hce, List.drop_zero] at hd
  have hx : (xs.map (·.1))[0]? = some (.lit (.string bs)) := by rw [← e3]; rfl
  rw [List.getElem?_map, Option.map_eq_some_iff] at hx
  obtain ⟨x, hxk, hxb⟩ := hx
  rw [hxk] at hd
  obtain ⟨s, hs, hx2, _⟩ := DataW.trod_string hf hd
  rw [hx2] at hxb
  have hb : s.data.toList = bs := by simpa using hxb
  have hcs : cs[0]? = some (.string s) := by
    have : (cs.toList.take 1)[0]? = some (.string s) := by rw [hs]; rfl
    rw [List.getElem?_take, if_pos (by omega)] at this
    simpa using this
  have hv := World.var?_cell hg h3 0
  have hsb : s = ⟨bs.toArray⟩ := by rw [← hb]
  rw [← hsb]
  exact ⟨cell_lt (by rw [hv, hcs]), by rw [hv, hcs]⟩
end Go.Vm
