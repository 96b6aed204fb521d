/- Functions that are gone through where they are called: their caller waits, its slots kept among the objects. -/
import Derived.Test.YtbgdonedjgkhiaaVmDraw4
namespace Go.Vm
set_option linter.unusedVariables false

def enumS : Nat → List SV → List (Nat × SV)
  | _, [] => []
  | i, x :: r => (i, x) :: enumS (i + 1) r
theorem enumS_get (l : List SV) : ∀ (i t : Nat) (x : SV), get (enumS i l) t = some x → i ≤ t ∧ l[t - i]? = some x := by
  induction l with
  | nil => intro i t x h; cases h
  | cons y l ih =>
    intro i t x h
    simp only [enumS, get] at h
    split at h
    · rename_i e; subst e; cases h; exact ⟨Nat.le_refl _, by simp⟩
    · rename_i hne
      obtain ⟨hle, hl⟩ := ih (i + 1) t x h
      refine ⟨by omega, ?_⟩
      have : t - i = (t - (i + 1)) + 1 := by omega
      rw [this]; simpa using hl

def resS (P : Program) (s : St) (rs : List ResultVar) : Option SV :=
  match mapO (resV P s) rs with
  | some [y] => some y
  | some ys => some (.tu ys)
  | none => none

theorem resS_rep {C : Ctx} {s : St} {Ω : List Value} {a : Act} {w : World} (hr : Rel C s Ω a w) {fn : Func} {y : SV} (h : resS C.P s fn.results.toList = some y) :
    ∃ v, (results fn a.tmps).run C.P w = .ok v w ∧ RepS w (okB C s.obs Ω w) Ω y v := by
  have key : ∀ (l : List ResultVar) (ys : List SV), mapO (resV C.P s) l = some ys →
      ∃ vs : List Value, (l.mapM (resSem a.tmps)).run C.P w = .ok vs w ∧ vs.length = ys.length ∧
        ∀ (i : Nat) p q, ys[i]? = some p → vs[i]? = some q → RepS w (okB C s.obs Ω w) Ω p q := by
    intro l
    induction l with
    | nil => intro ys h; cases h; exact ⟨[], rfl, rfl, fun i p q hp => by simp at hp⟩
    | cons r l ih =>
      intro ys h
      simp only [mapO] at h
      split at h
      · rename_i y hy
        split at h
        · rename_i t ht
          cases h
          obtain ⟨vs, hrun, hl, hrr⟩ := ih t ht
          obtain ⟨v, hv, hrep⟩ := resV_rep hr hy
          refine ⟨v :: vs, ?_, by simp [hl], fun i p q hp hq => ?_⟩
          · simp [List.mapM_cons, hv, hrun]
          · cases i with
            | zero => simp at hp hq; subst hp; subst hq; exact hrep
            | succ i => simp at hp hq; exact hrr i p q hp hq
        · cases h
      · cases h
  unfold resS at h
  split at h
  · rename_i y' hys
    cases h
    obtain ⟨vs, hrun, hl, hrr⟩ := key _ _ hys
    match vs, hl with
    | [v], _ =>
      refine ⟨v, ?_, hrr 0 _ _ rfl rfl⟩
      rw [results_eq]
      rw [← Array.toArray_toList (xs := fn.results), List.mapM_toArray]
      simp [hrun]
  · rename_i ys hne hys
    cases h
    obtain ⟨vs, hrun, hl, hrr⟩ := key _ _ hys
    refine ⟨.tuple vs.toArray, ?_, .tu ys vs hl hrr⟩
    have h1 : ¬ vs.length = 1 := fun e => by
      rw [hl] at e
      match ys, e with
      | [y], _ => exact hne y rfl
    rw [results_eq]
    rw [← Array.toArray_toList (xs := fn.results), List.mapM_toArray]
    simp [hrun, h1]
  · cases h

/-- The same, with slots of another function. -/
abbrev Ctx.sub (C : Ctx) (n : Nat) : Ctx := ⟨C.P, C.W, C.ok, C.may, n, []⟩
theorem Mem.ctx {C : Ctx} {n : Nat} {obs : List Ob} {Ω : List Value} {w : World} (h : Mem C obs Ω w) : Mem (C.sub n) obs Ω w :=
  ⟨h.len, h.obj, h.sep, h.new, ⟨h.fr.os, h.fr.tape, h.fr.output, h.fr.size, h.fr.block, h.fr.glob⟩⟩
theorem Mem.ctx' {C : Ctx} {n : Nat} {obs : List Ob} {Ω : List Value} {w : World} (h : Mem (C.sub n) obs Ω w) : Mem C obs Ω w :=
  ⟨h.len, h.obj, h.sep, h.new, ⟨h.fr.os, h.fr.tape, h.fr.output, h.fr.size, h.fr.block, h.fr.glob⟩⟩

/-- Slots are laid among the objects. -/
theorem Mem.frame {C : Ctx} {obs : List Ob} {Ω : List Value} {w : World} (h : Mem C obs Ω w) (vs : Array Value) (env : List (Nat × SV)) (he : ∀ t x, get env t = some x → ∃ v, vs[t]? = some v ∧ RepS w (okB C obs Ω w) Ω x v) :
    Mem C (obs ++ [.frame vs env]) (Ω ++ [undef]) w ∧ ∀ b, okB C obs Ω w b → okB C (obs ++ [.frame vs env]) (Ω ++ [undef]) w b := by
  have hb0 : blk undef = none := rfl
  have hΩ : ∀ (o : Nat) v, Ω[o]? = some v → (Ω ++ [undef])[o]? = some v := fun o v e => get_left e
  -- an object, or the new one
  have hval : ∀ {i : Nat} {ob : Ob} {v : Value}, (obs ++ [Ob.frame vs env])[i]? = some ob → (Ω ++ [undef])[i]? = some v → (obs[i]? = some ob ∧ Ω[i]? = some v) ∨ (ob = .frame vs env ∧ v = undef) := fun {i ob v} e1 e2 => by
    rcases list_get_append e1 with e1 | ⟨h1, rfl⟩
    · rcases list_get_append e2 with e2 | ⟨h2, _⟩
      · exact .inl ⟨e1, e2⟩
      · have := (List.getElem?_eq_some_iff.1 e1).1; have := h.len; omega
    · rcases list_get_append e2 with e2 | ⟨h2, rfl⟩
      · have := (List.getElem?_eq_some_iff.1 e2).1; have := h.len; omega
      · exact .inr ⟨rfl, rfl⟩
  have hok : ∀ b, okB C obs Ω w b → okB C (obs ++ [.frame vs env]) (Ω ++ [undef]) w b := fun b hb => ⟨hb.1, hb.2.1, fun i ob v e1 hl e2 => by
    rcases hval e1 e2 with ⟨q1, q2⟩ | ⟨rfl, rfl⟩
    · exact hb.2.2 i ob v q1 hl q2
    · rw [hb0]; intro e; cases e⟩
  refine ⟨⟨by simp [h.len], fun i ob v e1 e2 => ?_, fun i j a b v u y hij e1 e2 l1 l2 e3 e4 hp => ?_, fun i ob v b e1 l e2 hb => ?_, h.fr⟩, hok⟩
  · rcases hval e1 e2 with ⟨q1, q2⟩ | ⟨rfl, rfl⟩
    · exact (h.obj i ob v q1 q2).mono (fun b hb => ⟨hok b hb, rfl⟩) hΩ fun b _ _ => rfl
    · exact ⟨hb0, fun t x hx => let ⟨v, hv, hr⟩ := he t x hx; ⟨v, hv, hr.mono (fun b hb => ⟨hok b hb, rfl⟩) hΩ⟩⟩
  · rcases hval e1 e3 with ⟨q1, q2⟩ | ⟨rfl, rfl⟩
    · rcases hval e2 e4 with ⟨q3, q4⟩ | ⟨rfl, rfl⟩
      · exact h.sep i j a b v u y hij q1 q3 l1 l2 q2 q4 hp
      · rw [hb0]; intro e; cases e
    · rw [hb0] at hp; cases hp
  · rcases hval e1 e2 with ⟨q1, q2⟩ | ⟨rfl, rfl⟩
    · exact h.new i ob v b q1 l q2 hb
    · rw [hb0] at hb; cases hb

def putO (dst : Option Nat) (r : SV) (e : List (Nat × SV)) : List (Nat × SV) := match dst with
  | some d => (d, r) :: e
  | none => e
/-- What comes behind a function's end. -/
def InlQ (C : Ctx) (ops : Array Oper) (rest : List Oper) (dst : Option Nat) (rs : List ResultVar) (k : Nat) (vs : Array Value) (Q : Exit → St → Prop) : Exit → St → Prop
  | .normal, s | .ret, s => ∃ r e', resS C.P s rs = some r ∧ s.obs[k]? = some (.frame vs e') ∧ AO C ops rest ⟨putO dst r e', s.obs.set k .dead⟩ Q
  | _, _ => False

section
variable {C : Ctx} {Q : Exit → St → Prop} {ops : Array Oper} {rest : List Oper} {o : Oper} {e : List (Nat × SV)} {obs : List Ob} {d : Nat}
theorem inlret {rs : List ResultVar} {k : Nat} {vs : Array Value} {s : St} {dst : Option Nat} {r : SV} {e' : List (Nat × SV)} {ob' : List Ob} (h1 : resS C.P s rs = some r) (h2 : s.obs[k]? = some (.frame vs e')) (h4 : s.obs.set k .dead = ob')
    (h3 : AO C ops rest ⟨putO dst r e', ob'⟩ Q) : InlQ C ops rest dst rs k vs Q .ret s := ⟨r, e', h1, h2, h4 ▸ h3⟩
theorem inlend {rs : List ResultVar} {k : Nat} {vs : Array Value} {s : St} {dst : Option Nat} {r : SV} {e' : List (Nat × SV)} {ob' : List Ob} (h1 : resS C.P s rs = some r) (h2 : s.obs[k]? = some (.frame vs e')) (h4 : s.obs.set k .dead = ob')
    (h3 : AO C ops rest ⟨putO dst r e', ob'⟩ Q) : InlQ C ops rest dst rs k vs Q .normal s := ⟨r, e', h1, h2, h4 ▸ h3⟩

/-- A call into a function's body; ks: the caller's slots that are kept. -/
theorem AOp.inl {f : FuncId} {fn : Func} {c : Code} {xs : List Operand} {ts : Array TypeId} {ys : List SV} {n : Nat} {rs : List ResultVar} {e1 : List (Nat × SV)} (ks : List Nat) (he : enters C.P f = true) (hf : C.P.funcs[f]? = some fn) (hb : fn.body = some c) (hnt : fn.ntmps = n) (hrs : fn.results = rs.toArray)
    (ho : o.op = .call { callee := .value (.func f), args := xs.toArray, argTypes := ts }) (hdn : match o.dst with | some d => d < C.n | none => True) (hx : mapO (opS ⟨e, obs⟩) xs = some ys) (hl : ys.length ≤ n) (hk : Vm.keep ks e = some e1)
    (h : ∀ vs, AC (C.sub n) c ⟨enumS 0 ys, obs ++ [.frame vs e1]⟩ (InlQ C ops rest o.dst rs obs.length vs Q)) : AOp C ops rest o ⟨e, obs⟩ Q := fun Ω a w hr => by
  obtain ⟨hlen, hi⟩ := mapO_get hx
  subst hnt
  have hrl : fn.results.toList = rs := by rw [hrs]
  unfold Oper.wp
  rw [run_call he ho, Oper.upon_enter, List.map_toArray]
  obtain ⟨hm, hok⟩ := hr.mem.frame a.tmps e1 (fun t x hx => hr.env t x (keep_get hk hx))
  refine (calls_of_wp hf hb (R := fun ed w' => ∃ (v : Value) (s : St) (Ω' : List Value), ed = .returned v ∧ Mem C s.obs Ω' w' ∧ ∃ r e', RepS w' (okB C s.obs Ω' w') Ω' r v ∧ s.obs[obs.length]? = some (.frame a.tmps e') ∧ AO C ops rest ⟨putO o.dst r e', s.obs.set obs.length .dead⟩ Q) ?_).mono fun ed w' ⟨v, s, Ω', hed, hm', r, e', hrep, hfr, hao⟩ => ?_
  · have hrel : Rel (C.sub fn.ntmps) ⟨enumS 0 ys, obs ++ [.frame a.tmps e1]⟩ (Ω ++ [undef]) { tmps := (xs.map a.eval).toArray ++ Array.replicate (fn.ntmps - (xs.map a.eval).toArray.size) undef, defers := [] } w := by
      refine ⟨rfl, by simp; omega, fun t x hx => ?_, hm.ctx⟩
      obtain ⟨_, hy⟩ := enumS_get ys 0 t x hx
      rw [Nat.sub_zero] at hy
      have hlt := (List.getElem?_eq_some_iff.1 hy).1
      have hxt : xs[t]? = some xs[t] := List.getElem?_eq_getElem (by omega)
      refine ⟨a.eval xs[t], ?_, ?_⟩
      · rw [Array.getElem?_append_left (by simp; omega)]
        simp [hxt]
      · exact (hr.eval (hi t _ _ hxt hy)).mono (fun b hb => ⟨hok b hb, rfl⟩) (fun o v e => get_left e)
    refine wp_mono (h a.tmps _ _ w hrel) fun ed a' w' ⟨s, Ω', hr', hq⟩ => ?_
    have fin : (∃ r e', resS C.P s rs = some r ∧ s.obs[obs.length]? = some (.frame a.tmps e') ∧ AO C ops rest ⟨putO o.dst r e', s.obs.set obs.length .dead⟩ Q) →
        a'.defers = [] ∧ ∃ v, (results fn a'.tmps).run C.P w' = .ok v w' ∧ ∃ (v_1 : Value) (s : St) (Ω' : List Value), Ending.returned v = Ending.returned v_1 ∧ Mem C s.obs Ω' w' ∧ ∃ r e', RepS w' (okB C s.obs Ω' w') Ω' r v_1 ∧ s.obs[obs.length]? = some (.frame a.tmps e') ∧ AO C ops rest ⟨putO o.dst r e', s.obs.set obs.length .dead⟩ Q := by
      intro ⟨r, e', hres, hfr, hao⟩
      rw [← hrl] at hres
      obtain ⟨v, hv, hrep⟩ := resS_rep hr' hres
      exact ⟨hr'.defers, v, hv, v, s, Ω', rfl, hr'.mem.ctx', r, e', hrep, hfr, hao⟩
    cases ed with
    | normal => exact fin hq
    | ret => exact fin hq
    | _ => exact hq.elim
  · subst hed
    obtain ⟨hmk, hokk⟩ := hm'.kill obs.length
    have hfrob : ∃ h, Ω'[obs.length]? = some h := ⟨_, List.getElem?_eq_getElem (by have := (List.getElem?_eq_some_iff.1 hfr).1; have := hm'.len; omega)⟩
    obtain ⟨hh, hΩh⟩ := hfrob
    have hF := hm'.obj _ _ _ hfr hΩh
    have hbase : Rel C ⟨e', s.obs.set obs.length .dead⟩ Ω' a w' :=
      ⟨hr.defers, hr.size, fun t x hx => let ⟨v, hv, hrp⟩ := hF.2 t x hx; ⟨v, hv, hrp.mono (fun b hb => ⟨hokk b hb, rfl⟩) (fun _ _ e => e)⟩, hmk⟩
    cases hd : o.dst with
    | none =>
      rw [hd] at hao
      exact hao Ω' _ w' hbase
    | some d =>
      rw [hd] at hao hdn
      exact hao Ω' _ w' (hbase.put hdn (hrep.mono (fun b hb => ⟨hokk b hb, rfl⟩) (fun _ _ e => e)))

/-- Slots of a waiting function are forgotten. -/
theorem Rel.subF {Ω : List Value} {a : Act} {w : World} (hr : Rel C ⟨e, obs⟩ Ω a w) {p : Nat} {vs : Array Value} {env env' : List (Nat × SV)} (hp : obs[p]? = some (.frame vs env)) (hle : ∀ t x, get env' t = some x → ∃ y, get env t = some y ∧ SVLe y x) : Rel C ⟨e, obs.set p (.frame vs env')⟩ Ω a w := by
  have hlt := (List.getElem?_eq_some_iff.1 hp).1
  have from' : ∀ {i : Nat} {ob : Ob}, (obs.set p (.frame vs env'))[i]? = some ob → (i = p ∧ ob = .frame vs env') ∨ obs[i]? = some ob := fun {i ob} e1 => by
    rcases get_set e1 with ⟨h1, h2, _⟩ | ⟨_, h2⟩
    · exact .inl ⟨h1, h2⟩
    · exact .inr h2
  have lv : ∀ {i : Nat} {ob : Ob}, (obs.set p (.frame vs env'))[i]? = some ob → ∃ ob', obs[i]? = some ob' ∧ ob'.live = ob.live := fun {i ob} e1 => by
    rcases from' e1 with ⟨rfl, rfl⟩ | h
    · exact ⟨_, hp, rfl⟩
    · exact ⟨_, h, rfl⟩
  have hok : ∀ b, okB C obs Ω w b → okB C (obs.set p (.frame vs env')) Ω w b := fun b hb => ⟨hb.1, hb.2.1, fun i ob k e1 l e2 => by
    obtain ⟨ob', h1, h2⟩ := lv e1
    exact hb.2.2 i ob' k h1 (h2.trans l) e2⟩
  refine ⟨hr.defers, hr.size, fun t x hx => ?_, ⟨by simp; exact hr.mem.len, fun i ob k e1 e2 => ?_, fun i j x y h k b hij e1 e2 l1 l2 e3 e4 hp2 => ?_, fun i ob k b e1 l e2 hb => ?_, hr.mem.fr⟩⟩
  · obtain ⟨v, hv, hrep⟩ := hr.env t x hx
    exact ⟨v, hv, hrep.mono (fun b hb => ⟨hok b hb, rfl⟩) (fun _ _ e => e)⟩
  · rcases from' e1 with ⟨rfl, rfl⟩ | h
    · have H := hr.mem.obj _ _ k hp e2
      refine ⟨H.1, fun t x hx => ?_⟩
      obtain ⟨y, hy, hyx⟩ := hle t x hx
      obtain ⟨v, hv, hrep⟩ := H.2 t y hy
      exact ⟨v, hv, (hyx _ _ _ _ hrep).mono (fun b hb => ⟨hok b hb, rfl⟩) (fun _ _ e => e)⟩
    · exact (hr.mem.obj i ob k h e2).mono (fun b hb => ⟨hok b hb, rfl⟩) (fun _ _ e => e) fun b _ _ => rfl
  · obtain ⟨x', h1, q1⟩ := lv e1
    obtain ⟨y', h2, q2⟩ := lv e2
    exact hr.mem.sep i j x' y' h k b hij h1 h2 (q1.trans l1) (q2.trans l2) e3 e4 hp2
  · obtain ⟨ob', h1, h2⟩ := lv e1
    exact hr.mem.new i ob' k b h1 (h2.trans l) e2 hb
theorem AO.subF {l : List Oper} (p : Nat) (ks : List Nat) {vs : Array Value} {env env' : List (Nat × SV)} (hp : obs[p]? = some (.frame vs env)) (hk : Vm.keep ks env = some env') (h : AO C ops l ⟨e, obs.set p (.frame vs env')⟩ Q) : AO C ops l ⟨e, obs⟩ Q :=
  fun Ω a w hr => h Ω a w (hr.subF hp fun t x hx => ⟨x, keep_get hk hx, SVLe.refl x⟩)
theorem AC.subF {c : Code} (p : Nat) (ks : List Nat) {vs : Array Value} {env env' : List (Nat × SV)} (hp : obs[p]? = some (.frame vs env)) (hk : Vm.keep ks env = some env') (h : AC C c ⟨e, obs.set p (.frame vs env')⟩ Q) : AC C c ⟨e, obs⟩ Q :=
  fun Ω a w hr => h Ω a w (hr.subF hp fun t x hx => ⟨x, keep_get hk hx, SVLe.refl x⟩)

/-- Onto nothing: a slice of the call's own. -/
theorem AOp.appendNew {t el size bytes m : Nat} {x y : Operand} {z : Value} {news : List D} (ho : o.op = .call { callee := .builtin .append, args := #[x, y], argTypes := #[t, t] }) (hd : o.dst = some d) (hn : d < C.n)
    (hx : opS ⟨e, obs⟩ x = some (.d (.v (.slice none 0 0)))) (hy : opS ⟨e, obs⟩ y = some (.d (.ds size news))) (ht : elemT C.P t = some (el, size)) (hi : (C.P.info? el).map (fun i => (i.zero, i.size, i.bytes)) = some (some z, size, bytes)) (hzs : z.cells.size = size) (hsz : 0 < size)
    (hl : news.length = m * size) (hone : ∀ x, x ∈ news → x.one = true) (h63 : m ≤ maxLen) (hb : m * bytes ≤ 140737488355328)
    (h : AO C ops rest ⟨(d, .own obs.length) :: e, obs ++ [.grow el size news]⟩ Q) : AOp C ops rest o ⟨e, obs⟩ Q := by
  refine AOp.step hd hn (fun Ω a w hr => ?_) h
  have hyv := hr.eval hy
  generalize hev : a.eval y = u at hyv
  cases hyv with
  | d _ _ hyd =>
    obtain ⟨v', w', us, h1, h2, h3, h4, h5, h6⟩ := run_append_data (n := 0) (xs := []) t o.type el size bytes ht hi hzs hsz (World.ownsRow_nil w 0 el size) hyd hl (fun i x y hx hr => hr.one (hone x (List.mem_of_getElem? hx))) (by omega) (by simpa using hb)
    have hbel : RowKit.Below w.heap.size w w' := ⟨h5.os, h5.tape, h5.output, h5.size, fun k hk => h5.block k hk (by simp [Value.ownBlock])⟩
    have bo : blk v' = v'.ownBlock := by rcases h2.2 with ⟨rfl, _⟩ | ⟨g, cap, cur, rfl, _⟩ <;> rfl
    rw [List.nil_append] at h2
    have hrel := hr.begin hbel h2 (cells := news) (fun b hb => by
      rw [bo] at hb
      rcases h6 with h6 | h6
      · rw [h6] at hb; simp [Value.ownBlock] at hb
      · rw [h6] at hb; exact Nat.le_of_eq (Option.some.inj hb)) h3 h4
    have one1 : v'.oneCell' = true := by rcases h2.2 with ⟨rfl, _⟩ | ⟨g, cap, cur, rfl, _⟩ <;> rfl
    refine ⟨v', w', _, ?_, hrel, .own _ _ ?_ one1⟩
    · simp [execOp, ho, hr.evalV hx, hev, resolve, invoke, builtin, h1]
    · have := hr.mem.len
      dsimp only at this
      rw [this, List.getElem?_append_right (Nat.le_refl _)]; simp
end
end Go.Vm
