/- A function, from its entry to its results, over the view. -/
import Derived.Test.YtbgdonedjgkhiaaVmCall
namespace Go.Vm
set_option linter.unusedVariables false

def enumD : Nat → List D → List (Nat × SV)
  | _, [] => []
  | i, x :: r => (i, .d x) :: enumD (i + 1) r
theorem enumD_get (l : List D) : ∀ (i t : Nat) (x : SV), get (enumD i l) t = some x → ∃ y, x = .d y ∧ i ≤ t ∧ l[t - i]? = some y := by
  induction l with
  | nil => intro i t x h; cases h
  | cons y l ih =>
    intro i t x h
    simp only [enumD, get] at h
    split at h
    · rename_i e; subst e; cases h; exact ⟨y, rfl, Nat.le_refl _, by simp⟩
    · rename_i hne
      obtain ⟨z, hz, hle, hl⟩ := ih (i + 1) t x h
      refine ⟨z, hz, by omega, ?_⟩
      have : t - i = (t - (i + 1)) + 1 := by omega
      rw [this]; simpa using hl

/-- What a result variable holds. -/
def resV (P : Program) (s : St) : ResultVar → Option SV
  | .tmp t => get s.env t
  | .cell t ty => match get s.env t with
    | some (.ptr p off) => match s.obs[p]? with
      | some (.fix _ cells) => match aggT P ty with
        | some false => cells[off]?
        | some true => match sizeT P ty with
          | some n => if off + n ≤ cells.length then some (.ag ((cells.drop off).take n)) else none
          | none => none
        | none => none
      | _ => none
    | _ => none
def resD (P : Program) (s : St) (rs : List ResultVar) : Option D :=
  match mapO (fun r => match resV P s r with | some x => viewS 9 s.obs x | none => none) rs with
  | some [y] => some y
  | some ys => some (.tu ys)
  | none => none

def resSem (tmps : Array Value) : ResultVar → Sem Value
  | .tmp t => pure (tmps.getD t undef)
  | .cell a t => do loadVar t (← asAddr (tmps.getD a undef))
theorem results_eq (fn : Func) (tmps : Array Value) : results fn tmps = (do let vs ← fn.results.mapM (resSem tmps); pure (if h : vs.size = 1 then vs[0] else .tuple vs)) := rfl

theorem resV_rep {C : Ctx} {s : St} {Ω : List Value} {a : Act} {w : World} (hr : Rel C s Ω a w) {r : ResultVar} {x : SV} (h : resV C.P s r = some x) :
    ∃ v, (resSem a.tmps r).run C.P w = .ok v w ∧ RepS w (okB C s.obs Ω w) Ω x v := by
  obtain ⟨e, obs⟩ := s
  cases r with
  | tmp t =>
    obtain ⟨v, hv, hrep⟩ := hr.env t x h
    exact ⟨v, by simp [resSem, hv], hrep⟩
  | cell t ty =>
    simp only [resV] at h
    split at h
    · rename_i p off hp
      obtain ⟨v, hv, hrep⟩ := hr.env t _ hp
      split at h
      · rename_i ty' cells ho
        obtain ⟨b, vs, hev, hΩ, hw, hl, hrr, h1⟩ := hr.fix ho hrep
        subst hev
        split at h
        · rename_i ha
          have hlt := (List.getElem?_eq_some_iff.1 h).1
          have hvv : vs[off]? = some vs[off] := List.getElem?_eq_getElem (by omega)
          refine ⟨vs[off], ?_, hrr off _ _ h hvv⟩
          have hcell : w.cell? ⟨b, off, none⟩ = some vs[off] := by rw [cell_of_row w b off _ ty' (0, 0) hw]; simp
          simp [resSem, hv, asAddr, run_load1 ha hcell]
        · rename_i ha
          split at h
          · rename_i n hs
            split at h
            · rename_i hle
              cases h
              refine ⟨.agg ((vs.drop off).take n).toArray, ?_, .ag _ _ (by simp; omega) fun i x y hx hy => ?_⟩
              · have := run_loadN (P := C.P) (w := w) (b := b) (off := off) (vs := (vs.drop off).take n) ha hs (by simp; omega) (fun j hj => by
                  rw [cell_of_row w b (off + j) _ ty' (0, 0) hw, List.getElem?_take, if_pos hj, List.getElem?_drop]; simp)
                simp [resSem, hv, asAddr, this]
              · rw [List.getElem?_take] at hx hy
                split at hx
                · rename_i hi
                  rw [if_pos hi] at hy
                  rw [List.getElem?_drop] at hx hy
                  exact hrr _ _ _ hx hy
                · cases hx
            · cases h
          · cases h
        · cases h
      · cases h
    · cases h

theorem results_rep {C : Ctx} {s : St} {Ω : List Value} {a : Act} {w : World} (hm : C.may = []) (hr : Rel C s Ω a w) {fn : Func} {y : D} (h : resD C.P s fn.results.toList = some y) :
    ∃ v, (results fn a.tmps).run C.P w = .ok v w ∧ RepD w (okV C w) y v := by
  have key : ∀ (l : List ResultVar) (ys : List D), mapO (fun r => match resV C.P s r with | some x => viewS 9 s.obs x | none => none) l = some ys →
      ∃ vs : List Value, (l.mapM (resSem a.tmps)).run C.P w = .ok vs w ∧ vs.length = ys.length ∧
        ∀ (i : Nat) p q, ys[i]? = some p → vs[i]? = some q → RepD w (okV C w) p q := by
    intro l
    induction l with
    | nil => intro ys h; cases h; exact ⟨[], rfl, rfl, fun i p q hp => by simp at hp⟩
    | cons r l ih =>
      intro ys h
      simp only [mapO] at h
      split at h
      · rename_i y hy
        split at h
        · rename_i t ht
          cases h
          obtain ⟨vs, hrun, hl, hrr⟩ := ih t ht
          split at hy
          · rename_i x hx
            obtain ⟨v, hv, hrep⟩ := resV_rep hr hx
            refine ⟨v :: vs, ?_, by simp [hl], fun i p q hp hq => ?_⟩
            · simp [List.mapM_cons, hv, hrun]
            · cases i with
              | zero => simp at hp hq; subst hp; subst hq; exact viewS_rep hr.mem hm 9 hy hrep
              | succ i => simp at hp hq; exact hrr i p q hp hq
          · cases hy
        · cases h
      · cases h
  unfold resD at h
  split at h
  · rename_i y' hys
    cases h
    obtain ⟨vs, hrun, hl, hrr⟩ := key _ _ hys
    match vs, hl with
    | [v], _ =>
      refine ⟨v, ?_, hrr 0 _ _ rfl rfl⟩
      rw [results_eq]
      rw [← Array.toArray_toList (xs := fn.results), List.mapM_toArray]
      simp [hrun]
  · rename_i ys hne hys
    cases h
    obtain ⟨vs, hrun, hl, hrr⟩ := key _ _ hys
    refine ⟨.tuple vs.toArray, ?_, .tu ys vs hl hrr⟩
    have h1 : ¬ vs.length = 1 := fun e => by
      rw [hl] at e
      match ys, e with
      | [y], _ => exact hne y rfl
    rw [results_eq]
    rw [← Array.toArray_toList (xs := fn.results), List.mapM_toArray]
    simp [hrun, h1]
  · cases h

def RetQ (P : Program) (rs : List ResultVar) (R : D → Prop) : Exit → St → Prop
  | .normal, s => ∃ r, resD P s rs = some r ∧ R r
  | .ret, s => ∃ r, resD P s rs = some r ∧ R r
  | _, _ => False

theorem retq {P : Program} {s : St} {rs : List ResultVar} {R : D → Prop} {r : D} (h : resD P s rs = some r) (hR : R r) : RetQ P rs R .ret s := ⟨r, h, hR⟩
theorem endq {P : Program} {s : St} {rs : List ResultVar} {R : D → Prop} {r : D} (h : resD P s rs = some r) (hR : R r) : RetQ P rs R .normal s := ⟨r, h, hR⟩

theorem FnD.of {P : Program} {f : FuncId} {fn : Func} {c : Code} {args : List D} {R : D → Prop} {n : Nat} {rs : List ResultVar} (he : enters P f = true) (hf : P.funcs[f]? = some fn) (hb : fn.body = some c) (hnt : fn.ntmps = n) (hrs : fn.results = rs.toArray) (hn : args.length ≤ n)
    (h : ∀ (W : World) (ok : Nat → Prop), AC ⟨P, W, ok, [], n, []⟩ c ⟨enumD 0 args, []⟩ (RetQ P rs R)) : FnD P f args R := by
  subst hnt
  have hrl : fn.results.toList = rs := by rw [hrs]
  subst hrl
  refine ⟨he, fun W ok vs hG hok hl hrep => calls_of_wp hf hb ?_⟩
  have hrel : Rel ⟨P, W, ok, [], fn.ntmps, []⟩ ⟨enumD 0 args, []⟩ [] { tmps := vs.toArray ++ Array.replicate (fn.ntmps - vs.toArray.size) undef, defers := [] } W := by
    refine ⟨rfl, by simp; omega, fun t x hx => ?_, ⟨rfl, fun o ob h e1 => by simp at e1, fun i j a b p q x _ e1 => by simp at e1, fun o ob p b e1 => by simp at e1, ⟨rfl, rfl, rfl, Nat.le_refl _, fun _ _ _ => rfl, hG⟩⟩⟩
    obtain ⟨y, rfl, _, hy⟩ := enumD_get args 0 t x hx
    rw [Nat.sub_zero] at hy
    have hlt := (List.getElem?_eq_some_iff.1 hy).1
    have hv : vs[t]? = some vs[t] := List.getElem?_eq_getElem (by omega)
    refine ⟨vs[t], ?_, .d _ _ ((hrep t _ _ hy hv).mono fun b hb => ⟨⟨.inl hb, hok b hb, fun o ob h e1 => by simp at e1⟩, rfl⟩)⟩
    rw [Array.getElem?_append_left (by simp; omega)]
    simp
  refine wp_mono (h W ok _ _ W hrel) fun ed a w ⟨s, Ω, hr, hq⟩ => ?_
  have fin : (∃ r, resD P s fn.results.toList = some r ∧ R r) → a.defers = [] ∧ ∃ v, (results fn a.tmps).run P w = .ok v w ∧
      ∃ v_1 r, Ending.returned v = Ending.returned v_1 ∧ R r ∧ RowKit.Below W.heap.size W w ∧ RepD w (fun b => (ok b ∨ W.heap.size ≤ b) ∧ b < w.heap.size) r v_1 := by
    intro ⟨r, hres, hR⟩
    obtain ⟨v, hv, hrep⟩ := results_rep rfl hr hres
    exact ⟨hr.defers, v, hv, v, r, rfl, hR, ⟨hr.mem.fr.os, hr.mem.fr.tape, hr.mem.fr.output, hr.mem.fr.size, fun b hb => hr.mem.fr.block b hb (by simp)⟩, hrep⟩
  cases ed with
  | normal => exact fin hq
  | ret => exact fin hq
  | _ => exact hq.elim
end Go.Vm
