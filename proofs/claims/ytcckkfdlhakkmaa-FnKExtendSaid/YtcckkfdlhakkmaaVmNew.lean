/- Functions that give a slice which is new: it becomes one of the caller's own. -/
import Derived.Test.YtcckkfdlhakkmaaVmIfc
namespace Go.Vm
set_option linter.unusedVariables false
def D.isV : D → Bool
  | .v _ => true
  | _ => false
theorem isV_map {α : Type} {f : α → D} (hf : ∀ x, (f x).isV = true) (l : List α) : (l.map f).all D.isV = true := by
  rw [List.all_map, List.all_eq_true]
  exact fun x _ => hf x
/-- Function f, called with data args, gives a slice of its own making that holds some cells with R cells; nothing that was there has turned. -/
def FnN (P : Program) (f : FuncId) (args : List D) (el sz : Nat) (R : List D → Prop) : Prop :=
  enters P f = true ∧ ∀ (W : World) (ok : Nat → Prop) (vs : List Value), HoldsG W → (∀ b, ok b → b < W.heap.size) → vs.length = args.length →
    (∀ (i : Nat) x v, args[i]? = some x → vs[i]? = some v → RepD W ok x v) →
    Calls P f vs.toArray W fun e w' => ∃ v cells n xs, e = .returned v ∧ R cells ∧ RowKit.Below W.heap.size W w' ∧ w'.ownsRow 0 el sz v n xs ∧ (∀ b, blk v = some b → W.heap.size ≤ b) ∧ xs.length = cells.length ∧
      ∀ (i : Nat) x y, cells[i]? = some x → xs[i]? = some y → x = .v y
def RetN (rs : List ResultVar) (el sz : Nat) (R : List D → Prop) : Exit → St → Prop
  | .normal, s => ∃ t p cells, rs = [.tmp t] ∧ get s.env t = some (.own p) ∧ s.obs[p]? = some (.grow el sz cells) ∧ cells.all D.isV = true ∧ R cells
  | .ret, s => ∃ t p cells, rs = [.tmp t] ∧ get s.env t = some (.own p) ∧ s.obs[p]? = some (.grow el sz cells) ∧ cells.all D.isV = true ∧ R cells
  | _, _ => False
theorem FnN.of {P : Program} {f : FuncId} {fn : Func} {c : Code} {args : List D} {el sz : Nat} {R : List D → Prop} {n : Nat} {rs : List ResultVar} (he : enters P f = true) (hf : P.funcs[f]? = some fn) (hb : fn.body = some c) (hnt : fn.ntmps = n) (hrs : fn.results = rs.toArray) (hn : args.length ≤ n)
    (h : ∀ (W : World) (ok : Nat → Prop), AC ⟨P, W, ok, [], n, []⟩ c ⟨enumD 0 args, []⟩ (RetN rs el sz R)) : FnN P f args el sz R := by
  subst hnt
  refine ⟨he, fun W ok vs hG hok hl hrep => calls_of_wp hf hb ?_⟩
  have hrel : Rel ⟨P, W, ok, [], fn.ntmps, []⟩ ⟨enumD 0 args, []⟩ [] { tmps := vs.toArray ++ Array.replicate (fn.ntmps - vs.toArray.size) undef, defers := [] } W := by
    refine ⟨rfl, by simp; omega, fun t x hx => ?_, ⟨rfl, fun o ob h e1 => by simp at e1, fun i j a b p q x _ e1 => by simp at e1, fun o ob p b e1 => by simp at e1, ⟨rfl, rfl, rfl, Nat.le_refl _, fun _ _ _ => rfl, hG⟩⟩⟩
    obtain ⟨y, rfl, _, hy⟩ := enumD_get args 0 t x hx
    rw [Nat.sub_zero] at hy
    have hlt := (List.getElem?_eq_some_iff.1 hy).1
    have hv : vs[t]? = some vs[t] := List.getElem?_eq_getElem (by omega)
    refine ⟨vs[t], ?_, .d _ _ ((hrep t _ _ hy hv).mono fun b hb => ⟨⟨.inl hb, hok b hb, fun o ob h e1 => by simp at e1⟩, rfl⟩)⟩
    rw [Array.getElem?_append_left (by simp; omega)]
    simp
  refine wp_mono (h W ok _ _ W hrel) fun ed a w ⟨s, Ω, hr, hq⟩ => ?_
  have fin : (∃ t p cells, rs = [.tmp t] ∧ get s.env t = some (.own p) ∧ s.obs[p]? = some (.grow el sz cells) ∧ cells.all D.isV = true ∧ R cells) → a.defers = [] ∧ ∃ v, (results fn a.tmps).run P w = .ok v w ∧
      ∃ v_1 cells n xs, Ending.returned v = Ending.returned v_1 ∧ R cells ∧ RowKit.Below W.heap.size W w ∧ w.ownsRow 0 el sz v_1 n xs ∧ (∀ b, blk v_1 = some b → W.heap.size ≤ b) ∧ xs.length = cells.length ∧
      ∀ (i : Nat) x y, cells[i]? = some x → xs[i]? = some y → x = .v y := by
    intro ⟨t, p, cells, hrt, hg, hp, hV, hR⟩
    obtain ⟨v, hv, hrep⟩ := hr.env t _ hg
    cases hrep with
    | own _ _ hΩ _ =>
      obtain ⟨m, xs, how, hxl, hrr⟩ := hr.mem.obj p _ _ hp hΩ
      refine ⟨hr.defers, v, ?_, v, cells, m, xs, rfl, hR, ⟨hr.mem.fr.os, hr.mem.fr.tape, hr.mem.fr.output, hr.mem.fr.size, fun b hb => hr.mem.fr.block b hb (by simp)⟩, how, fun b hbk => ?_, hxl, fun i x y hx hy => ?_⟩
      · rw [results_eq, hrs, hrt, List.mapM_toArray]
        have : a.tmps.getD t undef = v := by simp [Array.getD_eq_getD_getElem?, hv]
        simp [resSem, this]
      · rcases hr.mem.new p _ _ b hp rfl hΩ hbk with h1 | h1
        · exact h1
        · simp at h1
      · have := List.all_eq_true.1 hV x (List.mem_of_getElem? hx)
        have hd := hrr i x y hx hy
        cases x with
        | v u => cases hd; rfl
        | _ => cases this
  cases ed with
  | normal => exact fin hq
  | ret => exact fin hq
  | _ => exact hq.elim
section
variable {C : Ctx} {Q : Exit → St → Prop} {ops : Array Oper} {rest : List Oper} {o : Oper} {e : List (Nat × SV)} {obs : List Ob} {d : Nat}
/-- A call that gives a new slice. -/
theorem AOp.callNew {f : FuncId} {xs : List Operand} {ts : Array TypeId} {ys : List D} {el sz : Nat} {cells : List D} (ho : o.op = .call { callee := .value (.func f), args := xs.toArray, argTypes := ts }) (hd : o.dst = some d) (hn : d < C.n) (hm : C.may = [])
    (hx : mapO (argD ⟨e, obs⟩) xs = some ys) (hF : FnN C.P f ys el sz (fun r => r = cells)) (h : AO C ops rest ⟨(d, .own obs.length) :: e, obs ++ [.grow el sz cells]⟩ Q) : AOp C ops rest o ⟨e, obs⟩ Q := fun Ω a w hr => by
  obtain ⟨hl, hi⟩ := mapO_get hx
  unfold Oper.wp
  rw [run_call hF.1 ho, Oper.upon_enter, List.map_toArray]
  refine (hF.2 w (okB C obs Ω w) (xs.map a.eval) (hr.mem.fr.holds hm) (fun b hb => hb.2.1) (by simp [hl]) fun i y v hy hv => ?_).mono fun ed w' ⟨v, cs, n, us, he, hR, hb, how, hblk, hul, hrr⟩ => ?_
  · simp only [List.getElem?_map, Option.map_eq_some_iff] at hv
    obtain ⟨x, hxi, rfl⟩ := hv
    have := hi i x y hxi hy
    unfold argD at this
    split at this
    · rename_i z hz
      exact dataS_rep 9 this (hr.eval hz)
    · cases this
  · subst he hR
    rw [hd]
    have hrel := hr.begin hb how hblk hul (fun i x y hx hy => by rw [hrr i x y hx hy]; exact .v y)
    have one1 : v.oneCell' = true := by rcases how.2 with ⟨rfl, _⟩ | ⟨g, cap, cur, rfl, _⟩ <;> rfl
    refine h _ _ w' (hrel.put hn (.own _ _ ?_ one1))
    have := hr.mem.len
    dsimp only at this
    rw [this, List.getElem?_append_right (Nat.le_refl _)]; simp
end
end Go.Vm
