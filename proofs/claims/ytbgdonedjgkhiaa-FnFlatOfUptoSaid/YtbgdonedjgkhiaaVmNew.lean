/- Functions that give a slice which is new: it becomes one of the caller's own. -/
import Derived.Test.YtbgdonedjgkhiaaVmIfc
namespace Go.Vm
set_option linter.unusedVariables false
def D.isV : D → Bool
  | .v _ => true
  | _ => false
theorem isV_map {α : Type} {f : α → D} (hf : ∀ x, (f x).isV = true) (l : List α) : (l.map f).all D.isV = true := by
  rw [List.all_map, List.all_eq_true]
  exact fun x _ => hf x
/-- Function f, called with data args, gives a slice of its own making that holds some cells with R cells; nothing that was there has turned. -/
def FnN (P : Program) (f : FuncId) (args : List D) (el sz : Nat) (R : List D → Prop) : Prop :=
  enters P f = true ∧ ∀ (W : World) (ok : Nat → Prop) (vs : List Value), HoldsG W → (∀ b, ok b → b < W.heap.size) → vs.length = args.length →
    (∀ (i : Nat) x v, args[i]? = some x → vs[i]? = some v → RepD W ok x v) →
    Calls P f vs.toArray W fun e w' => ∃ v cells n xs, e = .returned v ∧ R cells ∧ RowKit.Below W.heap.size W w' ∧ w'.ownsRow 0 el sz v n xs ∧ (∀ b, blk v = some b → W.heap.size ≤ b) ∧ xs.length = cells.length ∧
      ∀ (i : Nat) x y, cells[i]? = some x → xs[i]? = some y → x = .v y
def RetN (rs : List ResultVar) (el sz : Nat) (R : List D → Prop) : Exit → St → Prop
  | .normal, s => ∃ t p cells, rs = [.tmp t] ∧ get s.env t = some (.own p) ∧ s.obs[p]? = some (.grow el sz cells) ∧ cells.all D.isV = true ∧ R cells
  | .ret, s => ∃ t p cells, rs = [.tmp t] ∧ get s.env t = some (.own p) ∧ s.obs[p]? = some (.grow el sz cells) ∧ cells.all D.isV = true ∧ R cells
  | _, _ => False
theorem FnN.of {P : Program} {f : FuncId} {fn : Func} {c : Code} {args : List D} {el sz : Nat} {R : List D → Prop} {n : Nat} {rs : List ResultVar} (he : enters P f = true) (hf : P.funcs[f]? = some fn) (hb : fn.body = some c) (hnt : fn.ntmps = n) (hrs : fn.results = rs.toArray) (hn : args.length ≤ n)
    (h : ∀ (W : World) (ok : Nat → Prop), AC ⟨P, W, ok, [], n, []⟩ c ⟨enumD 0 args, []⟩ (RetN rs el sz R)) : FnN P f args el sz R := by
  subst hnt
  refine ⟨he, fun W ok vs hG hok hl hrep => calls_of_wp hf hb ?_⟩
  have hrel : Rel ⟨P, W, ok, [], fn.ntmps, []⟩ ⟨enumD 0 args, []⟩ [] { tmps := vs.toArray ++ Array.replicate (fn.ntmps - vs.toArray.size) undef, defers := [] } W := by
    refine ⟨rfl, by simp; omega, fun t x hx => ?_, ⟨rfl, fun o ob h e1 => by simp at e1, fun i j a b p q x _ e1 => by simp at e1, fun o ob p b e1 => by simp at e1, ⟨rfl, rfl, rfl, Nat.le_refl _, fun _ _ _ => rfl, hG⟩⟩⟩
    obtain ⟨y, rfl, _, hy⟩ := enumD_get args 0 t x hx
    rw [Nat.sub_zero] at hy
    have hlt := (List.getElem?_eq_some_iff.1 hy).1
    have hv : vs[t]? = some vs[t] := List.getElem?_eq_getElem (by omega)
    refine ⟨vs[t], ?_, .d _ _ ((hrep t _ _ hy hv).mono fun b hb => ⟨⟨.inl hb, hok b hb, fun o ob h e1 => by simp at e1⟩, rfl⟩)⟩
    rw [Array.getElem?_append_left (by simp; omega)]
    simp
  refine wp_mono (h W ok _ _ W hrel) fun ed a w ⟨s, Ω, hr, hq⟩ => ?_
  have fin : (∃ t p cells, rs = [.tmp t] ∧ get s.env t = some (.own p) ∧ s.obs[p]? = some (.grow el sz cells) ∧ cells.all D.isV = true ∧ R cells) → a.defers = [] ∧ ∃ v, (results fn a.tmps).run P w = .ok v w ∧
      ∃ v_1 cells n xs, Ending.returned v = Ending.returned v_1 ∧ R cells ∧ RowKit.Below W.heap.size W w ∧ w.ownsRow 0 el sz v_1 n xs ∧ (∀ b, blk v_1 = some b → W.heap.size ≤ b) ∧ xs.length = cells.length ∧
      ∀ (i : Nat) x y, cells[i]? = some x → xs[i]? = some y → x = .v y := by
    intro ⟨t, p, cells, hrt, hg, hp, hV, hR⟩
    obtain ⟨v, hv, hrep⟩ := hr.env t _ hg
    cases hrep with
    | own _ _ hΩ _ =>
      obtain ⟨m, xs, how, hxl, hrr⟩ := hr.mem.obj p _ _ hp hΩ
      refine ⟨hr.defers, v, ?_, v, cells, m, xs, rfl, hR, ⟨hr.mem.fr.os, hr.mem.fr.tape, hr.mem.fr.output, hr.mem.fr.size, fun b hb => hr.mem.fr.block b hb (by simp)⟩, how, fun b hbk => ?_, hxl, fun i x y hx hy => ?_⟩
      · rw [results_eq, hrs, hrt, List.mapM_toArray]
        have : a.tmps.getD t undef = v := by simp [Array.getD_eq_getD_getElem?, hv]
        simp [resSem, this]
      · rcases hr.mem.new p _ _ b hp rfl hΩ hbk with h1 | h1
        · exact h1
        · simp at h1
      · have := List.all_eq_true.1 hV x (List.mem_of_getElem? hx)
        have hd := hrr i x y hx hy
        cases x with
        | v u => cases hd; rfl
        | _ => cases this
  cases ed with
  | normal => exact fin hq
  | ret => exact fin hq
  | _ => exact hq.elim
section
variable {C : Ctx} {Q : Exit → St → Prop} {ops : Array Oper} {rest : List Oper} {o : Oper} {e : List (Nat × SV)} {obs : List Ob} {d : Nat}
/-- A call that gives a new slice. -/
theorem AOp.callNew {f : FuncId} {xs : List Operand} {ts : Array TypeId} {ys : List D} {el sz : Nat} {cells : List D} (ho : o.op = .call { callee := .value (.func f), args := xs.toArray, argTypes := ts }) (hd : o.dst = some d) (hn : d < C.n) (hm : C.may = [])
    (hx : mapO (argD ⟨e, obs⟩) xs = some ys) (hF : FnN C.P f ys el sz (fun r => r = cells)) (h : AO C ops rest ⟨(d, .own obs.length) :: e, obs ++ [.grow el sz cells]⟩ Q) : AOp C ops rest o ⟨e, obs⟩ Q := fun Ω a w hr => by
  obtain ⟨hl, hi⟩ := mapO_get hx
  unfold Oper.wp
  rw [run_call hF.1 ho, Oper.upon_enter, List.map_toArray]
  refine (hF.2 w (okB C obs Ω w) (xs.map a.eval) (hr.mem.fr.holds hm) (fun b hb => hb.2.1) (by simp [hl]) fun i y v hy hv => ?_).mono fun ed w' ⟨v, cs, n, us, he, hR, hb, how, hblk, hul, hrr⟩ => ?_
  · simp only [List.getElem?_map, Option.map_eq_some_iff] at hv
    obtain ⟨x, hxi, rfl⟩ := hv
    have := hi i x y hxi hy
    unfold argD at this
    split at this
    · rename_i z hz
      exact dataS_rep 9 this (hr.eval hz)
    · cases this
  · subst he hR
    rw [hd]
    have hrel := hr.begin hb how hblk hul (fun i x y hx hy => by rw [hrr i x y hx hy]; exact .v y)
    have one1 : v.oneCell' = true := by rcases how.2 with ⟨rfl, _⟩ | ⟨g, cap, cur, rfl, _⟩ <;> rfl
    refine h _ _ w' (hrel.put hn (.own _ _ ?_ one1))
    have := hr.mem.len
    dsimp only at this
    rw [this, List.getElem?_append_right (Nat.le_refl _)]; simp
end
end Go.Vm
namespace Go.Vm
set_option linter.unusedVariables false
/-- Function f, called with data args, gives a pointer to a block of its own making that holds some cells with R cells; nothing that was there has turned. -/
def FnA (P : Program) (f : FuncId) (args : List D) (ty : Nat) (R : List D → Prop) : Prop :=
  enters P f = true ∧ ∀ (W : World) (ok : Nat → Prop) (vs : List Value), HoldsG W → (∀ b, ok b → b < W.heap.size) → vs.length = args.length →
    (∀ (i : Nat) x v, args[i]? = some x → vs[i]? = some v → RepD W ok x v) →
    Calls P f vs.toArray W fun e w' => ∃ (b : Nat) (cells : List D) (us : List Value), e = .returned (.pointer (some ⟨b, 0, none⟩)) ∧ R cells ∧ RowKit.Below W.heap.size W w' ∧ W.heap.size ≤ b ∧ w'.heap[b]? = some (.cells us.toArray ty (0, 0)) ∧ us.length = cells.length ∧ (∀ y, y ∈ us → y.oneCell' = true) ∧
      ∀ (i : Nat) x y, cells[i]? = some x → us[i]? = some y → RepD w' (fun k => (ok k ∨ W.heap.size ≤ k) ∧ k < w'.heap.size ∧ k ≠ b) x y
def RetA (rs : List ResultVar) (ty : Nat) (R : List D → Prop) : Exit → St → Prop
  | .normal, s => ∃ t p cells ds, rs = [.tmp t] ∧ get s.env t = some (.ptr p 0) ∧ s.obs[p]? = some (.fix ty cells) ∧ mapO (dataS 9) cells = some ds ∧ R ds
  | .ret, s => ∃ t p cells ds, rs = [.tmp t] ∧ get s.env t = some (.ptr p 0) ∧ s.obs[p]? = some (.fix ty cells) ∧ mapO (dataS 9) cells = some ds ∧ R ds
  | _, _ => False
theorem FnA.of {P : Program} {f : FuncId} {fn : Func} {c : Code} {args : List D} {ty : Nat} {R : List D → Prop} {n : Nat} {rs : List ResultVar} (he : enters P f = true) (hf : P.funcs[f]? = some fn) (hb : fn.body = some c) (hnt : fn.ntmps = n) (hrs : fn.results = rs.toArray) (hn : args.length ≤ n)
    (h : ∀ (W : World) (ok : Nat → Prop), AC ⟨P, W, ok, [], n, []⟩ c ⟨enumD 0 args, []⟩ (RetA rs ty R)) : FnA P f args ty R := by
  subst hnt
  refine ⟨he, fun W ok vs hG hok hl hrep => calls_of_wp hf hb ?_⟩
  have hrel : Rel ⟨P, W, ok, [], fn.ntmps, []⟩ ⟨enumD 0 args, []⟩ [] { tmps := vs.toArray ++ Array.replicate (fn.ntmps - vs.toArray.size) undef, defers := [] } W := by
    refine ⟨rfl, by simp; omega, fun t x hx => ?_, ⟨rfl, fun o ob h e1 => by simp at e1, fun i j a b p q x _ e1 => by simp at e1, fun o ob p b e1 => by simp at e1, ⟨rfl, rfl, rfl, Nat.le_refl _, fun _ _ _ => rfl, hG⟩⟩⟩
    obtain ⟨y, rfl, _, hy⟩ := enumD_get args 0 t x hx
    rw [Nat.sub_zero] at hy
    have hlt := (List.getElem?_eq_some_iff.1 hy).1
    have hv : vs[t]? = some vs[t] := List.getElem?_eq_getElem (by omega)
    refine ⟨vs[t], ?_, .d _ _ ((hrep t _ _ hy hv).mono fun b hb => ⟨⟨.inl hb, hok b hb, fun o ob h e1 => by simp at e1⟩, rfl⟩)⟩
    rw [Array.getElem?_append_left (by simp; omega)]
    simp
  refine wp_mono (h W ok _ _ W hrel) fun ed a w ⟨s, Ω, hr, hq⟩ => ?_
  have fin : (∃ t p cells ds, rs = [.tmp t] ∧ get s.env t = some (.ptr p 0) ∧ s.obs[p]? = some (.fix ty cells) ∧ mapO (dataS 9) cells = some ds ∧ R ds) → a.defers = [] ∧ ∃ v, (results fn a.tmps).run P w = .ok v w ∧
      ∃ (b : Nat) (cells : List D) (us : List Value), Ending.returned v = Ending.returned (.pointer (some ⟨b, 0, none⟩)) ∧ R cells ∧ RowKit.Below W.heap.size W w ∧ W.heap.size ≤ b ∧ w.heap[b]? = some (.cells us.toArray ty (0, 0)) ∧ us.length = cells.length ∧ (∀ y, y ∈ us → y.oneCell' = true) ∧
      ∀ (i : Nat) x y, cells[i]? = some x → us[i]? = some y → RepD w (fun k => (ok k ∨ W.heap.size ≤ k) ∧ k < w.heap.size ∧ k ≠ b) x y := by
    intro ⟨t, p, cells, ds, hrt, hg, hp, hV, hR⟩
    obtain ⟨v, hv, hrep⟩ := hr.env t _ hg
    obtain ⟨b, vs', hΩ, hw, hvl, hrr, h1, hvb⟩ : ∃ (b : Nat) (vs' : List Value), Ω[p]? = some (.pointer (some ⟨b, 0, none⟩)) ∧ w.heap[b]? = some (.cells vs'.toArray ty (0, 0)) ∧ vs'.length = cells.length ∧
        (∀ (i : Nat) x y, cells[i]? = some x → vs'[i]? = some y → RepS w (okB _ s.obs Ω w) Ω x y) ∧ (∀ y, y ∈ vs' → y.oneCell' = true) ∧ v = .pointer (some ⟨b, 0, none⟩) := by
      obtain ⟨b, vs', hev, hΩ, hw, hl', hrr', h1'⟩ := hr.fix hp hrep
      exact ⟨b, vs', hΩ, hw, hl', hrr', h1', by rw [hev]⟩
    subst hvb
    obtain ⟨hdl, hdi⟩ := mapO_get hV
    refine ⟨hr.defers, _, ?_, b, ds, vs', rfl, hR, ⟨hr.mem.fr.os, hr.mem.fr.tape, hr.mem.fr.output, hr.mem.fr.size, fun b hb => hr.mem.fr.block b hb (by simp)⟩, ?_, hw, by omega, h1, fun i x y hx hy => ?_⟩
    · rw [results_eq, hrs, hrt, List.mapM_toArray]
      have : a.tmps.getD t undef = .pointer (some ⟨b, 0, none⟩) := by simp [Array.getD_eq_getD_getElem?, hv]
      simp [resSem, this]
    · rcases hr.mem.new p _ _ b hp rfl hΩ rfl with h1 | h1
      · exact h1
      · simp at h1
    · have hil : i < cells.length := by have := (List.getElem?_eq_some_iff.1 hx).1; omega
      have hci : cells[i]? = some cells[i] := List.getElem?_eq_getElem hil
      have hd := hdi i _ _ hci hx
      exact (dataS_rep 9 hd (hrr i _ y hci hy)).mono fun k hk => ⟨⟨hk.1, hk.2.1, fun e => hk.2.2 p _ _ hp rfl hΩ (by rw [e]; rfl)⟩, rfl⟩
  cases ed with
  | normal => exact fin hq
  | ret => exact fin hq
  | _ => exact hq.elim
section
variable {C : Ctx} {Q : Exit → St → Prop} {ops : Array Oper} {rest : List Oper} {o : Oper} {e : List (Nat × SV)} {obs : List Ob} {d : Nat}
theorem Rel.beginFix {Ω : List Value} {a : Act} {w w' : World} (hr : Rel C ⟨e, obs⟩ Ω a w) (hbel : RowKit.Below w.heap.size w w') {ty b : Nat} {us : List Value} {cells : List D} (hb : w.heap.size ≤ b) (hw : w'.heap[b]? = some (.cells us.toArray ty (0, 0))) (hl : us.length = cells.length) (h1 : ∀ y, y ∈ us → y.oneCell' = true)
    (hc : ∀ (i : Nat) x y, cells[i]? = some x → us[i]? = some y → RepD w' (fun k => (okB C obs Ω w k ∨ w.heap.size ≤ k) ∧ k < w'.heap.size ∧ k ≠ b) x y) :
    Rel C ⟨e, obs ++ [.fix ty (cells.map .d)]⟩ (Ω ++ [.pointer (some ⟨b, 0, none⟩)]) a w' := by
  have hlen : obs.length = Ω.length := hr.mem.len
  have new1 : ∀ {i : Nat} {ob : Ob} {k : Value}, (obs ++ [.fix ty (cells.map .d)])[i]? = some ob → (Ω ++ [.pointer (some ⟨b, 0, none⟩)])[i]? = some k → (obs[i]? = some ob ∧ Ω[i]? = some k) ∨ (i = obs.length ∧ ob = .fix ty (cells.map .d) ∧ k = .pointer (some ⟨b, 0, none⟩)) := fun {i ob k} e1 e2 => by
    rw [List.getElem?_append] at e1 e2
    rw [← hlen] at e2
    split at e1
    · rename_i hi; rw [if_pos hi] at e2; exact .inl ⟨e1, e2⟩
    · rename_i hi
      rw [if_neg hi] at e2
      cases hq : i - obs.length with
      | zero =>
        rw [hq] at e1 e2
        exact .inr ⟨by omega, (Option.some.inj e1).symm, (Option.some.inj e2).symm⟩
      | succ m => rw [hq] at e1; simp at e1
  have lt : ∀ {i : Nat} {ob : Ob} {k : Value} {b : Nat}, obs[i]? = some ob → ob.live = true → Ω[i]? = some k → blk k = some b → b < w.heap.size := fun e1 l e2 hbk => (hr.mem.obj _ _ _ e1 e2).lt l hbk
  have hok : ∀ k, okB C obs Ω w k → okB C (obs ++ [.fix ty (cells.map .d)]) (Ω ++ [.pointer (some ⟨b, 0, none⟩)]) w' k ∧ w'.heap[k]? = w.heap[k]? := fun b' hk => ⟨⟨hk.1, Nat.lt_of_lt_of_le hk.2.1 hbel.size, fun i ob k e1 l e2 => by
    rcases new1 e1 e2 with ⟨f1, f2⟩ | ⟨_, rfl, rfl⟩
    · exact hk.2.2 i ob k f1 l f2
    · intro he
      have he : b = b' := Option.some.inj he
      have := hk.2.1
      omega⟩, hbel.block b' hk.2.1⟩
  have hokN : ∀ k, ((okB C obs Ω w k ∨ w.heap.size ≤ k) ∧ k < w'.heap.size ∧ k ≠ b) → okB C (obs ++ [.fix ty (cells.map .d)]) (Ω ++ [.pointer (some ⟨b, 0, none⟩)]) w' k ∧ w'.heap[k]? = w'.heap[k]? := fun k hk => by
    rcases hk.1 with h | h
    · exact ⟨(hok k h).1, rfl⟩
    · refine ⟨⟨.inr (Nat.le_trans hr.mem.fr.size h), hk.2.1, fun i ob v e1 l e2 he => ?_⟩, rfl⟩
      rcases new1 e1 e2 with ⟨f1, f2⟩ | ⟨_, rfl, rfl⟩
      · have := lt f1 l f2 he; omega
      · cases he; exact hk.2.2 rfl
  have hΩ : ∀ (o : Nat) u, Ω[o]? = some u → (Ω ++ [.pointer (some ⟨b, 0, none⟩)])[o]? = some u := fun o u h => by
    rw [List.getElem?_append_left (List.getElem?_eq_some_iff.1 h).1]; exact h
  refine ⟨hr.defers, hr.size, fun q x hq => ?_, ⟨by simp [hlen], fun i ob k e1 e2 => ?_, fun i j x y p q b' hij e1 e2 l1 l2 e3 e4 hp => ?_, fun i ob k b' e1 l1 e2 hp => ?_, ?_⟩⟩
  · obtain ⟨u, hu, hrep⟩ := hr.env q x hq
    exact ⟨u, hu, hrep.mono hok hΩ⟩
  · rcases new1 e1 e2 with ⟨f1, f2⟩ | ⟨_, rfl, rfl⟩
    · exact (hr.mem.obj i ob k f1 f2).mono hok hΩ (fun b hbk l => hbel.block b (lt f1 l f2 hbk))
    · refine ⟨b, us, rfl, hw, by simp [hl], fun i x y hx hy => ?_, h1⟩
      simp only [List.getElem?_map, Option.map_eq_some_iff] at hx
      obtain ⟨x', hx', rfl⟩ := hx
      exact .d _ _ ((hc i x' y hx' hy).mono hokN)
  · rcases new1 e1 e3 with ⟨f1, f2⟩ | ⟨h1, rfl, rfl⟩
    · rcases new1 e2 e4 with ⟨g1, g2⟩ | ⟨_, rfl, rfl⟩
      · exact hr.mem.sep i j x y p q b' hij f1 g1 l1 l2 f2 g2 hp
      · intro he
        have he : b = b' := Option.some.inj he
        have h2 := lt f1 l1 f2 hp
        omega
    · rcases new1 e2 e4 with ⟨g1, g2⟩ | ⟨h2, _, _⟩
      · intro he
        have hp : b = b' := Option.some.inj hp
        have h2 := lt g1 l2 g2 he
        omega
      · omega
  · rcases new1 e1 e2 with ⟨f1, f2⟩ | ⟨_, rfl, rfl⟩
    · exact hr.mem.new i ob k b' f1 l1 f2 hp
    · cases hp; left; exact Nat.le_trans hr.mem.fr.size hb
  · exact ⟨hbel.os.trans hr.mem.fr.os, hbel.tape.trans hr.mem.fr.tape, hbel.output.trans hr.mem.fr.output, Nat.le_trans hr.mem.fr.size hbel.size, fun b e1 e2 => (hbel.block b (Nat.lt_of_lt_of_le e1 hr.mem.fr.size)).trans (hr.mem.fr.block b e1 e2), hr.mem.fr.glob⟩
/-- A call that gives a pointer to a new block. -/
theorem AOp.callA {f : FuncId} {xs : List Operand} {ts : Array TypeId} {ys : List D} {ty : Nat} {cells : List D} (ho : o.op = .call { callee := .value (.func f), args := xs.toArray, argTypes := ts }) (hd : o.dst = some d) (hn : d < C.n) (hm : C.may = [])
    (hx : mapO (argD ⟨e, obs⟩) xs = some ys) (hF : FnA C.P f ys ty (fun r => r = cells)) (h : AO C ops rest ⟨(d, .ptr obs.length 0) :: e, obs ++ [.fix ty (cells.map .d)]⟩ Q) : AOp C ops rest o ⟨e, obs⟩ Q := fun Ω a w hr => by
  obtain ⟨hl, hi⟩ := mapO_get hx
  unfold Oper.wp
  rw [run_call hF.1 ho, Oper.upon_enter, List.map_toArray]
  refine (hF.2 w (okB C obs Ω w) (xs.map a.eval) (hr.mem.fr.holds hm) (fun b hb => hb.2.1) (by simp [hl]) fun i y v hy hv => ?_).mono fun ed w' ⟨b, cs, us, he, hR, hb, hge, hwb, hul, h1, hrr⟩ => ?_
  · simp only [List.getElem?_map, Option.map_eq_some_iff] at hv
    obtain ⟨x, hxi, rfl⟩ := hv
    have := hi i x y hxi hy
    unfold argD at this
    split at this
    · rename_i z hz
      exact dataS_rep 9 this (hr.eval hz)
    · cases this
  · subst he hR
    rw [hd]
    have hrel := hr.beginFix hb hge hwb hul h1 hrr
    refine h _ _ w' (hrel.put hn (.ptr _ 0 b ?_))
    have := hr.mem.len
    dsimp only at this
    rw [this, List.getElem?_append_right (Nat.le_refl _)]; simp
theorem AC.dec {c : Code} {s : St} (b : Bool) (hy : b = true → AC C c s Q) (hn : b = false → AC C c s Q) : AC C c s Q := by
  cases b with
  | true => exact hy rfl
  | false => exact hn rfl
/-- A pointer to a block of the call's own becomes data; the block is forgotten. -/
theorem Rel.freezePt {Ω : List Value} {a : Act} {w : World} (hr : Rel C ⟨e, obs⟩ Ω a w) (hm : C.may = []) {t p off ty : Nat} {cells : List SV} {ds : List D} (hx : get e t = some (.ptr p off)) (hp : obs[p]? = some (.fix ty cells))
    (hc : cells = ds.map .d) (hoff : off ≤ ds.length) :
    Rel C ⟨(t, .d (.pt (ds.drop off))) :: e, obs.set p .dead⟩ Ω a w := by
  subst hc
  obtain ⟨hmem, hok⟩ := hr.mem.kill p
  have mono : ∀ {z : SV} {u : Value}, RepS w (okB C obs Ω w) Ω z u → RepS w (okB C (obs.set p .dead) Ω w) Ω z u := fun h => h.mono (fun b hb => ⟨hok b hb, rfl⟩) (fun _ _ e => e)
  refine ⟨hr.defers, hr.size, fun q z hq => ?_, hmem⟩
  simp only [get] at hq
  split at hq
  · rename_i h; subst h; cases hq
    obtain ⟨v, hv, hrep⟩ := hr.env t _ hx
    obtain ⟨b, vs, hev, hΩ, hw, hvl, hvr, _⟩ := hr.fix hp hrep
    refine ⟨v, hv, .d _ _ ?_⟩
    rw [hev]
    rw [List.length_map] at hvl
    refine .pt _ _ _ (fun i => vs.getD (off + i) undef) ⟨?_, (Array.getElem?_eq_some_iff.1 hw).1, fun i ob k e1 l e2 => ?_⟩ (fun i hi => ?_) (fun i x hx => ?_)
    · rcases hr.mem.new p _ _ b hp rfl hΩ rfl with h | h
      · exact .inr h
      · rw [hm] at h; cases h
    · rcases get_set e1 with ⟨rfl, rfl, _⟩ | ⟨hi, e1⟩
      · cases l
      · exact hr.mem.sep p i _ _ _ _ b (Ne.symm hi) hp e1 rfl l hΩ e2 rfl
    · rw [List.length_drop] at hi
      rw [cell_of_row w b (off + i) _ ty (0, 0) hw]
      have : off + i < vs.length := by omega
      simp [this]
    · rw [List.getElem?_drop] at hx
      have hi := (List.getElem?_eq_some_iff.1 hx).1
      have hv : vs[off + i]? = some (vs.getD (off + i) undef) := by rw [List.getD_eq_getElem?_getD, List.getElem?_eq_getElem (by omega)]; rfl
      exact (mono (hvr (off + i) (.d x) _ (by rw [List.getElem?_map, hx]; rfl) hv)).isD
  · obtain ⟨v, hv, hrep⟩ := hr.env q z hq
    exact ⟨v, hv, mono hrep⟩
theorem AO.freezeP {l : List Oper} (t p : Nat) {off ty : Nat} {cells : List SV} {ds : List D} (hm : C.may = []) (hx : get e t = some (.ptr p off)) (hp : obs[p]? = some (.fix ty cells))
    (hc : cells = ds.map .d) (hoff : off ≤ ds.length) (h : AO C ops l ⟨(t, .d (.pt (ds.drop off))) :: e, obs.set p .dead⟩ Q) : AO C ops l ⟨e, obs⟩ Q := fun Ω a w hr => h _ a w (hr.freezePt hm hx hp hc hoff)
theorem AC.freezeP {c : Code} (t p : Nat) {off ty : Nat} {cells : List SV} {ds : List D} (hm : C.may = []) (hx : get e t = some (.ptr p off)) (hp : obs[p]? = some (.fix ty cells))
    (hc : cells = ds.map .d) (hoff : off ≤ ds.length) (h : AC C c ⟨(t, .d (.pt (ds.drop off))) :: e, obs.set p .dead⟩ Q) : AC C c ⟨e, obs⟩ Q := fun Ω a w hr => h _ a w (hr.freezePt hm hx hp hc hoff)
end
end Go.Vm
