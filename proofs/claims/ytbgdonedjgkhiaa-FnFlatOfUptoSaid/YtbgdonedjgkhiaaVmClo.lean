/- Function values that have captured something: made, kept in a slice literal, called. -/
import Derived.Test.YtbgdonedjgkhiaaVmDrawC
import Derived.Test.YtbgdonedjgkhiaaVmNsl
set_option linter.unusedVariables false
namespace Go.Vm
section
variable {C : Ctx} {Q : Exit → St → Prop} {ops : Array Oper} {rest : List Oper} {o : Oper} {e : List (Nat × SV)} {obs : List Ob} {d : Nat} {t ty : TypeId} {x y : Operand}
theorem AOp.makeClo {g : FuncId} {caps : List Operand} {svs : List SV} (ho : o.op = .makeFunc (.func g) #[] caps.toArray) (hd : o.dst = some d) (hn : d < C.n) (hx : mapO (opS ⟨e, obs⟩) caps = some svs)
    (h : AO C ops rest ⟨(d, .fv (.func g) [] svs) :: e, obs⟩ Q) : AOp C ops rest o ⟨e, obs⟩ Q :=
  AOp.value hd hn (fun Ω a w hr => by
    obtain ⟨hlen, hi⟩ := mapO_get hx
    refine ⟨.func (.func g) ([] : List Value).toArray (caps.map a.eval).toArray, ?_, .fv _ _ _ [] (caps.map a.eval) rfl (by simp [hlen]) (fun i z v hz hv => by simp at hz) (fun i z v hz hv => ?_)⟩
    · simp [execOp, ho, Instr.makeFunc]
    · simp only [List.getElem?_map, Option.map_eq_some_iff] at hv
      obtain ⟨q, hq, rfl⟩ := hv
      exact hr.eval (hi i q z hq hz)) h
/-- A slice literal whose elements need not be data: an object of the call's own. -/
theorem AOp.buildSl {el sz len : Nat} {parts : List (Nat × Operand)} {ps : List (Nat × SV)} {z : Value} {r : List SV} (ho : o.op = .buildSlice t len parts.toArray) (hd : o.dst = some d) (hn : d < C.n)
    (ht : elemT C.P t = some (el, sz)) (hz : (C.P.info? el).map (·.zero) = some (some z)) (h1 : z.cells.toList.all (·.oneCell') = true) (hb : len * sz ≤ 16777216) (hzs : z.cells.size = sz)
    (hx : mapO (partS ⟨e, obs⟩) parts = some ps) (hf : fillS (fun i => some (i * sz, sz)) ((List.range (len * sz)).map fun i => .d (.v (z.cells.toList.getD (i % sz) undef))) ps = some r)
    (h : AO C ops rest ⟨(d, .sl obs.length sz 0 len len) :: e, obs ++ [.fix el r]⟩ Q) : AOp C ops rest o ⟨e, obs⟩ Q := by
  refine AOp.step hd hn (fun Ω a w hr => ?_) h
  obtain ⟨hu, hs⟩ := elemT_spec ht
  obtain ⟨hl, hp⟩ := hr.parts hx
  have hzlt : ∀ (i : Nat), i < len * sz → i % sz < z.cells.size := fun i hi => by
    rw [hzs]
    exact Nat.mod_lt _ (Nat.pos_of_ne_zero fun h0 => by subst h0; simp at hi)
  have hget : ∀ (i : Nat), i < len * sz → z.cells[i % z.cells.size]! = z.cells.toList.getD (i % sz) undef ∧ z.cells[i % z.cells.size]! ∈ z.cells.toList := fun i hi => by
    have hlt := hzlt i hi
    have hlt2 : i % z.cells.size < z.cells.size := by rw [hzs] at hlt ⊢; exact hlt
    rw [getElem!_pos z.cells _ hlt2]
    refine ⟨?_, by simp⟩
    have : z.cells.toList[i % sz]? = some z.cells[i % z.cells.size] := by simp [hzs]
    rw [List.getD_eq_getElem?_getD, this]; rfl
  obtain ⟨vs, hfill, hvl, hvr, hv1⟩ := fillS_rep ps _ _ r ((Array.range (len * sz)).map fun i => z.cells[i % z.cells.size]!) hf hl hp (by simp) (fun i p q hp hq => by
    have hi : i < len * sz := by have := (List.getElem?_eq_some_iff.1 hp).1; simpa using this
    have e1 : ((List.range (len * sz)).map fun i => (SV.d (.v (z.cells.toList.getD (i % sz) undef))))[i]? = some (.d (.v (z.cells.toList.getD (i % sz) undef))) := by simp [hi]
    rw [e1] at hp; cases hp
    have e2 : ((Array.range (len * sz)).map fun i => z.cells[i % z.cells.size]!).toList[i]? = some (z.cells[i % z.cells.size]!) := by simp [hi]
    rw [e2] at hq; cases hq
    rw [(hget i hi).1]
    exact .d _ _ (.v _)) (fun y hy => by
      simp only [Array.toList_map, Array.toList_range, List.mem_map, List.mem_range] at hy
      obtain ⟨i, hi, rfl⟩ := hy
      exact List.all_eq_true.1 h1 _ (hget i hi).2)
  have hal := hr.alloc el r vs.toList (by simpa using hvl) hvr hv1
  rw [Array.toArray_toList] at hal
  refine ⟨.slice (some ⟨w.heap.size, 0, none⟩) len len, _, _, ?_, hal, .sl _ _ _ _ _ w.heap.size ?_⟩
  · simp only [execOp, ho, Instr.buildSlice, Sem.run_bind, run_underlying hu, Result.andThen_ok, run_sizeOf hs, List.map_toArray, Sem.run_ite]
    rw [if_neg (by omega)]
    by_cases h0 : len * sz = 0
    · simp only [h0, if_true, Sem.run_pure, Result.andThen_ok]
      have e0 : ((Array.range 0).map fun i => (#[] : Array Value)[i % (#[] : Array Value).size]!) = #[] := by simp
      rw [h0] at hfill
      have e1 : ((Array.range 0).map fun i => z.cells[i % z.cells.size]!) = #[] := by simp
      rw [e1] at hfill
      rw [e0, hfill]
      simp [newRow]
    · simp only [h0, if_false, run_zero hz, Sem.run_pure, Sem.run_bind, Result.andThen_ok, hfill, newRow, run_newObj]
      simp
  · have := hr.mem.len
    dsimp only at this
    rw [this, List.getElem?_append_right (Nat.le_refl _)]; simp
/-- A call of a function value that has captured something. -/
theorem EntersS.clo {f : FuncId} {x : Operand} {xs : List Operand} {ts : Array TypeId} {ys caps : List SV} (he : enters C.P f = true) (ho : o.op = .call { callee := .value x, args := xs.toArray, argTypes := ts }) (hc : opS ⟨e, obs⟩ x = some (.fv (.func f) [] caps)) (hx : mapO (opS ⟨e, obs⟩) xs = some ys) :
    EntersS C o ⟨e, obs⟩ f (ys ++ caps) := fun Ω a w hr => by
  obtain ⟨hlen, hi⟩ := mapO_get hx
  have hv := hr.eval hc
  generalize hev : a.eval x = v at hv
  cases hv with
  | fv _ _ _ fs cs hf hcl hfr hcr =>
    have hfs : fs = [] := List.length_eq_zero_iff.1 (by simpa using hf)
    subst hfs
    refine ⟨xs.map a.eval ++ cs, ?_, by simp [hlen, hcl], fun i z v hz hv => ?_⟩
    · simp only [execOp, ho, resolve, hev, Deferred.ofValue, Sem.run_bind, Sem.run_pure, Result.andThen_ok, invoke, List.map_toArray, run_enters he]
      simp
    · have hxl : (xs.map a.eval).length = ys.length := by simp [hlen]
      rcases Nat.lt_or_ge i ys.length with h | h
      · rw [List.getElem?_append_left h] at hz
        rw [List.getElem?_append_left (by omega)] at hv
        simp only [List.getElem?_map, Option.map_eq_some_iff] at hv
        obtain ⟨q, hq, rfl⟩ := hv
        exact hr.eval (hi i q z hq hz)
      · rw [List.getElem?_append_right h] at hz
        rw [List.getElem?_append_right (by omega), hxl] at hv
        exact hcr _ _ _ hz hv
theorem EntersS.cloD {f : FuncId} {x : Operand} {xs : List Operand} {ts : Array TypeId} {ys : List SV} {caps : List D} (he : enters C.P f = true) (ho : o.op = .call { callee := .value x, args := xs.toArray, argTypes := ts }) (hc : opS ⟨e, obs⟩ x = some (.d (.clo f caps))) (hx : mapO (opS ⟨e, obs⟩) xs = some ys) :
    EntersS C o ⟨e, obs⟩ f (ys ++ caps.map .d) := fun Ω a w hr => by
  obtain ⟨hlen, hi⟩ := mapO_get hx
  have hv := (hr.eval hc).isD
  generalize hev : a.eval x = v at hv
  cases hv with
  | clo _ _ cs hcl hcr =>
    refine ⟨xs.map a.eval ++ cs, ?_, by simp [hlen, hcl], fun i z v hz hv => ?_⟩
    · simp only [execOp, ho, resolve, hev, Deferred.ofValue, Sem.run_bind, Sem.run_pure, Result.andThen_ok, invoke, List.map_toArray, run_enters he]
      simp
    · have hxl : (xs.map a.eval).length = ys.length := by simp [hlen]
      rcases Nat.lt_or_ge i ys.length with h | h
      · rw [List.getElem?_append_left h] at hz
        rw [List.getElem?_append_left (by omega)] at hv
        simp only [List.getElem?_map, Option.map_eq_some_iff] at hv
        obtain ⟨q, hq, rfl⟩ := hv
        exact hr.eval (hi i q z hq hz)
      · rw [List.getElem?_append_right h] at hz
        rw [List.getElem?_append_right (by omega), hxl] at hv
        rw [List.getElem?_map] at hz
        obtain ⟨z', hz', rfl⟩ := Option.map_eq_some_iff.1 hz
        exact .d _ _ (hcr _ _ _ hz' hv)
/-- A slice is compared with nil of which it may be open whether it is nil: if it is empty. -/
theorem AOp.nilEqlU {α : Type} {f : List α → D} {x0 : Option (List α)} {el : TypeId} {sz : Nat} (ht : C.P.underlying t = some (.slice el)) (ho : o.op = .binOp .eql t x (.const (.slice none 0 0)) ty) (hd : o.dst = some d) (hn : d < C.n)
    (hx : opS ⟨e, obs⟩ x = some (.d (oN f x0))) (hf0 : f [] = .ds sz []) (hf : ∀ a l, ∃ sz c cs, f (a :: l) = .ds sz (c :: cs)) (h : ∀ b, (neO x0 = true → b = x0.isNone) → AO C ops rest ⟨(d, .d (dbool b)) :: e, obs⟩ Q) : AOp C ops rest o ⟨e, obs⟩ Q := by
  by_cases hn0 : neO x0 = true
  · exact AOp.nilEql ht ho hd hn hx (neO_cons hf hn0) (h _ fun _ => rfl)
  · have hx0 : x0 = some [] := by
      cases x0 with
      | none => exact absurd rfl hn0
      | some l => cases l with
        | nil => rfl
        | cons a l => exact absurd rfl hn0
    subst hx0
    intro Ω a w hr
    have h1 := (hr.eval hx).isD
    have h2 : RepD w (okB C obs Ω w) (.ds sz []) (a.eval x) := by rw [← hf0]; exact h1
    obtain ⟨ad, l, c, hv⟩ : ∃ ad l c, a.eval x = .slice ad l c := by
      generalize a.eval x = v at h2
      cases h2 with
      | nil _ ad c => exact ⟨_, _, _, rfl⟩
      | ds => exact ⟨_, _, _, rfl⟩
    have hy : a.eval (.const (.slice none 0 0)) = .slice none 0 0 := rfl
    have hg : eqGuard .eql t x (.const (.slice none 0 0)) (.slice ad l c) (.slice none 0 0) = pure () := rfl
    have hrun : (execOp a.eval o).run C.P w = .ok (.value (.bool ad.isNone)) w := by
      simp only [execOp, ho, hv, hy, hg, Sem.run_bind, Sem.run_pure, Result.andThen_ok, run_eql_slice_nil C.P w t el ad l c ht]
    have := h ad.isNone (fun hh => absurd hh hn0)
    unfold Oper.wp
    rw [hrun]
    simp only [Oper.upon, hd]
    exact this Ω _ w (hr.put hn (.d _ _ (.v _)))
end
section
variable {C : Ctx} {Q : Exit → St → Prop} {ops : Array Oper} {rest : List Oper} {o : Oper} {e : List (Nat × SV)} {obs : List Ob} {d : Nat}
theorem AOp.callPE {f : FuncId} {ys : List D} {zs : List SV} (hE : EntersS C o ⟨e, obs⟩ f zs) (hm : C.may = []) (hx : mapO (dataS 9) zs = some ys) (hF : FnP C.P f ys) (h : ∀ ch, PanC ch → Q (.panic ch) ⟨e, obs⟩) : AOp C ops rest o ⟨e, obs⟩ Q := fun Ω a w hr => by
  obtain ⟨hl, hi⟩ := mapO_get hx
  obtain ⟨vs, hrun, hlen, hv⟩ := hE Ω a w hr
  unfold Oper.wp
  rw [hrun, Oper.upon_enter]
  refine (hF.2 w (okB C obs Ω w) vs (hr.mem.fr.holds hm) (fun b hb => hb.2.1) (by omega) fun i y v hy hvi => ?_).mono fun ed w' ⟨⟨ch, he, hp⟩, hb⟩ => ?_
  · have hlt := (List.getElem?_eq_some_iff.1 hy).1
    have hz : zs[i]? = some zs[i] := List.getElem?_eq_getElem (by omega)
    exact dataS_rep 9 (hi i _ _ hz hy) (hv i _ _ hz hvi)
  · subst he
    exact ⟨⟨e, obs⟩, Ω, hr.below hb, h ch hp⟩
/-- A pointer to data, read from. -/
theorem SVLe.ptEp (cells : List D) : SVLe (.d (.pt cells)) (.ep cells 0) := fun w ok Ω v hv => by
  have h := hv.isD
  cases h with
  | pt b off _ vals hb hcell hr => exact .ep b off 0 cells vals hb hcell hr
end
/-- One of two ways, of which it may be open which: then both give the same. -/
noncomputable def agr {R : Type} (n i : Bool) (x y : Option R) : Option R := cond n (cond i x y) (x.bind fun r => y.bind fun r' => @ite _ (r = r') (Classical.propDecidable _) (some r) none)
theorem agr_t {R : Type} {n i : Bool} {x y : Option R} {r : R} (h : agr n i x y = some r) (hb : n = true → true = i) : x = some r := by
  unfold agr at h
  cases n with
  | true => rw [← hb rfl] at h; exact h
  | false =>
    obtain ⟨r1, h1, h⟩ := Option.bind_eq_some_iff.1 (show (x.bind fun r => y.bind fun r' => @ite _ (r = r') (Classical.propDecidable _) (some r) none) = some r from h)
    obtain ⟨r2, h2, h⟩ := Option.bind_eq_some_iff.1 h
    split at h
    · rw [h1]; exact h
    · cases h
theorem agr_f {R : Type} {n i : Bool} {x y : Option R} {r : R} (h : agr n i x y = some r) (hb : n = true → false = i) : y = some r := by
  unfold agr at h
  cases n with
  | true => rw [← hb rfl] at h; exact h
  | false =>
    obtain ⟨r1, h1, h⟩ := Option.bind_eq_some_iff.1 (show (x.bind fun r => y.bind fun r' => @ite _ (r = r') (Classical.propDecidable _) (some r) none) = some r from h)
    obtain ⟨r2, h2, h⟩ := Option.bind_eq_some_iff.1 h
    split at h
    · rename_i he; rw [h2, ← he]; exact h
    · cases h
theorem agr_same {R : Type} {n i : Bool} {x y : Option R} {r : R} (hx : x = some r) (hy : y = some r) : agr n i x y = some r := by
  unfold agr
  rw [hx, hy]
  cases n with
  | true => cases i <;> rfl
  | false => exact if_pos rfl
/-- A pointer to a struct, in an interface value. -/
structure IfcV where
  mk ::
  (dt : TypeId)
  (cells : List D)
abbrev eIfc (x : IfcV) : D := .ifc x.dt (.pt x.cells)
/-- What cells are told of. -/
noncomputable def decodeD {α : Type} (c : α → List D) (l : List D) : Option α := @dite _ (∃ y, c y = l) (Classical.propDecidable _) (fun h => some (Classical.choose h)) (fun _ => none)
theorem decodeD_eq {α : Type} {c : α → List D} {l : List D} {y : α} (h : decodeD c l = some y) : l = c y := by
  unfold decodeD at h
  split at h
  · rename_i hh
    obtain rfl := Option.some.inj h
    exact (Classical.choose_spec hh).symm
  · cases h
theorem decodeD_of {α : Type} (c : α → List D) (y : α) : ∃ y', decodeD c (c y) = some y' ∧ c y' = c y := by
  have hh : ∃ z, c z = c y := ⟨y, rfl⟩
  refine ⟨Classical.choose hh, ?_, Classical.choose_spec hh⟩
  unfold decodeD
  exact dif_pos hh
theorem eIfc_le {x : IfcV} {t : TypeId} {α : Type} {c : α → List D} {y : α} (ht : decide (x.dt = t) = true) (hy : decodeD c x.cells = some y) : SVLe (.d (eIfc x)) (.ifc t (.d (.pt (c y)))) := by
  have h1 := of_decide_eq_true ht
  have h2 := decodeD_eq hy
  intro w ok Ω v hv
  have hv' : RepD w ok (.ifc x.dt (.pt x.cells)) v := hv.isD
  rw [h1, h2] at hv'
  cases hv' with
  | ifc _ _ u hu => exact .ifc _ _ _ (.d _ _ hu)
theorem eIfc_one (x : IfcV) : (eIfc x).one = true := rfl
end Go.Vm
