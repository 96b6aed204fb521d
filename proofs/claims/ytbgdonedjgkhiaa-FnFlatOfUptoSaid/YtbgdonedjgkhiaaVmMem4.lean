/- Struct values, slice literals, appending, over the view. -/
import Derived.Test.YtbgdonedjgkhiaaVmFn
namespace Go.Vm
set_option linter.unusedVariables false

theorem foldl_set (vs : List Value) : ∀ (k off : Nat) (cells : Array Value), off + k + vs.length ≤ cells.size →
    ((vs.zipIdx k).foldl (fun cs (c, j) => cs.setIfInBounds (off + j) c) cells).toList = cells.toList.take (off + k) ++ vs ++ cells.toList.drop (off + k + vs.length) := by
  induction vs with
  | nil => intro k off cells h; simp
  | cons v vs ih =>
    intro k off cells h
    simp only [List.zipIdx_cons, List.foldl_cons]
    rw [ih (k + 1) off _ (by simp at h ⊢; omega)]
    simp only [Array.toList_setIfInBounds]
    have hlt : off + k < cells.toList.length := by simp at h ⊢; omega
    apply List.ext_getElem?
    intro i
    simp only [List.getElem?_append, List.length_append, List.length_take, List.length_set, List.getElem?_take, List.getElem?_set, List.getElem?_drop, List.length_cons]
    have e1 : min (off + (k + 1)) cells.toList.length = off + k + 1 := by omega
    have e2 : min (off + k) cells.toList.length = off + k := by omega
    rw [e1, e2]
    rcases Nat.lt_trichotomy i (off + k) with hi | hi | hi
    · have c1 : i < off + k + 1 + vs.length := by omega
      have c2 : i < off + k + (vs.length + 1) := by omega
      have c3 : i < off + k + 1 := by omega
      have c4 : i < off + (k + 1) := by omega
      have c5 : ¬ off + k = i := by omega
      simp [c1, c2, c3, c4, c5, hi]
    · subst hi
      have c1 : off + k < off + k + 1 + vs.length := by omega
      have c2 : off + k < off + k + (vs.length + 1) := by omega
      have c4 : off + k < off + (k + 1) := by omega
      simp [c1, c2, c4]
      simpa using hlt
    · have c3 : ¬ i < off + k + 1 := by omega
      have c6 : ¬ i < off + k := by omega
      have c5 : ¬ off + k = i := by omega
      by_cases c1 : i < off + k + 1 + vs.length
      · have c2 : i < off + k + (vs.length + 1) := by omega
        simp only [c1, c2, c3, c6, if_true, if_false]
        have : i - (off + k) = (i - (off + k + 1)) + 1 := by omega
        rw [this, List.getElem?_cons_succ]
      · have c2 : ¬ i < off + k + (vs.length + 1) := by omega
        simp only [c1, c2, c3, c6, if_false]
        have c7 : ¬ off + k = off + (k + 1) + vs.length + (i - (off + k + 1 + vs.length)) := by omega
        rw [if_neg c7]
        congr 1
        omega

/-- The cells of a struct or array, its parts laid in. -/
def fillS (place : Nat → Option (Nat × Nat)) : List SV → List (Nat × SV) → Option (List SV)
  | cells, [] => some cells
  | cells, (i, x) :: r => match place i with
    | none => none
    | some (off, size) => if (cellsS x).length = size ∧ off + size ≤ cells.length ∧ (cellsS x).all SV.plain = true then fillS place (cells.take off ++ cellsS x ++ cells.drop (off + size)) r else none

theorem fillS_rep {w : World} {ok : Nat → Prop} {Ω : List Value} {place : Nat → Option (Nat × Nat)} : ∀ (parts : List (Nat × SV)) (us : List (Nat × Value)) (cells r : List SV) (vs : Array Value),
    fillS place cells parts = some r → us.length = parts.length → (∀ (i : Nat) p q, parts[i]? = some p → us[i]? = some q → q.1 = p.1 ∧ RepS w ok Ω p.2 q.2) →
    vs.size = cells.length → (∀ (i : Nat) p q, cells[i]? = some p → vs.toList[i]? = some q → RepS w ok Ω p q) → (∀ y, y ∈ vs.toList → y.oneCell' = true) →
    ∃ vs' : Array Value, Instr.fill place vs us = some vs' ∧ vs'.size = r.length ∧ (∀ (i : Nat) p q, r[i]? = some p → vs'.toList[i]? = some q → RepS w ok Ω p q) ∧ ∀ y, y ∈ vs'.toList → y.oneCell' = true := by
  intro parts
  induction parts with
  | nil =>
    intro us cells r vs h hl hp hs hr h1
    cases us with
    | nil => cases h; exact ⟨vs, rfl, hs, hr, h1⟩
    | cons => cases hl
  | cons p parts ih =>
    intro us cells r vs h hl hp hs hr h1
    obtain ⟨i, x⟩ := p
    cases us with
    | nil => cases hl
    | cons q us =>
      obtain ⟨i', v⟩ := q
      have h0 := hp 0 _ _ rfl rfl
      dsimp only at h0
      obtain ⟨rfl, hrep⟩ := h0
      simp only [fillS] at h
      split at h
      · cases h
      · rename_i off size hpl
        split at h
        · rename_i hc
          obtain ⟨hsz, hle, hpl1⟩ := hc
          obtain ⟨ws, hwc, hwl, hwr, hw1⟩ := hrep.cells hpl1
          have hvs : v.cells.size = size := by rw [hwc]; simp; omega
          have hfold := foldl_set ws 0 off vs (by omega)
          simp only [Nat.add_zero] at hfold
          have hfill : Instr.fill place vs ((i', v) :: us) = Instr.fill place (vs.toList.take off ++ ws ++ vs.toList.drop (off + ws.length)).toArray us := by
            simp only [Instr.fill, hpl, hvs, ne_eq, not_true_eq_false]
            rw [if_neg (by simp; omega)]
            congr 1
            rw [← hfold, hwc]
            simp
          rw [hfill]
          refine ih us _ r _ h (by simpa using hl) (fun j p q hp' hq' => hp (j + 1) p q (by simpa using hp') (by simpa using hq')) (by simp; omega) (fun j p q hp' hq' => ?_) (fun y hy => ?_)
          · have la : (cells.take off).length = off := by simp; omega
            have lb : (vs.toList.take off).length = off := by simp; omega
            simp only [] at hq'
            rw [List.append_assoc, List.getElem?_append] at hp' hq'
            rw [la] at hp'
            rw [lb] at hq'
            split at hp'
            · rename_i hj
              rw [if_pos hj] at hq'
              rw [List.getElem?_take, if_pos hj] at hp' hq'
              exact hr j p q hp' hq'
            · rename_i hj
              rw [if_neg hj] at hq'
              rw [List.getElem?_append] at hp' hq'
              split at hp'
              · rename_i hk
                rw [if_pos (by omega)] at hq'
                exact hwr _ p q hp' hq'
              · rename_i hk
                rw [if_neg (by omega)] at hq'
                rw [List.getElem?_drop] at hp' hq'
                rw [hwl, hsz] at hq'
                rw [hsz] at hp'
                exact hr _ p q hp' hq'
          · simp only [] at hy
            rcases List.mem_append.1 hy with hy | hy
            · rcases List.mem_append.1 hy with hy | hy
              · exact h1 y (List.mem_of_mem_take hy)
              · exact hw1 y hy
            · exact h1 y (List.mem_of_mem_drop hy)
        · cases h

/-- Where the parts of a struct or array lie. -/
def placesT (P : Program) (t : TypeId) : Option (Nat → Option (Nat × Nat)) :=
  match P.underlying t with
  | some (.struct fields) => match mapO (fun f => (sizeT P f.type).map fun n => (f.offset, n)) fields.toList with
    | some ps => some fun i => ps[i]?
    | none => none
  | some (.array _ el) => (sizeT P el).map fun n => fun i => some (i * n, n)
  | _ => none

def placeSem (f : Field) : Sem (Nat × Nat) := do pure (f.offset, ← sizeOf f.type)
theorem run_places {P : Program} : ∀ (fs : List Field) {ps : List (Nat × Nat)}, mapO (fun f => (sizeT P f.type).map fun n => (f.offset, n)) fs = some ps → ∀ w, (fs.mapM placeSem).run P w = .ok ps w := by
  intro fs
  induction fs with
  | nil => intro ps h w; cases h; rfl
  | cons f fs ih =>
    intro ps h w
    simp only [mapO] at h
    split at h
    · rename_i y hy
      split at h
      · rename_i t ht
        cases h
        obtain ⟨n, hn, rfl⟩ := Option.map_eq_some_iff.1 hy
        have h1 : (placeSem f).run P w = .ok (f.offset, n) w := by simp [placeSem, run_sizeOf hn]
        simp [List.mapM_cons, h1, ih ht w]
      · cases h
    · cases h

def partS (s : St) (p : Nat × Operand) : Option (Nat × SV) := (opS s p.2).map fun x => (p.1, x)

section
variable {C : Ctx} {Q : Exit → St → Prop} {ops : Array Oper} {rest : List Oper} {o : Oper} {e : List (Nat × SV)} {obs : List Ob} {d : Nat}

theorem Rel.parts {Ω : List Value} {a : Act} {w : World} (hr : Rel C ⟨e, obs⟩ Ω a w) {parts : List (Nat × Operand)} {ps : List (Nat × SV)} (h : mapO (partS ⟨e, obs⟩) parts = some ps) :
    (parts.map fun (i, x) => (i, a.eval x)).length = ps.length ∧ ∀ (i : Nat) p q, ps[i]? = some p → (parts.map fun (i, x) => (i, a.eval x))[i]? = some q → q.1 = p.1 ∧ RepS w (okB C obs Ω w) Ω p.2 q.2 := by
  obtain ⟨hl, hi⟩ := mapO_get h
  refine ⟨by simp [hl], fun i p q hp hq => ?_⟩
  simp only [List.getElem?_map, Option.map_eq_some_iff] at hq
  obtain ⟨x, hx, rfl⟩ := hq
  have := hi i x p hx hp
  obtain ⟨z, hz, rfl⟩ := Option.map_eq_some_iff.1 this
  exact ⟨rfl, hr.eval hz⟩

theorem AOp.build {t : TypeId} {parts : List (Nat × Operand)} {ps : List (Nat × SV)} {z : Value} {pl : Nat → Option (Nat × Nat)} {r : List SV} (ho : o.op = .build t parts.toArray) (hd : o.dst = some d) (hn : d < C.n)
    (hz : (C.P.info? t).map (·.zero) = some (some z)) (h1 : z.cells.toList.all (·.oneCell') = true) (hpl : placesT C.P t = some pl) (hx : mapO (partS ⟨e, obs⟩) parts = some ps) (hf : fillS pl (zcells z) ps = some r)
    (h : AO C ops rest ⟨(d, .ag r) :: e, obs⟩ Q) : AOp C ops rest o ⟨e, obs⟩ Q :=
  AOp.value hd hn (fun Ω a w hr => by
    obtain ⟨hl, hp⟩ := hr.parts hx
    obtain ⟨vs, hfill, hvl, hvr, hv1⟩ := fillS_rep ps _ (zcells z) r z.cells hf hl hp (by simp [zcells]) (fun i p q hp hq => by
      simp only [zcells, List.getElem?_map, Option.map_eq_some_iff] at hp
      obtain ⟨u, hu, rfl⟩ := hp
      rw [hu] at hq; cases hq
      exact .d _ _ (.v _)) (fun y hy => List.all_eq_true.1 h1 y hy)
    refine ⟨.agg vs, ?_, by have := RepS.ag (w := w) (ok := okB C obs Ω w) (Ω := Ω) r vs.toList (by simpa using hvl) hvr; simpa using this⟩
    unfold placesT at hpl
    split at hpl
    · rename_i fields hu
      split at hpl
      · rename_i pp hpp
        cases hpl
        have hm := run_places fields.toList hpp w
        have e1 : fields = fields.toList.toArray := by simp
        simp only [execOp, ho, Instr.build, Sem.run_bind, run_zero hz, Result.andThen_ok, run_underlying hu, List.map_toArray]
        have e2 : (fields.mapM (fun f => do pure (f.offset, ← sizeOf f.type) : Field → Sem (Nat × Nat))) = fields.mapM placeSem := rfl
        rw [e2, e1, List.mapM_toArray]
        simp [hm, hfill]
      · cases hpl
    · rename_i m el hu
      obtain ⟨n, hn2, rfl⟩ := Option.map_eq_some_iff.1 hpl
      simp only [execOp, ho, Instr.build, Sem.run_bind, run_zero hz, Result.andThen_ok, run_underlying hu, List.map_toArray, run_sizeOf hn2]
      simp [hfill]
    · cases hpl) h

theorem AOp.buildSlice {t el sz len : Nat} {parts : List (Nat × Operand)} {ps : List (Nat × SV)} {z : Value} {r : List SV} (ho : o.op = .buildSlice t len parts.toArray) (hd : o.dst = some d) (hn : d < C.n)
    (ht : elemT C.P t = some (el, sz)) (hz : (C.P.info? el).map (·.zero) = some (some z)) (h1 : z.cells.toList.all (·.oneCell') = true) (hb : len * sz ≤ 16777216) (hzs : z.cells.size = sz)
    (hx : mapO (partS ⟨e, obs⟩) parts = some ps) (hf : fillS (fun i => some (i * sz, sz)) ((List.range (len * sz)).map fun i => .d (.v (z.cells.toList.getD (i % sz) undef))) ps = some r)
    (h : AO C ops rest ⟨(d, .sl obs.length sz 0 len len) :: e, obs ++ [.fix el r]⟩ Q) : AOp C ops rest o ⟨e, obs⟩ Q := by
  refine AOp.step hd hn (fun Ω a w hr => ?_) h
  obtain ⟨hu, hs⟩ := elemT_spec ht
  obtain ⟨hl, hp⟩ := hr.parts hx
  have hzlt : ∀ (i : Nat), i < len * sz → i % sz < z.cells.size := fun i hi => by
    rw [hzs]
    exact Nat.mod_lt _ (Nat.pos_of_ne_zero fun h0 => by subst h0; simp at hi)
  have hget : ∀ (i : Nat), i < len * sz → z.cells[i % z.cells.size]! = z.cells.toList.getD (i % sz) undef ∧ z.cells[i % z.cells.size]! ∈ z.cells.toList := fun i hi => by
    have hlt := hzlt i hi
    have hlt2 : i % z.cells.size < z.cells.size := by rw [hzs] at hlt ⊢; exact hlt
    rw [getElem!_pos z.cells _ hlt2]
    refine ⟨?_, by simp⟩
    have : z.cells.toList[i % sz]? = some z.cells[i % z.cells.size] := by simp [hzs]
    rw [List.getD_eq_getElem?_getD, this]; rfl
  obtain ⟨vs, hfill, hvl, hvr, hv1⟩ := fillS_rep ps _ _ r ((Array.range (len * sz)).map fun i => z.cells[i % z.cells.size]!) hf hl hp (by simp) (fun i p q hp hq => by
    have hi : i < len * sz := by have := (List.getElem?_eq_some_iff.1 hp).1; simpa using this
    have e1 : ((List.range (len * sz)).map fun i => (SV.d (.v (z.cells.toList.getD (i % sz) undef))))[i]? = some (.d (.v (z.cells.toList.getD (i % sz) undef))) := by simp [hi]
    rw [e1] at hp; cases hp
    have e2 : ((Array.range (len * sz)).map fun i => z.cells[i % z.cells.size]!).toList[i]? = some (z.cells[i % z.cells.size]!) := by simp [hi]
    rw [e2] at hq; cases hq
    rw [(hget i hi).1]
    exact .d _ _ (.v _)) (fun y hy => by
      simp only [Array.toList_map, Array.toList_range, List.mem_map, List.mem_range] at hy
      obtain ⟨i, hi, rfl⟩ := hy
      exact List.all_eq_true.1 h1 _ (hget i hi).2)
  have hal := hr.alloc el r vs.toList (by simpa using hvl) hvr hv1
  refine ⟨.slice (some ⟨w.heap.size, 0, none⟩) len len, _, _, ?_, hal, .sl _ _ _ _ _ _ ?_⟩
  · simp only [execOp, ho, Instr.buildSlice, Sem.run_bind, run_underlying hu, Result.andThen_ok, run_sizeOf hs, List.map_toArray, Sem.run_ite]
    rw [if_neg (by omega)]
    by_cases h0 : len * sz = 0
    · simp only [h0, if_true, Sem.run_pure, Result.andThen_ok]
      have e0 : ((Array.range 0).map fun i => (#[] : Array Value)[i % (#[] : Array Value).size]!) = #[] := by simp
      rw [h0] at hfill
      have e1 : ((Array.range 0).map fun i => z.cells[i % z.cells.size]!) = #[] := by simp
      rw [e1] at hfill
      rw [e0, hfill]
      simp [newRow]
    · simp only [h0, if_false, run_zero hz, Sem.run_pure, Sem.run_bind, Result.andThen_ok, hfill, newRow, run_newObj]
      simp
  · have := hr.mem.len
    dsimp only at this
    rw [this, List.getElem?_append_right (Nat.le_refl _)]; simp
end
end Go.Vm
