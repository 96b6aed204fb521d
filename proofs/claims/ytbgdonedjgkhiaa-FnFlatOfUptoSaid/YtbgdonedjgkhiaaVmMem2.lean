/- Reading and writing memory, over the view. -/
import Derived.Test.YtbgdonedjgkhiaaVmMem
namespace Go.Vm
set_option linter.unusedVariables false

def aggT (P : Program) (t : TypeId) : Option Bool :=
  match P.underlying t with
  | some (.struct _) => some true
  | some (.array _ _) => some true
  | some _ => some false
  | none => none
def sizeT (P : Program) (t : TypeId) : Option Nat := (P.info? t).map (·.size)
theorem run_isAgg {P : Program} {t : TypeId} {b : Bool} (h : aggT P t = some b) (w : World) : (isAgg t).run P w = .ok b w := by
  unfold aggT at h
  cases hu : P.underlying t with
  | none => rw [hu] at h; cases h
  | some d =>
    rw [hu] at h
    unfold isAgg
    rw [Sem.run_bind, run_underlying hu w]
    cases d <;> cases h <;> rfl
theorem run_sizeOf {P : Program} {t : TypeId} {n : Nat} (h : sizeT P t = some n) (w : World) : (sizeOf t).run P w = .ok n w := by
  unfold sizeT at h
  cases hq : P.info? t with
  | none => rw [hq] at h; cases h
  | some j => rw [hq] at h; cases h; simp [sizeOf, typeInfo, hq]
theorem run_load1 {P : Program} {t : TypeId} {w : World} {a : Addr} {v : Value} (h : aggT P t = some false) (hc : w.cell? a = some v) : (loadVar t a).run P w = .ok v w := by
  simp [loadVar, run_isAgg h, hc]
theorem run_loadN {P : Program} {t : TypeId} {w : World} {b off n : Nat} {vs : List Value} (h : aggT P t = some true) (hs : sizeT P t = some n) (hl : vs.length = n)
    (hc : ∀ j, j < n → w.cell? ⟨b, off + j, none⟩ = vs[j]?) : (loadVar t ⟨b, off, none⟩).run P w = .ok (.agg vs.toArray) w := by
  subst hl
  have := run_loadCells_list (P := P) w ⟨b, off, none⟩ vs (fun j v hv => by
    rw [Addr.add_of, hc j (List.getElem?_eq_some_iff.1 hv).1]; exact hv)
  simp [loadVar, run_isAgg h, run_sizeOf hs, this]

section
variable {C : Ctx} {Q : Exit → St → Prop} {ops : Array Oper} {rest : List Oper} {o : Oper} {e : List (Nat × SV)} {obs : List Ob} {d : Nat}

/-- The object behind a pointer. -/
theorem Rel.fix {Ω : List Value} {a : Act} {w : World} (hr : Rel C ⟨e, obs⟩ Ω a w) {p off : Nat} {ty : TypeId} {cells : List SV} {v : Value} (hp : obs[p]? = some (.fix ty cells)) (hv : RepS w (okB C obs Ω w) Ω (.ptr p off) v) :
    ∃ b vs, v = .pointer (some ⟨b, off, none⟩) ∧ Ω[p]? = some (.pointer (some ⟨b, 0, none⟩)) ∧ w.heap[b]? = some (.cells (List.toArray vs) ty (0, 0)) ∧ vs.length = cells.length ∧
      (∀ (i : Nat) x y, cells[i]? = some x → vs[i]? = some y → RepS w (okB C obs Ω w) Ω x y) ∧ ∀ y, y ∈ vs → y.oneCell' = true := by
  cases hv with
  | ptr _ _ b hb =>
    obtain ⟨b', vs, he, hw, hl, hrr, h1⟩ := hr.mem.obj p _ _ hp hb
    cases he
    exact ⟨b, vs, rfl, hb, hw, hl, hrr, h1⟩
  | ptrG _ _ b len cap hb =>
    obtain ⟨b', vs, he, _⟩ := hr.mem.obj p _ _ hp hb
    cases he
theorem Rel.growV {Ω : List Value} {a : Act} {w : World} (hr : Rel C ⟨e, obs⟩ Ω a w) {p : Nat} {ty : TypeId} {sz : Nat} {cells : List D} {v : Value} (hp : obs[p]? = some (.grow ty sz cells)) (hv : RepS w (okB C obs Ω w) Ω (.own p) v) :
    ∃ n xs, Ω[p]? = some v ∧ w.ownsRow 0 ty sz v n xs ∧ xs.length = cells.length ∧ (∀ (i : Nat) x y, cells[i]? = some x → xs[i]? = some y → RepD w (okB C obs Ω w) x y) := by
  cases hv with
  | own _ _ hb _ =>
    obtain ⟨n, xs, ho, hl, hrr⟩ := hr.mem.obj p _ _ hp hb
    exact ⟨n, xs, hb, ho, hl, hrr⟩

theorem AOp.load1 {t : TypeId} {x : Operand} {p off : Nat} {ty : TypeId} {cells : List SV} {sv : SV} (ho : o.op = .load t x) (hd : o.dst = some d) (hn : d < C.n) (hx : opS ⟨e, obs⟩ x = some (.ptr p off))
    (ht : aggT C.P t = some false) (hp : obs[p]? = some (.fix ty cells)) (hc : cells[off]? = some sv) (h : AO C ops rest ⟨(d, sv) :: e, obs⟩ Q) : AOp C ops rest o ⟨e, obs⟩ Q :=
  AOp.value hd hn (fun Ω a w hr => by
    obtain ⟨b, vs, hev, hΩ, hw, hl, hrr, h1⟩ := hr.fix hp (hr.eval hx)
    have hlt := (List.getElem?_eq_some_iff.1 hc).1
    have hv : vs[off]? = some vs[off] := List.getElem?_eq_getElem (by omega)
    refine ⟨vs[off], ?_, hrr off _ _ hc hv⟩
    have hcell : w.cell? ⟨b, off, none⟩ = some vs[off] := by rw [cell_of_row w b off _ ty (0, 0) hw]; simp
    simp only [execOp, ho, hev, Instr.loadAt, Instr.sureAddr, Sem.run_bind, Sem.run_pure, Result.andThen_ok, run_load1 ht hcell]) h
theorem AOp.loadN {t : TypeId} {x : Operand} {p off n : Nat} {ty : TypeId} {cells : List SV} (ho : o.op = .load t x) (hd : o.dst = some d) (hn : d < C.n) (hx : opS ⟨e, obs⟩ x = some (.ptr p off))
    (ht : aggT C.P t = some true) (hs : sizeT C.P t = some n) (hp : obs[p]? = some (.fix ty cells)) (hc : off + n ≤ cells.length) {ys : List SV} (hy : (cells.drop off).take n = ys) (h : AO C ops rest ⟨(d, .ag ys) :: e, obs⟩ Q) : AOp C ops rest o ⟨e, obs⟩ Q :=
  AOp.value hd hn (fun Ω a w hr => by
    subst hy
    obtain ⟨b, vs, hev, hΩ, hw, hl, hrr, h1⟩ := hr.fix hp (hr.eval hx)
    refine ⟨.agg ((vs.drop off).take n).toArray, ?_, .ag _ _ (by simp; omega) fun i x y hx hy => ?_⟩
    · have := run_loadN (P := C.P) (w := w) (b := b) (off := off) (vs := (vs.drop off).take n) ht hs (by simp; omega) (fun j hj => by
        rw [cell_of_row w b (off + j) _ ty (0, 0) hw, List.getElem?_take, if_pos hj, List.getElem?_drop]; simp)
      simp only [execOp, ho, hev, Instr.loadAt, Instr.sureAddr, Sem.run_bind, Sem.run_pure, Result.andThen_ok, this]
    · rw [List.getElem?_take] at hx hy
      split at hx
      · rename_i hi
        rw [if_pos hi] at hy
        rw [List.getElem?_drop] at hx hy
        exact hrr _ _ _ hx hy
      · cases hx) h
/-- Reading what only is read. -/
theorem AOp.loadEp {t : TypeId} {x : Operand} {cells : List D} {i : Nat} {y : D} (ho : o.op = .load t x) (hd : o.dst = some d) (hn : d < C.n) (hx : opS ⟨e, obs⟩ x = some (.ep cells i))
    (ht : aggT C.P t = some false) (hc : cells[i]? = some y) (h : AO C ops rest ⟨(d, .d y) :: e, obs⟩ Q) : AOp C ops rest o ⟨e, obs⟩ Q :=
  AOp.value hd hn (fun Ω a w hr => by
    have hv := hr.eval hx
    generalize hev : a.eval x = v at hv
    cases hv with
    | ep b off _ _ vals hb hcell hrr =>
      refine ⟨vals i, ?_, .d _ _ (hrr i y hc)⟩
      simp only [execOp, ho, hev, Instr.loadAt, Instr.sureAddr, Sem.run_bind, Sem.run_pure, Result.andThen_ok, run_load1 ht (hcell i (List.getElem?_eq_some_iff.1 hc).1)]) h
theorem AOp.loadEpN {t : TypeId} {x : Operand} {cells : List D} {i n : Nat} (ho : o.op = .load t x) (hd : o.dst = some d) (hn : d < C.n) (hx : opS ⟨e, obs⟩ x = some (.ep cells i))
    (ht : aggT C.P t = some true) (hs : sizeT C.P t = some n) (hc : i + n ≤ cells.length) {ys : List D} (hy : (cells.drop i).take n = ys) (h : AO C ops rest ⟨(d, .d (.ag ys)) :: e, obs⟩ Q) : AOp C ops rest o ⟨e, obs⟩ Q :=
  AOp.value hd hn (fun Ω a w hr => by
    subst hy
    have hv := hr.eval hx
    generalize hev : a.eval x = v at hv
    cases hv with
    | ep b off _ _ vals hb hcell hrr =>
      have hl : ((List.range n).map fun j => vals (i + j)).length = n := by simp
      refine ⟨.agg ((List.range n).map fun j => vals (i + j)).toArray, ?_, .d _ _ (.ag _ _ (by simp; omega) fun j p q hp hq => ?_)⟩
      · have := run_loadN (P := C.P) (w := w) (b := b) (off := off + i) (vs := (List.range n).map fun j => vals (i + j)) ht hs hl (fun j hj => by
          rw [Nat.add_assoc, hcell (i + j) (by omega)]; simp [hj])
        simp only [execOp, ho, hev, Instr.loadAt, Instr.sureAddr, Sem.run_bind, Sem.run_pure, Result.andThen_ok, this]
      · rw [List.getElem?_take] at hp
        split at hp
        · rename_i hi
          rw [List.getElem?_drop] at hp
          simp [hi] at hq
          subst hq
          exact hrr _ _ hp
        · cases hp) h

/-- Writing into an own object. -/
theorem AOp.store {t : TypeId} {x y : Operand} {p off n : Nat} {ty : TypeId} {cells : List SV} {sv : SV} (ho : o.op = .store t x y) (hd : o.dst = none) (hx : opS ⟨e, obs⟩ x = some (.ptr p off)) (hy : opS ⟨e, obs⟩ y = some sv)
    (hs : sizeT C.P t = some n) (h1 : (cellsS sv).all SV.plain = true) (hl : (cellsS sv).length = n) (hp : obs[p]? = some (.fix ty cells)) (hc : off + n ≤ cells.length)
    (h : AO C ops rest ⟨e, obs.set p (.fix ty (cells.take off ++ cellsS sv ++ cells.drop (off + n)))⟩ Q) : AOp C ops rest o ⟨e, obs⟩ Q := by
  refine AOp.skip hd (fun Ω a w hr => ?_) h
  obtain ⟨b, vs, hev, hΩ, hw, hvl, hrr, hone⟩ := hr.fix hp (hr.eval hx)
  obtain ⟨us, huc, hul, hur, huone⟩ := (hr.eval hy).cells h1
  have hst := run_storeCells_at C.P b off ty us 0 vs.toArray w hw (by simp; omega) huone
  simp only [Nat.add_zero] at hst
  have key := hr.mem.set hp hΩ hw (vs.take off ++ us ++ vs.drop (off + us.length)) (cells' := cells.take off ++ cellsS sv ++ cells.drop (off + n)) (by simp; omega)
    (fun i x y hx hy => by
      have la : (cells.take off).length = off := by simp; omega
      have lb : (vs.take off).length = off := by simp; omega
      rw [List.append_assoc, List.getElem?_append] at hx hy
      rw [la] at hx
      rw [lb] at hy
      split at hx
      · rename_i hi
        rw [if_pos hi] at hy
        rw [List.getElem?_take, if_pos hi] at hx hy
        exact hrr i x y hx hy
      · rename_i hi
        rw [if_neg hi] at hy
        rw [List.getElem?_append] at hx hy
        split at hx
        · rename_i hj
          rw [if_pos (by omega)] at hy
          exact hur _ x y hx hy
        · rename_i hj
          rw [if_neg (by omega)] at hy
          rw [List.getElem?_drop] at hx hy
          rw [hul, hl] at hy
          rw [hl] at hx
          exact hrr _ x y hx hy)
    (fun y hy => by
      rcases List.mem_append.1 hy with hy | hy
      · rcases List.mem_append.1 hy with hy | hy
        · exact hone y (List.mem_of_mem_take hy)
        · exact huone y hy
      · exact hone y (List.mem_of_mem_drop hy))
  have hrel : Rel C ⟨e, obs.set p (.fix ty (cells.take off ++ cellsS sv ++ cells.drop (off + n)))⟩ Ω a (w.setRow b (vs.take off ++ us ++ vs.drop (off + us.length)).toArray) :=
    ⟨hr.defers, hr.size, fun t x hx => let ⟨v, hv, hr'⟩ := hr.env t x hx; ⟨v, hv, hr'.mono key.2 (fun _ _ e => e)⟩, key.1⟩
  refine ⟨_, Ω, ?_, hrel⟩
  have hsz : (a.eval y).cells.size = n := by rw [huc]; simp; omega
  have huc' : (a.eval y).cells.toList = us := by rw [huc]
  simp only [execOp, ho, hev, Instr.storeAt, Instr.sureAddr, storeVar, Sem.run_bind, Sem.run_pure, Result.andThen_ok, run_sizeOf hs, hsz, ne_eq, not_true_eq_false, if_false, huc', hst, Sem.run_ite]
end
end Go.Vm
