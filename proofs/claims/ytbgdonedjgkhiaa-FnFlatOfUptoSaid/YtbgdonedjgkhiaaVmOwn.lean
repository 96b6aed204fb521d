/- Elements of growing slices of one's own: read and written. -/
import Derived.Test.YtbgdonedjgkhiaaVmPure2
import Derived.Laws.CopyRow
import Derived.Laws.IdiomCopy
set_option linter.unusedVariables false
set_option linter.unusedSimpArgs false
namespace Go.Vm
section
variable {C : Ctx} {Q : Exit → St → Prop} {ops : Array Oper} {rest : List Oper} {o : Oper} {e : List (Nat × SV)} {obs : List Ob} {d : Nat}
/-- What the slice is, if it has elements. -/
theorem Rel.growP {Ω : List Value} {a : Act} {w : World} (hr : Rel C ⟨e, obs⟩ Ω a w) {p : Nat} {ty sz : Nat} {cells : List D} {h : Value} (hp : obs[p]? = some (.grow ty sz cells)) (hΩ : Ω[p]? = some h) (h0 : 0 < cells.length) :
    ∃ g n cap cur, h = .slice (some ⟨g, 0, none⟩) n cap ∧ w.heap[g]? = some (.cells cur ty (0, 0)) ∧ cells.length = n * sz ∧ n ≤ cap ∧ cap ≤ maxLen ∧ cur.size = cap * sz ∧
      (∀ (i : Nat) x, cells[i]? = some x → ∃ y, cur.toList[i]? = some y ∧ RepD w (okB C obs Ω w) x y) := by
  obtain ⟨n, xs, ⟨hl, ho⟩, hxl, hrr⟩ := hr.mem.obj p _ _ hp hΩ
  rcases ho with ⟨_, hn⟩ | ⟨g, cap, cur, hv, _, hw, hnc, hcm, hcs, htk⟩
  · exfalso; rw [hn] at hl; simp at hl; rw [hl] at hxl; simp at hxl; omega
  · refine ⟨g, n, cap, cur, hv, hw, by omega, hnc, hcm, hcs, fun i x hx => ?_⟩
    have hi := (List.getElem?_eq_some_iff.1 hx).1
    obtain ⟨y, hxi⟩ : ∃ y, xs[i]? = some y := ⟨_, List.getElem?_eq_getElem (by omega)⟩
    refine ⟨y, ?_, hrr i x y hx hxi⟩
    rw [← htk, List.getElem?_take] at hxi
    split at hxi
    · exact hxi
    · cases hxi
theorem Rel.ptrG' {Ω : List Value} {a : Act} {w : World} (hr : Rel C ⟨e, obs⟩ Ω a w) {p off : Nat} {ty sz : Nat} {cells : List D} {v : Value} (hp : obs[p]? = some (.grow ty sz cells)) (h0 : 0 < cells.length)
    (hv : RepS w (okB C obs Ω w) Ω (.ptr p off) v) : ∃ g n cap cur, v = .pointer (some ⟨g, off, none⟩) ∧ Ω[p]? = some (.slice (some ⟨g, 0, none⟩) n cap) ∧ w.heap[g]? = some (.cells cur ty (0, 0)) ∧ cells.length = n * sz ∧ n ≤ cap ∧ cap ≤ maxLen ∧ cur.size = cap * sz ∧
      (∀ (i : Nat) x, cells[i]? = some x → ∃ y, cur.toList[i]? = some y ∧ RepD w (okB C obs Ω w) x y) := by
  cases hv with
  | ptr _ _ b hb =>
    obtain ⟨g, n, cap, cur, h1, _⟩ := hr.growP hp hb h0
    cases h1
  | ptrG _ _ b len cap hb =>
    obtain ⟨g, n, cap, cur, h1, h2⟩ := hr.growP hp hb h0
    cases h1
    exact ⟨b, len, cap, cur, rfl, hb, h2⟩
theorem AOp.indexOwn {t el sz : TypeId} {x ix : Operand} {k : IntKind} {i : Int} {p n : Nat} {cells : List D} (ho : o.op = .indexAddr t x ix) (hd : o.dst = some d) (hn : d < C.n) (hx : opS ⟨e, obs⟩ x = some (.own p))
    (hi : opS ⟨e, obs⟩ ix = some (.d (.v (.int k i)))) (ht : elemT C.P t = some (el, sz)) (hp : obs[p]? = some (.grow el sz cells)) (hs : 0 < sz) (hc : cells.length = n * sz) (h0 : 0 ≤ i) (h1 : i < (n : Int))
    (h : AO C ops rest ⟨(d, .ptr p (i.toNat * sz)) :: e, obs⟩ Q) : AOp C ops rest o ⟨e, obs⟩ Q :=
  AOp.value hd hn (fun Ω a w hr => by
    have hi := hr.evalV hi
    have hv := hr.eval hx
    generalize hev : a.eval x = v at hv
    cases hv with
    | own _ _ hb _ =>
      have hpos : 0 < cells.length := by
        rw [hc]; exact Nat.mul_pos (by omega) hs
      obtain ⟨g, m, cap, cur, rfl, hw, hcl, _⟩ := hr.growP hp hb hpos
      have hmn : m = n := Nat.eq_of_mul_eq_mul_right hs (by rw [← hcl, hc])
      subst hmn
      refine ⟨_, ?_, .ptrG p (i.toNat * sz) g m cap hb⟩
      have := run_indexSlice (P := C.P) ht k i g 0 m cap h0 h1 (w := w)
      simp only [Nat.zero_add] at this
      simp only [execOp, ho, hev, hi, this, Sem.run_bind, Sem.run_pure, Result.andThen_ok]) h
theorem AOp.loadO1 {t : TypeId} {x : Operand} {p off : Nat} {ty sz : Nat} {cells : List D} {y : D} (ho : o.op = .load t x) (hd : o.dst = some d) (hn : d < C.n) (hx : opS ⟨e, obs⟩ x = some (.ptr p off))
    (ht : aggT C.P t = some false) (hp : obs[p]? = some (.grow ty sz cells)) (hc : cells[off]? = some y) (h : AO C ops rest ⟨(d, .d y) :: e, obs⟩ Q) : AOp C ops rest o ⟨e, obs⟩ Q :=
  AOp.value hd hn (fun Ω a w hr => by
    have hlt := (List.getElem?_eq_some_iff.1 hc).1
    obtain ⟨g, n, cap, cur, hev, hΩ, hw, hcl, _, _, _, hrr⟩ := hr.ptrG' hp (by omega) (hr.eval hx)
    obtain ⟨v, hv, hrep⟩ := hrr off y hc
    refine ⟨v, ?_, .d _ _ hrep⟩
    have hcell : w.cell? ⟨g, off, none⟩ = some v := by rw [cell_of_row w g off cur ty (0, 0) hw]; simpa using hv
    simp only [execOp, ho, hev, Instr.loadAt, Instr.sureAddr, Sem.run_bind, Sem.run_pure, Result.andThen_ok, run_load1 ht hcell]) h
theorem AOp.loadON {t : TypeId} {x : Operand} {p off n : Nat} {ty sz : Nat} {cells ys : List D} (ho : o.op = .load t x) (hd : o.dst = some d) (hn : d < C.n) (hx : opS ⟨e, obs⟩ x = some (.ptr p off))
    (ht : aggT C.P t = some true) (hs : sizeT C.P t = some n) (hp : obs[p]? = some (.grow ty sz cells)) (h0 : 0 < cells.length) (hc : off + n ≤ cells.length) (hy : (cells.drop off).take n = ys) (h : AO C ops rest ⟨(d, .d (.ag ys)) :: e, obs⟩ Q) : AOp C ops rest o ⟨e, obs⟩ Q :=
  AOp.value hd hn (fun Ω a w hr => by
    subst hy
    obtain ⟨g, m, cap, cur, hev, hΩ, hw, hcl, hmc, _, hcs, hrr⟩ := hr.ptrG' hp h0 (hr.eval hx)
    have hlen : cells.length ≤ cur.toList.length := by
      rw [hcl]; simp [hcs]; exact Nat.mul_le_mul_right _ hmc
    refine ⟨.agg ((cur.toList.drop off).take n).toArray, ?_, .d _ _ (.ag _ _ (by simp at hlen ⊢; omega) fun i x y hx hy => ?_)⟩
    · have := run_loadN (P := C.P) (w := w) (b := g) (off := off) (vs := (cur.toList.drop off).take n) ht hs (by simp at hlen ⊢; omega) (fun j hj => by
        rw [cell_of_row w g (off + j) cur ty (0, 0) hw, List.getElem?_take, if_pos hj, List.getElem?_drop]; simp)
      simp only [execOp, ho, hev, Instr.loadAt, Instr.sureAddr, Sem.run_bind, Sem.run_pure, Result.andThen_ok, this]
    · rw [List.getElem?_take] at hx hy
      split at hx
      · rename_i hi
        rw [if_pos hi] at hy
        rw [List.getElem?_drop] at hx hy
        obtain ⟨v, hv, hrep⟩ := hrr _ _ hx
        rw [hv] at hy; cases hy
        exact hrep
      · cases hx) h
theorem Mem.setG {C : Ctx} {obs : List Ob} {Ω : List Value} {w : World} (h : Mem C obs Ω w) {o g n cap sz : Nat} {ty : TypeId} {cells cells' : List D} {cur cur' : List Value} (ho : obs[o]? = some (.grow ty sz cells))
    (hΩ : Ω[o]? = some (.slice (some ⟨g, 0, none⟩) n cap)) (hw : w.heap[g]? = some (.cells cur.toArray ty (0, 0))) (hcl : cells'.length = n * sz) (hnc : n ≤ cap) (hcm : cap ≤ maxLen) (hcs : cur'.length = cap * sz)
    (hr : ∀ (i : Nat) x, cells'[i]? = some x → ∃ y, cur'[i]? = some y ∧ RepD w (okB C obs Ω w) x y) :
    Mem C (obs.set o (.grow ty sz cells')) Ω (w.setRow g cur'.toArray) ∧ (∀ k, okB C obs Ω w k → okB C (obs.set o (.grow ty sz cells')) Ω (w.setRow g cur'.toArray) k ∧ (w.setRow g cur'.toArray).heap[k]? = w.heap[k]?) := by
  have hok : ∀ k, okB C obs Ω w k → okB C (obs.set o (.grow ty sz cells')) Ω (w.setRow g cur'.toArray) k ∧ (w.setRow g cur'.toArray).heap[k]? = w.heap[k]? := by
    intro k hk
    refine ⟨okB_set ho (.inl rfl) (by simp) hk, setRow_other w g k _ fun e => ?_⟩
    subst e
    exact hk.2.2 o _ _ ho rfl hΩ rfl
  refine ⟨⟨by simp [h.len], fun i ob k e1 e2 => ?_, fun i j a c p q x hij e1 e2 l1 l2 e3 e4 hp => ?_, fun i ob p x e1 l1 e2 hp => ?_, ?_⟩, hok⟩
  · rcases get_set e1 with ⟨rfl, rfl, _⟩ | ⟨hi, e1⟩
    · rw [hΩ] at e2; cases e2
      have hle : n * sz ≤ cap * sz := Nat.mul_le_mul_right _ hnc
      refine ⟨n, cur'.take (n * sz), ⟨by simp; omega, .inr ⟨g, cap, cur'.toArray, rfl, Nat.zero_le _, setRow_heap w g _ _ ty _ hw, hnc, hcm, by simp [hcs], by simp⟩⟩, by simp; omega, fun i x y hx hy => ?_⟩
      obtain ⟨z, hz, hrep⟩ := hr i x hx
      rw [List.getElem?_take] at hy
      split at hy
      · rw [hz] at hy; cases hy; exact hrep.mono hok
      · cases hy
    · refine (h.obj i ob k e1 e2).mono hok (fun _ _ e => e) fun c hc hv => setRow_other w g c _ fun e => ?_
      subst e
      exact h.sep o i _ _ _ _ _ (Ne.symm hi) ho e1 rfl hv hΩ e2 rfl hc
  · rcases get_set e1 with ⟨f1, f2, _⟩ | ⟨hi, f1⟩ <;> rcases get_set e2 with ⟨g1, g2, _⟩ | ⟨hj, g1⟩
    · exact (hij (f1.trans g1.symm)).elim
    · subst f1; exact h.sep i j _ _ p q x hij ho g1 rfl l2 e3 e4 hp
    · subst g1; exact h.sep i j _ _ p q x hij f1 ho l1 rfl e3 e4 hp
    · exact h.sep i j a c p q x hij f1 g1 l1 l2 e3 e4 hp
  · rcases get_set e1 with ⟨rfl, rfl, _⟩ | ⟨hi, e1⟩
    · exact h.new i _ p x ho rfl e2 hp
    · exact h.new i ob p x e1 l1 e2 hp
  · refine ⟨h.fr.os, h.fr.tape, h.fr.output, by simp; exact h.fr.size, fun c e1 e2 => ?_, h.fr.glob⟩
    rw [setRow_other w g c _ fun e => ?_]
    · exact h.fr.block c e1 e2
    · subst e
      rcases h.new o _ _ c ho rfl hΩ rfl with hn | hn
      · omega
      · exact e2 hn
/-- One element, of one cell, is written. -/
theorem AOp.storeO1 {t : TypeId} {x y : Operand} {p off : Nat} {ty sz : Nat} {cells : List D} {z : D} (ho : o.op = .store t x y) (hd : o.dst = none) (hx : opS ⟨e, obs⟩ x = some (.ptr p off)) (hy : opS ⟨e, obs⟩ y = some (.d z))
    (hs : sizeT C.P t = some 1) (h1 : (SV.d z).plain = true) (hl : cellsS (.d z) = [.d z]) (hp : obs[p]? = some (.grow ty sz cells)) (hc : off < cells.length)
    (h : AO C ops rest ⟨e, obs.set p (.grow ty sz (cells.set off z))⟩ Q) : AOp C ops rest o ⟨e, obs⟩ Q := by
  refine AOp.skip hd (fun Ω a w hr => ?_) h
  obtain ⟨g, n, cap, cur, hev, hΩ, hw, hcl, hnc, hcm, hcs, hrr⟩ := hr.ptrG' hp (by omega) (hr.eval hx)
  obtain ⟨us, huc, hul, hur, huone⟩ := (hr.eval hy).cells (by rw [hl]; simp [h1])
  rw [hl] at hul hur
  obtain ⟨v, rfl⟩ : ∃ v, us = [v] := by
    cases us with
    | nil => simp at hul
    | cons v r => cases r with
      | nil => exact ⟨v, rfl⟩
      | cons => simp at hul
  have hrep : RepS w (okB C obs Ω w) Ω (.d z) v := hur 0 _ _ rfl rfl
  have hlen : cells.length ≤ cur.toList.length := by rw [hcl]; simp [hcs]; exact Nat.mul_le_mul_right _ hnc
  have hst := run_storeCells_at C.P g off ty [v] 0 cur.toList.toArray w (by simpa using hw) (by simp at hlen ⊢; omega) huone
  simp only [Nat.add_zero] at hst
  have hset : cur.toList.take off ++ [v] ++ cur.toList.drop (off + [v].length) = cur.toList.set off v := by
    rw [List.set_eq_take_append_cons_drop, if_pos (by omega)]; simp
  have key := hr.mem.setG hp hΩ (cur := cur.toList) (by simpa using hw) (cells' := cells.set off z) (cur' := cur.toList.take off ++ [v] ++ cur.toList.drop (off + [v].length)) (by simpa using hcl) hnc hcm (by rw [hset]; simpa using hcs) (fun i x hx => by
    rw [hset]
    by_cases hi : off = i
    · subst hi
      rw [List.getElem?_set_self hc] at hx
      cases hx
      refine ⟨v, by rw [List.getElem?_set_self (by omega)], ?_⟩
      cases hrep with
      | d _ _ hd => exact hd
    · rw [List.getElem?_set_ne hi] at hx ⊢
      exact hrr i x hx)
  have hrel : Rel C ⟨e, obs.set p (.grow ty sz (cells.set off z))⟩ Ω a (w.setRow g (cur.toList.take off ++ [v] ++ cur.toList.drop (off + [v].length)).toArray) :=
    ⟨hr.defers, hr.size, fun t x hx => let ⟨v, hv, hr'⟩ := hr.env t x hx; ⟨v, hv, hr'.mono key.2 (fun _ _ e => e)⟩, key.1⟩
  refine ⟨_, Ω, ?_, hrel⟩
  have hsz : (a.eval y).cells.size = 1 := by rw [huc]; rfl
  have huc' : (a.eval y).cells.toList = [v] := by rw [huc]
  simp only [execOp, ho, hev, Instr.storeAt, Instr.sureAddr, storeVar, Sem.run_bind, Sem.run_pure, Result.andThen_ok, run_sizeOf hs, hsz, ne_eq, not_true_eq_false, if_false, huc', hst, Sem.run_ite]
theorem AOp.storeOL {α : Type} {f : α → D} {l : List α} {i : Nat} {v : α} {t : TypeId} {x y : Operand} {p : Nat} {ty : Nat} (ho : o.op = .store t x y) (hd : o.dst = none) (hx : opS ⟨e, obs⟩ x = some (.ptr p (i * 1))) (hy : opS ⟨e, obs⟩ y = some (.d (f v)))
    (hs : sizeT C.P t = some 1) (h1 : (SV.d (f v)).plain = true) (hl : cellsS (.d (f v)) = [.d (f v)]) (hp : obs[p]? = some (.grow ty 1 (l.map f))) (hc : i < l.length)
    (h : AO C ops rest ⟨e, obs.set p (.grow ty 1 ((l.set i v).map f))⟩ Q) : AOp C ops rest o ⟨e, obs⟩ Q :=
  AOp.storeO1 ho hd hx hy hs h1 hl hp (by simpa using hc) (by rw [List.map_set] at h; simpa using h)
theorem AOp.storeO {t : TypeId} {x y : Operand} {p off n : Nat} {ty sz : Nat} {cells ys : List D} {sv : SV} (ho : o.op = .store t x y) (hd : o.dst = none) (hx : opS ⟨e, obs⟩ x = some (.ptr p off)) (hy : opS ⟨e, obs⟩ y = some sv)
    (hs : sizeT C.P t = some n) (h1 : (cellsS sv).all SV.plain = true) (hl : cellsS sv = ys.map SV.d) (hn : ys.length = n) (hp : obs[p]? = some (.grow ty sz cells)) (h0 : 0 < cells.length) (hc : off + n ≤ cells.length)
    (h : AO C ops rest ⟨e, obs.set p (.grow ty sz (cells.take off ++ ys ++ cells.drop (off + n)))⟩ Q) : AOp C ops rest o ⟨e, obs⟩ Q := by
  refine AOp.skip hd (fun Ω a w hr => ?_) h
  obtain ⟨g, m, cap, cur, hev, hΩ, hw, hcl, hnc, hcm, hcs, hrr⟩ := hr.ptrG' hp h0 (hr.eval hx)
  obtain ⟨us, huc, hul, hur, huone⟩ := (hr.eval hy).cells h1
  rw [hl] at hul hur
  rw [List.length_map, hn] at hul
  have hlen : cells.length ≤ cur.toList.length := by rw [hcl]; simp [hcs]; exact Nat.mul_le_mul_right _ hnc
  have hst := run_storeCells_at C.P g off ty us 0 cur.toList.toArray w (by simpa using hw) (by simp at hlen ⊢; omega) huone
  simp only [Nat.add_zero] at hst
  have key := hr.mem.setG hp hΩ (cur := cur.toList) (by simpa using hw) (cells' := cells.take off ++ ys ++ cells.drop (off + n)) (cur' := cur.toList.take off ++ us ++ cur.toList.drop (off + us.length)) (by simp; omega) hnc hcm (by simp at hlen ⊢; omega) (fun i x hx => by
    have la : (cells.take off).length = off := by simp; omega
    have lb : (cur.toList.take off).length = off := by simp at hlen ⊢; omega
    rw [List.append_assoc, List.getElem?_append] at hx
    rw [List.append_assoc, List.getElem?_append]
    rw [la] at hx
    rw [lb]
    split at hx
    · rename_i hi
      rw [if_pos hi]
      rw [List.getElem?_take, if_pos hi] at hx ⊢
      exact hrr i x hx
    · rename_i hi
      rw [if_neg hi]
      rw [List.getElem?_append] at hx ⊢
      split at hx
      · rename_i hj
        rw [if_pos (by omega)]
        obtain ⟨z, hz⟩ : ∃ z, us[i - off]? = some z := ⟨_, List.getElem?_eq_getElem (by omega)⟩
        have := hur (i - off) (.d x) z (by rw [List.getElem?_map, hx]; rfl) hz
        cases this with
        | d _ _ hd => exact ⟨z, hz, hd⟩
      · rename_i hj
        rw [if_neg (by omega)]
        rw [List.getElem?_drop] at hx ⊢
        rw [hul]
        rw [hn] at hx
        exact hrr _ x hx)
  have hrel : Rel C ⟨e, obs.set p (.grow ty sz (cells.take off ++ ys ++ cells.drop (off + n)))⟩ Ω a (w.setRow g (cur.toList.take off ++ us ++ cur.toList.drop (off + us.length)).toArray) :=
    ⟨hr.defers, hr.size, fun t x hx => let ⟨v, hv, hr'⟩ := hr.env t x hx; ⟨v, hv, hr'.mono key.2 (fun _ _ e => e)⟩, key.1⟩
  refine ⟨_, Ω, ?_, hrel⟩
  have hsz : (a.eval y).cells.size = n := by rw [huc]; simp; omega
  have huc' : (a.eval y).cells.toList = us := by rw [huc]
  simp only [execOp, ho, hev, Instr.storeAt, Instr.sureAddr, storeVar, Sem.run_bind, Sem.run_pure, Result.andThen_ok, run_sizeOf hs, hsz, ne_eq, not_true_eq_false, if_false, huc', hst, Sem.run_ite]
theorem setN {α : Type} (f : α → List D) (sz : Nat) (hf : ∀ x, (f x).length = sz) (v : α) : ∀ (l : List α) (i : Nat), i < l.length → (l.flatMap f).take (i * sz) ++ f v ++ (l.flatMap f).drop (i * sz + sz) = (l.set i v).flatMap f
  | [], i, h => by simp at h
  | a :: l, 0, h => by
    have : sz - (f a).length = 0 := by rw [hf]; omega
    simp [List.drop_append, hf]
  | a :: l, i + 1, h => by
    have ih := setN f sz hf v l i (by simpa using h)
    simp only [List.flatMap_cons, List.set_cons_succ]
    rw [← ih, List.take_append, List.drop_append, hf]
    have e1 : (i + 1) * sz - sz = i * sz := by rw [Nat.add_mul]; omega
    have e2 : (i + 1) * sz + sz - sz = i * sz + sz := by rw [Nat.add_mul]; omega
    have e3 : (f a).take ((i + 1) * sz) = f a := List.take_of_length_le (by rw [hf, Nat.add_mul]; omega)
    have e4 : (f a).drop ((i + 1) * sz + sz) = [] := List.drop_eq_nil_of_le (by rw [hf, Nat.add_mul]; omega)
    rw [e1, e2, e3, e4]
    simp
theorem AOp.storeON {α : Type} {f : α → List D} {l : List α} {i n : Nat} {v : α} {sv : SV} {t : TypeId} {x y : Operand} {p : Nat} {ty : Nat} (hf : ∀ x, (f x).length = n) (hn : 0 < n) (ho : o.op = .store t x y) (hd : o.dst = none) (hx : opS ⟨e, obs⟩ x = some (.ptr p (i * n))) (hy : opS ⟨e, obs⟩ y = some sv)
    (hs : sizeT C.P t = some n) (h1 : (cellsS sv).all SV.plain = true) (hl : cellsS sv = (f v).map SV.d) (hp : obs[p]? = some (.grow ty n (l.flatMap f))) (hc : i < l.length)
    (h : AO C ops rest ⟨e, obs.set p (.grow ty n ((l.set i v).flatMap f))⟩ Q) : AOp C ops rest o ⟨e, obs⟩ Q := by
  have hle : i * n + n ≤ (l.flatMap f).length := by
    rw [lenN f n hf]
    have : (i + 1) * n ≤ l.length * n := Nat.mul_le_mul_right _ hc
    rw [Nat.add_mul] at this; omega
  exact AOp.storeO ho hd hx hy hs h1 hl (hf v) hp (by omega) hle (by rw [setN f n hf v l i hc]; exact h)
/-- copy into a slice made by make, of cells of one word. -/
theorem AOp.copyL {α : Type} {k : α → D} {l l2 : List α} {m n c : Nat} {t t2 : TypeId} {x y : Operand} {p ty el : Nat} (ho : o.op = .call { callee := .builtin .copy, args := #[x, y], argTypes := #[t, t2] }) (hd : o.dst = some d) (hn : d < C.n)
    (hx : opS ⟨e, obs⟩ x = some (.sl p 1 0 n c)) (hy : opS ⟨e, obs⟩ y = some (.d (.ds 1 (l2.map k)))) (ht : elemT C.P t = some (el, 1)) (hp : obs[p]? = some (.fix ty (l.map fun z => SV.d (k z)))) (hln : n = l.length) (hk : ∀ z, (k z).one = true)
    (hm : m = min l2.length l.length) (h : AO C ops rest ⟨(d, .d (.v (.int .i64 (m : Int)))) :: e, obs.set p (.fix ty ((l2.take m ++ l.drop m).map fun z => SV.d (k z)))⟩ Q) : AOp C ops rest o ⟨e, obs⟩ Q := by
  refine AOp.step hd hn (fun Ω a w hr => ?_) h
  obtain ⟨hu, hs⟩ := elemT_spec ht
  have hs1 : (C.P.info? el).map (·.size) = some 1 := hs
  have hvx := hr.eval hx
  have hvy := hr.eval hy
  generalize hex : a.eval x = u at hvx
  generalize hey : a.eval y = v at hvy
  cases hvx with
  | sl _ _ _ _ _ b hb =>
    obtain ⟨b', vs, he, hw, hvl, hrr, hone⟩ := hr.mem.obj p _ _ hp hb
    cases he
    rw [List.length_map] at hvl
    -- the source's cells
    have hsrc : ∃ (ad : Option Addr) (sl sc : Nat) (cs : List Value), v = .slice ad sl sc ∧ sl = l2.length ∧ cs.length = m ∧ (∀ (i : Nat) z, l2[i]? = some z → i < m → ∃ u, cs[i]? = some u ∧ RepD w (okB C obs Ω w) (k z) u ∧ u.oneCell' = true) ∧
        (m = 0 ∨ ∃ a0, ad = some a0 ∧ ∀ j u, cs[j]? = some u → w.cell? (a0.add j) = some u) := by
      cases hvy with
      | d _ _ hvy =>
        generalize hc : l2.map k = cells at hvy
        cases hvy with
        | nil _ ad cp =>
          have : l2 = [] := by simpa using hc
          subst this
          exact ⟨ad, 0, cp, [], rfl, rfl, by simp [hm], fun i z hz => by simp at hz, .inl (by simp [hm])⟩
        | ds _ b2 off len cap _ vals hcl hcc hok hcell hrr2 =>
          subst hc
          rw [List.length_map] at hcl
          refine ⟨_, len, cap, (List.range m).map vals, rfl, by omega, by simp, fun i z hz hi => ⟨vals i, by simp [hi], ?_⟩, .inr ⟨_, rfl, fun j u hj => ?_⟩⟩
          · have hrep := hrr2 i (k z) (by rw [List.getElem?_map, hz]; rfl)
            exact ⟨hrep, hrep.one (hk z)⟩
          · have hjm := (List.getElem?_eq_some_iff.1 hj).1
            simp at hjm
            simp [hjm] at hj
            subst hj
            have := hcell j (by simp; omega)
            have ea : (⟨b2, off, none⟩ : Addr).add j = ⟨b2, off + j, none⟩ := by unfold Addr.add; split <;> simp_all
            rw [ea]; exact this
    obtain ⟨ad, sl, sc, cs, rfl, hsl, hcs, hcsr, had⟩ := hsrc
    have hml : m ≤ l.length := by omega
    have hone' : ∀ u, u ∈ cs → u.oneCell' = true := fun u hu => by
      obtain ⟨i, hi⟩ := List.getElem?_of_mem hu
      have hlt := (List.getElem?_eq_some_iff.1 hi).1
      obtain ⟨z, hz⟩ : ∃ z, l2[i]? = some z := ⟨_, List.getElem?_eq_getElem (by omega)⟩
      obtain ⟨u', h1, _, h2⟩ := hcsr i z hz (by omega)
      rw [hi] at h1; cases h1; exact h2
    have hrun : (Builtin.copy_ #[t, t2] o.type #[.slice (some ⟨b, 0, none⟩) n c, .slice ad sl sc]).run C.P w = .ok (goInt cs.length) (w.setRow b (vs.take 0 ++ cs ++ vs.drop (0 + cs.length)).toArray) := by
      rcases had with h0 | ⟨a0, rfl, hcell⟩
      · have hc0 : cs = [] := List.eq_nil_of_length_eq_zero (by omega)
        subst hc0
        have := run_copy_none (P := C.P) w t t2 o.type el (some ⟨b, 0, none⟩) ad n c sl sc hu hs1 (show min sl n = 0 by omega)
        rw [this]
        simp only [List.length_nil, List.take_zero, List.nil_append, Nat.add_zero, List.drop_zero]
        rw [setRow_self w b vs.toArray ty (0, 0) hw]
        rfl
      · have := run_copy_row (P := C.P) w t t2 o.type el b 0 n c a0 sl sc vs.toArray ty cs hu hs1 hw (by rw [hcs, hm, hsl, hln]) hcell (by simp <;> omega) hone'
        simpa using this
    have key := hr.mem.set hp hb hw (vs.take 0 ++ cs ++ vs.drop (0 + cs.length)) (cells' := (l2.take m ++ l.drop m).map fun z => SV.d (k z)) (by simp; omega) (fun i x y hx hy => by
      rw [List.getElem?_map, Option.map_eq_some_iff] at hx
      obtain ⟨z, hz, rfl⟩ := hx
      simp only [List.take_zero, List.nil_append, Nat.zero_add] at hy
      rw [List.getElem?_append] at hz hy
      have l1 : (l2.take m).length = m := by simp; omega
      rw [l1] at hz
      rw [hcs] at hy
      split at hz
      · rename_i hi
        rw [if_pos hi] at hy
        rw [List.getElem?_take, if_pos hi] at hz
        obtain ⟨u', h1, h2, _⟩ := hcsr i z hz hi
        rw [hy] at h1; cases h1
        exact .d _ _ h2
      · rename_i hi
        rw [if_neg hi] at hy
        rw [List.getElem?_drop] at hz hy
        exact hrr (m + (i - m)) (.d (k z)) y (by rw [List.getElem?_map, hz]; rfl) hy) (fun y hy => by
      rcases List.mem_append.1 hy with hy | hy
      · rcases List.mem_append.1 hy with hy | hy
        · simp at hy
        · exact hone' y hy
      · exact hone y (List.mem_of_mem_drop hy))
    refine ⟨.int .i64 (m : Int), _, Ω, ?_, ⟨hr.defers, hr.size, fun t x hx => let ⟨v, hv, hr'⟩ := hr.env t x hx; ⟨v, hv, hr'.mono key.2 (fun _ _ e => e)⟩, key.1⟩, .d _ _ (.v _)⟩
    simp [execOp, ho, hex, hey, resolve, invoke, builtin, hrun, hcs, goInt]
theorem AOp.copyL2 {α : Type} {k : α → D} {l l2 l3 : List α} {m n c : Nat} {t t2 : TypeId} {x y : Operand} {p ty el : Nat} (ho : o.op = .call { callee := .builtin .copy, args := #[x, y], argTypes := #[t, t2] }) (hd : o.dst = some d) (hn : d < C.n)
    (hx : opS ⟨e, obs⟩ x = some (.sl p 1 0 n c)) (hy : opS ⟨e, obs⟩ y = some (.d (.ds 1 (l2.map k)))) (ht : elemT C.P t = some (el, 1)) (hp : obs[p]? = some (.fix ty (l.map fun z => SV.d (k z)))) (hln : n = l.length) (hk : ∀ z, (k z).one = true)
    (hm : m = min l2.length l.length) (h3 : l2.take m ++ l.drop m = l3) (h : AO C ops rest ⟨(d, .d (.v (.int .i64 (m : Int)))) :: e, obs.set p (.fix ty (l3.map fun z => SV.d (k z)))⟩ Q) : AOp C ops rest o ⟨e, obs⟩ Q := by
  subst h3; exact AOp.copyL ho hd hn hx hy ht hp hln hk hm h
end
end Go.Vm
