/- Errors in package variables, compared; method values that only are looked at; parts of slices of the call's own; package variables without cells. -/
import Derived.Test.YtbgdonedjgkhiaaVmPan
import Derived.Test.YtbgdonedjgkhiaaVmArr
import Derived.Test.YtbgdonedjgkhiaaVmNew
import Derived.LaidLaws
set_option linter.unusedVariables false
namespace Go.Vm
section
variable {C : Ctx} {Q : Exit → St → Prop} {ops : Array Oper} {rest : List Oper} {o : Oper} {e : List (Nat × SV)} {obs : List Ob} {d : Nat} {t ty : TypeId} {x y : Operand}
/-- What a package variable of one cell holds at first. -/
def errV (W : World) (g : Nat) : Value := (W.cell? ⟨g, 0, none⟩).getD .nilIface
theorem errV_p {W : World} (h : HoldsG W) {g : Nat} (hg : g ∈ GlobsP) : g < W.heap.size ∧ ∃ u a, errV W g = .iface u (.pointer (some a)) ∧ W.cell? ⟨g, 0, none⟩ = some (errV W g) ∧ ErrT u := by
  obtain ⟨h1, u, a, h2, h4⟩ := h.2.2 g hg
  have h3 : errV W g = .iface u (.pointer (some a)) := by unfold errV; rw [h2]; rfl
  exact ⟨h1, u, a, h3, by rw [h3]; exact h2, h4⟩
theorem AOp.loadEV {g : Nat} (ho : o.op = .load t (.global g)) (hd : o.dst = some d) (hn : d < C.n) (hm : C.may = []) (ht : aggT C.P t = some false) (hg : g ∈ GlobsP)
    (h : AO C ops rest ⟨(d, .d (.v (errV C.W g))) :: e, obs⟩ Q) : AOp C ops rest o ⟨e, obs⟩ Q :=
  AOp.value hd hn (fun Ω a w hr => by
    obtain ⟨hlt, u, b, hv, hc0, _⟩ := errV_p hr.mem.fr.glob hg
    have hc : w.cell? ⟨g, 0, none⟩ = some (errV C.W g) := by rw [← hc0]; exact cell_heap (hr.mem.fr.block g hlt (by rw [hm]; simp))
    refine ⟨errV C.W g, ?_, .d _ _ (.v _)⟩
    have hev : a.eval (.global g) = .pointer (some ⟨g, 0, none⟩) := rfl
    simp only [execOp, ho, hev, Instr.loadAt, Instr.sureAddr, Sem.run_bind, Sem.run_pure, Result.andThen_ok, run_load1 ht hc]) h
theorem AOp.errNeq {g : Nat} (ho : o.op = .binOp .neq t x (.const .nilIface) ty) (hd : o.dst = some d) (hn : d < C.n) (hx : opS ⟨e, obs⟩ x = some (.d (.v (errV C.W g)))) (hg : g ∈ GlobsP) (ht : C.P.underlying t = some (.interface (C.P.methodsAt t)))
    (h : AO C ops rest ⟨(d, .d (dbool true)) :: e, obs⟩ Q) : AOp C ops rest o ⟨e, obs⟩ Q :=
  AOp.value hd hn (fun Ω a w hr => by
    obtain ⟨hlt, u, b, hv, hc0, _⟩ := errV_p hr.mem.fr.glob hg
    have he := hr.evalV hx
    rw [hv] at he
    refine ⟨.bool true, ?_, .d _ _ (.v _)⟩
    have hy : a.eval (.const .nilIface) = .nilIface := rfl
    have hgd : eqGuard .neq t x (.const .nilIface) (.iface u (.pointer (some b))) .nilIface = pure () := rfl
    simp only [execOp, ho, he, hy, hgd, Sem.run_bind, Sem.run_pure, Result.andThen_ok, run_neq_held_nil w t u (.pointer (some b)) ht]) h
theorem AOp.errEql {g : Nat} (ho : o.op = .binOp .eql t x (.const .nilIface) ty) (hd : o.dst = some d) (hn : d < C.n) (hx : opS ⟨e, obs⟩ x = some (.d (.v (errV C.W g)))) (hg : g ∈ GlobsP) (ht : C.P.underlying t = some (.interface (C.P.methodsAt t)))
    (h : AO C ops rest ⟨(d, .d (dbool false)) :: e, obs⟩ Q) : AOp C ops rest o ⟨e, obs⟩ Q :=
  AOp.value hd hn (fun Ω a w hr => by
    obtain ⟨hlt, u, b, hv, hc0, _⟩ := errV_p hr.mem.fr.glob hg
    have he := hr.evalV hx
    rw [hv] at he
    refine ⟨.bool false, ?_, .d _ _ (.v _)⟩
    have hy : a.eval (.const .nilIface) = .nilIface := rfl
    have hgd : eqGuard .eql t x (.const .nilIface) (.iface u (.pointer (some b))) .nilIface = pure () := rfl
    simp only [execOp, ho, he, hy, hgd, Sem.run_bind, Sem.run_pure, Result.andThen_ok, run_eql_held_nil w t u (.pointer (some b)) ht]) h
theorem run_sameAddr (P : Program) (w : World) (a : Addr) : (sameAddr a a).run P w = .ok true w := by
  unfold sameAddr
  simp
theorem run_und {P : Program} {u : TypeId} {dd : TypeDesc} (h : P.underlying u = some dd) (w : World) : (underlying u).run P w = .ok dd w := by
  unfold underlying
  simp [h]
theorem run_tyi {P : Program} {u : TypeId} {i : TypeInfo} (h : P.info? u = some i) (w : World) : (typeInfo u).run P w = .ok i w := by
  unfold typeInfo
  simp [h]
theorem run_eql_ptr {P : Program} {t u : TypeId} (hc : cmpP P u = true) (ht : P.underlying t = some (.interface (P.methodsAt t))) (w : World) (a : Addr) :
    (binOp .eql t (.iface u (.pointer (some a))) (.iface u (.pointer (some a)))).run P w = .ok (.bool true) w := by
  unfold cmpP at hc
  split at hc
  · rename_i i el hi hu
    simp only [Bool.and_eq_true] at hc
    obtain ⟨j, hj⟩ := Option.isSome_iff_exists.1 hc.2
    have h1 : (Op.equalIn 9999 u (.pointer (some a)) (.pointer (some a))).run P w = .ok true w := by
      show (Op.equalIn (9998 + 1) u (.pointer (some a)) (.pointer (some a))).run P w = .ok true w
      unfold Op.equalIn
      by_cases hz : j.size = 0 <;> simp [run_und hu, run_tyi hj, hz, run_sameAddr, sizeOf]
    have h2 : (Op.equal t (.iface u (.pointer (some a))) (.iface u (.pointer (some a)))).run P w = .ok true w := by
      show (Op.equalIn (9999 + 1) t (.iface u (.pointer (some a))) (.iface u (.pointer (some a)))).run P w = .ok true w
      unfold Op.equalIn
      simp [run_und ht, run_tyi hi, hc.1, h1]
    simp [binOp, h2]
  · cases hc
/-- An error is the one that a package variable holds: itself. -/
theorem AOp.errSame {g : Nat} (ho : o.op = .binOp .eql t x y ty) (hd : o.dst = some d) (hn : d < C.n) (hx : opS ⟨e, obs⟩ x = some (.d (.v (errV C.W g)))) (hy : opS ⟨e, obs⟩ y = some (.d (.v (errV C.W g)))) (hg : g ∈ GlobsP) (hc : ∀ u, ErrT u → cmpP C.P u = true)
    (ht : C.P.underlying t = some (.interface (C.P.methodsAt t))) (h : AO C ops rest ⟨(d, .d (dbool true)) :: e, obs⟩ Q) : AOp C ops rest o ⟨e, obs⟩ Q :=
  AOp.value hd hn (fun Ω a w hr => by
    obtain ⟨hlt, u, b, hv, hc0, hk⟩ := errV_p hr.mem.fr.glob hg
    have he := hr.evalV hx
    have hf := hr.evalV hy
    rw [hv] at he hf
    refine ⟨.bool true, ?_, .d _ _ (.v _)⟩
    have hgd : eqGuard .eql t x y (.iface u (.pointer (some b))) (.iface u (.pointer (some b))) = pure () := rfl
    simp only [execOp, ho, he, hf, hgd, Sem.run_bind, Sem.run_pure, Result.andThen_ok, run_eql_ptr (hc u hk) ht w b]) h
/-- A package variable of a struct without fields. -/
theorem AOp.loadG0 {g : Nat} (ho : o.op = .load t (.global g)) (hd : o.dst = some d) (hn : d < C.n) (ht : aggT C.P t = some true) (hs : sizeT C.P t = some 0)
    (h : AO C ops rest ⟨(d, .ag []) :: e, obs⟩ Q) : AOp C ops rest o ⟨e, obs⟩ Q :=
  AOp.value hd hn (fun Ω a w hr => by
    refine ⟨.agg ([] : List Value).toArray, ?_, .ag _ [] rfl fun i x y hx hy => by simp at hx⟩
    have hev : a.eval (.global g) = .pointer (some ⟨g, 0, none⟩) := rfl
    have := run_loadN (P := C.P) (w := w) (b := g) (off := 0) (vs := []) ht hs rfl (fun j hj => absurd hj (by omega))
    simp only [execOp, ho, hev, Instr.loadAt, Instr.sureAddr, Sem.run_bind, Sem.run_pure, Result.andThen_ok, this]) h
/-- The method is one of the type's own; it is not called through nil. -/
def nilT (P : Program) (t : TypeId) (name : String) : Bool := match P.info? t with
  | some i => match i.methods.find? (·.name == name) with
    | some m => m.path.toList.isEmpty && match m.func with
      | some (_, true) => true
      | some (_, false) => match P.underlying t with
        | some (.pointer _) => false
        | some _ => true
        | none => false
      | none => false
    | none => false
  | none => false
theorem run_nilAhead {P : Program} {t : TypeId} {name : String} (h : nilT P t name = true) (n : Nat) (v : Value) (w : World) : (nilAhead (n + 1) t v name).run P w = .ok (some false) w := by
  unfold nilT at h
  unfold nilAhead
  cases hi : P.info? t with
  | none => simp [hi] at h
  | some i =>
    simp only [hi] at h
    cases hm : i.methods.find? (·.name == name) with
    | none => simp [hm] at h
    | some m =>
      simp only [hm, Bool.and_eq_true] at h
      have hp : m.path.toList = [] := List.isEmpty_iff.1 h.1
      obtain ⟨_, h⟩ := h
      cases hf : m.func with
      | none => simp [hf] at h
      | some fp =>
        obtain ⟨f, pr⟩ := fp
        cases pr with
        | true => simp [run_tyi hi, hm, hp, hf, followBlind]
        | false =>
          simp only [hf] at h
          cases hu : P.underlying t with
          | none => simp [hu] at h
          | some dd =>
            simp only [hu] at h
            cases dd <;> first | (simp at h; done) | simp [run_tyi hi, hm, hp, hf, followBlind, run_und hu]
/-- x.name, as a value that only is looked at: whether x is nil. -/
theorem AOp.makeMeth {name : String} {sv : SV} (ho : o.op = .makeFunc (.method name) #[x] #[]) (hd : o.dst = some d) (hn : d < C.n) (hx : opS ⟨e, obs⟩ x = some sv)
    (h : AO C ops rest ⟨(d, .fv (.method name) [sv] []) :: e, obs⟩ Q) : AOp C ops rest o ⟨e, obs⟩ Q :=
  AOp.value hd hn (fun Ω a w hr => by
    refine ⟨.func (.method name) [a.eval x].toArray ([] : List Value).toArray, ?_, .fv _ _ _ [a.eval x] [] rfl rfl (fun i z v hz hv => ?_) (fun i z v hz hv => by simp at hz)⟩
    · simp [execOp, ho, Instr.makeFunc]
    · cases i with
      | zero => cases hz; cases hv; exact hr.eval hx
      | succ i => simp at hz) h
theorem AOp.nilMeth {name : String} {sv z : SV} {u : TypeId} (ho : o.op = .nilCheck x) (hd : o.dst = some d) (hn : d < C.n) (hx : opS ⟨e, obs⟩ x = some (.fv (.method name) [sv] [])) (hs : ifcS sv = some (u, z)) (ht : nilT C.P u name = true)
    (h : AO C ops rest ⟨(d, .any) :: e, obs⟩ Q) : AOp C ops rest o ⟨e, obs⟩ Q :=
  AOp.value hd hn (fun Ω a w hr => by
    have hv := hr.eval hx
    generalize hev : a.eval x = v at hv
    cases hv with
    | fv _ _ _ fs cs hf hc hfr hcr =>
      match fs, hf with
      | [v0], _ =>
        obtain ⟨w0, rfl, _⟩ := (hfr 0 _ _ rfl rfl).ifcV hs
        refine ⟨.func (.method name) [Value.iface u w0].toArray cs.toArray, ?_, .any _⟩
        have hN : (nilAhead (C.P.types.size + Made.depth) u w0 name).run C.P w = .ok (some false) w := run_nilAhead ht (C.P.types.size + 99) w0 w
        simp [execOp, ho, hev, hN]) h
/-- s[lo:], s a slice into an object of the call's own. -/
theorem AOp.sliceSl {el sz p off len cap : Nat} {k : IntKind} {i : Int} (ho : o.op = .slice t x (some y) none none) (hd : o.dst = some d) (hn : d < C.n) (hx : opS ⟨e, obs⟩ x = some (.sl p sz off len cap)) (hy : opS ⟨e, obs⟩ y = some (.d (.v (.int k i)))) (ht : elemT C.P t = some (el, sz))
    (h0 : 0 ≤ i) (h1 : i.toNat ≤ len) (h : AO C ops rest ⟨(d, .sl p sz (if cap = i.toNat then off else off + i.toNat * sz) (len - i.toNat) (cap - i.toNat)) :: e, obs⟩ Q) : AOp C ops rest o ⟨e, obs⟩ Q :=
  AOp.value hd hn (fun Ω a w hr => by
    have hv := hr.eval hx
    generalize hev : a.eval x = v at hv
    cases hv with
    | sl _ _ _ _ _ b hob =>
      obtain ⟨hu, hso⟩ := elem_of ht
      refine ⟨_, ?_, .sl _ _ _ _ _ b hob⟩
      have := run_slice_l (P := C.P) w t (some ⟨b, off, none⟩) len cap hu k i h0 (by omega)
      simp only [execOp, ho, hev, hr.evalV hy, Option.map_some, Option.map_none, Sem.run_bind, run_sliceAt_slice w t _ _ _ _ hu, this, hso, run_sizeOf (elemT_spec ht).2, Result.andThen_ok, sliced, Sem.run_pure]
      by_cases hcc : cap = i.toNat
      · simp [hcc]
      · simp [hcc, Addr.add_of]) h
theorem AOp.sliceSl0 {el sz p len cap : Nat} {k : IntKind} (ho : o.op = .slice t x (some y) none none) (hd : o.dst = some d) (hn : d < C.n) (hx : opS ⟨e, obs⟩ x = some (.sl p sz 0 len cap)) (hy : opS ⟨e, obs⟩ y = some (.d (.v (.int k 0)))) (ht : elemT C.P t = some (el, sz))
    (h : AO C ops rest ⟨(d, .sl p sz 0 len cap) :: e, obs⟩ Q) : AOp C ops rest o ⟨e, obs⟩ Q :=
  AOp.sliceSl ho hd hn hx hy ht (Int.le_refl _) (Nat.zero_le _) (by simpa using h)
end
theorem dlt_ge {a b : Int} {v : Bool} (h : decide (a < b) = v) : decide (b ≤ a) = !v := by subst h; by_cases h : a < b <;> simp [h] <;> omega
theorem dlt_self (a : Int) : decide (a < a) = false := by simp
theorem dge_lt {a b : Int} {v : Bool} (h : decide (b ≤ a) = v) : decide (a < b) = !v := by subst h; by_cases h : b ≤ a <;> simp [h] <;> omega
section
open Go.Lib
theorem laid_ints {P : Program} {W : World} {l : List (String × DataW Unit)} {n : String} {bs : List Int} {g m : Nat} {t el : TypeId} (h : laidMet P l W) (hm : (n, .agg (bs.map fun b => .lit (.int .i64 b))) ∈ l) (hg : P.globalNamed n = some g)
    (hty : (P.globals[g]?).map (·.type) = some t) (ht : P.underlying t = some (.array m el)) (hel : P.underlying el = some (.int .i64)) (hc : P.cellsOf el = 1) (k : Nat) (b : Int) (hk : bs[k]? = some b) : g < W.heap.size ∧ W.cell? ⟨g, k, none⟩ = some (.int .i64 b) := by
  obtain ⟨g', t', cs, fuel, p, h1, h2, h3, h4⟩ := laidMet.reads h hm
  obtain rfl := Option.some.inj (hg.symm.trans h1)
  obtain rfl := Option.some.inj (hty.symm.trans h2)
  obtain ⟨xs, fm, _, ex, hlen, hl, hel'⟩ := DataW.trod_array ht h4
  have e3 := DataW.agg.inj (Prod.mk.inj ex).1
  have hx : (xs.map (·.1))[k]? = some (.lit (.int .i64 b)) := by rw [← e3, List.getElem?_map, hk]; rfl
  rw [List.getElem?_map, Option.map_eq_some_iff] at hx
  obtain ⟨x, hxk, hxb⟩ := hx
  have hkm : k < m := by rw [← hl]; exact (List.getElem?_eq_some_iff.1 hxk).1
  have hd := hel' k hkm
  rw [hxk, hc, Nat.mul_one] at hd
  have hcell : (cs.toList.drop k).take 1 = [.int .i64 b] := by
    cases fm with
    | zero => simp [DataW.trod] at hd
    | succ fm =>
      simp only [DataW.trod, hel] at hd
      generalize hq : (cs.toList.drop k).take 1 = q at *
      split at hd <;> simp_all
      all_goals (obtain ⟨_, rfl⟩ := hd; simp_all)
  have hg0 : cs.toList[k]? = some (.int .i64 b) := by
    have : ((cs.toList.drop k).take 1)[0]? = some (.int .i64 b) := by rw [hcell]; rfl
    rw [List.getElem?_take, if_pos (by omega), List.getElem?_drop] at this
    simpa using this
  have hv := World.var?_cell hg h3 k
  have hcs : cs[k]? = some (.int .i64 b) := by rw [← hg0]; simp
  exact ⟨cell_lt (by rw [hv, hcs]), by rw [hv, hcs]⟩
theorem LaidVars_place {P : Program} {w : World} : ∀ {l : List (String × DataW Unit)} {ps : List MemPlace}, DataW.LaidVars P w l ps → ∀ n d, (n, d) ∈ l → ∃ g t cs fuel p, P.globalNamed n = some g ∧ (P.globals[g]?).map (·.type) = some t ∧ w.var? P n = some cs ∧
    DataW.trod (fun _ => ()) P w 0 (fun _ => true) false fuel t cs.toList = some (d, p) ∧ ∀ k, k < cs.size → MemPlace.cell g k ∈ ps
  | [], _, _, _, _, hm => by cases hm
  | (n', d') :: r, ps, h, n, d, hm => by
    obtain ⟨g, t, cs, fuel, p, q, h1, h2, h3, h4, h5, h6⟩ := h
    rcases List.mem_cons.1 hm with e | e
    · cases e
      refine ⟨g, t, cs, fuel, p, h1, h2, h3, h4, fun k hk => ?_⟩
      rw [h6]
      exact List.mem_append_left _ (List.mem_append_left _ (List.mem_map.2 ⟨k, List.mem_range.2 hk, by simp⟩))
    · obtain ⟨g', t', cs', f', p', a1, a2, a3, a4, a5⟩ := LaidVars_place h5 n d e
      exact ⟨g', t', cs', f', p', a1, a2, a3, a4, fun k hk => by rw [h6]; exact List.mem_append_right _ (a5 k hk)⟩
/-- An error that errors.New made: a pointer of its type. -/
theorem laid_errP {P : Program} {W : World} {l : List (String × DataW Unit)} {n : String} {text : List UInt8} {g : Nat} {t tp te ts : TypeId} {ms : Array (String × TypeId)} {f : Field} (hrow : ∀ u, P.typeName? 3 u = some "*errors.errorString" → u = tp) (h : laidMet P l W)
    (hm : (n, .iface "*errors.errorString" (.ptr (.agg [.lit (.string text)]))) ∈ l) (hg : P.globalNamed n = some g) (hty : (P.globals[g]?).map (·.type) = some t) (ht : P.underlying t = some (.interface ms))
    (hp : P.underlying tp = some (.pointer te)) (he : P.underlying te = some (.struct #[f])) (hft : f.type = ts) (hfo : f.offset = 0) (hs : P.underlying ts = some .string) (hc : P.cellsOf te = 1) (hcs : P.cellsOf ts = 1) :
    g < W.heap.size ∧ ∃ u a, W.cell? ⟨g, 0, none⟩ = some (.iface u (.pointer (some a))) ∧ u = tp := by
  obtain ⟨ps, hv, hnd, hps⟩ := h
  obtain ⟨g', t', cs, fuel, p, h1, h2, h3, h4, h5⟩ := LaidVars_place hv _ _ hm
  obtain rfl := Option.some.inj (hg.symm.trans h1)
  obtain rfl := Option.some.inj (hty.symm.trans h2)
  have hcell := World.var?_cell hg h3 0
  obtain ⟨a, s, hcs', _⟩ := errorString_of_trod ht hrow hp he hft hfo hs hc hcs h4 (fun u v huv => by
    have hsz : 0 < cs.size := by rw [← Array.length_toList, huv]; exact Nat.one_pos
    refine (hps g 0 (h5 0 hsz)).2 u v ?_
    rw [hcell, ← Array.getElem?_toList, huv]
    rfl)
  have hc0 : cs[0]? = some (.iface tp (.pointer (some a))) := by rw [← Array.getElem?_toList, hcs']; rfl
  exact ⟨cell_lt (by rw [hcell, hc0]), tp, a, by rw [hcell, hc0], rfl⟩
end
end Go.Vm
