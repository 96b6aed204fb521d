/- Further rules beside printed functions. -/
import Derived.Test.YtbgdonedjgkhiaaVmPure
set_option linter.unusedVariables false
set_option linter.unusedSimpArgs false
namespace Go.Vm
theorem leNs {α : Type} {f : α → List D} (sz : Nat) (hf : ∀ x, (f x).length = sz) {l : List α} {i : Nat} {y : α} (h : l[i]? = some y) (k n : Nat) (hk : k + n ≤ sz) : i * sz + k + n ≤ (l.flatMap f).length := by
  have := leN sz hf h; omega
theorem atNk0 {α : Type} {f : α → List D} (sz : Nat) (hf : ∀ x, (f x).length = sz) {l : List α} {i : Nat} {y : α} (h : l[i]? = some y) (hk : 0 < sz) {z : D} (hz : (f y)[0]? = some z) : (l.flatMap f)[i * sz]? = some z := atNk sz hf h 0 hk hz
theorem atO {α : Type} {f : α → SV} {l : List α} {i : Nat} {y : α} (h : l[i]? = some y) : (l.map f)[0 + i * 1]? = some (f y) := by simp [h]
inductive SVL : List SV → List SV → Prop
  | nil : SVL [] []
  | cons {x y : SV} {xs ys : List SV} (h : SVLe x y) (t : SVL xs ys) : SVL (x :: xs) (y :: ys)
theorem SVL.get {xs ys : List SV} (h : SVL xs ys) : xs.length = ys.length ∧ ∀ (i : Nat) y, ys[i]? = some y → ∃ x, xs[i]? = some x ∧ SVLe x y := by
  induction h with
  | nil => exact ⟨rfl, fun i y h => by simp at h⟩
  | cons h t ih =>
    refine ⟨by simp [ih.1], fun i y h1 => ?_⟩
    cases i with
    | zero => cases h1; exact ⟨_, rfl, h⟩
    | succ i => simp at h1; obtain ⟨x, h2, h3⟩ := ih.2 i y h1; exact ⟨x, by simpa using h2, h3⟩
theorem okU_nil {m : Nat} : ([] : List Ob).all (Ob.under m) = true := rfl
theorem okU_cons {m : Nat} {a : Ob} {l : List Ob} (h : Ob.under m a = true) (t : l.all (Ob.under m) = true) : (a :: l).all (Ob.under m) = true := by simp [h, t]
theorem okU_fixl {α : Type} {m ty : Nat} {f : α → SV} {l : List α} (hf : ∀ z, (f z).under m = true) : Ob.under m (.fix ty (l.map f)) = true := by
  show (l.map f).all _ = true
  rw [List.all_eq_true]; intro x hx; obtain ⟨z, _, rfl⟩ := List.mem_map.1 hx; exact hf z
theorem okU_mk {m : Nat} {e : List (Nat × SV)} {obs : List Ob} (h1 : e.all (fun p => p.2.under m) = true) (h2 : obs.all (Ob.under m) = true) : keepOK m e obs = true := by
  unfold keepOK; rw [h1, h2]; rfl
section
variable {C : Ctx} {Q : Exit → St → Prop} {ops : Array Oper} {rest : List Oper} {o : Oper} {e : List (Nat × SV)} {obs : List Ob} {d : Nat} {t ty : TypeId} {x y : Operand}
theorem AO.dec {l : List Oper} (b : Bool) (hy : b = true → AO C ops l ⟨e, obs⟩ Q) (hn : b = false → AO C ops l ⟨e, obs⟩ Q) : AO C ops l ⟨e, obs⟩ Q := by
  cases b with
  | true => exact hy rfl
  | false => exact hn rfl
theorem AD.dec {l : List Oper} {K : St → Prop} (b : Bool) (hy : b = true → AD C ops l ⟨e, obs⟩ K) (hn : b = false → AD C ops l ⟨e, obs⟩ K) : AD C ops l ⟨e, obs⟩ K := by
  cases b with
  | true => exact hy rfl
  | false => exact hn rfl
theorem AC.joinE {V : Type} (ksC ksV : List Nat) (m : Nat) (venv : V → List (Nat × SV)) (ob : V → List Ob) (inv : V → Prop) {C : Ctx} {s : St} {Q : Exit → St → Prop} {x : Code} {cenv : List (Nat × SV)}
    (hC : Vm.keep ksC s.env = some cenv) (h : AC C x s (JoinP (ksC ++ ksV) m (fun v => cenv ++ venv v) ob inv Q)) (rest : ∀ v, inv v → Q .normal ⟨cenv ++ venv v, ob v⟩) : AC C x s Q := fun Ω a w hr =>
  wp_mono (h Ω a w hr) fun e a w ⟨s', Ω', hr', hq⟩ => by
    cases e with
    | normal =>
      obtain ⟨v, L, h1, h2, h3, h4, h5⟩ := hq
      have := hr'.keep (m := m) h1 (by rw [h3]; exact h4)
      rw [h3] at this
      exact ⟨_, _, this.le h2, rest v h5⟩
    | _ => exact ⟨s', Ω', hr', hq⟩

theorem Rel.subO {Ω : List Value} {a : Act} {w : World} (hr : Rel C ⟨e, obs⟩ Ω a w) {p ty : Nat} {cells cells' : List SV} (hp : obs[p]? = some (.fix ty cells)) (hle : SVL cells cells') : Rel C ⟨e, obs.set p (.fix ty cells')⟩ Ω a w := by
  obtain ⟨hl, hi⟩ := hle.get
  have g1 : ∀ {i : Nat} {ob : Ob}, (obs.set p (.fix ty cells'))[i]? = some ob → ∃ ob', obs[i]? = some ob' ∧ ob'.live = ob.live ∧ (ob' = ob ∨ (ob' = .fix ty cells ∧ ob = .fix ty cells')) := fun {i ob} h => by
    rcases get_set h with ⟨rfl, rfl, _⟩ | ⟨_, h⟩
    · exact ⟨_, hp, rfl, .inr ⟨rfl, rfl⟩⟩
    · exact ⟨ob, h, rfl, .inl rfl⟩
  have hok : ∀ b, okB C obs Ω w b → okB C (obs.set p (.fix ty cells')) Ω w b := fun b hb => ⟨hb.1, hb.2.1, fun i ob k e1 l e2 => by
    obtain ⟨ob', h1, h2, _⟩ := g1 e1
    exact hb.2.2 i ob' k h1 (by rw [h2]; exact l) e2⟩
  refine ⟨hr.defers, hr.size, fun t x hx => ?_, ⟨by simp; exact hr.mem.len, fun i ob k e1 e2 => ?_, fun i j x y h k b hij e1 e2 l1 l2 e3 e4 hp => ?_, fun i ob k b e1 l e2 hp => ?_, hr.mem.fr⟩⟩
  · obtain ⟨v, hv, hrep⟩ := hr.env t x hx
    exact ⟨v, hv, hrep.mono (fun b hb => ⟨hok b hb, rfl⟩) (fun _ _ e => e)⟩
  · obtain ⟨ob', h1, _, h3⟩ := g1 e1
    have H := (hr.mem.obj i ob' k h1 e2).mono (fun b hb => ⟨hok b hb, rfl⟩) (fun _ _ e => e) (fun _ _ _ => rfl)
    rcases h3 with rfl | ⟨rfl, rfl⟩
    · exact H
    · obtain ⟨b, vs, rfl, hw, hvl, hvr, hone⟩ := H
      refine ⟨b, vs, rfl, hw, by rw [hvl, hl], fun j x y hx hy => ?_, hone⟩
      obtain ⟨z, hz, hzl⟩ := hi j x hx
      exact hzl _ _ _ _ (hvr j z y hz hy)
  · obtain ⟨x', h1, q1, _⟩ := g1 e1
    obtain ⟨y', h2, q2, _⟩ := g1 e2
    exact hr.mem.sep i j x' y' h k b hij h1 h2 (by rw [q1]; exact l1) (by rw [q2]; exact l2) e3 e4 hp
  · obtain ⟨x', h1, q1, _⟩ := g1 e1
    exact hr.mem.new i x' k b h1 (by rw [q1]; exact l) e2 hp
theorem AC.subO {c : Code} (p : Nat) {ty : Nat} {cells cells' : List SV} (hp : obs[p]? = some (.fix ty cells)) (hle : SVL cells cells') (h : AC C c ⟨e, obs.set p (.fix ty cells')⟩ Q) : AC C c ⟨e, obs⟩ Q := fun Ω a w hr => h Ω a w (hr.subO hp hle)

/-- A package variable. -/
theorem AOp.loadG {t : TypeId} {g : Nat} {v : Value} (ho : o.op = .load t (.global g)) (hd : o.dst = some d) (hn : d < C.n) (hm : C.may = []) (ht : aggT C.P t = some false) (hg : (g, v) ∈ Globs)
    (h : AO C ops rest ⟨(d, .d (.v v)) :: e, obs⟩ Q) (h1 : g % 1048576 = g := by rfl) (h2 : g / 1048576 = 0 := by rfl) : AOp C ops rest o ⟨e, obs⟩ Q :=
  AOp.value hd hn (fun Ω a w hr => by
    have hc := ((hr.mem.fr.holds hm).1 (g, v) hg).2
    simp only [h1, h2] at hc
    refine ⟨v, ?_, .d _ _ (.v _)⟩
    have hev : a.eval (.global g) = .pointer (some ⟨g, 0, none⟩) := rfl
    simp only [execOp, ho, hev, Instr.loadAt, Instr.sureAddr, Sem.run_bind, Sem.run_pure, Result.andThen_ok, run_load1 ht hc]) h

/-- An array type: its length, its element, its cells. -/
def arrT (P : Program) (t : TypeId) : Option (Nat × TypeId × Nat) :=
  match P.underlying t with
  | some (.array n e) => (sizeT P e).map fun k => (n, e, k)
  | _ => none
theorem arrT_spec {P : Program} {t n el k : Nat} (h : arrT P t = some (n, el, k)) : P.underlying t = some (.array n el) ∧ sizeT P el = some k := by
  unfold arrT at h
  split at h
  · rename_i m e hu
    cases hs : sizeT P e with
    | none => rw [hs] at h; cases h
    | some j => rw [hs] at h; cases h; exact ⟨hu, hs⟩
  · cases h
theorem run_indexArr {P : Program} {t n el sz : Nat} (h : arrT P t = some (n, el, sz)) (k : IntKind) (i : Int) (b off : Nat) (h0 : 0 ≤ i) (h1 : i < n) (w : World) :
    (Instr.indexAt t (.pointer (some ⟨b, off, none⟩)) (.int k i)).run P w = .ok (.pointer (some ⟨b, off + i.toNat * sz, none⟩)) w := by
  obtain ⟨hu, hs⟩ := arrT_spec h
  simp only [Instr.indexAt, Instr.sureAddr, asIntOf, Sem.run_bind, Sem.run_pure, Result.andThen_ok, run_underlying hu, h0, h1, and_self, if_true, run_sizeOf hs, Addr.add_of, Sem.run_ite]
/-- An element of an array that is a package variable. -/
theorem AOp.indexG {t g n el sz : Nat} {ix : Operand} {k : IntKind} {i : Int} (ho : o.op = .indexAddr t (.global g) ix) (hd : o.dst = some d) (hn : d < C.n) (hi : opS ⟨e, obs⟩ ix = some (.d (.v (.int k i)))) (ht : arrT C.P t = some (n, el, sz)) (h0 : 0 ≤ i) (h1 : i < n)
    (h : AO C ops rest ⟨(d, .d (.v (.pointer (some ⟨g, 0 + i.toNat * sz, none⟩)))) :: e, obs⟩ Q) : AOp C ops rest o ⟨e, obs⟩ Q :=
  AOp.value hd hn (fun Ω a w hr => by
    have hi := hr.evalV hi
    have hev : a.eval (.global g) = .pointer (some ⟨g, 0, none⟩) := rfl
    refine ⟨_, ?_, .d _ _ (.v _)⟩
    simp only [execOp, ho, hev, hi, run_indexArr ht k i g 0 h0 h1, Sem.run_bind, Sem.run_pure, Result.andThen_ok]) h
theorem AOp.loadGA {t : TypeId} {x : Operand} {g k : Nat} {v : Value} (ho : o.op = .load t x) (hd : o.dst = some d) (hn : d < C.n) (hm : C.may = []) (hx : opS ⟨e, obs⟩ x = some (.d (.v (.pointer (some ⟨g, k, none⟩))))) (ht : aggT C.P t = some false) (hg : (g + 1048576 * k, v) ∈ Globs) (hb : g < 1048576)
    (h : AO C ops rest ⟨(d, .d (.v v)) :: e, obs⟩ Q) : AOp C ops rest o ⟨e, obs⟩ Q :=
  AOp.value hd hn (fun Ω a w hr => by
    have hc := ((hr.mem.fr.holds hm).1 (g + 1048576 * k, v) hg).2
    have e1 : (g + 1048576 * k) % 1048576 = g := by omega
    have e2 : (g + 1048576 * k) / 1048576 = k := by omega
    simp only [e1, e2] at hc
    have hev := hr.evalV hx
    refine ⟨v, ?_, .d _ _ (.v _)⟩
    simp only [execOp, ho, hev, Instr.loadAt, Instr.sureAddr, Sem.run_bind, Sem.run_pure, Result.andThen_ok, run_load1 ht hc]) h

/-- Nil slices handed on are empty rows. -/
inductive NilL : List D → List D → Prop
  | nil : NilL [] []
  | cons {x : D} {xs ys : List D} (t : NilL xs ys) : NilL (x :: xs) (x :: ys)
  | nils {sz : Nat} {xs ys : List D} (t : NilL xs ys) : NilL (.v (.slice none 0 0) :: xs) (.ds sz [] :: ys)
  | le {x y : D} {xs ys : List D} (h : SVLe (.d x) (.d y)) (t : NilL xs ys) : NilL (x :: xs) (y :: ys)
theorem NilL.get {xs ys : List D} (h : NilL xs ys) : xs.length = ys.length ∧ ∀ (i : Nat) y, ys[i]? = some y → ∃ x, xs[i]? = some x ∧ SVLe (.d x) (.d y) := by
  induction h with
  | nil => exact ⟨rfl, fun i y h => by simp at h⟩
  | cons t ih =>
    refine ⟨by simp [ih.1], fun i y h => ?_⟩
    cases i with
    | zero => cases h; exact ⟨_, rfl, SVLe.refl _⟩
    | succ i => simp at h; obtain ⟨x, h1, h2⟩ := ih.2 i y h; exact ⟨x, by simpa using h1, h2⟩
  | nils t ih =>
    refine ⟨by simp [ih.1], fun i y h => ?_⟩
    cases i with
    | zero => cases h; exact ⟨_, rfl, SVLe.nil _⟩
    | succ i => simp at h; obtain ⟨x, h1, h2⟩ := ih.2 i y h; exact ⟨x, by simpa using h1, h2⟩
  | le hle t ih =>
    refine ⟨by simp [ih.1], fun i y h => ?_⟩
    cases i with
    | zero => cases h; exact ⟨_, rfl, hle⟩
    | succ i => simp at h; obtain ⟨x, h1, h2⟩ := ih.2 i y h; exact ⟨x, by simpa using h1, h2⟩
theorem FnD.nils {P : Program} {f : FuncId} {xs ys : List D} {R : D → Prop} (h : FnD P f ys R) (hn : NilL xs ys) : FnD P f xs R := by
  obtain ⟨hl, hi⟩ := hn.get
  refine ⟨h.1, fun W ok vs h0 h1 h2 h3 => h.2 W ok vs h0 h1 (by omega) fun i y v hy hv => ?_⟩
  obtain ⟨x, hx, hxy⟩ := hi i y hy
  exact (hxy W ok [] v (.d _ _ (h3 i x v hx hv))).isD

/-- Which cell a field is. -/
def fieldIx (P : Program) (t : TypeId) (i : Nat) : Option Nat := match P.underlying t with
  | some (.struct fs) => (fs[i]?).bind fun f => match aggT P f.type with | some false => some f.offset | _ => none
  | _ => none
theorem fieldIx_spec {P : Program} {t i k : Nat} (h : fieldIx P t i = some k) : ∃ (fs : Array Field) (f : Field), P.underlying t = some (.struct fs) ∧ fs[i]? = some f ∧ f.offset = k ∧ aggT P f.type = some false := by
  unfold fieldIx at h
  split at h
  · rename_i fs hu
    cases hf : fs[i]? with
    | none => rw [hf] at h; cases h
    | some f =>
      rw [hf, Option.bind_some] at h
      split at h
      · rename_i ha; cases h; exact ⟨fs, f, hu, hf, rfl, ha⟩
      · cases h
  · cases h
theorem run_field1 {P : Program} {t i k : Nat} {vs : List Value} {v : Value} (h : fieldIx P t i = some k) (hv : vs[k]? = some v) (w : World) : (Instr.field t (.agg vs.toArray) i).run P w = .ok v w := by
  obtain ⟨fs, f, hu, hf, ho, ha⟩ := fieldIx_spec h
  simp [Instr.field, run_underlying hu, hf, ho, part, run_isAgg ha, asAgg, hv]
theorem AOp.fieldD {i k : Nat} {cells : List D} {z : D} (ho : o.op = .field t x i) (hd : o.dst = some d) (hn : d < C.n) (hx : opS ⟨e, obs⟩ x = some (.d (.ag cells))) (hk : fieldIx C.P t i = some k) (hz : cells[k]? = some z)
    (h : AO C ops rest ⟨(d, .d z) :: e, obs⟩ Q) : AOp C ops rest o ⟨e, obs⟩ Q :=
  AOp.value hd hn (fun Ω a w hr => by
    have hv := hr.eval hx
    generalize hev : a.eval x = v at hv
    cases hv with
    | d _ _ hv =>
      cases hv with
      | ag _ vs hl hrr =>
        have hlt := (List.getElem?_eq_some_iff.1 hz).1
        have hy : vs[k]? = some (vs[k]'(by omega)) := List.getElem?_eq_getElem _
        exact ⟨_, by simp only [execOp, ho, hev, run_field1 hk hy, Sem.run_bind, Result.andThen_ok, Sem.run_pure], .d _ _ (hrr k _ _ hz hy)⟩) h
theorem AOp.fieldS {i k : Nat} {cells : List SV} {z : SV} (ho : o.op = .field t x i) (hd : o.dst = some d) (hn : d < C.n) (hx : opS ⟨e, obs⟩ x = some (.ag cells)) (hk : fieldIx C.P t i = some k) (hz : cells[k]? = some z)
    (h : AO C ops rest ⟨(d, z) :: e, obs⟩ Q) : AOp C ops rest o ⟨e, obs⟩ Q :=
  AOp.value hd hn (fun Ω a w hr => by
    have hv := hr.eval hx
    generalize hev : a.eval x = v at hv
    cases hv with
    | ag _ vs hl hrr =>
      have hlt := (List.getElem?_eq_some_iff.1 hz).1
      have hy : vs[k]? = some (vs[k]'(by omega)) := List.getElem?_eq_getElem _
      exact ⟨_, by simp only [execOp, ho, hev, run_field1 hk hy, Sem.run_bind, Result.andThen_ok, Sem.run_pure], hrr k _ _ hz hy⟩) h

/-- A slice literal that is appended to. -/
theorem AOp.buildOwn {t el sz len : Nat} {parts : List (Nat × Operand)} {ps : List (Nat × SV)} {z : Value} {r : List SV} {ys : List D} (ho : o.op = .buildSlice t len parts.toArray) (hd : o.dst = some d) (hn : d < C.n)
    (ht : elemT C.P t = some (el, sz)) (hz : (C.P.info? el).map (·.zero) = some (some z)) (h1 : z.cells.toList.all (·.oneCell') = true) (hb : len * sz ≤ 16777216) (hzs : z.cells.size = sz)
    (hx : mapO (partS ⟨e, obs⟩) parts = some ps) (hf : fillS (fun i => some (i * sz, sz)) ((List.range (len * sz)).map fun i => .d (.v (z.cells.toList.getD (i % sz) undef))) ps = some r)
    (hys : mapO (dataS 9) r = some ys) (h : AO C ops rest ⟨(d, .own obs.length) :: e, obs ++ [.grow el sz ys]⟩ Q) (hlen : len ≤ maxLen := by decide) : AOp C ops rest o ⟨e, obs⟩ Q := by
  refine AOp.step hd hn (fun Ω a w hr => ?_) h
  obtain ⟨hu, hs⟩ := elemT_spec ht
  obtain ⟨hl, hp⟩ := hr.parts hx
  have hzlt : ∀ (i : Nat), i < len * sz → i % sz < z.cells.size := fun i hi => by
    rw [hzs]
    exact Nat.mod_lt _ (Nat.pos_of_ne_zero fun h0 => by subst h0; simp at hi)
  have hget : ∀ (i : Nat), i < len * sz → z.cells[i % z.cells.size]! = z.cells.toList.getD (i % sz) undef ∧ z.cells[i % z.cells.size]! ∈ z.cells.toList := fun i hi => by
    have hlt := hzlt i hi
    have hlt2 : i % z.cells.size < z.cells.size := by rw [hzs] at hlt ⊢; exact hlt
    rw [getElem!_pos z.cells _ hlt2]
    refine ⟨?_, by simp⟩
    have : z.cells.toList[i % sz]? = some z.cells[i % z.cells.size] := by simp [hzs]
    rw [List.getD_eq_getElem?_getD, this]; rfl
  obtain ⟨vs, hfill, hvl, hvr, hv1⟩ := fillS_rep ps _ _ r ((Array.range (len * sz)).map fun i => z.cells[i % z.cells.size]!) hf hl hp (by simp) (fun i p q hp hq => by
    have hi : i < len * sz := by have := (List.getElem?_eq_some_iff.1 hp).1; simpa using this
    have e1 : ((List.range (len * sz)).map fun i => (SV.d (.v (z.cells.toList.getD (i % sz) undef))))[i]? = some (.d (.v (z.cells.toList.getD (i % sz) undef))) := by simp [hi]
    rw [e1] at hp; cases hp
    have e2 : ((Array.range (len * sz)).map fun i => z.cells[i % z.cells.size]!).toList[i]? = some (z.cells[i % z.cells.size]!) := by simp [hi]
    rw [e2] at hq; cases hq
    rw [(hget i hi).1]
    exact .d _ _ (.v _)) (fun y hy => by
      simp only [Array.toList_map, Array.toList_range, List.mem_map, List.mem_range] at hy
      obtain ⟨i, hi, rfl⟩ := hy
      exact List.all_eq_true.1 h1 _ (hget i hi).2)
  obtain ⟨hyl, hyi⟩ := mapO_get hys
  have hrl := fillS_len hf
  have hvsz : vs.toList.length = len * sz := by simp [hvl, hrl]
  have how : (w.alloc (.cells vs el)).ownsRow 0 el sz (.slice (some ⟨w.heap.size, 0, none⟩) len len) len vs.toList := by
    refine ⟨hvsz, .inr ⟨w.heap.size, len, vs, rfl, Nat.zero_le _, heap_alloc_new w _, Nat.le_refl _, hlen, by simpa using hvsz, ?_⟩⟩
    rw [List.take_of_length_le (Nat.le_of_eq hvsz)]
  have hbel : RowKit.Below w.heap.size w (w.alloc (.cells vs el)) := ⟨rfl, rfl, rfl, by simp, fun k hk => heap_alloc_old w _ hk⟩
  have hrel := hr.begin hbel how (cells := ys) (fun b hb => by simp [blk] at hb; exact Nat.le_of_eq hb) (by rw [hvsz, hyl, hrl]; simp) (fun i x v hx hv => by
    have hlt := (List.getElem?_eq_some_iff.1 hx).1
    have hc : r[i]? = some (r[i]'(by omega)) := List.getElem?_eq_getElem _
    exact dataS_rep 9 (hyi i _ _ hc hx) (hvr i _ _ hc hv))
  refine ⟨.slice (some ⟨w.heap.size, 0, none⟩) len len, _, _, ?_, hrel, .own _ _ ?_⟩
  · simp only [execOp, ho, Instr.buildSlice, Sem.run_bind, run_underlying hu, Result.andThen_ok, run_sizeOf hs, List.map_toArray, Sem.run_ite]
    rw [if_neg (by omega)]
    by_cases h0 : len * sz = 0
    · simp only [h0, if_true, Sem.run_pure, Result.andThen_ok]
      have e0 : ((Array.range 0).map fun i => (#[] : Array Value)[i % (#[] : Array Value).size]!) = #[] := by simp
      rw [h0] at hfill
      have e1 : ((Array.range 0).map fun i => z.cells[i % z.cells.size]!) = #[] := by simp
      rw [e1] at hfill
      rw [e0, hfill]
      simp [newRow]
    · simp only [h0, if_false, run_zero hz, Sem.run_pure, Sem.run_bind, Result.andThen_ok, hfill, newRow, run_newObj]
      simp
  · have := hr.mem.len
    dsimp only at this
    rw [this, List.getElem?_append_right (Nat.le_refl _)]; simp
/-- Onto data whose capacity is its length: a new row. -/
theorem AOp.appendFull {t el size bytes n m : Nat} {z : Value} {cells news cells' : List D} (ho : o.op = .call { callee := .builtin .append, args := #[x, y], argTypes := #[t, t] }) (hd : o.dst = some d) (hn : d < C.n)
    (hx : opS ⟨e, obs⟩ x = some (.full size cells)) (hy : opS ⟨e, obs⟩ y = some (.d (.ds size news))) (ht : elemT C.P t = some (el, size)) (hi : (C.P.info? el).map (fun i => (i.zero, i.size, i.bytes)) = some (some z, size, bytes)) (hzs : z.cells.size = size) (hsz : 0 < size)
    (hc : cells.length = n * size) (hl : news.length = m * size) (hm : 0 < m) (h63 : n + m ≤ 4294967296) (hb : bytes ≤ 32768) (hcat : cells ++ news = cells')
    (h : AO C ops rest ⟨(d, .own obs.length) :: e, obs ++ [.grow el size cells']⟩ Q) : AOp C ops rest o ⟨e, obs⟩ Q := by
  subst hcat
  refine AOp.step hd hn (fun Ω a w hr => ?_) h
  have hxv := hr.eval hx
  have hyv := hr.eval hy
  generalize hev : a.eval x = v at hxv
  generalize hev2 : a.eval y = u at hyv
  cases hxv with
  | full _ _ a0 n0 hxd =>
    cases hyv with
    | d _ _ hyd =>
      have hn0 : n0 = n := by
        cases hxd with
        | nil _ _ _ =>
          rcases Nat.eq_zero_or_pos n with h | h
          · exact h.symm
          · have := Nat.mul_pos h hsz; simp at hc; omega
        | ds _ b off len cap _ vals hl2 _ _ _ _ => exact Nat.eq_of_mul_eq_mul_right hsz (by rw [← hl2, hc])
      subst hn0
      obtain ⟨v', w', us, h1, h2, h3, h4, h5, h6⟩ := run_append_full t o.type el size bytes ht hi hzs hsz hxd hc hyd hl hm (small63 h63) (small h63 hb)
      have hrel := hr.begin (cells := cells ++ news) (⟨h5.os, h5.tape, h5.output, h5.size, fun k hk => h5.block k hk (by simp)⟩ : RowKit.Below w.heap.size w w') h2 (fun b hb => by
        have bq : blk v' = v'.ownBlock := by rcases h2.2 with ⟨rfl, _⟩ | ⟨g, cap, cur, rfl, _⟩ <;> rfl
        rw [bq, h6] at hb; exact Nat.le_of_eq (Option.some.inj hb)) h3 h4
      have one1 : v'.oneCell' = true := by rcases h2.2 with ⟨rfl, _⟩ | ⟨g, cap, cur, rfl, _⟩ <;> rfl
      refine ⟨v', w', _, ?_, hrel, .own _ _ ?_ one1⟩
      · simp [execOp, ho, hev, hev2, resolve, invoke, builtin, h1]
      · have := hr.mem.len
        dsimp only at this
        rw [this, List.getElem?_append_right (Nat.le_refl _)]; simp
theorem run_append_zero {P : Program} {w : World} (t ty e : TypeId) {size : Nat} (ht : elemT P t = some (e, size)) (a0 : Option Addr) (n c0 : Nat) (h : n ≤ c0) (a : Option Addr) (c : Nat) :
    (Builtin.append_ #[t, t] ty #[.slice a0 n c0, .slice a 0 c]).run P w = .ok (.slice a0 n c0) w := by
  obtain ⟨hu, hs⟩ := elemT_spec ht
  have hst : ∀ b : Addr, (storeCells b []).run P w = .ok () w := fun b => by simp [storeCells]
  cases a0 <;> cases a <;> simp [Builtin.append_, run_underlying hu, run_sizeOf hs, Builtin.lenOf, Builtin.firstCells, h, hst, loadCells, loadCellsFrom]
/-- Data onto data whose capacity is its length: data. -/
theorem AOp.appendFullD {t el size bytes n m : Nat} {z : Value} {cells news cells' : List D} (ho : o.op = .call { callee := .builtin .append, args := #[x, y], argTypes := #[t, t] }) (hd : o.dst = some d) (hn : d < C.n)
    (hx : opS ⟨e, obs⟩ x = some (.full size cells)) (hy : opS ⟨e, obs⟩ y = some (.d (.ds size news))) (ht : elemT C.P t = some (el, size)) (hi : (C.P.info? el).map (fun i => (i.zero, i.size, i.bytes)) = some (some z, size, bytes)) (hzs : z.cells.size = size) (hsz : 0 < size)
    (hc : cells.length = n * size) (hl : news.length = m * size) (h63 : n + m ≤ 4294967296) (hb : bytes ≤ 32768) (hcat : cells ++ news = cells')
    (h : AO C ops rest ⟨(d, .d (.ds size cells')) :: e, obs⟩ Q) : AOp C ops rest o ⟨e, obs⟩ Q := by
  subst hcat
  refine AOp.step hd hn (fun Ω a w hr => ?_) h
  have hxv := hr.eval hx
  have hyv := hr.eval hy
  generalize hev : a.eval x = v at hxv
  generalize hev2 : a.eval y = u at hyv
  cases hxv with
  | full _ _ a0 n0 hxd =>
    cases hyv with
    | d _ _ hyd =>
      have hn0 : n0 = n := by
        cases hxd with
        | nil _ _ _ =>
          rcases Nat.eq_zero_or_pos n with h | h
          · exact h.symm
          · have := Nat.mul_pos h hsz; simp at hc; omega
        | ds _ b off len cap _ vals hl2 _ _ _ _ => exact Nat.eq_of_mul_eq_mul_right hsz (by rw [← hl2, hc])
      subst hn0
      rcases Nat.eq_zero_or_pos m with hm | hm
      · subst hm
        have hnil : news = [] := List.eq_nil_of_length_eq_zero (by simpa using hl)
        subst hnil
        obtain ⟨au, cu, rfl⟩ : ∃ a c, u = .slice a 0 c := by
          cases hyd with
          | nil _ a c => exact ⟨a, c, rfl⟩
          | ds _ b off len cap _ vals hl2 _ _ _ _ =>
            have : len = 0 := by
              rcases Nat.eq_zero_or_pos len with h | h
              · exact h
              · have := Nat.mul_pos h hsz; simp at hl2; omega
            subst this; exact ⟨_, _, rfl⟩
        refine ⟨_, w, Ω, ?_, hr, .d _ _ (by rw [List.append_nil]; exact hxd)⟩
        simp [execOp, ho, hev, hev2, resolve, invoke, builtin, run_append_zero (P := C.P) (w := w) t o.type el ht a0 n0 n0 (Nat.le_refl _) au cu]
      · obtain ⟨v', w', us, h1, h2, h3, h4, h5, h6⟩ := run_append_full t o.type el size bytes ht hi hzs hsz hxd hc hyd hl hm (small63 h63) (small h63 hb)
        have hbel : RowKit.Below w.heap.size w w' := ⟨h5.os, h5.tape, h5.output, h5.size, fun k hk => h5.block k hk (by simp)⟩
        have hmem := hr.mem.below hbel
        refine ⟨v', w', Ω, ?_, hr.below hbel, .d _ _ ?_⟩
        · simp [execOp, ho, hev, hev2, resolve, invoke, builtin, h1]
        · rcases h2.2 with ⟨rfl, h0⟩ | ⟨g, cap, cur, rfl, _, hg, hnc, _, hcs, hct⟩
          · cases h6
          · have hgs : g = w.heap.size := by simpa [Value.ownBlock] using h6
            have hcell : ∀ (i : Nat), i < (cells ++ news).length → us[i]? = some (us.getD i undef) := fun i hi => by
              rw [List.getD_eq_getElem?_getD, List.getElem?_eq_getElem (by rw [h3]; exact hi)]; rfl
            have hglt : g < w'.heap.size := (Array.getElem?_eq_some_iff.1 hg).1
            refine .ds _ g 0 _ _ _ (fun i => us.getD i undef) (by rw [← h3, h2.1]) hnc ⟨.inr (by rw [hgs]; exact hr.mem.fr.size), hglt, fun o ob k e1 l e2 hbk => ?_⟩ (fun i hi => ?_) (fun i x hx => ?_)
            · have := (hr.mem.obj o ob k e1 e2).lt l hbk
              omega
            · rw [Nat.zero_add, cell_of_row w' g i cur el (0, 0) hg]
              have hin : i < (n0 + m) * size := by have := h2.1; omega
              have e1 : us[i]? = cur.toList[i]? := by rw [← hct, List.getElem?_take, if_pos hin]
              have e2 := hcell i hi
              rw [e1] at e2
              simpa using e2
            · have hi := (List.getElem?_eq_some_iff.1 hx).1
              exact (h4 i x _ hx (hcell i hi)).mono hmem.2
/-- x[:k:k] of data. -/
theorem AOp.slice3D {el sz n k : Nat} {hi mx : Operand} {kk kk2 : IntKind} {i : Int} {cells cells' : List D} (ho : o.op = .slice t x none (some hi) (some mx)) (hd : o.dst = some d) (hn : d < C.n) (hx : opS ⟨e, obs⟩ x = some (.d (.ds sz cells)))
    (hh : opS ⟨e, obs⟩ hi = some (.d (.v (.int kk i)))) (hm : opS ⟨e, obs⟩ mx = some (.d (.v (.int kk2 i)))) (ht : elemT C.P t = some (el, sz)) (hsz : 0 < sz) (hl : cells.length = n * sz) (h0 : 0 ≤ i) (hk : i.toNat = k) (hle : k ≤ n) (hc : cells.take (k * sz) = cells')
    (h : AO C ops rest ⟨(d, .full sz cells') :: e, obs⟩ Q) : AOp C ops rest o ⟨e, obs⟩ Q :=
  AOp.value hd hn (fun Ω a w hr => by
    subst hc
    have hv := hr.eval hx
    generalize hev : a.eval x = v at hv
    cases hv with
    | d _ _ hv =>
      obtain ⟨hu, hso⟩ := elem_of ht
      have key : ∃ ad m c, v = .slice ad m c ∧ k ≤ c ∧ RepD w (okB C obs Ω w) (.ds sz (cells.take (k * sz))) (.slice ad k k) ∧ (ad.map (fun q : Addr => q.add (0 * sz))) = ad := by
        cases hv with
        | nil _ ad c =>
          have hn0 : n = 0 := by
            rcases Nat.eq_zero_or_pos n with h | h
            · exact h
            · have := Nat.mul_pos h hsz; simp at hl; omega
          subst hn0
          have hk0 : k = 0 := by omega
          subst hk0
          exact ⟨ad, 0, c, rfl, by omega, by simpa using RepD.nil sz ad 0, by cases ad <;> simp [Addr.add]⟩
        | ds _ b off len cap _ vals hl2 hcc hb hcell hrr =>
          have hm : len = n := Nat.eq_of_mul_eq_mul_right hsz (by rw [← hl2, hl])
          subst hm
          have hkl : k * sz ≤ cells.length := by rw [hl]; exact Nat.mul_le_mul_right _ hle
          refine ⟨_, len, cap, rfl, by omega, .ds _ b off k k _ vals (by rw [List.length_take]; omega) (Nat.le_refl _) hb (fun j hj => hcell j (by rw [List.length_take] at hj; omega)) (fun j x hx => hrr j x (by rw [List.getElem?_take] at hx; split at hx <;> simp_all)), by simp [Addr.add_of]⟩
      obtain ⟨ad, m, c, rfl, hkc, hrep, had⟩ := key
      refine ⟨_, ?_, .full _ _ ad k hrep⟩
      have hb : (Instr.sliceBounds true m c none (some (.int kk i)) (some (.int kk2 i))).run C.P w = .ok (0, k, k) w := by
        have e1 : ((i.toNat : Nat) : Int) = i := Int.toNat_of_nonneg h0
        simp only [Instr.sliceBounds, Sem.run_bind, Sem.run_pure, run_sliceBound (P := C.P) w kk2 i c _ h0 (by omega), Result.andThen_ok, if_true, Option.isSome]
        rw [run_sliceBound (P := C.P) w kk i i.toNat _ h0 (by omega)]
        simp [hk]
      simp only [execOp, ho, hev, hr.evalV hh, hr.evalV hm, Option.map_some, Option.map_none, Sem.run_bind, run_sliceAt_slice w t _ _ _ _ hu, run_slice_any (P := C.P) w t ad m c hu, hb, hso, run_sizeOf (elemT_spec ht).2, Result.andThen_ok, sliced, Sem.run_pure, Nat.sub_zero, had, ite_self]) h


theorem AOp.makeL {α : Type} {f : α → SV} {z0 : α} {el bytes : Nat} {z : Value} {n : Int} (ho : o.op = .makeSlice t x y) (hd : o.dst = some d) (hn : d < C.n)
    (hx : opS ⟨e, obs⟩ x = some (.d (.v (.int .i64 n)))) (hy : opS ⟨e, obs⟩ y = some (.d (.v (.int .i64 n)))) (ht : elemT C.P t = some (el, 1)) (hi : (C.P.info? el).map (fun i => (i.zero, i.size, i.bytes)) = some (some z, 1, bytes)) (hz : z.cells = #[z]) (h1 : z.oneCell' = true)
    (hb : bytes ≤ 32768) (h0 : 0 ≤ n) (h63 : n ≤ 4294967296) (hf : f z0 = .d (.v z))
    (h : AO C ops rest ⟨(d, .sl obs.length 1 0 n.toNat n.toNat) :: e, obs ++ [.fix el ((List.replicate n.toNat z0).map f)]⟩ Q) : AOp C ops rest o ⟨e, obs⟩ Q := by
  have hi' : (n.toNat : Int) = n := Int.toNat_of_nonneg h0
  rw [List.map_replicate, hf] at h
  exact AOp.makeSlice (n := n.toNat) ho hd hn (by rw [hi']; exact hx) (by rw [hi']; exact hy) ht hi hz h1 (small' (by omega) hb) (small63 (by omega)) h
theorem AOp.makeOwn0 {el sz bytes : Nat} {z : Value} {c : Int} (ho : o.op = .makeSlice t x y) (hd : o.dst = some d) (hn : d < C.n)
    (hx : opS ⟨e, obs⟩ x = some (.d (.v (.int .i64 0)))) (hy : opS ⟨e, obs⟩ y = some (.d (.v (.int .i64 c)))) (ht : elemT C.P t = some (el, sz)) (hi : (C.P.info? el).map (fun i => (i.zero, i.size, i.bytes)) = some (some z, sz, bytes))
    (hb : bytes ≤ 32768) (hc : ((0 : Int) ≤ 0 ∧ 0 ≤ c) ∧ c ≤ 4294967296)
    (h : AO C ops rest ⟨(d, .own obs.length) :: e, obs ++ [.grow el sz []]⟩ Q) : AOp C ops rest o ⟨e, obs⟩ Q := by
  have hi' : (c.toNat : Int) = c := Int.toNat_of_nonneg hc.1.2
  exact AOp.makeOwn (c := c.toNat) ho hd hn hx (by rw [hi']; exact hy) ht hi (small' (by omega) hb) (small63 (by omega)) h
/-- make([]T, n, c): to be appended to; T of one cell. -/
theorem AOp.makeOwnN {α : Type} {f : α → D} {z0 : α} {el bytes : Nat} {z : Value} {n c : Int} (ho : o.op = .makeSlice t x y) (hd : o.dst = some d) (hn : d < C.n)
    (hx : opS ⟨e, obs⟩ x = some (.d (.v (.int .i64 n)))) (hy : opS ⟨e, obs⟩ y = some (.d (.v (.int .i64 c)))) (ht : elemT C.P t = some (el, 1)) (hi : (C.P.info? el).map (fun i => (i.zero, i.size, i.bytes)) = some (some z, 1, bytes)) (hz : z.cells = #[z]) (h1 : z.oneCell' = true)
    (hb : bytes ≤ 32768) (hc : (0 ≤ n ∧ n ≤ c) ∧ c ≤ 4294967296) (hf : f z0 = .v z)
    (h : AO C ops rest ⟨(d, .own obs.length) :: e, obs ++ [.grow el 1 ((List.replicate n.toNat z0).map f)]⟩ Q) : AOp C ops rest o ⟨e, obs⟩ Q := by
  refine AOp.step hd hn (fun Ω a w hr => ?_) h
  obtain ⟨hu, hs⟩ := elemT_spec ht
  obtain ⟨i, hii, hie⟩ : ∃ i, C.P.info? el = some i ∧ (i.zero, i.size, i.bytes) = (some z, 1, bytes) := by
    cases hq : C.P.info? el with
    | none => rw [hq] at hi; cases hi
    | some i => rw [hq] at hi; exact ⟨i, rfl, Option.some.inj hi⟩
  simp only [Prod.mk.injEq] at hie
  obtain ⟨e1, e2, e3⟩ := hie
  have hc' : (c.toNat : Int) = c := Int.toNat_of_nonneg (by omega)
  have hrun := run_make (P := C.P) w t el i z hu hii e1 .i64 .i64 n c hc.1.1 hc.1.2 (by
    rw [e3]
    have h := small' (n := c.toNat) (b := bytes) (by omega) hb
    have h2 : ((bytes * c.toNat : Nat) : Int) ≤ 281474976710656 := by omega
    rwa [Int.natCast_mul, hc'] at h2) (by omega)
  have hm : madeCells z.cells (c.toNat * i.size) = (List.replicate c.toNat z).toArray := by
    rw [hz, e2, Nat.mul_one]
    apply Array.ext'
    rw [toList_madeCells_one]
  rw [hm] at hrun
  have how : (w.alloc (.cells (List.replicate c.toNat z).toArray el)).ownsRow 0 el 1 (.slice (some ⟨w.heap.size, 0, none⟩) n.toNat c.toNat) n.toNat (List.replicate n.toNat z) := by
    refine ⟨by simp, .inr ⟨w.heap.size, c.toNat, _, rfl, Nat.zero_le _, heap_alloc_new w _, by omega, small63 (by omega), by simp, ?_⟩⟩
    simp [Nat.min_eq_left (show n.toNat ≤ c.toNat by omega)]
  have hbel : RowKit.Below w.heap.size w (w.alloc (.cells (List.replicate c.toNat z).toArray el)) := ⟨rfl, rfl, rfl, by simp, fun k hk => heap_alloc_old w _ hk⟩
  have hrel := hr.begin hbel how (cells := (List.replicate n.toNat z0).map f) (fun b hb => by simp [blk] at hb; exact Nat.le_of_eq hb) (by simp) (fun j x v hx hv => by
    have hj := (List.getElem?_eq_some_iff.1 hv).1
    rw [List.length_replicate] at hj
    rw [List.map_replicate, List.getElem?_replicate, if_pos hj] at hx
    rw [List.getElem?_replicate, if_pos hj] at hv
    cases hx; cases hv
    rw [hf]; exact .v _)
  refine ⟨.slice (some ⟨w.heap.size, 0, none⟩) n.toNat c.toNat, _, _, ?_, hrel, .own _ _ ?_⟩
  · simp only [execOp, ho, hr.evalV hx, hr.evalV hy, Sem.run_bind, hrun, Result.andThen_ok, Sem.run_pure]
  · have := hr.mem.len
    dsimp only at this
    rw [this, List.getElem?_append_right (Nat.le_refl _)]; simp
theorem AOp.storeL {α : Type} {f : α → SV} {l : List α} {i : Nat} {v : α} {p ty : Nat} {sv : SV} (ho : o.op = .store t x y) (hd : o.dst = none) (hx : opS ⟨e, obs⟩ x = some (.ptr p (0 + i * 1))) (hy : opS ⟨e, obs⟩ y = some sv) (hs : sizeT C.P t = some 1)
    (h1 : (f v).plain = true) (hl : cellsS sv = [f v]) (hp : obs[p]? = some (.fix ty (l.map f))) (hc : i < l.length)
    (h : AO C ops rest ⟨e, obs.set p (.fix ty ((l.set i v).map f))⟩ Q) : AOp C ops rest o ⟨e, obs⟩ Q :=
  AOp.store1 ho hd hx hy hs h1 hl hp (by simp; exact hc) (by rw [List.map_set] at h; simpa using h)
end
end Go.Vm
