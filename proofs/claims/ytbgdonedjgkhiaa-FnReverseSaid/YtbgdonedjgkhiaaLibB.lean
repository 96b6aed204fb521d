/- The framework by which a function is walked through: what this claim needs of it. -/
import Derived.Test.YtbgdonedjgkhiaaLibA
/- Elements of growing slices of one's own: read and written. -/
set_option linter.unusedVariables false
set_option linter.unusedSimpArgs false
namespace Go.Vm
section
variable {C : Ctx} {Q : Exit → St → Prop} {ops : Array Oper} {rest : List Oper} {o : Oper} {e : List (Nat × SV)} {obs : List Ob} {d : Nat}
/-- What the slice is, if it has elements. -/
theorem Rel.growP {Ω : List Value} {a : Act} {w : World} (hr : Rel C ⟨e, obs⟩ Ω a w) {p : Nat} {ty sz : Nat} {cells : List D} {h : Value} (hp : obs[p]? = some (.grow ty sz cells)) (hΩ : Ω[p]? = some h) (h0 : 0 < cells.length) :
  ∃ g n cap cur, h = .slice (some ⟨g, 0, none⟩) n cap ∧ w.heap[g]? = some (.cells cur ty (0, 0)) ∧ cells.length = n * sz ∧ n ≤ cap ∧ cap ≤ maxLen ∧ cur.size = cap * sz ∧
   (∀ (i : Nat) x, cells[i]? = some x → ∃ y, cur.toList[i]? = some y ∧ RepD w (okB C obs Ω w) x y) := by
 obtain ⟨n, xs, ⟨hl, ho⟩, hxl, hrr⟩ := hr.mem.obj p _ _ hp hΩ
 rcases ho with ⟨_, hn⟩ | ⟨g, cap, cur, hv, _, hw, hnc, hcm, hcs, htk⟩
 ·exfalso; rw [hn] at hl; simp at hl; rw [hl] at hxl; simp at hxl; omega
 ·refine ⟨g, n, cap, cur, hv, hw, by omega, hnc, hcm, hcs, fun i x hx => ?_⟩
  have hi := (List.getElem?_eq_some_iff.1 hx).1
  obtain ⟨y, hxi⟩ : ∃ y, xs[i]? = some y := ⟨_, List.getElem?_eq_getElem (by omega)⟩
  refine ⟨y, ?_, hrr i x y hx hxi⟩
  rw [← htk, List.getElem?_take] at hxi
  split at hxi
  ·exact hxi
  ·cases hxi
theorem Rel.ptrG' {Ω : List Value} {a : Act} {w : World} (hr : Rel C ⟨e, obs⟩ Ω a w) {p off : Nat} {ty sz : Nat} {cells : List D} {v : Value} (hp : obs[p]? = some (.grow ty sz cells)) (h0 : 0 < cells.length)
  (hv : RepS w (okB C obs Ω w) Ω (.ptr p off) v) : ∃ g n cap cur, v = .pointer (some ⟨g, off, none⟩) ∧ Ω[p]? = some (.slice (some ⟨g, 0, none⟩) n cap) ∧ w.heap[g]? = some (.cells cur ty (0, 0)) ∧ cells.length = n * sz ∧ n ≤ cap ∧ cap ≤ maxLen ∧ cur.size = cap * sz ∧
   (∀ (i : Nat) x, cells[i]? = some x → ∃ y, cur.toList[i]? = some y ∧ RepD w (okB C obs Ω w) x y) := by
 cases hv with
 | ptr _ _ b hb =>
  obtain ⟨g, n, cap, cur, h1, _⟩ := hr.growP hp hb h0
  cases h1
 | ptrG _ _ b len cap hb =>
  obtain ⟨g, n, cap, cur, h1, h2⟩ := hr.growP hp hb h0
  cases h1
  exact ⟨b, len, cap, cur, rfl, hb, h2⟩
theorem AOp.indexOwn {t el sz : TypeId} {x ix : Operand} {k : IntKind} {i : Int} {p n : Nat} {cells : List D} (ho : o.op = .indexAddr t x ix) (hd : o.dst = some d) (hn : d < C.n) (hx : opS ⟨e, obs⟩ x = some (.own p))
  (hi : opS ⟨e, obs⟩ ix = some (.d (.v (.int k i)))) (ht : elemT C.P t = some (el, sz)) (hp : obs[p]? = some (.grow el sz cells)) (hs : 0 < sz) (hc : cells.length = n * sz) (h0 : 0 ≤ i) (h1 : i < (n : Int))
  (h : AO C ops rest ⟨(d, .ptr p (i.toNat * sz)) :: e, obs⟩ Q) : AOp C ops rest o ⟨e, obs⟩ Q :=
 AOp.value hd hn (fun Ω a w hr => by
  have hi := hr.evalV hi
  have hv := hr.eval hx
  generalize hev : a.eval x = v at hv
  cases hv with
  | own _ _ hb _ =>
   have hpos : 0 < cells.length := by
    rw [hc]; exact Nat.mul_pos (by omega) hs
   obtain ⟨g, m, cap, cur, rfl, hw, hcl, _⟩ := hr.growP hp hb hpos
   have hmn : m = n := Nat.eq_of_mul_eq_mul_right hs (by rw [← hcl, hc])
   subst hmn
   refine ⟨_, ?_, .ptrG p (i.toNat * sz) g m cap hb⟩
   have := run_indexSlice (P := C.P) ht k i g 0 m cap h0 h1 (w := w)
   simp only [Nat.zero_add] at this
   simp only [execOp, ho, hev, hi, this, Sem.run_bind, Sem.run_pure, Result.andThen_ok]) h
theorem AOp.loadO1 {t : TypeId} {x : Operand} {p off : Nat} {ty sz : Nat} {cells : List D} {y : D} (ho : o.op = .load t x) (hd : o.dst = some d) (hn : d < C.n) (hx : opS ⟨e, obs⟩ x = some (.ptr p off))
  (ht : aggT C.P t = some false) (hp : obs[p]? = some (.grow ty sz cells)) (hc : cells[off]? = some y) (h : AO C ops rest ⟨(d, .d y) :: e, obs⟩ Q) : AOp C ops rest o ⟨e, obs⟩ Q :=
 AOp.value hd hn (fun Ω a w hr => by
  have hlt := (List.getElem?_eq_some_iff.1 hc).1
  obtain ⟨g, n, cap, cur, hev, hΩ, hw, hcl, _, _, _, hrr⟩ := hr.ptrG' hp (by omega) (hr.eval hx)
  obtain ⟨v, hv, hrep⟩ := hrr off y hc
  refine ⟨v, ?_, .d _ _ hrep⟩
  have hcell : w.cell? ⟨g, off, none⟩ = some v := by rw [cell_of_row w g off cur ty (0, 0) hw]; simpa using hv
  simp only [execOp, ho, hev, Instr.loadAt, Instr.sureAddr, Sem.run_bind, Sem.run_pure, Result.andThen_ok, run_load1 ht hcell]) h
theorem Mem.setG {C : Ctx} {obs : List Ob} {Ω : List Value} {w : World} (h : Mem C obs Ω w) {o g n cap sz : Nat} {ty : TypeId} {cells cells' : List D} {cur cur' : List Value} (ho : obs[o]? = some (.grow ty sz cells))
  (hΩ : Ω[o]? = some (.slice (some ⟨g, 0, none⟩) n cap)) (hw : w.heap[g]? = some (.cells cur.toArray ty (0, 0))) (hcl : cells'.length = n * sz) (hnc : n ≤ cap) (hcm : cap ≤ maxLen) (hcs : cur'.length = cap * sz)
  (hr : ∀ (i : Nat) x, cells'[i]? = some x → ∃ y, cur'[i]? = some y ∧ RepD w (okB C obs Ω w) x y) :
  Mem C (obs.set o (.grow ty sz cells')) Ω (w.setRow g cur'.toArray) ∧ (∀ k, okB C obs Ω w k → okB C (obs.set o (.grow ty sz cells')) Ω (w.setRow g cur'.toArray) k ∧ (w.setRow g cur'.toArray).heap[k]? = w.heap[k]?) := by
 have hok : ∀ k, okB C obs Ω w k → okB C (obs.set o (.grow ty sz cells')) Ω (w.setRow g cur'.toArray) k ∧ (w.setRow g cur'.toArray).heap[k]? = w.heap[k]? := by
  intro k hk
  refine ⟨okB_set ho (.inl rfl) (by simp) hk, setRow_other w g k _ fun e => ?_⟩
  subst e
  exact hk.2.2 o _ _ ho rfl hΩ rfl
 refine ⟨⟨by simp [h.len], fun i ob k e1 e2 => ?_, fun i j a c p q x hij e1 e2 l1 l2 e3 e4 hp => ?_, fun i ob p x e1 l1 e2 hp => ?_, ?_⟩, hok⟩
 ·rcases get_set e1 with ⟨rfl, rfl, _⟩ | ⟨hi, e1⟩
  ·rw [hΩ] at e2; cases e2
   have hle : n * sz ≤ cap * sz := Nat.mul_le_mul_right _ hnc
   refine ⟨n, cur'.take (n * sz), ⟨by simp; omega, .inr ⟨g, cap, cur'.toArray, rfl, Nat.zero_le _, setRow_heap w g _ _ ty _ hw, hnc, hcm, by simp [hcs], by simp⟩⟩, by simp; omega, fun i x y hx hy => ?_⟩
   obtain ⟨z, hz, hrep⟩ := hr i x hx
   rw [List.getElem?_take] at hy
   split at hy
   ·rw [hz] at hy; cases hy; exact hrep.mono hok
   ·cases hy
  ·refine (h.obj i ob k e1 e2).mono hok (fun _ _ e => e) fun c hc hv => setRow_other w g c _ fun e => ?_
   subst e
   exact h.sep o i _ _ _ _ _ (Ne.symm hi) ho e1 rfl hv hΩ e2 rfl hc
 ·rcases get_set e1 with ⟨f1, f2, _⟩ | ⟨hi, f1⟩ <;> rcases get_set e2 with ⟨g1, g2, _⟩ | ⟨hj, g1⟩
  ·exact (hij (f1.trans g1.symm)).elim
  ·subst f1; exact h.sep i j _ _ p q x hij ho g1 rfl l2 e3 e4 hp
  ·subst g1; exact h.sep i j _ _ p q x hij f1 ho l1 rfl e3 e4 hp
  ·exact h.sep i j a c p q x hij f1 g1 l1 l2 e3 e4 hp
 ·rcases get_set e1 with ⟨rfl, rfl, _⟩ | ⟨hi, e1⟩
  ·exact h.new i _ p x ho rfl e2 hp
  ·exact h.new i ob p x e1 l1 e2 hp
 ·refine ⟨h.fr.os, h.fr.tape, h.fr.output, by simp; exact h.fr.size, fun c e1 e2 => ?_, h.fr.glob⟩
  rw [setRow_other w g c _ fun e => ?_]
  ·exact h.fr.block c e1 e2
  ·subst e
   rcases h.new o _ _ c ho rfl hΩ rfl with hn | hn
   ·omega
   ·exact e2 hn
/-- One element, of one cell, is written. -/
theorem AOp.storeO1 {t : TypeId} {x y : Operand} {p off : Nat} {ty sz : Nat} {cells : List D} {z : D} (ho : o.op = .store t x y) (hd : o.dst = none) (hx : opS ⟨e, obs⟩ x = some (.ptr p off)) (hy : opS ⟨e, obs⟩ y = some (.d z))
  (hs : sizeT C.P t = some 1) (h1 : (SV.d z).plain = true) (hl : cellsS (.d z) = [.d z]) (hp : obs[p]? = some (.grow ty sz cells)) (hc : off < cells.length)
  (h : AO C ops rest ⟨e, obs.set p (.grow ty sz (cells.set off z))⟩ Q) : AOp C ops rest o ⟨e, obs⟩ Q := by
 refine AOp.skip hd (fun Ω a w hr => ?_) h
 obtain ⟨g, n, cap, cur, hev, hΩ, hw, hcl, hnc, hcm, hcs, hrr⟩ := hr.ptrG' hp (by omega) (hr.eval hx)
 obtain ⟨us, huc, hul, hur, huone⟩ := (hr.eval hy).cells (by rw [hl]; simp [h1])
 rw [hl] at hul hur
 obtain ⟨v, rfl⟩ : ∃ v, us = [v] := by
  cases us with
  | nil => simp at hul
  | cons v r => cases r with
   | nil => exact ⟨v, rfl⟩
   | cons => simp at hul
 have hrep : RepS w (okB C obs Ω w) Ω (.d z) v := hur 0 _ _ rfl rfl
 have hlen : cells.length ≤ cur.toList.length := by rw [hcl]; simp [hcs]; exact Nat.mul_le_mul_right _ hnc
 have hst := run_storeCells_at C.P g off ty [v] 0 cur.toList.toArray w (by simpa using hw) (by simp at hlen ⊢; omega) huone
 simp only [Nat.add_zero] at hst
 have hset : cur.toList.take off ++ [v] ++ cur.toList.drop (off + [v].length) = cur.toList.set off v := by
  rw [List.set_eq_take_append_cons_drop, if_pos (by omega)]; simp
 have key := hr.mem.setG hp hΩ (cur := cur.toList) (by simpa using hw) (cells' := cells.set off z) (cur' := cur.toList.take off ++ [v] ++ cur.toList.drop (off + [v].length)) (by simpa using hcl) hnc hcm (by rw [hset]; simpa using hcs) (fun i x hx => by
  rw [hset]
  by_cases hi : off = i
  ·subst hi
   rw [List.getElem?_set_self hc] at hx
   cases hx
   refine ⟨v, by rw [List.getElem?_set_self (by omega)], ?_⟩
   cases hrep with
   | d _ _ hd => exact hd
  ·rw [List.getElem?_set_ne hi] at hx ⊢
   exact hrr i x hx)
 have hrel : Rel C ⟨e, obs.set p (.grow ty sz (cells.set off z))⟩ Ω a (w.setRow g (cur.toList.take off ++ [v] ++ cur.toList.drop (off + [v].length)).toArray) :=
  ⟨hr.defers, hr.size, fun t x hx => let ⟨v, hv, hr'⟩ := hr.env t x hx; ⟨v, hv, hr'.mono key.2 (fun _ _ e => e)⟩, key.1⟩
 refine ⟨_, Ω, ?_, hrel⟩
 have hsz : (a.eval y).cells.size = 1 := by rw [huc]; rfl
 have huc' : (a.eval y).cells.toList = [v] := by rw [huc]
 simp only [execOp, ho, hev, Instr.storeAt, Instr.sureAddr, storeVar, Sem.run_bind, Sem.run_pure, Result.andThen_ok, run_sizeOf hs, hsz, ne_eq, not_true_eq_false, if_false, huc', hst, Sem.run_ite]
theorem AOp.storeOL {α : Type} {f : α → D} {l : List α} {i : Nat} {v : α} {t : TypeId} {x y : Operand} {p : Nat} {ty : Nat} (ho : o.op = .store t x y) (hd : o.dst = none) (hx : opS ⟨e, obs⟩ x = some (.ptr p (i * 1))) (hy : opS ⟨e, obs⟩ y = some (.d (f v)))
  (hs : sizeT C.P t = some 1) (h1 : (SV.d (f v)).plain = true) (hl : cellsS (.d (f v)) = [.d (f v)]) (hp : obs[p]? = some (.grow ty 1 (l.map f))) (hc : i < l.length)
  (h : AO C ops rest ⟨e, obs.set p (.grow ty 1 ((l.set i v).map f))⟩ Q) : AOp C ops rest o ⟨e, obs⟩ Q :=
 AOp.storeO1 ho hd hx hy hs h1 hl hp (by simpa using hc) (by rw [List.map_set] at h; simpa using h)
end
end Go.Vm

/- Regions that draw their order, in which some operations turn memory while others still wait. -/
set_option linter.unusedVariables false
set_option linter.unusedSimpArgs false
namespace Go.Vm

def drE (sv : SV → Bool) (e : Env) : Env := fun t => (e t).bind fun y => if sv y = true then some y else none
def dropS (sv : SV → Bool) : List Nat → List (Nat × SV) → List (Nat × SV)
 | _, [] => []
 | seen, (k, x) :: r => if seen.contains k then dropS sv seen r else if sv x then (k, x) :: dropS sv (k :: seen) r else dropS sv (k :: seen) r
theorem get_dropS (sv : SV → Bool) : ∀ (e : List (Nat × SV)) (seen : List Nat) (t : Nat), get (dropS sv seen e) t = if t ∈ seen then none else drE sv (get e) t
 | [], seen, t => by simp [dropS, get, drE]
 | (k, x) :: r, seen, t => by
  simp only [dropS]
  split
  ·rename_i hk
   rw [get_dropS sv r seen t]
   split
   ·rfl
   ·rename_i ht
    have : k ≠ t := fun e => ht (by subst e; simpa using hk)
    simp [drE, get, this]
  ·rename_i hk
   have hk' : k ∉ seen := by simpa using hk
   split
   ·rename_i hx
    simp only [get]
    split
    ·rename_i e; subst e; rw [if_neg hk']; simp [drE, get, hx]
    ·rename_i e
     rw [get_dropS sv r (k :: seen) t]
     simp [drE, get, e, Ne.symm e]
   ·rename_i hx
    rw [get_dropS sv r (k :: seen) t]
    by_cases e : k = t
    ·subst e; simp [hk', drE, get, hx]
    ·simp [drE, get, e, Ne.symm e]
theorem drE_some {sv : SV → Bool} {e : Env} {t : Nat} {y : SV} (h : drE sv e t = some y) : e t = some y ∧ sv y = true := by
 unfold drE at h
 cases he : e t with
 | none => rw [he] at h; cases h
 | some z =>
  rw [he, Option.bind_some] at h
  split at h
  ·rename_i hz; cases h; exact ⟨rfl, hz⟩
  ·cases h
theorem drE_upd {sv : SV → Bool} {e : Env} {d : Option Nat} {x : SV} (h : sv x = true) : drE sv (upd e d x) = upd (drE sv e) d x := by
 cases d with
 | none => rfl
 | some d => funext t; simp only [drE, upd]; split <;> simp [h]

section
variable {C : Ctx} {ops : Array Oper} {md : Region.Mode}

/-- o turns memory from ob to ob'. -/
def MV (C : Ctx) (ops : Array Oper) (ob ob' : List Ob) (sv : SV → Bool) (o : Oper) (x : SV) (e : Env) : Prop :=
 o.guard = none ∧ ∀ (l : List (Nat × SV)), (∀ t, t ∈ o.looksAt ops → get l t = e t) → ∀ Ω a w, Rel C ⟨l, ob⟩ Ω a w →
  o.wp C.P a w (fun a' w' => ∃ (l' : List (Nat × SV)) (Ω' : List Value), get l' = upd (drE sv (get l)) o.dst x ∧ Rel C ⟨l', ob'⟩ Ω' a' w') (fun _ _ _ => False)

/-- hs: what gives values; ms: what turns memory, in its order; OL: the objects ahead of each of ms, and at the end; SL: what outlives each of ms. -/
structure Plan where
 hs : List Nat
 ms : List Nat
 OL : List (List Ob)
 SL : List (SV → Bool)

/-- Number i may come up behind the first k of those that turn memory. -/
def relK (md : Region.Mode) (ops : Array Oper) (p : Plan) (i : Nat) : Nat → Bool
 | 0 => true
 | k + 1 => match p.ms[k]? with
  | some j => !ancB md ops ops.size j i
  | none => true
def YA (C : Ctx) (md : Region.Mode) (ops : Array Oper) (p : Plan) (i : Nat) (o : Oper) (x : SV) (e : Env) : Prop := ∀ (k : Nat) (ob : List Ob), p.OL[k]? = some ob → relK md ops p i k = true → YV C ops ob o x e
/-- What o looks at outlives what the others turn, those that do not wait for it. -/
def SU (md : Region.Mode) (ops : Array Oper) (p : Plan) (i : Nat) (o : Oper) (x : SV) (e : Env) : Prop := ∀ (k : Nat) (sv : SV → Bool) (j : Nat), p.SL[k]? = some sv → p.ms[k]? = some j → ancB md ops ops.size j i = false → sv x = true ∧ ∀ t, t ∈ o.looksAt ops → ∀ y, e t = some y → sv y = true
def DN (p : Plan) (listed : Array Bool) (k : Nat) : Prop := ∀ (k' j : Nat), k' < k → p.ms[k']? = some j → listed.getD j false = true

def wpAnyT (C : Ctx) (md : Region.Mode) (ops : Array Oper) (p : Plan) (L : Array Bool → Env → Prop) : Nat → Array Bool → Env → Nat → Prop
 | 0, listed, e, k => k = p.ms.length ∧ L listed e
 | f + 1, listed, e, k => Region.ready md ops listed ≠ [] ∧ ∀ i ∈ Region.ready md ops listed,
   (i ∈ p.hs ∧ ∃ o x ob, ops[i]? = some o ∧ p.OL[k]? = some ob ∧ YV C ops ob o x e ∧ wpAnyT C md ops p L f (listed.setIfInBounds i true) (upd e o.dst x) k) ∨
   (p.ms[k]? = some i ∧ ∃ o x ob ob' sv, ops[i]? = some o ∧ p.OL[k]? = some ob ∧ p.OL[k + 1]? = some ob' ∧ p.SL[k]? = some sv ∧ MV C ops ob ob' sv o x e ∧
    wpAnyT C md ops p L f (listed.setIfInBounds i true) (upd (drE sv e) o.dst x) (k + 1))

/-- The walk: what gives values first, then what turns memory. -/
def AM (C : Ctx) (ops : Array Oper) (p : Plan) : Nat → List Nat → List (Nat × SV) → (St → Prop) → Prop
 | k, [], e, K => ∃ ob, p.OL[k]? = some ob ∧ K ⟨e, ob⟩
 | k, i :: is, e, K => ∃ o x ob ob' sv l', ops[i]? = some o ∧ p.OL[k]? = some ob ∧ p.OL[k + 1]? = some ob' ∧ p.SL[k]? = some sv ∧ MV C ops ob ob' sv o x (get e) ∧ get l' = upd (drE sv (get e)) o.dst x ∧ AM C ops p (k + 1) is l' K
def AH (C : Ctx) (md : Region.Mode) (ops : Array Oper) (p : Plan) : List Nat → List (Nat × SV) → (List (Nat × SV) → Prop) → Prop
 | [], e, K => K e
 | i :: rest, e, K => ∃ o x l', ops[i]? = some o ∧ YA C md ops p i o x (get e) ∧ SU md ops p i o x (get e) ∧ get l' = upd (get e) o.dst x ∧ AH C md ops p rest l' K

def drawMB (ops : Array Oper) (hs ms ts : List Nat) : Bool :=
 hs.all (· < ops.size) && ts.all (· < ops.size) && ts.all (fun t => !(hs ++ ms).contains t) && (hs.length + ms.length + ts.length == ops.size) &&
 ((List.range ops.size).all fun t => (hs ++ ms).contains t || (ts.contains t && (hs ++ ms).all (ancB .any ops ops.size t))) && headO .any ops (ms ++ ts) hs (Array.replicate ops.size false)

/-! ### How the walk is printed -/
variable {p : Plan} {rest : List Oper} {o : Oper} {e L : List (Nat × SV)} {d j dj : Nat} {x : SV} {want b : Bool} {K : List (Nat × SV) → Prop} {KS : St → Prop}
def GA (C : Ctx) (ops : Array Oper) (OL : List (List Ob)) (ks : List Nat) (o : Oper) (L : List (Nat × SV)) (d : Nat) (x : SV) : Prop := ∀ k ∈ ks, ∀ ob, OL[k]? = some ob → Gives C ops ob o L d x
theorem GA.nil {OL : List (List Ob)} {o : Oper} {L : List (Nat × SV)} {d : Nat} {x : SV} : GA C ops OL [] o L d x := fun k h => by cases h
theorem GA.cons {OL : List (List Ob)} {k : Nat} {ks : List Nat} {o : Oper} {L : List (Nat × SV)} {d : Nat} {x : SV} {ob : List Ob} (hk : OL[k]? = some ob) (h : Gives C ops ob o L d x) (t : GA C ops OL ks o L d x) : GA C ops OL (k :: ks) o L d x := fun k' hk' ob' hb => by
 rcases List.mem_cons.1 hk' with rfl | h'
 ·rw [hk] at hb; cases hb; exact h
 ·exact t k' h' ob' hb
def SA (SL : List (SV → Bool)) (L : List (Nat × SV)) (x : SV) : List Nat → Bool
 | [] => true
 | k :: ks => (match SL[k]? with | some sv => sv x && L.all fun q => sv q.2 | none => true) && SA SL L x ks
theorem SA.spec {SL : List (SV → Bool)} {L : List (Nat × SV)} {x : SV} : ∀ {ks : List Nat}, SA SL L x ks = true → ∀ k ∈ ks, ∀ sv, SL[k]? = some sv → sv x = true ∧ L.all (fun q => sv q.2) = true
 | [], _, k, hk, _, _ => by cases hk
 | k0 :: ks, h, k, hk, sv, hsv => by
  simp only [SA, Bool.and_eq_true] at h
  rcases List.mem_cons.1 hk with rfl | h'
  ·rw [hsv] at h; simpa using h.1
  ·exact SA.spec h.2 k h' sv hsv
/-- ks: behind how many of those that turn memory number i may come up; ss: which of them do not wait for it. -/
def relB (ops : Array Oper) (ms : List Nat) (i : Nat) (ks ss : List Nat) : Bool :=
 (List.range (ms.length + 1)).all (fun k => (match k with | 0 => false | k + 1 => match ms[k]? with | some j => ancB .any ops ops.size j i | none => false) || ks.contains k) &&
 (List.range ms.length).all (fun k => (match ms[k]? with | some j => ancB .any ops ops.size j i | none => false) || ss.contains k)
theorem keep_all {ks : List Nat} (hk : keep ks e = some L) (hl : looksB ops o ks = true) {sv : SV → Bool} (h : L.all (fun q => sv q.2) = true) : ∀ t, t ∈ o.looksAt ops → ∀ y, get e t = some y → sv y = true := fun t ht y hy => by
 simp only [looksB, Bool.and_eq_true, List.all_eq_true, List.contains_iff_mem] at hl
 obtain ⟨h1, _⟩ := (keep_get' hk t).1 (hl.1 t ht)
 rw [← h1] at hy
 have hmem : ∀ {l : List (Nat × SV)}, get l t = some y → (t, y) ∈ l := fun {l} => by
  induction l with
  | nil => intro h; cases h
  | cons q l ih =>
   obtain ⟨k, z⟩ := q
   intro h
   simp only [get] at h
   split at h
   ·rename_i e; subst e; cases h; simp
   ·simp [ih h]
 exact List.all_eq_true.1 h _ (hmem hy)
theorem AH.done (h : AM C ops p 0 p.ms e KS) : AH C .any ops p [] e (fun e' => AM C ops p 0 p.ms e' KS) := h
theorem AH.op {i : Nat} {is : List Nat} (ls ks ss : List Nat) (h0 : ops[i]? = some o) (hg : o.guard = none) (hl : looksB ops o ls = true) (hrel : relB ops p.ms i ks ss = true) (hlen : p.OL.length = p.ms.length + 1) (hk : keep ls e = some L) (hd : o.dst = some d)
  (hv : GA C ops p.OL ks o L d x) (hs : SA p.SL L x ss = true) (h : AH C .any ops p is ((d, x) :: e) K) : AH C .any ops p (i :: is) e K := by
 simp only [relB, Bool.and_eq_true, List.all_eq_true, List.mem_range, Bool.or_eq_true, List.contains_iff_mem] at hrel
 refine ⟨o, x, (d, x) :: e, h0, fun k ob hob hr => .inl ⟨by unfold wantE; rw [hg], VQ.of hk hl hd (hv k ?_ ob hob)⟩, fun k sv j h1 h2 h3 => ?_, by rw [hd, get_upd], h⟩
 ·have hlt := (List.getElem?_eq_some_iff.1 hob).1
  rcases hrel.1 k (by omega) with h | h
  ·exfalso
   cases k with
   | zero => cases h
   | succ k =>
    simp only [relK] at hr
    simp only at h
    split at h
    ·rename_i j hj
     rw [hj] at hr
     simp [h] at hr
    ·cases h
  ·exact h
 ·have hlt := (List.getElem?_eq_some_iff.1 h2).1
  rcases hrel.2 k hlt with h | h
  ·rw [h2] at h; simp only at h; rw [h3] at h; cases h
  ·obtain ⟨q1, q2⟩ := SA.spec hs k h sv h1
   exact ⟨q1, keep_all hk hl q2⟩
theorem AM.done {k : Nat} {ob : List Ob} (h1 : p.OL[k]? = some ob) (h : KS ⟨e, ob⟩) : AM C ops p k [] e KS := ⟨ob, h1, h⟩
theorem AM.op {k i : Nat} {is : List Nat} (ks : List Nat) {ob ob' : List Ob} {sv : SV → Bool} (h1 : ops[i]? = some o) (h2 : p.OL[k]? = some ob) (h3 : p.OL[k + 1]? = some ob') (h4 : p.SL[k]? = some sv) (hg : o.guard = none)
  (hl : looksB ops o ks = true) (hk : keep ks e = some L) (hd : o.dst = some d)
  (hv : ∀ (e : List (Nat × SV)) (Q : Exit → St → Prop), AO C ops [] ⟨(d, x) :: dropS sv [] (L ++ e), ob'⟩ Q → AOp C ops [] o ⟨L ++ e, ob⟩ Q)
  {e' : List (Nat × SV)} (he : dropS sv [] e = e') (h : AM C ops p (k + 1) is ((d, x) :: e') KS) : AM C ops p k (i :: is) e KS := by
 subst he
 have hdr : ∀ l : List (Nat × SV), get (dropS sv [] l) = drE sv (get l) := fun l => by funext t; rw [get_dropS]; simp
 refine ⟨o, x, ob, ob', sv, (d, x) :: dropS sv [] e, h1, h2, h3, h4, ⟨hg, ?_⟩, by rw [hd, get_upd, hdr], h⟩
 intro l hg' Ω a w hr
 simp only [looksB, Bool.and_eq_true, List.all_eq_true, List.contains_iff_mem] at hl
 have hsame : ∀ t, get (L ++ l) t = get l t := fun t => by
  rw [get_append]
  by_cases ht : t ∈ ks
  ·obtain ⟨h1, h2⟩ := (keep_get' hk t).1 ht
   rw [h1]
   have := hg' t (hl.2 t ht)
   rw [this]
   cases get e t <;> rfl
  ·rw [(keep_get' hk t).2 ht]
 have hr' : Rel C ⟨L ++ l, ob⟩ Ω a w := hr.congr fun t y hy => by rw [← hsame t]; exact hy
 have H := hv l (fun ed s => ed = .normal ∧ s = ⟨(d, x) :: dropS sv [] (L ++ l), ob'⟩) (AO.nil ⟨rfl, rfl⟩) Ω a w hr'
 refine wp_monoQ (fun a' w' hq => ?_) (fun ed a' w' hne hq => ?_) H
 ·obtain ⟨s, Ω', hr2, _, hs⟩ := hq
  subst hs
  refine ⟨_, Ω', ?_, hr2⟩
  rw [hd, get_upd, hdr]
  congr 1
  congr 1
  funext t; exact hsame t
 ·obtain ⟨s, Ω', _, he, _⟩ := hq
  exact hne he
end
section
variable {C : Ctx} {Q : Exit → St → Prop} {ops : Array Oper} {rest : List Oper} {o : Oper} {e : List (Nat × SV)} {obs : List Ob} {d : Nat}
/-- The slots that remain are told. -/
theorem AO.forget {l : List Oper} {e' : List (Nat × SV)} (hg : ∀ t y, get e' t = some y → get e t = some y) (h : AO C ops l ⟨e', obs⟩ Q) : AO C ops l ⟨e, obs⟩ Q := fun Ω a w hr => h Ω a w (hr.congr hg)
end
end Go.Vm

/- Plain Lean about printed functions: steps, elements, loops that scan a list. -/
set_option linter.unusedVariables false
set_option linter.unusedSimpArgs false
namespace Go.Vm
theorem in64 {z : Int} (h1 : 0 ≤ z) (h2 : z ≤ 9223372036854775807) : inI .i64 z := ⟨by simp only [lo]; omega, by simp only [hi]; omega⟩
theorem in64m {z : Int} (h1 : -9223372036854775808 ≤ z) (h2 : z ≤ 9223372036854775807) : inI .i64 z := ⟨by simp only [lo]; omega, by simp only [hi]; omega⟩
theorem cond_t {α : Type} {b : Bool} (h : b = true) (x y : α) : cond b x y = x := by rw [h]; rfl
theorem cond_f {α : Type} {b : Bool} (h : b = false) (x y : α) : cond b x y = y := by rw [h]; rfl
theorem nT {p : Prop} [Decidable p] (h : ¬ p) : (!decide p) = true := by simp [h]
theorem nF {p : Prop} [Decidable p] (h : p) : (!decide p) = false := by simp [h]
theorem cond_if {α : Type} (b : Bool) (x y : α) : cond b x y = if b = true then x else y := by cases b <;> rfl
theorem aft_inl {V R T : Type} (v : V) (ret : R → Option T) (k : V → Option T) : aft (.inl v) ret k = k v := rfl
theorem aft_inr {V R T : Type} (r : R) (ret : R → Option T) (k : V → Option T) : aft (.inr r : Sum V R) ret k = ret r := rfl
theorem idx_get {α : Type} {l : List α} {k : Nat} {x : α} (h : l[k]? = some x) : idx l (k : Int) = some x := idx_some h rfl
theorem succ_cast (k : Nat) : ((k : Int) + 1) = ((k + 1 : Nat) : Int) := by omega
/-- A loop that goes through a list and gives bad at the first element that is not p. -/
theorem scan_loop {α T : Type} (l : List α) (b : (Int → Option (Sum Unit T)) → Int → Option (Sum Unit T)) (p : α → Bool) (bad : T)
  (hend : ∀ K (k : Nat), l.length ≤ k → b K (k : Int) = some (Sum.inl ()))
  (hstep : ∀ K (k : Nat) x, l[k]? = some x → b K (k : Int) = if p x = true then K ((k + 1 : Nat) : Int) else some (Sum.inr bad)) :
  ∀ (F k : Nat), l.length - k < F → iter b F (k : Int) = some (if (l.drop k).all p = true then Sum.inl () else Sum.inr bad) := by
 intro F
 induction F with
 | zero => intro k h; omega
 | succ F ih =>
  intro k h
  show b (iter b F) (k : Int) = _
  by_cases hk : k < l.length
  ·have hx : l[k]? = some l[k] := List.getElem?_eq_getElem hk
   rw [hstep _ k _ hx, List.drop_eq_getElem_cons hk, List.all_cons]
   by_cases hp : p l[k] = true
   ·rw [if_pos hp, hp, Bool.true_and]; exact ih (k + 1) (by omega)
   ·rw [if_neg hp]
    have : p l[k] = false := by simpa using hp
    rw [this, Bool.false_and, if_neg (by simp)]
  ·rw [hend _ k (by omega), List.drop_eq_nil_of_le (by omega)]; rfl
theorem scan_loop0 {α T : Type} (l : List α) (b : (Int → Option (Sum Unit T)) → Int → Option (Sum Unit T)) (p : α → Bool) (bad : T)
  (hend : ∀ K (k : Nat), l.length ≤ k → b K (k : Int) = some (Sum.inl ()))
  (hstep : ∀ K (k : Nat) x, l[k]? = some x → b K (k : Int) = if p x = true then K ((k + 1 : Nat) : Int) else some (Sum.inr bad)) {F : Nat} (hF : l.length < F) :
  iter b F (0 : Int) = some (if l.all p = true then Sum.inl () else Sum.inr bad) := by
 have := scan_loop l b p bad hend hstep F 0 (by omega)
 rwa [List.drop_zero] at this
end Go.Vm

/- Regions that draw their order, in which operations turn memory in whatever order they come. -/
set_option linter.unusedVariables false
set_option linter.unusedSimpArgs false
namespace Go.Vm

/-- js: all but the tail, in the order in which they are gone through; ms: those of them that turn memory; OB: the objects, by what is listed; SL: what outlives each of ms. -/
structure Mids where
 js : List Nat
 ms : List Nat
 OB : (Nat → Bool) → List Ob
 SL : List (Nat × (SV → Bool))
def getF : List (Nat × (SV → Bool)) → Nat → SV → Bool
 | [], _ => fun _ => true
 | (k, f) :: r, i => if k = i then f else getF r i
def Mids.sv (p : Mids) (i : Nat) : SV → Bool := getF p.SL i
def Mids.svf (p : Mids) (i : Nat) : SV → Bool := if p.ms.contains i then p.sv i else fun _ => true
def setB (L : Nat → Bool) (i : Nat) : Nat → Bool := fun j => bif Nat.beq j i then true else L j
def lstB (listed : Array Bool) : Nat → Bool := fun j => listed.getD j false

theorem drE_true (e : Env) : drE (fun _ => true) e = e := by
 funext t; unfold drE; cases e t <;> simp
theorem drE_comm (f g : SV → Bool) (e : Env) : drE f (drE g e) = drE g (drE f e) := by
 funext t
 unfold drE
 cases e t with
 | none => rfl
 | some y => simp only [Option.bind_some]; by_cases h1 : f y = true <;> by_cases h2 : g y = true <;> simp [h1, h2]

section
variable {C : Ctx} {ops : Array Oper}

/-- The state tells at least this of what o looks at. -/
def Tells (ops : Array Oper) (o : Oper) (e : Env) (l : List (Nat × SV)) : Prop := ∀ t, t ∈ o.looksAt ops → ∀ y, e t = some y → get l t = some y
def MS (C : Ctx) (ops : Array Oper) (ob ob' : List Ob) (sv : SV → Bool) (o : Oper) (x : SV) (e : Env) : Prop :=
 wantE ops o e = some true ∧ ∀ (l : List (Nat × SV)), Tells ops o e l → ∀ Ω a w, Rel C ⟨l, ob⟩ Ω a w →
  o.wp C.P a w (fun a' w' => ∃ (l' : List (Nat × SV)) (Ω' : List Value), get l' = upd (drE sv (get l)) o.dst x ∧ Rel C ⟨l', ob'⟩ Ω' a' w') (fun _ _ _ => False)
def YS (C : Ctx) (ops : Array Oper) (obs : List Ob) (o : Oper) (x : SV) (e : Env) : Prop :=
 (wantE ops o e = some true ∧ ∀ (l : List (Nat × SV)), Tells ops o e l → ∀ Ω a w, Rel C ⟨l, obs⟩ Ω a w →
  o.wp C.P a w (fun a' w' => ∃ (l' : List (Nat × SV)) (Ω' : List Value), get l' = upd (get l) o.dst x ∧ Rel C ⟨l', obs⟩ Ω' a' w') (fun _ _ _ => False)) ∨
 (wantE ops o e = some false ∧ x = .d (.v undef) ∧ ∀ d, o.dst = some d → d < C.n)
theorem wantE_mono {o : Oper} {e e' : Env} {b : Bool} (h : ∀ t, t ∈ o.looksAt ops → ∀ y, e t = some y → e' t = some y) (hw : wantE ops o e = some b) : wantE ops o e' = some b := by
 unfold wantE at *
 cases hg : o.guard with
 | none => rw [hg] at hw; exact hw
 | some p =>
  obtain ⟨g, want⟩ := p
  rw [hg] at hw
  simp only at hw ⊢
  cases hj : (ops[g]?).bind (·.dst) with
  | none => rw [hj] at hw; cases hw
  | some dj =>
   rw [hj] at hw
   simp only at hw ⊢
   have hm : dj ∈ o.looksAt ops := by unfold Oper.looksAt; rw [hg]; simp only [hj]; simp
   cases he : e dj with
   | none => rw [he] at hw; cases hw
   | some y => rw [h dj hm y he]; rw [he] at hw; exact hw
theorem Tells.mono {o : Oper} {e e' : Env} {l : List (Nat × SV)} (h : ∀ t, t ∈ o.looksAt ops → ∀ y, e t = some y → e' t = some y) (ht : Tells ops o e' l) : Tells ops o e l := fun t hm y hy => ht t hm y (h t hm y hy)

/-- What may be listed when number i comes up. -/
def Adm (ops : Array Oper) (p : Mids) (L : Nat → Bool) (i : Nat) : Prop := L i = false ∧ ∀ k, k ∈ p.ms → (ancB .any ops ops.size i k = true → L k = true) ∧ (ancB .any ops ops.size k i = true → L k = false)
def ST (C : Ctx) (ops : Array Oper) (p : Mids) (i : Nat) (o : Oper) (x : SV) (e : Env) : Prop := ∀ L, Adm ops p L i →
 (p.ms.contains i = false ∧ YS C ops (p.OB L) o x e) ∨ (p.ms.contains i = true ∧ MS C ops (p.OB L) (p.OB (setB L i)) (p.sv i) o x e)
/-- The value outlives those that do not come ahead of it. -/
def SX (ops : Array Oper) (p : Mids) (i : Nat) (x : SV) : Prop := ∀ k, k ∈ p.ms → k ≠ i → ancB .any ops ops.size i k = false → ancB .any ops ops.size k i = false → p.sv k x = true
def SK (ops : Array Oper) (p : Mids) (i : Nat) (o : Oper) (e : Env) : Prop := ∀ k, k ∈ p.ms → k ≠ i → ancB .any ops ops.size i k = false → ancB .any ops ops.size k i = false → ∀ t, t ∈ o.looksAt ops → ∀ y, e t = some y → p.sv k y = true
theorem ST.mono {p : Mids} {i : Nat} {o : Oper} {x : SV} {e e' : Env} (h : ∀ t, t ∈ o.looksAt ops → ∀ y, e t = some y → e' t = some y) (hs : ST C ops p i o x e) : ST C ops p i o x e' := fun L hL => by
 rcases hs L hL with ⟨h1, h2⟩ | ⟨h1, h2, h3⟩
 ·refine .inl ⟨h1, ?_⟩
  rcases h2 with ⟨h2, h3⟩ | ⟨h2, h3⟩
  ·exact .inl ⟨wantE_mono h h2, fun l hl => h3 l (hl.mono h)⟩
  ·exact .inr ⟨wantE_mono h h2, h3⟩
 ·exact .inr ⟨h1, wantE_mono h h2, fun l hl => h3 l (hl.mono h)⟩

def wpAnyS (C : Ctx) (ops : Array Oper) (p : Mids) (K : Array Bool → Env → Prop) : Nat → Array Bool → Env → Prop
 | 0, listed, e => K listed e
 | f + 1, listed, e => Region.ready .any ops listed ≠ [] ∧ ∀ i ∈ Region.ready .any ops listed, i ∈ p.js ∧ ∃ o x, ops[i]? = some o ∧ ST C ops p i o x e ∧ SX ops p i x ∧
   wpAnyS C ops p K f (listed.setIfInBounds i true) (upd (drE (p.svf i) e) o.dst x)

theorem adm_of {p : Mids} {i : Nat} {listed : Array Bool} (inv : HInv .any ops p.js listed) (hi : i ∈ Region.ready .any ops listed) : Adm ops p (lstB listed) i := by
 obtain ⟨hun, oi, hoi, hall⟩ := mem_ready.1 hi
 refine ⟨getD_both hun, fun k hk => ⟨fun ha => ?_, fun ha => ?_⟩⟩
 ·exact anc_listed inv _ i k ha fun oj hj e he hb => by rw [hoi] at hj; cases hj; exact hall e he hb
 ·cases hq : lstB listed k with
  | false => rfl
  | true =>
   have := anc_listed inv _ k i ha fun ok hok e he hb => inv.closed k ok hok hq e he hb
   rw [getD_both hun] at this; cases this
theorem lst_set {listed : Array Bool} {i j : Nat} (h : i < listed.size) : lstB (listed.setIfInBounds i true) j = setB (lstB listed) i j := by
 unfold lstB setB
 by_cases e : j = i
 ·subst e; simp [Array.getD, h]
 ·rw [getD_set_ne false (fun h => e h.symm)]; simp [e]

theorem wpAny_of_S {p : Mids} {g : Nat} {K : Array Bool → Env → Prop} {Q' : Exit → Act → World → Prop} (hOB : ∀ L L', (∀ j ∈ p.ms, L j = L' j) → p.OB L = p.OB L')
  (hL : ∀ listed (l : List (Nat × SV)), K listed (get l) → ∀ Ω a w, Rel C ⟨l, p.OB (lstB listed)⟩ Ω a w → wpAny C.P .any ops Q' g listed a w) :
  ∀ (f : Nat) (listed : Array Bool) (l : List (Nat × SV)), HInv .any ops p.js listed → wpAnyS C ops p K f listed (get l) → ∀ Ω a w, Rel C ⟨l, p.OB (lstB listed)⟩ Ω a w → wpAny C.P .any ops Q' (f + g) listed a w
 | 0, listed, l, _, h, Ω, a, w, hr => by rw [Nat.zero_add]; exact hL _ _ h Ω a w hr
 | f + 1, listed, l, inv, h, Ω, a, w, hr => by
  rw [show f + 1 + g = (f + g) + 1 by omega]
  refine ⟨fun h0 => absurd h0 h.1, fun i hi => ?_⟩
  obtain ⟨hin, o, x, ho, hst, _, hK⟩ := h.2 i hi
  have inv' := inv.set hi hin
  have hlt : i < listed.size := by rw [inv.size]; exact (Array.getElem?_eq_some_iff.1 ho).1
  have hob' : p.OB (setB (lstB listed) i) = p.OB (lstB (listed.setIfInBounds i true)) := hOB _ _ fun j _ => (lst_set hlt).symm
  rcases hst _ (adm_of inv hi) with ⟨hm, hy⟩ | ⟨hm, hg, hmv⟩
  ·have hob : p.OB (lstB listed) = p.OB (lstB (listed.setIfInBounds i true)) := hOB _ _ fun j hj => by
    rw [lst_set hlt]
    have : j ≠ i := fun e => by subst e; simp [hj] at hm
    simp [setB, this]
   have hsv : p.svf i = fun _ => true := by unfold Mids.svf; rw [hm]; rfl
   rw [hsv, drE_true] at hK
   unfold wpOp
   simp only [ho]
   rcases hy with ⟨h1, h2⟩ | ⟨h1, rfl, h2⟩
   ·rw [if_pos (by rw [wantE_wanted h1 hr])]
    refine .inl (wp_monoQ (fun a' w' ⟨l', Ω', hg, hr'⟩ => ?_) (fun _ _ _ _ h => h.elim) (h2 l (fun _ _ _ h => h) Ω a w hr))
    exact wpAny_of_S hOB hL f _ l' inv' (by rw [hg]; exact hK) Ω' a' w' (hob ▸ hr')
   ·rw [if_neg (by rw [wantE_wanted h1 hr]; simp)]
    cases hd : o.dst with
    | none => rw [hd] at hK; exact wpAny_of_S hOB hL f _ l inv' hK Ω _ w (hob ▸ (hr.putNone undef))
    | some d =>
     rw [hd] at hK
     exact wpAny_of_S hOB hL f _ ((d, .d (.v undef)) :: l) inv' (by rw [get_upd]; exact hK) Ω _ w (hob ▸ (hr.put (h2 d hd) (.d _ _ (.v _))))
  ·unfold wpOp
   simp only [ho]
   rw [if_pos (by rw [wantE_wanted hg hr])]
   refine .inl (wp_monoQ (fun a' w' ⟨l', Ω', hg, hr'⟩ => ?_) (fun _ _ _ _ h => h.elim) (hmv l (fun _ _ _ h => h) Ω a w hr))
   have hsv : p.svf i = p.sv i := by unfold Mids.svf; rw [hm]; rfl
   exact wpAny_of_S hOB hL f _ l' inv' (by rw [hg, ← hsv]; exact hK) Ω' a' w' (hob' ▸ hr')

theorem svf_eq {p : Mids} {k : Nat} {y : SV} (h : k ∈ p.ms → p.sv k y = true) : p.svf k y = true := by
 unfold Mids.svf
 split
 ·rename_i hk; exact h (List.contains_iff_mem.1 hk)
 ·rfl
theorem wpAnyS_first {p : Mids} {i : Nat} {oi : Oper} {v : SV} {K : Array Bool → Env → Prop} (hi : ops[i]? = some oi) (hF : HFirst .any ops p.js) (hin : i ∈ p.js)
  (hdone : ∀ listed a, K listed a → ∀ j ∈ Region.ready .any ops listed, j ∉ p.js) :
  ∀ (f : Nat) (listed : Array Bool) (a : Env), HInv .any ops p.js listed →
   (∀ j oj, ops[j]? = some oj → j ≠ i → listed.getD j true = false → (∀ e ∈ oj.after, Region.binds .any e = true → e.on ≠ i) → oi.apart ops oj = true) →
   i ∈ Region.ready .any ops listed → ST C ops p i oi v a → SX ops p i v → SK ops p i oi a →
   wpAnyS C ops p K f (listed.setIfInBounds i true) (upd (drE (p.svf i) a) oi.dst v) → wpAnyS C ops p K (f + 1) listed a := by
 intro f
 induction f with
 | zero =>
  intro listed a inv _ hr hy hx hs H
  have hun := (mem_ready.1 hr).1
  refine ⟨fun h => (by rw [h] at hr; cases hr), fun j hj => ?_⟩
  have hjn : j ∈ p.js := hF listed inv i hin hun j hj
  refine ⟨hjn, ?_⟩
  by_cases hji : j = i
  ·subst hji; exact ⟨oi, v, hi, hy, hx, H⟩
  ·exact absurd hjn (hdone _ _ H j (ready_mono hj hji))
 | succ f ih =>
  intro listed a inv hfree hr hy hx hs H
  have hun := (mem_ready.1 hr).1
  refine ⟨fun h => (by rw [h] at hr; cases hr), fun j hj => ?_⟩
  have hjn : j ∈ p.js := hF listed inv i hin hun j hj
  refine ⟨hjn, ?_⟩
  by_cases hji : j = i
  ·subst hji; exact ⟨oi, v, hi, hy, hx, H⟩
  ·obtain ⟨hjun, oj, hoj, hall⟩ := mem_ready.1 hj
   have hnot : ∀ e ∈ oj.after, Region.binds .any e = true → e.on ≠ i := fun e he hb heq => by
    have h1 := hall e he hb
    rw [heq, getD_both hun] at h1
    cases h1
   have hap := hfree j oj hoj hji hjun hnot
   obtain ⟨a1, a2, a3⟩ := Oper.apart_spec hap
   have hfree' : ∀ k ok, ops[k]? = some ok → k ≠ i → (listed.setIfInBounds j true).getD k true = false →
     (∀ e ∈ ok.after, Region.binds .any e = true → e.on ≠ i) → oi.apart ops ok = true := fun k ok hk hki hun hno => by
    refine hfree k ok hk hki ?_ hno
    by_cases hjk : j = k
    ·subst hjk; exact hjun
    ·rw [getD_set_ne true hjk] at hun; exact hun
   have notanc : ∀ {j k : Nat}, j ∈ Region.ready .any ops listed → listed.getD k true = false → ancB .any ops ops.size j k = false := fun {j k} hj hun => by
    obtain ⟨_, oj, hoj, hall⟩ := mem_ready.1 hj
    cases hq : ancB .any ops ops.size j k with
    | false => rfl
    | true =>
     have := anc_listed inv _ j k hq (fun ok hok e he hb => by rw [hoj] at hok; cases hok; exact hall e he hb)
     rw [getD_both hun] at this; cases this
   obtain ⟨_, oj', y, hoj', hstj, hxj, hK⟩ := H.2 j (ready_mono hj hji)
   rw [hoj] at hoj'; cases hoj'
   have sjv : p.svf j v = true := svf_eq fun hjm => hx j hjm hji (notanc hr hjun) (notanc hj hun)
   have siy : p.svf i y = true := svf_eq fun him => hxj i him (Ne.symm hji) (notanc hj hun) (notanc hr hjun)
   refine ⟨oj, y, hoj, hstj.mono (fun t ht z hz => ?_), hxj, ?_⟩
   ·rw [upd_ne fun k hk e => a1 k hk (e ▸ ht)] at hz
    exact (drE_some hz).1
   ·refine ih (listed.setIfInBounds j true) _ (inv.set hj hjn) hfree' (ready_mono hr (Ne.symm hji)) (hy.mono fun t ht z hz => ?_) hx (fun k hk hki ha hb t ht z hz => ?_) ?_
    ·rw [upd_ne fun k hk e => a3 k hk (e ▸ ht)]
     have hz' : p.svf j z = true := svf_eq fun hjm => hs j hjm hji (notanc hr hjun) (notanc hj hun) t ht z hz
     simp [drE, hz, hz']
    ·rw [upd_ne fun k hk e => a3 k hk (e ▸ ht)] at hz
     exact hs k hk hki ha hb t ht z (drE_some hz).1
    ·rw [drE_upd siy, drE_comm, Array.setIfInBounds_comm _ _ hji]
     rw [drE_upd sjv] at hK
     rw [upd_comm (fun i hi => fun hk => a2 i hi hk)] at hK
     exact hK

/-- The walk. -/
def AS (C : Ctx) (ops : Array Oper) (p : Mids) : List Nat → List (Nat × SV) → (List (Nat × SV) → Prop) → Prop
 | [], e, K => K e
 | i :: rest, e, K => ∃ o x l', ops[i]? = some o ∧ ST C ops p i o x (get e) ∧ SX ops p i x ∧ SK ops p i o (get e) ∧ get l' = upd (drE (p.svf i) (get e)) o.dst x ∧ AS C ops p rest l' K

theorem wpAnyS_lex {p : Mids} {ts : List Nat} {K : List (Nat × SV) → Prop} (hF : HFirst .any ops p.js) (htl : ∀ t ∈ ts, t ∉ p.js) :
  ∀ (is : List Nat) (listed : Array Bool) (e : List (Nat × SV)), (∀ i ∈ is, i < ops.size ∧ i ∈ p.js) → (∀ j ∈ p.js, j ∈ is ∨ listed.getD j false = true) → HInv .any ops p.js listed →
  headO .any ops ts is listed = true → AS C ops p is e K →
  wpAnyS C ops p (fun listed' a' => (tailO .any ops ts listed' = true ∧ ∀ j ∈ p.js, listed'.getD j false = true) ∧ ∃ l', a' = get l' ∧ K l') is.length listed (get e)
 | [], listed, e, _, hall, inv, hB, h => ⟨⟨hB, fun j hj => (hall j hj).resolve_left (by simp)⟩, e, rfl, h⟩
 | i :: is, listed, e, hl, hall, inv, hB, h => by
  have hi := hl i (by simp)
  simp only [headO, Bool.and_eq_true] at hB
  obtain ⟨⟨hr, hf⟩, hB'⟩ := hB
  have hr' : i ∈ Region.ready .any ops listed := by simpa using hr
  obtain ⟨o, x, l', h0, hy, hx, hs, hg, hK⟩ := h
  refine wpAnyS_first h0 hF hi.2 (fun listed' a' hL => ?_) is.length listed _ inv (Region.free_spec h0 hf) hr' hy hx hs ?_
  ·intro j hj
   cases ts with
   | nil => have := hL.1.1; simp only [tailO, List.isEmpty_iff] at this; rw [this] at hj; cases hj
   | cons t ts =>
    have := hL.1.1
    simp only [tailO, Bool.and_eq_true, decide_eq_true_eq] at this
    rw [this.1] at hj
    have : j = t := by simpa using hj
    subst this
    exact htl j (by simp)
  ·rw [← hg]
   refine wpAnyS_lex hF htl is _ l' (fun j hj => hl j (by simp [hj])) (fun j hj => ?_) (inv.set hr' hi.2) hB' hK
   by_cases hji : j = i
   ·subst hji; right
    have : j < listed.size := by rw [inv.size]; exact hi.1
    simp [Array.getD, this]
   ·rcases hall j hj with h | h
    ·left; rcases List.mem_cons.1 h with h | h
     ·exact absurd h hji
     ·exact h
    ·right; exact getD_set_true h

def drawSB (ops : Array Oper) (js ms ts : List Nat) : Bool :=
 js.all (· < ops.size) && ts.all (· < ops.size) && ts.all (fun t => !js.contains t) && (js.length + ts.length == ops.size) && ms.all (js.contains ·) &&
 ((List.range ops.size).all fun t => js.contains t || (ts.contains t && js.all (ancB .any ops ops.size t))) && headO .any ops ts js (Array.replicate ops.size false)

theorem AC.drawS {id : Nat} {l : List Oper} {s : St} {Q : Exit → St → Prop} (js ms ts : List Nat) (OB : (Nat → Bool) → List Ob) (SL : List (Nat × (SV → Bool))) (hm : C.P.follows .mixedOrders = true) (hB : drawSB l.toArray js ms ts = true)
  (hOB : ∀ L L', (∀ j ∈ ms, L j = L' j) → OB L = OB L') (h0 : OB (fun _ => false) = s.obs)
  (h : AS C l.toArray ⟨js, ms, OB, SL⟩ js s.env (fun e' => AO C l.toArray (opsAt l.toArray ts) ⟨e', OB (fun _ => true)⟩ Q)) : AC C (.region id l.toArray true) s Q := fun Ω a w hr => by
 simp only [drawSB, Bool.and_eq_true, beq_iff_eq] at hB
 obtain ⟨⟨⟨⟨⟨⟨b1, b2⟩, b3⟩, b4⟩, b4'⟩, b5⟩, b6⟩ := hB
 have hF : HFirst .any l.toArray js := by
  intro listed inv i hi hun j hj
  obtain ⟨_, oj, hoj, hall⟩ := mem_ready.1 hj
  have hlt := (Array.getElem?_eq_some_iff.1 hoj).1
  have := List.all_eq_true.1 b5 j (List.mem_range.2 hlt)
  simp only [Bool.or_eq_true, Bool.and_eq_true, List.contains_iff_mem] at this
  rcases this with h | ⟨_, h⟩
  ·exact h
  ·have ha := anc_listed inv _ j i (List.all_eq_true.1 h i hi) (fun ok hk e he hb => by
    have : ok = oj := Option.some.inj (hk.symm.trans hoj)
    subst this
    exact hall e he hb)
   rw [getD_both hun] at ha
   cases ha
 have inv0 : HInv .any l.toArray js (Array.replicate l.toArray.size false) :=
  ⟨by simp, fun j oj _ hl => (by rw [getD_replicate_false] at hl; cases hl), fun t _ ht => getD_in (by simpa using ht) (getD_replicate_false _ _)⟩
 have H := wpAnyS_lex (p := ⟨js, ms, OB, SL⟩) (ts := ts) hF (fun t ht => by have := List.all_eq_true.1 b3 t ht; simpa using this) js _ s.env (fun i hi => ⟨by have := List.all_eq_true.1 b1 i hi; simpa using this, hi⟩) (fun j hj => .inl hj) inv0 b6 h
 refine wp_region_any hm ?_
 have := wpAny_of_S (Q' := Lift C Q) (p := ⟨js, ms, OB, SL⟩) (g := ts.length) hOB (fun listed e hL Ω a w hr => by
  obtain ⟨⟨h7, h8⟩, l', he, hK⟩ := hL
  have hob : OB (lstB listed) = OB (fun _ => true) := hOB _ _ fun j hj => h8 j (by have := List.all_eq_true.1 b4' j hj; simpa using this)
  have hr' : Rel C ⟨e, OB (fun _ => true)⟩ Ω a w := hob ▸ hr
  exact wpAny_of_tailO ts listed a w b2 h7 (hK Ω a w (hr'.congr fun t x hx => by rw [he]; exact hx))) _ _ s.env inv0 H Ω a _ (by
   have e0 : OB (lstB (Array.replicate l.toArray.size false)) = s.obs := by
    rw [← h0]; exact hOB _ _ fun j _ => getD_replicate_false _ _
   show Rel C ⟨s.env, OB _⟩ Ω a _
   rw [e0]; exact hr.drew)
 have e4 : js.length + ts.length = l.toArray.size := b4
 rw [e4] at this
 exact this

/-! ### How the walk is printed -/
variable {p : Mids} {o : Oper} {e Ls : List (Nat × SV)} {d j dj i : Nat} {x : SV} {want b : Bool} {K : List (Nat × SV) → Prop} {is : List Nat}
/-- What is listed for sure, what is not, and else L. -/
def elemN : List Nat → Nat → Bool
 | [], _ => false
 | a :: r, k => bif Nat.beq a k then true else elemN r k
theorem elemN_mem {k : Nat} : ∀ {l : List Nat}, elemN l k = true → k ∈ l
 | [], h => by cases h
 | a :: r, h => by
  simp only [elemN] at h
  by_cases e : a = k
  ·subst e; simp
  ·cases q : Nat.beq a k with
   | true => exact absurd (Nat.eq_of_beq_eq_true q) e
   | false => rw [q] at h; exact List.mem_cons_of_mem _ (elemN_mem h)
def force (T F : List Nat) (L : Nat → Bool) : Nat → Bool := fun k => bif elemN T k then true else bif elemN F k then false else L k
def relS (ops : Array Oper) (ms : List Nat) (i : Nat) (T F su : List Nat) : Bool :=
 T.all (fun k => ms.contains k && ancB .any ops ops.size i k) && F.all (fun k => k == i || (ms.contains k && ancB .any ops ops.size k i)) && ms.all (fun k => k == i || ancB .any ops ops.size i k || ancB .any ops ops.size k i || su.contains k)
def SAS (p : Mids) (Ls : List (Nat × SV)) (x : SV) (su : List Nat) : Bool := su.all fun k => p.sv k x && Ls.all fun q => p.sv k q.2
theorem force_eq {T F su : List Nat} {L : Nat → Bool} (hr : relS ops p.ms i T F su = true) (hL : Adm ops p L i) : force T F L = L := by
 simp only [relS, Bool.and_eq_true, List.all_eq_true, List.contains_iff_mem, Bool.or_eq_true, beq_iff_eq] at hr
 obtain ⟨⟨h1, h2⟩, _⟩ := hr
 funext k
 unfold force
 cases q1 : elemN T k with
 | true => have := h1 k (elemN_mem q1); exact ((hL.2 k this.1).1 this.2).symm
 | false =>
  cases q2 : elemN F k with
  | true =>
   rcases h2 k (elemN_mem q2) with rfl | h
   ·exact hL.1.symm
   ·exact ((hL.2 k h.1).2 h.2).symm
  | false => rfl
theorem keeps {ks : List Nat} (hk : keep ks e = some Ls) (hl : looksB ops o ks = true) {t : Nat} (ht : t ∈ o.looksAt ops) {y : SV} (hy : get e t = some y) : (t, y) ∈ Ls := by
 simp only [looksB, Bool.and_eq_true, List.all_eq_true, List.contains_iff_mem] at hl
 obtain ⟨h1, _⟩ := (keep_get' hk t).1 (hl.1 t ht)
 rw [← h1] at hy
 exact get_mem hy
theorem sx_sk {ks T F su : List Nat} (hr : relS ops p.ms i T F su = true) (hk : keep ks e = some Ls) (hl : looksB ops o ks = true) (hs : SAS p Ls x su = true) : SX ops p i x ∧ SK ops p i o (get e) := by
 simp only [relS, Bool.and_eq_true, List.all_eq_true, List.contains_iff_mem, Bool.or_eq_true, beq_iff_eq] at hr
 simp only [SAS, Bool.and_eq_true, List.all_eq_true] at hs
 have h3 : ∀ k, k ∈ p.ms → k ≠ i → ancB .any ops ops.size i k = false → ancB .any ops ops.size k i = false → k ∈ su := fun k h1 h2 h3 h4 => by
  rcases hr.2 k h1 with ((h | h) | h) | h
  ·exact absurd h h2
  ·rw [h3] at h; cases h
  ·rw [h4] at h; cases h
  ·exact h
 exact ⟨fun k h1 h2 h4 h5 => (hs k (h3 k h1 h2 h4 h5)).1, fun k h1 h2 h4 h5 t ht y hy => (hs k (h3 k h1 h2 h4 h5)).2 (t, y) (keeps hk hl ht hy)⟩
theorem tells_same {ks : List Nat} {l : List (Nat × SV)} (hk : keep ks e = some Ls) (hl : looksB ops o ks = true) (ht : Tells ops o (get e) l) : ∀ t, get (Ls ++ l) t = get l t := fun t => by
 simp only [looksB, Bool.and_eq_true, List.all_eq_true, List.contains_iff_mem] at hl
 rw [get_append]
 by_cases hm : t ∈ ks
 ·obtain ⟨h1, h2⟩ := (keep_get' hk t).1 hm
  rw [h1]
  obtain ⟨y, hy⟩ := Option.isSome_iff_exists.1 h2
  rw [hy]
  exact (ht t (hl.2 t hm) y hy).symm
 ·rw [(keep_get' hk t).2 hm]
theorem gives_run {obs : List Ob} {ks : List Nat} (hk : keep ks e = some Ls) (hl : looksB ops o ks = true) (hd : o.dst = some d) (hv : Gives C ops obs o Ls d x) (l : List (Nat × SV)) (ht : Tells ops o (get e) l) (Ω : List Value) (a : Act) (w : World) (hr : Rel C ⟨l, obs⟩ Ω a w) :
  o.wp C.P a w (fun a' w' => ∃ (l' : List (Nat × SV)) (Ω' : List Value), get l' = upd (get l) o.dst x ∧ Rel C ⟨l', obs⟩ Ω' a' w') (fun _ _ _ => False) := by
 have hsame := tells_same hk hl ht
 have hr' : Rel C ⟨Ls ++ l, obs⟩ Ω a w := hr.congr fun t y hy => by rw [← hsame t]; exact hy
 have H := hv l (fun ed s => ed = .normal ∧ s = ⟨(d, x) :: (Ls ++ l), obs⟩) (AO.nil ⟨rfl, rfl⟩) Ω a w hr'
 refine wp_monoQ (fun a' w' hq => ?_) (fun ed a' w' hne hq => ?_) H
 ·obtain ⟨s, Ω', hr2, _, hs⟩ := hq
  subst hs
  refine ⟨_, Ω', ?_, hr2⟩
  rw [hd, get_upd]
  congr 1
  funext t; exact hsame t
 ·obtain ⟨s, Ω', _, he, _⟩ := hq
  exact hne he
theorem AS.done (h : K e) : AS C ops p [] e K := h
theorem AS.give (hm : p.ms.contains i = false) {T F su ks : List Nat} (h0 : ops[i]? = some o) (hd : o.dst = some d) (hl : looksB ops o ks = true) (hr : relS ops p.ms i T F su = true) (hk : keep ks e = some Ls) (hs : SAS p Ls x su = true)
  (hy : ∀ L, YS C ops (p.OB (force T F L)) o x (get e)) (h : AS C ops p is ((d, x) :: e) K) : AS C ops p (i :: is) e K :=
 ⟨o, x, (d, x) :: e, h0, fun L hL => .inl ⟨hm, by have := hy L; rw [force_eq hr hL] at this; exact this⟩, (sx_sk hr hk hl hs).1, (sx_sk hr hk hl hs).2, by simp only [Mids.svf, hm]; rw [if_neg (by simp), drE_true, hd, get_upd], h⟩
theorem AS.op (ks T F su : List Nat) (h0 : ops[i]? = some o) (hm : p.ms.contains i = false) (hg : o.guard = none) (hl : looksB ops o ks = true) (hr : relS ops p.ms i T F su = true) (hk : keep ks e = some Ls) (hd : o.dst = some d)
  (hv : ∀ L, Gives C ops (p.OB (force T F L)) o Ls d x) (hs : SAS p Ls x su = true) (h : AS C ops p is ((d, x) :: e) K) : AS C ops p (i :: is) e K :=
 AS.give hm h0 hd hl hr hk hs (fun L => .inl ⟨by unfold wantE; rw [hg], gives_run hk hl hd (hv L)⟩) h
theorem want_eq {b : Bool} (hg : o.guard = some (j, want)) (hj : ((ops[j]?).bind (·.dst)) = some dj) (hx : get e dj = some (.d (.v (.bool b)))) : wantE ops o (get e) = some (b == want) := by
 unfold wantE; rw [hg]; simp only [hj]; show (match get e dj with | some (.d (.v (.bool b))) => some (b == want) | some (.d (.v (.tuple _))) => some false | _ => none) = _; rw [hx]
theorem AS.opY (ks T F su : List Nat) (h0 : ops[i]? = some o) (hm : p.ms.contains i = false) (hg : o.guard = some (j, want)) (hj : ((ops[j]?).bind (·.dst)) = some dj) (hx : get e dj = some (.d (.v (.bool b)))) (hb : b = want)
  (hl : looksB ops o ks = true) (hr : relS ops p.ms i T F su = true) (hk : keep ks e = some Ls) (hd : o.dst = some d)
  (hv : ∀ L, Gives C ops (p.OB (force T F L)) o Ls d x) (hs : SAS p Ls x su = true) (h : AS C ops p is ((d, x) :: e) K) : AS C ops p (i :: is) e K :=
 AS.give hm h0 hd hl hr hk hs (fun L => .inl ⟨by rw [want_eq hg hj hx]; simp [hb], gives_run hk hl hd (hv L)⟩) h
theorem AS.opN (ks T F su : List Nat) (h0 : ops[i]? = some o) (hm : p.ms.contains i = false) (hg : o.guard = some (j, want)) (hj : ((ops[j]?).bind (·.dst)) = some dj) (hx : get e dj = some (.d (.v (.bool b)))) (hb : b = (!want))
  (hl : looksB ops o ks = true) (hr : relS ops p.ms i T F su = true) (hk : keep ks e = some Ls) (hd : o.dst = some d) (hn : d < C.n)
  (hs : SAS p Ls (.d (.v undef)) su = true) (h : AS C ops p is ((d, .d (.v undef)) :: e) K) : AS C ops p (i :: is) e K :=
 AS.give hm h0 hd hl hr hk hs (fun L => .inr ⟨by rw [want_eq hg hj hx]; simp [hb], rfl, fun k hk => by rw [hd] at hk; cases hk; exact hn⟩) h
theorem AS.split (dj : Nat) (want : Bool) (hx : get e dj = some (.d (.v (.bool b)))) (hyes : b = want → AS C ops p is e K) (hno : b = (!want) → AS C ops p is e K) : AS C ops p is e K := by
 by_cases hb : b = want
 ·exact hyes hb
 ·exact hno (by cases b <;> cases want <;> simp_all)
theorem AS.dec (b : Bool) (hyes : b = true → AS C ops p is e K) (hno : b = false → AS C ops p is e K) : AS C ops p is e K := by
 cases b
 ·exact hno rfl
 ·exact hyes rfl
theorem AS.midW (ks T F su : List Nat) {sv : SV → Bool} (h0 : ops[i]? = some o) (hm : p.ms.contains i = true) (hsv : p.sv i = sv) (hg : wantE ops o (get e) = some true) (hl : looksB ops o ks = true) (hr : relS ops p.ms i T F su = true) (hk : keep ks e = some Ls) (hd : o.dst = some d)
  (hv : ∀ (L : Nat → Bool) (e : List (Nat × SV)) (Q : Exit → St → Prop), AO C ops [] ⟨(d, x) :: dropS sv [] (Ls ++ e), p.OB (setB (force T F L) i)⟩ Q → AOp C ops [] o ⟨Ls ++ e, p.OB (force T F L)⟩ Q)
  (hs : SAS p Ls x su = true) {e' : List (Nat × SV)} (he : dropS sv [] e = e') (h : AS C ops p is ((d, x) :: e') K) : AS C ops p (i :: is) e K := by
 subst he hsv
 have hdr : ∀ l : List (Nat × SV), get (dropS (p.sv i) [] l) = drE (p.sv i) (get l) := fun l => by funext t; rw [get_dropS]; simp
 refine ⟨o, x, _, h0, fun L hL => .inr ⟨hm, hg, ?_⟩, (sx_sk hr hk hl hs).1, (sx_sk hr hk hl hs).2, by rw [hd, get_upd, hdr]; simp only [Mids.svf, hm, if_true], h⟩
 intro l ht Ω a w hrl
 have hv := hv L
 rw [force_eq hr hL] at hv
 have hsame := tells_same hk hl ht
 have hr' : Rel C ⟨Ls ++ l, p.OB L⟩ Ω a w := hrl.congr fun t y hy => by rw [← hsame t]; exact hy
 have H := hv l (fun ed s => ed = .normal ∧ s = ⟨(d, x) :: dropS (p.sv i) [] (Ls ++ l), p.OB (setB L i)⟩) (AO.nil ⟨rfl, rfl⟩) Ω a w hr'
 refine wp_monoQ (fun a' w' hq => ?_) (fun ed a' w' hne hq => ?_) H
 ·obtain ⟨s, Ω', hr2, _, hs⟩ := hq
  subst hs
  refine ⟨_, Ω', ?_, hr2⟩
  rw [hd, get_upd, hdr]
  congr 1
  congr 1
  funext t; exact hsame t
 ·obtain ⟨s, Ω', _, he, _⟩ := hq
  exact hne he
theorem AS.mid (ks T F su : List Nat) {sv : SV → Bool} (h0 : ops[i]? = some o) (hm : p.ms.contains i = true) (hsv : p.sv i = sv) (hg : o.guard = none) (hl : looksB ops o ks = true) (hr : relS ops p.ms i T F su = true) (hk : keep ks e = some Ls) (hd : o.dst = some d)
  (hv : ∀ (L : Nat → Bool) (e : List (Nat × SV)) (Q : Exit → St → Prop), AO C ops [] ⟨(d, x) :: dropS sv [] (Ls ++ e), p.OB (setB (force T F L) i)⟩ Q → AOp C ops [] o ⟨Ls ++ e, p.OB (force T F L)⟩ Q)
  (hs : SAS p Ls x su = true) {e' : List (Nat × SV)} (he : dropS sv [] e = e') (h : AS C ops p is ((d, x) :: e') K) : AS C ops p (i :: is) e K :=
 AS.midW ks T F su h0 hm hsv (by unfold wantE; rw [hg]) hl hr hk hd hv hs he h
/-- A store among them. -/
theorem AS.mid0W (ks T F su : List Nat) {sv : SV → Bool} (h0 : ops[i]? = some o) (hm : p.ms.contains i = true) (hsv : p.sv i = sv) (hg : wantE ops o (get e) = some true) (hl : looksB ops o ks = true) (hr : relS ops p.ms i T F su = true) (hk : keep ks e = some Ls) (hd : o.dst = none)
  (hv : ∀ (L : Nat → Bool) (e : List (Nat × SV)) (Q : Exit → St → Prop), AO C ops [] ⟨dropS sv [] (Ls ++ e), p.OB (setB (force T F L) i)⟩ Q → AOp C ops [] o ⟨Ls ++ e, p.OB (force T F L)⟩ Q)
  (hs : SAS p Ls .any su = true) {e' : List (Nat × SV)} (he : dropS sv [] e = e') (h : AS C ops p is e' K) : AS C ops p (i :: is) e K := by
 subst he hsv
 have hdr : ∀ l : List (Nat × SV), get (dropS (p.sv i) [] l) = drE (p.sv i) (get l) := fun l => by funext t; rw [get_dropS]; simp
 refine ⟨o, .any, _, h0, fun L hL => .inr ⟨hm, hg, ?_⟩, (sx_sk hr hk hl hs).1, (sx_sk hr hk hl hs).2, by rw [hd, hdr]; simp only [Mids.svf, hm, if_true]; rfl, h⟩
 intro l ht Ω a w hrl
 have hv := hv L
 rw [force_eq hr hL] at hv
 have hsame := tells_same hk hl ht
 have hr' : Rel C ⟨Ls ++ l, p.OB L⟩ Ω a w := hrl.congr fun t y hy => by rw [← hsame t]; exact hy
 have H := hv l (fun ed s => ed = .normal ∧ s = ⟨dropS (p.sv i) [] (Ls ++ l), p.OB (setB L i)⟩) (AO.nil ⟨rfl, rfl⟩) Ω a w hr'
 refine wp_monoQ (fun a' w' hq => ?_) (fun ed a' w' hne hq => ?_) H
 ·obtain ⟨s, Ω', hr2, _, hs⟩ := hq
  subst hs
  refine ⟨_, Ω', ?_, hr2⟩
  rw [hd, hdr]
  show drE (p.sv i) (get (Ls ++ l)) = drE (p.sv i) (get l)
  congr 1
  funext t; exact hsame t
 ·obtain ⟨s, Ω', _, he, _⟩ := hq
  exact hne he
theorem AS.mid0 (ks T F su : List Nat) {sv : SV → Bool} (h0 : ops[i]? = some o) (hm : p.ms.contains i = true) (hsv : p.sv i = sv) (hg : o.guard = none) (hl : looksB ops o ks = true) (hr : relS ops p.ms i T F su = true) (hk : keep ks e = some Ls) (hd : o.dst = none)
  (hv : ∀ (L : Nat → Bool) (e : List (Nat × SV)) (Q : Exit → St → Prop), AO C ops [] ⟨dropS sv [] (Ls ++ e), p.OB (setB (force T F L) i)⟩ Q → AOp C ops [] o ⟨Ls ++ e, p.OB (force T F L)⟩ Q)
  (hs : SAS p Ls .any su = true) {e' : List (Nat × SV)} (he : dropS sv [] e = e') (h : AS C ops p is e' K) : AS C ops p (i :: is) e K :=
 AS.mid0W ks T F su h0 hm hsv (by unfold wantE; rw [hg]) hl hr hk hd hv hs he h
theorem AO.dropT {l : List Oper} {obs : List Ob} {Q : Exit → St → Prop} {sv : SV → Bool} {e : List (Nat × SV)} (h : AO C ops l ⟨dropS sv [] e, obs⟩ Q) : AO C ops l ⟨e, obs⟩ Q :=
 AO.forget (fun q z hq => by
  rw [get_dropS] at hq
  simp only [List.not_mem_nil, if_false] at hq
  exact (drE_some hq).1) h
end

/-! ### Room for objects that are made in whatever order -/
/-- It leads neither to k nor to m. -/
def SV.noO2 (k m : Nat) (x : SV) : Bool := x.noO k && x.noO m
def Ob.noO2 (k m : Nat) (x : Ob) : Bool := x.noO k && x.noO m
inductive AllNo (k m : Nat) : List Ob → Prop
 | nil : AllNo k m []
 | cons {ob : Ob} {r : List Ob} (h : ob.noO2 k m = true) (t : AllNo k m r) : AllNo k m (ob :: r)
theorem noO2_cond {k m : Nat} {b : Bool} {x y : Ob} (hx : x.noO2 k m = true) (hy : y.noO2 k m = true) : (bif b then x else y).noO2 k m = true := by cases b <;> assumption
theorem AllNo.get {k m : Nat} : ∀ {l : List Ob}, AllNo k m l → ∀ {i : Nat} {ob : Ob}, l[i]? = some ob → ob.noO2 k m = true
 | _, .cons h t, 0, _, e => by cases e; exact h
 | _, .cons h t, i + 1, ob, e => t.get (by simpa using e)
theorem RepS.moved {w w' : World} {ok ok' : Nat → Prop} {Ω Ω' : List Value} {k m : Nat} (h : ∀ b, ok b → ok' b ∧ w'.heap[b]? = w.heap[b]?) (hΩ : ∀ o v, o ≠ k → o ≠ m → Ω[o]? = some v → Ω'[o]? = some v)
  {x : SV} {v : Value} (hx : x.noO2 k m = true) (hr : RepS w ok Ω x v) : RepS w' ok' Ω' x v := by
 simp only [SV.noO2, Bool.and_eq_true] at hx
 obtain ⟨hx, hx2⟩ := hx
 have ht : ∀ {o : Nat} {v : Value}, (o != k) = true → (o != m) = true → Ω[o]? = some v → Ω'[o]? = some v := fun h1 h2 e => hΩ _ _ (by simpa using h1) (by simpa using h2) e
 induction hr with
 | any v => exact .any v
 | d x v hd => exact .d x v (hd.mono h)
 | ptr o off b ho => exact .ptr o off b (ht hx hx2 ho)
 | ptrG o off b len cap ho => exact .ptrG o off b len cap (ht hx hx2 ho)
 | sl o sz off len cap b ho => exact .sl o sz off len cap b (ht hx hx2 ho)
 | own o v ho h1 => exact .own o v (ht hx hx2 ho) h1
 | pre o k n cap a ho hk => exact .pre o k n cap a (ht hx hx2 ho) hk
 | full sz cells a n hd => exact .full sz cells a n (hd.mono h)
 | ep b off i cells vals hb2 hcell hr => exact .ep b off i cells vals (h b hb2).1 (fun j hj => by rw [cell_heap (h b hb2).2]; exact hcell j hj) (fun j x hj => (hr j x hj).mono h)
 | ag cells vs hl _ ih => exact .ag cells vs hl fun i x y h1 h2 => ih i x y h1 h2 (SV.noOL_get hx h1) (SV.noOL_get hx2 h1)
 | tu cells vs hl _ ih => exact .tu cells vs hl fun i x y h1 h2 => ih i x y h1 h2 (SV.noOL_get hx h1) (SV.noOL_get hx2 h1)
 | ifc t x u _ ih => exact .ifc t x u (ih hx hx2)
 | fv fn first caps fs cs hf hc _ _ ih1 ih2 =>
  have g1 : SV.noOL k first = true ∧ SV.noOL k caps = true := by simpa only [SV.noO, Bool.and_eq_true] using hx
  have g2 : SV.noOL m first = true ∧ SV.noOL m caps = true := by simpa only [SV.noO, Bool.and_eq_true] using hx2
  exact .fv fn first caps fs cs hf hc (fun i x y h1 h2 => ih1 i x y h1 h2 (SV.noOL_get g1.1 h1) (SV.noOL_get g2.1 h1)) (fun i x y h1 h2 => ih2 i x y h1 h2 (SV.noOL_get g1.2 h1) (SV.noOL_get g2.2 h1))

/-- What leads to the last object leads to number k instead. -/
def SV.sunk (m k : Nat) : SV → Option SV
 | .ptr o off => if o = m then some (.ptr k off) else none
 | .sl o sz off len cap => if o = m then some (.sl k sz off len cap) else none
 | .own o => if o = m then some (.own k) else none
 | _ => none
theorem RepS.sunk {w w' : World} {ok ok' : Nat → Prop} {Ω Ω' : List Value} {k m : Nat} (hΩ : ∀ v, Ω[m]? = some v → Ω'[k]? = some v) {x y : SV} {v : Value} (hx : x.sunk m k = some y) (hr : RepS w ok Ω x v) : RepS w' ok' Ω' y v := by
 cases hr with
 | ptr o off b ho => simp only [SV.sunk] at hx; split at hx <;> cases hx; subst_vars; exact .ptr _ _ _ (hΩ _ ho)
 | ptrG o off b len cap ho => simp only [SV.sunk] at hx; split at hx <;> cases hx; subst_vars; exact .ptrG _ _ _ _ _ (hΩ _ ho)
 | sl o sz off len cap b ho => simp only [SV.sunk] at hx; split at hx <;> cases hx; subst_vars; exact .sl _ _ _ _ _ _ (hΩ _ ho)
 | own o v ho h1 => simp only [SV.sunk] at hx; split at hx <;> cases hx; subst_vars; exact .own _ _ (hΩ _ ho) h1
 | _ => cases hx

theorem Rel.sink {C : Ctx} {e : List (Nat × SV)} {obs : List Ob} {new : Ob} {Ω : List Value} {a : Act} {w : World} {d k m : Nat} {x y : SV} (h : Rel C ⟨(d, x) :: e, obs ++ [new]⟩ Ω a w) (hm : obs.length = m) (hk : obs[k]? = some .dead) (hx : x.sunk m k = some y)
  (hno : AllNo k m obs) (hnew : new.noO2 k m = true) : ∃ Ω', Rel C ⟨(d, y) :: dropS (SV.noO2 k m) [] e, obs.set k new⟩ Ω' a w := by
 obtain ⟨hdf, hsz, henv, hmem⟩ := h
 have hlen : Ω.length = m + 1 := by have := hmem.len; simp at this; omega
 have hkm : k < m := by have := (List.getElem?_eq_some_iff.1 hk).1; omega
 obtain ⟨v0, hv0⟩ : ∃ v, Ω[m]? = some v := ⟨_, List.getElem?_eq_getElem (by omega)⟩
 have hold : ∀ o v, o ≠ k → o ≠ m → Ω[o]? = some v → ((Ω.take m).set k v0)[o]? = some v := fun o v h1 h2 h3 => by
  have : o < m := by have := (List.getElem?_eq_some_iff.1 h3).1; omega
  rw [List.getElem?_set_ne (Ne.symm h1), List.getElem?_take, if_pos this]; exact h3
 have hkk : ((Ω.take m).set k v0)[k]? = some v0 := by rw [List.getElem?_set_self (by simp; omega)]
 -- whence an entry comes
 have hfrom : ∀ {i : Nat} {ob : Ob}, (obs.set k new)[i]? = some ob → (i = k ∧ ob = new) ∨ (i ≠ k ∧ i < m ∧ obs[i]? = some ob) := fun {i ob} e => by
  rcases get_set e with ⟨h1, h2, _⟩ | ⟨h1, h2⟩
  ·exact .inl ⟨h1, h2⟩
  ·exact .inr ⟨h1, by have := (List.getElem?_eq_some_iff.1 h2).1; omega, h2⟩
 have hval : ∀ {i : Nat} {v : Value}, ((Ω.take m).set k v0)[i]? = some v → (i = k ∧ v = v0) ∨ (i ≠ k ∧ Ω[i]? = some v) := fun {i v} e => by
  rcases get_set e with ⟨h1, h2, _⟩ | ⟨h1, h2⟩
  ·exact .inl ⟨h1, h2⟩
  ·rw [List.getElem?_take] at h2
   split at h2
   ·exact .inr ⟨h1, h2⟩
   ·cases h2
 have hnewat : (obs ++ [new])[m]? = some new := by rw [← hm]; simp
 have hat : ∀ {i : Nat} {ob : Ob} {v : Value}, (obs.set k new)[i]? = some ob → ((Ω.take m).set k v0)[i]? = some v → ∃ i', (obs ++ [new])[i']? = some ob ∧ Ω[i']? = some v ∧ (i' = if i = k then m else i) := fun {i ob v} e1 e2 => by
  rcases hfrom e1 with ⟨h1, h2⟩ | ⟨h1, h2, h3⟩
  ·rcases hval e2 with ⟨_, h4⟩ | ⟨h4, _⟩
   ·subst h2 h4; exact ⟨m, hnewat, hv0, by simp [h1]⟩
   ·exact absurd h1 h4
  ·rcases hval e2 with ⟨h4, _⟩ | ⟨_, h4⟩
   ·exact absurd h4 h1
   ·exact ⟨i, get_left h3, h4, by simp [h1]⟩
 have hok : ∀ b, okB C (obs ++ [new]) Ω w b → okB C (obs.set k new) ((Ω.take m).set k v0) w b ∧ w.heap[b]? = w.heap[b]? := fun b hb => ⟨⟨hb.1, hb.2.1, fun i ob v e1 hl e2 => by
  obtain ⟨i', e1', e2', _⟩ := hat e1 e2
  exact hb.2.2 i' ob v e1' hl e2'⟩, rfl⟩
 refine ⟨(Ω.take m).set k v0, hdf, hsz, fun t z hz => ?_, ?_⟩
 ·simp only [Vm.get] at hz
  split at hz
  ·rename_i ht; cases hz
   obtain ⟨v, hv, hr⟩ := henv t x (by simp [Vm.get, ht])
   exact ⟨v, hv, hr.sunk (fun v hv => by rw [hv0] at hv; cases hv; exact hkk) hx⟩
  ·rename_i ht
   rw [get_dropS] at hz
   simp only [List.not_mem_nil, if_false] at hz
   obtain ⟨h1, h2⟩ := drE_some hz
   obtain ⟨v, hv, hr⟩ := henv t z (by simp only [Vm.get, if_neg ht]; exact h1)
   exact ⟨v, hv, hr.moved hok hold h2⟩
 ·refine ⟨by simp [hlen]; omega, fun i ob v e1 e2 => ?_, fun i j a b v u y hij e1 e2 l1 l2 e3 e4 => ?_, fun i ob v b e1 l e2 hb => ?_, hmem.fr⟩
  ·have hnob : ob.noO2 k m = true := by
    rcases hfrom e1 with ⟨_, h2⟩ | ⟨_, _, h3⟩
    ·rw [h2]; exact hnew
    ·exact hno.get h3
   obtain ⟨i', e1', e2', _⟩ := hat e1 e2
   have H := hmem.obj i' ob v e1' e2'
   cases ob with
   | dead => trivial
   | frame vs env =>
    simp only [Ob.noO2, Ob.noO, Bool.and_eq_true] at hnob
    exact ⟨H.1, fun t x hx => let ⟨v, hv, hr⟩ := H.2 t x hx; ⟨v, hv, hr.moved hok hold (by
     simp only [SV.noO2, Bool.and_eq_true]
     exact ⟨List.all_eq_true.1 hnob.1 (t, x) (get_mem hx), List.all_eq_true.1 hnob.2 (t, x) (get_mem hx)⟩)⟩⟩
   | grow ty sz cells =>
    obtain ⟨n, xs, ho, hl, hr⟩ := H
    exact ⟨n, xs, ho, hl, fun i x y hx hy => (hr i x y hx hy).mono hok⟩
   | fix ty cells =>
    obtain ⟨b, vs, rfl, hw, hl, hr, h1⟩ := H
    simp only [Ob.noO2, Ob.noO, Bool.and_eq_true] at hnob
    exact ⟨b, vs, rfl, hw, hl, fun i x y hx hy => (hr i x y hx hy).moved hok hold (by
     simp only [SV.noO2, Bool.and_eq_true]
     exact ⟨List.all_eq_true.1 hnob.1 x (List.mem_of_getElem? hx), List.all_eq_true.1 hnob.2 x (List.mem_of_getElem? hx)⟩), h1⟩
  ·obtain ⟨i', e1', e3', hi'⟩ := hat e1 e3
   obtain ⟨j', e2', e4', hj'⟩ := hat e2 e4
   have : i' ≠ j' := by
    intro he
    have hi := (List.getElem?_eq_some_iff.1 e1).1
    have hj := (List.getElem?_eq_some_iff.1 e2).1
    simp at hi hj
    by_cases h1 : i = k <;> by_cases h2 : j = k
    ·exact hij (h1.trans h2.symm)
    ·rw [if_pos h1] at hi'; rw [if_neg h2] at hj'; omega
    ·rw [if_neg h1] at hi'; rw [if_pos h2] at hj'; omega
    ·rw [if_neg h1] at hi'; rw [if_neg h2] at hj'; omega
   exact hmem.sep i' j' a b v u y this e1' e2' l1 l2 e3' e4'
  ·obtain ⟨i', e1', e2', _⟩ := hat e1 e2
   exact hmem.new i' ob v b e1' l e2' hb

section
variable {C : Ctx} {Q : Exit → St → Prop} {ops : Array Oper} {e : List (Nat × SV)} {obs : List Ob} {d : Nat}
theorem AO.sink {l : List Oper} {new : Ob} (k m : Nat) {x y : SV} (hm : obs.length = m) (hk : obs[k]? = some .dead) (hx : x.sunk m k = some y) (hno : AllNo k m obs) (hnew : new.noO2 k m = true)
  (h : AO C ops l ⟨(d, y) :: dropS (SV.noO2 k m) [] e, obs.set k new⟩ Q) : AO C ops l ⟨(d, x) :: e, obs ++ [new]⟩ Q := fun Ω a w hr => by
 obtain ⟨Ω', hr'⟩ := hr.sink hm hk hx hno hnew
 exact h Ω' a w hr'
theorem AO.objs {l : List Oper} {obs' : List Ob} (ho : obs' = obs) (h : AO C ops l ⟨e, obs'⟩ Q) : AO C ops l ⟨e, obs⟩ Q := ho ▸ h
theorem Rel.room {s : St} {Ω : List Value} {a : Act} {w : World} (h : Rel C s Ω a w) : Rel C ⟨s.env, s.obs ++ [.dead]⟩ (Ω ++ [undef]) a w := by
 have hok : ∀ b, okB C s.obs Ω w b → okB C (s.obs ++ [.dead]) (Ω ++ [undef]) w b ∧ w.heap[b]? = w.heap[b]? := fun b hb => ⟨⟨hb.1, hb.2.1, fun i ob v e1 hl e2 => by
  rcases list_get_append e1 with e1 | ⟨_, rfl⟩
  ·rcases list_get_append e2 with e2 | ⟨h1, _⟩
   ·exact hb.2.2 i ob v e1 hl e2
   ·have := (List.getElem?_eq_some_iff.1 e1).1; have := h.mem.len; omega
  ·cases hl⟩, rfl⟩
 have hΩ : ∀ (o : Nat) v, Ω[o]? = some v → (Ω ++ [undef])[o]? = some v := fun o v e => get_left e
 have hval : ∀ {i : Nat} {ob : Ob} {v : Value}, (s.obs ++ [.dead])[i]? = some ob → ob.live = true → (Ω ++ [undef])[i]? = some v → s.obs[i]? = some ob ∧ Ω[i]? = some v := fun {i ob v} e1 hl e2 => by
  rcases list_get_append e1 with e1 | ⟨_, rfl⟩
  ·rcases list_get_append e2 with e2 | ⟨h1, _⟩
   ·exact ⟨e1, e2⟩
   ·have := (List.getElem?_eq_some_iff.1 e1).1; have := h.mem.len; omega
  ·cases hl
 refine ⟨h.defers, h.size, fun t x hx => let ⟨v, h1, h2⟩ := h.env t x hx; ⟨v, h1, h2.mono hok hΩ⟩, by simp [h.mem.len], fun i ob v e1 e2 => ?_, fun i j a b v u y hij e1 e2 l1 l2 e3 e4 => ?_, fun i ob v b e1 l e2 hb => ?_, h.mem.fr⟩
 ·cases hl : ob.live with
  | false => cases ob <;> first | trivial | cases hl
  | true =>
   obtain ⟨e1', e2'⟩ := hval e1 hl e2
   exact (h.mem.obj i ob v e1' e2').mono hok hΩ fun b _ _ => rfl
 ·obtain ⟨q1, q2⟩ := hval e1 l1 e3
  obtain ⟨q3, q4⟩ := hval e2 l2 e4
  exact h.mem.sep i j a b v u y hij q1 q3 l1 l2 q2 q4
 ·obtain ⟨q1, q2⟩ := hval e1 l e2
  exact h.mem.new i ob v b q1 l q2 hb
theorem AC.room {c : Code} {s : St} (h : AC C c ⟨s.env, s.obs ++ [.dead]⟩ Q) : AC C c s Q := fun Ω a w hr => h _ a w hr.room
end
end Go.Vm

/- Functions that are gone through where they are called: their caller waits, its slots kept among the objects. -/
namespace Go.Vm
set_option linter.unusedVariables false

def enumS : Nat → List SV → List (Nat × SV)
 | _, [] => []
 | i, x :: r => (i, x) :: enumS (i + 1) r
theorem enumS_get (l : List SV) : ∀ (i t : Nat) (x : SV), get (enumS i l) t = some x → i ≤ t ∧ l[t - i]? = some x := by
 induction l with
 | nil => intro i t x h; cases h
 | cons y l ih =>
  intro i t x h
  simp only [enumS, get] at h
  split at h
  ·rename_i e; subst e; cases h; exact ⟨Nat.le_refl _, by simp⟩
  ·rename_i hne
   obtain ⟨hle, hl⟩ := ih (i + 1) t x h
   refine ⟨by omega, ?_⟩
   have : t - i = (t - (i + 1)) + 1 := by omega
   rw [this]; simpa using hl

def resS (P : Program) (s : St) (rs : List ResultVar) : Option SV :=
 match mapO (resV P s) rs with
 | some [y] => some y
 | some ys => some (.tu ys)
 | none => none

theorem resS_rep {C : Ctx} {s : St} {Ω : List Value} {a : Act} {w : World} (hr : Rel C s Ω a w) {fn : Func} {y : SV} (h : resS C.P s fn.results.toList = some y) :
  ∃ v, (results fn a.tmps).run C.P w = .ok v w ∧ RepS w (okB C s.obs Ω w) Ω y v := by
 have key : ∀ (l : List ResultVar) (ys : List SV), mapO (resV C.P s) l = some ys →
   ∃ vs : List Value, (l.mapM (resSem a.tmps)).run C.P w = .ok vs w ∧ vs.length = ys.length ∧
    ∀ (i : Nat) p q, ys[i]? = some p → vs[i]? = some q → RepS w (okB C s.obs Ω w) Ω p q := by
  intro l
  induction l with
  | nil => intro ys h; cases h; exact ⟨[], rfl, rfl, fun i p q hp => by simp at hp⟩
  | cons r l ih =>
   intro ys h
   simp only [mapO] at h
   split at h
   ·rename_i y hy
    split at h
    ·rename_i t ht
     cases h
     obtain ⟨vs, hrun, hl, hrr⟩ := ih t ht
     obtain ⟨v, hv, hrep⟩ := resV_rep hr hy
     refine ⟨v :: vs, ?_, by simp [hl], fun i p q hp hq => ?_⟩
     ·simp [List.mapM_cons, hv, hrun]
     ·cases i with
      | zero => simp at hp hq; subst hp; subst hq; exact hrep
      | succ i => simp at hp hq; exact hrr i p q hp hq
    ·cases h
   ·cases h
 unfold resS at h
 split at h
 ·rename_i y' hys
  cases h
  obtain ⟨vs, hrun, hl, hrr⟩ := key _ _ hys
  match vs, hl with
  | [v], _ =>
   refine ⟨v, ?_, hrr 0 _ _ rfl rfl⟩
   rw [results_eq]
   rw [← Array.toArray_toList (xs := fn.results), List.mapM_toArray]
   simp [hrun]
 ·rename_i ys hne hys
  cases h
  obtain ⟨vs, hrun, hl, hrr⟩ := key _ _ hys
  refine ⟨.tuple vs.toArray, ?_, .tu ys vs hl hrr⟩
  have h1 : ¬ vs.length = 1 := fun e => by
   rw [hl] at e
   match ys, e with
   | [y], _ => exact hne y rfl
  rw [results_eq]
  rw [← Array.toArray_toList (xs := fn.results), List.mapM_toArray]
  simp [hrun, h1]
 ·cases h

/-- The same, with slots of another function. -/
abbrev Ctx.sub (C : Ctx) (n : Nat) : Ctx := ⟨C.P, C.W, C.ok, C.may, n, []⟩
theorem Mem.ctx {C : Ctx} {n : Nat} {obs : List Ob} {Ω : List Value} {w : World} (h : Mem C obs Ω w) : Mem (C.sub n) obs Ω w :=
 ⟨h.len, h.obj, h.sep, h.new, ⟨h.fr.os, h.fr.tape, h.fr.output, h.fr.size, h.fr.block, h.fr.glob⟩⟩
theorem Mem.ctx' {C : Ctx} {n : Nat} {obs : List Ob} {Ω : List Value} {w : World} (h : Mem (C.sub n) obs Ω w) : Mem C obs Ω w :=
 ⟨h.len, h.obj, h.sep, h.new, ⟨h.fr.os, h.fr.tape, h.fr.output, h.fr.size, h.fr.block, h.fr.glob⟩⟩

/-- Slots are laid among the objects. -/
theorem Mem.frame {C : Ctx} {obs : List Ob} {Ω : List Value} {w : World} (h : Mem C obs Ω w) (vs : Array Value) (env : List (Nat × SV)) (he : ∀ t x, get env t = some x → ∃ v, vs[t]? = some v ∧ RepS w (okB C obs Ω w) Ω x v) :
  Mem C (obs ++ [.frame vs env]) (Ω ++ [undef]) w ∧ ∀ b, okB C obs Ω w b → okB C (obs ++ [.frame vs env]) (Ω ++ [undef]) w b := by
 have hb0 : blk undef = none := rfl
 have hΩ : ∀ (o : Nat) v, Ω[o]? = some v → (Ω ++ [undef])[o]? = some v := fun o v e => get_left e
 -- an object, or the new one
 have hval : ∀ {i : Nat} {ob : Ob} {v : Value}, (obs ++ [Ob.frame vs env])[i]? = some ob → (Ω ++ [undef])[i]? = some v → (obs[i]? = some ob ∧ Ω[i]? = some v) ∨ (ob = .frame vs env ∧ v = undef) := fun {i ob v} e1 e2 => by
  rcases list_get_append e1 with e1 | ⟨h1, rfl⟩
  ·rcases list_get_append e2 with e2 | ⟨h2, _⟩
   ·exact .inl ⟨e1, e2⟩
   ·have := (List.getElem?_eq_some_iff.1 e1).1; have := h.len; omega
  ·rcases list_get_append e2 with e2 | ⟨h2, rfl⟩
   ·have := (List.getElem?_eq_some_iff.1 e2).1; have := h.len; omega
   ·exact .inr ⟨rfl, rfl⟩
 have hok : ∀ b, okB C obs Ω w b → okB C (obs ++ [.frame vs env]) (Ω ++ [undef]) w b := fun b hb => ⟨hb.1, hb.2.1, fun i ob v e1 hl e2 => by
  rcases hval e1 e2 with ⟨q1, q2⟩ | ⟨rfl, rfl⟩
  ·exact hb.2.2 i ob v q1 hl q2
  ·rw [hb0]; intro e; cases e⟩
 refine ⟨⟨by simp [h.len], fun i ob v e1 e2 => ?_, fun i j a b v u y hij e1 e2 l1 l2 e3 e4 hp => ?_, fun i ob v b e1 l e2 hb => ?_, h.fr⟩, hok⟩
 ·rcases hval e1 e2 with ⟨q1, q2⟩ | ⟨rfl, rfl⟩
  ·exact (h.obj i ob v q1 q2).mono (fun b hb => ⟨hok b hb, rfl⟩) hΩ fun b _ _ => rfl
  ·exact ⟨hb0, fun t x hx => let ⟨v, hv, hr⟩ := he t x hx; ⟨v, hv, hr.mono (fun b hb => ⟨hok b hb, rfl⟩) hΩ⟩⟩
 ·rcases hval e1 e3 with ⟨q1, q2⟩ | ⟨rfl, rfl⟩
  ·rcases hval e2 e4 with ⟨q3, q4⟩ | ⟨rfl, rfl⟩
   ·exact h.sep i j a b v u y hij q1 q3 l1 l2 q2 q4 hp
   ·rw [hb0]; intro e; cases e
  ·rw [hb0] at hp; cases hp
 ·rcases hval e1 e2 with ⟨q1, q2⟩ | ⟨rfl, rfl⟩
  ·exact h.new i ob v b q1 l q2 hb
  ·rw [hb0] at hb; cases hb

def putO (dst : Option Nat) (r : SV) (e : List (Nat × SV)) : List (Nat × SV) := match dst with
 | some d => (d, r) :: e
 | none => e
/-- What comes behind a function's end. -/
def InlQ (C : Ctx) (ops : Array Oper) (rest : List Oper) (dst : Option Nat) (rs : List ResultVar) (k : Nat) (vs : Array Value) (Q : Exit → St → Prop) : Exit → St → Prop
 | .normal, s | .ret, s => ∃ r e', resS C.P s rs = some r ∧ s.obs[k]? = some (.frame vs e') ∧ AO C ops rest ⟨putO dst r e', s.obs.set k .dead⟩ Q
 | _, _ => False

section
variable {C : Ctx} {Q : Exit → St → Prop} {ops : Array Oper} {rest : List Oper} {o : Oper} {e : List (Nat × SV)} {obs : List Ob} {d : Nat}
theorem inlret {rs : List ResultVar} {k : Nat} {vs : Array Value} {s : St} {dst : Option Nat} {r : SV} {e' : List (Nat × SV)} {ob' : List Ob} (h1 : resS C.P s rs = some r) (h2 : s.obs[k]? = some (.frame vs e')) (h4 : s.obs.set k .dead = ob')
  (h3 : AO C ops rest ⟨putO dst r e', ob'⟩ Q) : InlQ C ops rest dst rs k vs Q .ret s := ⟨r, e', h1, h2, h4 ▸ h3⟩
theorem inlend {rs : List ResultVar} {k : Nat} {vs : Array Value} {s : St} {dst : Option Nat} {r : SV} {e' : List (Nat × SV)} {ob' : List Ob} (h1 : resS C.P s rs = some r) (h2 : s.obs[k]? = some (.frame vs e')) (h4 : s.obs.set k .dead = ob')
  (h3 : AO C ops rest ⟨putO dst r e', ob'⟩ Q) : InlQ C ops rest dst rs k vs Q .normal s := ⟨r, e', h1, h2, h4 ▸ h3⟩

/-- A call into a function's body; ks: the caller's slots that are kept. -/
theorem AOp.inl {f : FuncId} {fn : Func} {c : Code} {xs : List Operand} {ts : Array TypeId} {ys : List SV} {n : Nat} {rs : List ResultVar} {e1 : List (Nat × SV)} (ks : List Nat) (he : enters C.P f = true) (hf : C.P.funcs[f]? = some fn) (hb : fn.body = some c) (hnt : fn.ntmps = n) (hrs : fn.results = rs.toArray)
  (ho : o.op = .call { callee := .value (.func f), args := xs.toArray, argTypes := ts }) (hdn : match o.dst with | some d => d < C.n | none => True) (hx : mapO (opS ⟨e, obs⟩) xs = some ys) (hl : ys.length ≤ n) (hk : Vm.keep ks e = some e1)
  (h : ∀ vs, AC (C.sub n) c ⟨enumS 0 ys, obs ++ [.frame vs e1]⟩ (InlQ C ops rest o.dst rs obs.length vs Q)) : AOp C ops rest o ⟨e, obs⟩ Q := fun Ω a w hr => by
 obtain ⟨hlen, hi⟩ := mapO_get hx
 subst hnt
 have hrl : fn.results.toList = rs := by rw [hrs]
 unfold Oper.wp
 rw [run_call he ho, Oper.upon_enter, List.map_toArray]
 obtain ⟨hm, hok⟩ := hr.mem.frame a.tmps e1 (fun t x hx => hr.env t x (keep_get hk hx))
 refine (calls_of_wp hf hb (R := fun ed w' => ∃ (v : Value) (s : St) (Ω' : List Value), ed = .returned v ∧ Mem C s.obs Ω' w' ∧ ∃ r e', RepS w' (okB C s.obs Ω' w') Ω' r v ∧ s.obs[obs.length]? = some (.frame a.tmps e') ∧ AO C ops rest ⟨putO o.dst r e', s.obs.set obs.length .dead⟩ Q) ?_).mono fun ed w' ⟨v, s, Ω', hed, hm', r, e', hrep, hfr, hao⟩ => ?_
 ·have hrel : Rel (C.sub fn.ntmps) ⟨enumS 0 ys, obs ++ [.frame a.tmps e1]⟩ (Ω ++ [undef]) { tmps := (xs.map a.eval).toArray ++ Array.replicate (fn.ntmps - (xs.map a.eval).toArray.size) undef, defers := [] } w := by
   refine ⟨rfl, by simp; omega, fun t x hx => ?_, hm.ctx⟩
   obtain ⟨_, hy⟩ := enumS_get ys 0 t x hx
   rw [Nat.sub_zero] at hy
   have hlt := (List.getElem?_eq_some_iff.1 hy).1
   have hxt : xs[t]? = some xs[t] := List.getElem?_eq_getElem (by omega)
   refine ⟨a.eval xs[t], ?_, ?_⟩
   ·rw [Array.getElem?_append_left (by simp; omega)]
    simp [hxt]
   ·exact (hr.eval (hi t _ _ hxt hy)).mono (fun b hb => ⟨hok b hb, rfl⟩) (fun o v e => get_left e)
  refine wp_mono (h a.tmps _ _ w hrel) fun ed a' w' ⟨s, Ω', hr', hq⟩ => ?_
  have fin : (∃ r e', resS C.P s rs = some r ∧ s.obs[obs.length]? = some (.frame a.tmps e') ∧ AO C ops rest ⟨putO o.dst r e', s.obs.set obs.length .dead⟩ Q) →
    a'.defers = [] ∧ ∃ v, (results fn a'.tmps).run C.P w' = .ok v w' ∧ ∃ (v_1 : Value) (s : St) (Ω' : List Value), Ending.returned v = Ending.returned v_1 ∧ Mem C s.obs Ω' w' ∧ ∃ r e', RepS w' (okB C s.obs Ω' w') Ω' r v_1 ∧ s.obs[obs.length]? = some (.frame a.tmps e') ∧ AO C ops rest ⟨putO o.dst r e', s.obs.set obs.length .dead⟩ Q := by
   intro ⟨r, e', hres, hfr, hao⟩
   rw [← hrl] at hres
   obtain ⟨v, hv, hrep⟩ := resS_rep hr' hres
   exact ⟨hr'.defers, v, hv, v, s, Ω', rfl, hr'.mem.ctx', r, e', hrep, hfr, hao⟩
  cases ed with
  | normal => exact fin hq
  | ret => exact fin hq
  | _ => exact hq.elim
 ·subst hed
  obtain ⟨hmk, hokk⟩ := hm'.kill obs.length
  have hfrob : ∃ h, Ω'[obs.length]? = some h := ⟨_, List.getElem?_eq_getElem (by have := (List.getElem?_eq_some_iff.1 hfr).1; have := hm'.len; omega)⟩
  obtain ⟨hh, hΩh⟩ := hfrob
  have hF := hm'.obj _ _ _ hfr hΩh
  have hbase : Rel C ⟨e', s.obs.set obs.length .dead⟩ Ω' a w' :=
   ⟨hr.defers, hr.size, fun t x hx => let ⟨v, hv, hrp⟩ := hF.2 t x hx; ⟨v, hv, hrp.mono (fun b hb => ⟨hokk b hb, rfl⟩) (fun _ _ e => e)⟩, hmk⟩
  cases hd : o.dst with
  | none =>
   rw [hd] at hao
   exact hao Ω' _ w' hbase
  | some d =>
   rw [hd] at hao hdn
   exact hao Ω' _ w' (hbase.put hdn (hrep.mono (fun b hb => ⟨hokk b hb, rfl⟩) (fun _ _ e => e)))

/-- Onto nothing: a slice of the call's own. -/
theorem AOp.appendNew {t el size bytes m : Nat} {x y : Operand} {z : Value} {news : List D} (ho : o.op = .call { callee := .builtin .append, args := #[x, y], argTypes := #[t, t] }) (hd : o.dst = some d) (hn : d < C.n)
  (hx : opS ⟨e, obs⟩ x = some (.d (.v (.slice none 0 0)))) (hy : opS ⟨e, obs⟩ y = some (.d (.ds size news))) (ht : elemT C.P t = some (el, size)) (hi : (C.P.info? el).map (fun i => (i.zero, i.size, i.bytes)) = some (some z, size, bytes)) (hzs : z.cells.size = size) (hsz : 0 < size)
  (hl : news.length = m * size) (hone : ∀ x, x ∈ news → x.one = true) (h63 : m ≤ maxLen) (hb : m * bytes ≤ 140737488355328)
  (h : AO C ops rest ⟨(d, .own obs.length) :: e, obs ++ [.grow el size news]⟩ Q) : AOp C ops rest o ⟨e, obs⟩ Q := by
 refine AOp.step hd hn (fun Ω a w hr => ?_) h
 have hyv := hr.eval hy
 generalize hev : a.eval y = u at hyv
 cases hyv with
 | d _ _ hyd =>
  obtain ⟨v', w', us, h1, h2, h3, h4, h5, h6⟩ := run_append_data (n := 0) (xs := []) t o.type el size bytes ht hi hzs hsz (World.ownsRow_nil w 0 el size) hyd hl (fun i x y hx hr => hr.one (hone x (List.mem_of_getElem? hx))) (by omega) (by simpa using hb)
  have hbel : RowKit.Below w.heap.size w w' := ⟨h5.os, h5.tape, h5.output, h5.size, fun k hk => h5.block k hk (by simp [Value.ownBlock])⟩
  have bo : blk v' = v'.ownBlock := by rcases h2.2 with ⟨rfl, _⟩ | ⟨g, cap, cur, rfl, _⟩ <;> rfl
  rw [List.nil_append] at h2
  have hrel := hr.begin hbel h2 (cells := news) (fun b hb => by
   rw [bo] at hb
   rcases h6 with h6 | h6
   ·rw [h6] at hb; simp [Value.ownBlock] at hb
   ·rw [h6] at hb; exact Nat.le_of_eq (Option.some.inj hb)) h3 h4
  have one1 : v'.oneCell' = true := by rcases h2.2 with ⟨rfl, _⟩ | ⟨g, cap, cur, rfl, _⟩ <;> rfl
  refine ⟨v', w', _, ?_, hrel, .own _ _ ?_ one1⟩
  ·simp [execOp, ho, hr.evalV hx, hev, resolve, invoke, builtin, h1]
  ·have := hr.mem.len
   dsimp only at this
   rw [this, List.getElem?_append_right (Nat.le_refl _)]; simp
end
end Go.Vm

/- Values of interfaces: they are made, told apart, and their methods called. -/
namespace Go.Vm
set_option linter.unusedVariables false

/-- Type t is no interface. -/
def concT (P : Program) (t : TypeId) : Bool := match P.underlying t with
 | some (.interface _) => false
 | some _ => true
 | none => false
theorem run_makeIfc {P : Program} {t : TypeId} (h : concT P t = true) (x : Value) (w : World) : (Instr.makeInterface t x).run P w = .ok (.iface t x) w := by
 unfold concT at h
 split at h
 ·cases h
 ·rename_i d hd hne
  unfold Instr.makeInterface
  rw [Sem.run_bind, run_underlying hne, Result.andThen_ok]
  split
  ·rename_i q; exact (hd q rfl).elim
  ·rfl
 ·cases h

/-- Does a value of the dynamic type t pass as one of type u? -/
def passT (P : Program) (t u : TypeId) : Option Bool := match P.underlying u with
 | some (.interface want) => match P.info? t with
  | some i => some (Instr.missingMethod want i.methods).isNone
  | none => none
 | some _ => some (t == u)
 | none => none
theorem run_assertYes {P : Program} {t u s : TypeId} (h : passT P t u = some true) (x : Value) (ok : Bool) (w : World) :
  (Instr.typeAssert (.iface t x) s u ok).run P w = .ok (let y := if (match P.underlying u with | some (.interface _) => true | _ => false) then Value.iface t x else x; if ok then .tuple #[y, .bool true] else y) w := by
 unfold passT at h
 unfold Instr.typeAssert
 split at h
 ·rename_i want hu
  split at h
  ·rename_i i hi
   have hm : Instr.missingMethod want i.methods = none := by
    have := Option.some.inj h
    simpa using this
   simp only [Sem.run_bind, run_underlying hu, Result.andThen_ok, typeInfo, run_program, hi, Sem.run_pure, hm, hu, if_true]
  ·cases h
 ·rename_i d hne hu
  have htu : t = u := by simpa using Option.some.inj h
  rw [Sem.run_bind, run_underlying hu, Result.andThen_ok, hu]
  cases d with
  | interface q => exact (hne q rfl).elim
  | _ => simp [htu]
 ·cases h
theorem run_assertNo {P : Program} {t u s : TypeId} {z : Value} (h : passT P t u = some false) (hz : (P.info? u).map (·.zero) = some (some z)) (x : Value) (w : World) :
  (Instr.typeAssert (.iface t x) s u true).run P w = .ok (.tuple #[z, .bool false]) w := by
 unfold passT at h
 unfold Instr.typeAssert
 have hzr := run_zero hz w
 split at h
 ·rename_i want hu
  split at h
  ·rename_i i hi
   obtain ⟨m, hm⟩ : ∃ m, Instr.missingMethod want i.methods = some m := by
    have := Option.some.inj h
    cases hq : Instr.missingMethod want i.methods with
    | none => rw [hq] at this; cases this
    | some m => exact ⟨m, rfl⟩
   simp only [Sem.run_bind, run_underlying hu, Result.andThen_ok, typeInfo, run_program, hi, Sem.run_pure, hm, if_true]
   rw [hzr]; rfl
  ·cases h
 ·rename_i d hne hu
  have htu : ¬ t = u := by simpa using Option.some.inj h
  rw [Sem.run_bind, run_underlying hu, Result.andThen_ok]
  cases d with
  | interface q => exact (hne q rfl).elim
  | _ => simp [htu, hzr]
 ·cases h

/-- What an interface's slot holds. -/
def ifcS : SV → Option (TypeId × SV)
 | .ifc t x => some (t, x)
 | .d (.ifc t x) => some (t, .d x)
 | _ => none
theorem RepS.ifcV {w : World} {ok : Nat → Prop} {Ω : List Value} {s x : SV} {t : TypeId} {v : Value} (h : RepS w ok Ω s v) (hs : ifcS s = some (t, x)) : ∃ u, v = .iface t u ∧ RepS w ok Ω x u := by
 cases h with
 | ifc t' y u hy => cases hs; exact ⟨u, rfl, hy⟩
 | d y u hd =>
  cases hd with
  | ifc t' y' u' h' => cases hs; exact ⟨u', rfl, .d _ _ h'⟩
  | _ => cases hs
 | _ => cases hs

/-! ### methods -/
theorem fieldOff_spec {P : Program} {t i k : Nat} (h : fieldOff P t i = some k) : ∃ (fs : Array Field) (f : Field) (j : TypeInfo), P.underlying t = some (.struct fs) ∧ fs[i]? = some f ∧ P.info? f.type = some j ∧ ¬ j.size = 0 ∧ f.offset = k := by
 unfold fieldOff at h
 split at h
 ·rename_i fs hu
  split at h
  ·rename_i f hf
   split at h
   ·rename_i j hj
    split at h
    ·cases h
    ·rename_i hs; cases h; exact ⟨fs, f, j, hu, hf, hj, hs, rfl⟩
   ·cases h
  ·cases h
 ·cases h
def fieldTy (P : Program) (t : TypeId) (i : Nat) : Option TypeId := match P.underlying t with
 | some (.struct fs) => (fs[i]?).map (·.type)
 | _ => none
/-- The place of an embedded part, behind a pointer: its type and its distance. -/
def stepsT (P : Program) : List FieldStep → TypeId → Nat → Option (TypeId × Nat)
 | [], t, k => some (t, k)
 | s :: r, _, k => if s.deref then none else match fieldOff P s.struct s.index, fieldTy P s.struct s.index with
  | some j, some u => stepsT P r u (k + j)
  | _, _ => none
theorem run_steps {P : Program} : ∀ (l : List FieldStep) (t : TypeId) (k : Nat) {u : TypeId} {j : Nat} (b off : Nat) (w : World), stepsT P l t k = some (u, j) →
  (follow l t (.var ⟨b, off + k, none⟩)).run P w = .ok (u, .var ⟨b, off + j, none⟩) w
 | [], t, k, u, j, b, off, w, h => by cases h; rfl
 | s :: r, t, k, u, j, b, off, w, h => by
  simp only [stepsT] at h
  split at h
  ·cases h
  ·rename_i hd
   split at h
   ·rename_i j' u' h1 h2
    obtain ⟨fs, f, i, hu, hf, hi, hs, ho⟩ := fieldOff_spec h1
    have hty : u' = f.type := by
     unfold fieldTy at h2
     rw [hu] at h2
     simp only [hf, Option.map_some] at h2
     exact (Option.some.inj h2).symm
    subst hty
    have ih := run_steps r f.type (k + j') b off w h
    have e : off + k + f.offset = off + (k + j') := by omega
    unfold follow
    simp only [Sem.run_bind, run_underlying hu, Result.andThen_ok, hf, hd, Bool.false_eq_true, if_false, fieldPlace, sizeOf, typeInfo, run_program, hi, Sem.run_pure, hs, Addr.add_of, e]
    exact ih
   ·cases h
/-- The function that a method's name leads to, and how the receiver is found: itself, or so far behind the pointer. -/
def methT (P : Program) (t : TypeId) (name : String) : Option (FuncId × Option Nat) :=
 if P.types.size + Made.depth = 0 then none else
 match P.info? t with
 | some i => match i.methods.find? (·.name == name) with
  | some m => match m.func with
   | some (f, pr) => match m.path.toList with
    | [] => match P.underlying t with
     | some (.pointer _) => if pr then some (f, none) else none
     | some _ => if pr then none else some (f, none)
     | none => none
    | s :: r => if s.deref && pr then match fieldOff P s.struct s.index, fieldTy P s.struct s.index with
      | some k, some u => match stepsT P r u k with
       | some (u2, j) => match P.underlying u2 with
        | some (.pointer _) => none
        | some _ => some (f, some j)
        | none => none
       | none => none
      | _, _ => none
     else none
   | none => none
  | none => none
 | none => none
/-- The receiver. -/
def recvS (sv : SV) : Option Nat → Option SV
 | none => some sv
 | some k => match sv with
  | .ptr o off => some (.ptr o (off + k))
  | .d (.pt cells) => some (.ep cells k)
  | .ep cells i => some (.ep cells (i + k))
  | _ => none
theorem run_method {P : Program} {t : TypeId} {name : String} {f : FuncId} {how : Option Nat} (h : methT P t name = some (f, how)) {w : World} {ok : Nat → Prop} {Ω : List Value} {sv rv : SV} {v : Value} (hv : RepS w ok Ω sv v) (hr : recvS sv how = some rv) (w' : World) :
  ∃ u, (method (P.types.size + Made.depth) t v name).run P w' = .ok (f, u) w' ∧ RepS w ok Ω rv u := by
 unfold methT at h
 split at h
 ·cases h
 ·rename_i hfuel
  obtain ⟨n, hn⟩ : ∃ n, P.types.size + Made.depth = n + 1 := ⟨P.types.size + Made.depth - 1, by omega⟩
  rw [hn]
  split at h
  ·rename_i i hi
   split at h
   ·rename_i m hm
    split at h
    ·rename_i f' pr hfn
     split at h
     ·rename_i hpath
      -- the value itself
      have key : ∀ d, P.underlying t = some d → (∀ q, d = .pointer q → pr = true) → ((∀ q, d ≠ .pointer q) → pr = false) → f' = f → how = none → ∃ u, (method (n + 1) t v name).run P w' = .ok (f, u) w' ∧ RepS w ok Ω rv u := by
       intro d hd hp hnp hf hh
       subst hf hh
       cases hr
       refine ⟨v, ?_, hv⟩
       unfold method
       simp only [Sem.run_bind, typeInfo, run_program, hi, Result.andThen_ok, Sem.run_pure, hm, hpath, follow, hfn, receiverAt, run_underlying hd]
       cases d with
       | pointer q => rw [hp q rfl]; rfl
       | _ => rw [hnp (fun q e => by cases e)]; rfl
      split at h
      ·rename_i q hd
       split at h
       ·rename_i hpr; cases h
        exact key _ hd (fun _ _ => hpr) (fun hc => absurd rfl (hc q)) rfl rfl
       ·cases h
      ·rename_i d hne hd
       split at h
       ·cases h
       ·rename_i hpr; cases h
        exact key _ hd (fun q e => (hne q e).elim) (fun _ => by simpa using hpr) rfl rfl
      ·cases h
     ·rename_i s r hpath
      split at h
      ·rename_i hsd
       rw [Bool.and_eq_true] at hsd
       obtain ⟨hder, hpr⟩ := hsd
       split at h
       ·rename_i k u1 h1 h2
        split at h
        ·rename_i u2 j hst
         obtain ⟨fs, fl, i1, hu, hf, hi1, hs, ho⟩ := fieldOff_spec h1
         have hty : u1 = fl.type := by
          unfold fieldTy at h2
          rw [hu] at h2
          simp only [hf, Option.map_some] at h2
          exact (Option.some.inj h2).symm
         subst hty
         -- the address
         have haddr : f' = f ∧ how = some j ∧ (∃ d, P.underlying u2 = some d ∧ ∀ q, d ≠ .pointer q) := by
          split at h
          ·cases h
          ·rename_i d hne hd; cases h; exact ⟨rfl, rfl, _, hd, fun q e => hne q e⟩
          ·cases h
         obtain ⟨rfl, rfl, d, hd, hdn⟩ := haddr
         have fin : ∀ b off, v = .pointer (some ⟨b, off, none⟩) → (method (n + 1) t v name).run P w' = .ok (f', .pointer (some ⟨b, off + j, none⟩)) w' := by
          intro b off hvv
          subst hvv
          have hrun := run_steps r fl.type k b off w' hst
          have e : off + fl.offset = off + k := by omega
          unfold method
          simp only [Sem.run_bind, typeInfo, run_program, hi, Result.andThen_ok, Sem.run_pure, hm, hpath, follow, run_underlying hu, hf, hder, if_true, Place.get, asAddr, fieldPlace, sizeOf, hi1, hs, if_false, Addr.add_of, e, hrun, hfn, receiverAt, run_underlying hd, hpr]
          all_goals (cases d <;> first | rfl | exact absurd rfl (hdn _))
         cases hv with
         | ptr o off b hb => cases hr; exact ⟨_, fin b off rfl, .ptr o _ b hb⟩
         | ptrG o off b len cap hb => cases hr; exact ⟨_, fin b off rfl, .ptrG o _ b len cap hb⟩
         | ep b off i2 cells vals hb hc hrr =>
          cases hr
          refine ⟨_, fin b (off + i2) rfl, ?_⟩
          rw [Nat.add_assoc]
          exact .ep b off (i2 + j) cells vals hb hc hrr
         | d y u hyd =>
          cases hyd with
          | pt b off cells vals hb hc hrr => cases hr; exact ⟨_, fin b off rfl, .ep b off j cells vals hb hc hrr⟩
          | _ => cases hr
         | _ => cases hr
        ·cases h
       ·cases h
      ·cases h
    ·cases h
   ·cases h
  ·cases h

section
variable {C : Ctx} {Q : Exit → St → Prop} {ops : Array Oper} {rest : List Oper} {o : Oper} {e : List (Nat × SV)} {obs : List Ob} {d : Nat}
theorem AOp.makeIfc {t : TypeId} {x : Operand} {sv : SV} (ho : o.op = .makeInterface t x) (hd : o.dst = some d) (hn : d < C.n) (hx : opS ⟨e, obs⟩ x = some sv) (ht : concT C.P t = true)
  (h : AO C ops rest ⟨(d, .ifc t sv) :: e, obs⟩ Q) : AOp C ops rest o ⟨e, obs⟩ Q :=
 AOp.value hd hn (fun Ω a w hr => ⟨_, by simp only [execOp, ho, run_makeIfc ht, Sem.run_bind, Result.andThen_ok, Sem.run_pure], .ifc t _ _ (hr.eval hx)⟩) h
/-- x.(u) and x.(u), ok, where it passes; b: u is an interface. -/
theorem AOp.assertYes {x : Operand} {s u t : TypeId} {ok b : Bool} {sv y : SV} (ho : o.op = .typeAssert x s u ok) (hd : o.dst = some d) (hn : d < C.n) (hx : opS ⟨e, obs⟩ x = some sv) (hs : ifcS sv = some (t, y)) (hp : passT C.P t u = some true)
  (hb : (match C.P.underlying u with | some (.interface _) => true | _ => false) = b) (h : AO C ops rest ⟨(d, let z := if b then SV.ifc t y else y; if ok then .tu [z, .d (.v (.bool true))] else z) :: e, obs⟩ Q) : AOp C ops rest o ⟨e, obs⟩ Q :=
 AOp.value hd hn (fun Ω a w hr => by
  obtain ⟨v, hv, hrep⟩ := (hr.eval hx).ifcV hs
  refine ⟨if ok then .tuple #[if b then Value.iface t v else v, .bool true] else if b then Value.iface t v else v, by simp only [execOp, ho, hv, run_assertYes hp, Sem.run_bind, Result.andThen_ok, Sem.run_pure, hb], ?_⟩
  have hz : RepS w (okB C obs Ω w) Ω (if b then SV.ifc t y else y) (if b then Value.iface t v else v) := by
   cases b with
   | true => exact .ifc t _ _ hrep
   | false => exact hrep
  cases ok with
  | false => exact hz
  | true =>
   refine .tu _ [_, _] rfl fun i p q hp hq => ?_
   match i, hp, hq with
   | 0, hp, hq => cases hp; cases hq; exact hz
   | 1, hp, hq => cases hp; cases hq; exact .d _ _ (.v _)
   | i + 2, hp, hq => simp at hp) h
theorem AOp.assertNo {x : Operand} {s u t : TypeId} {sv y : SV} {z : Value} (ho : o.op = .typeAssert x s u true) (hd : o.dst = some d) (hn : d < C.n) (hx : opS ⟨e, obs⟩ x = some sv) (hs : ifcS sv = some (t, y)) (hp : passT C.P t u = some false) (hz : (C.P.info? u).map (·.zero) = some (some z))
  (h : AO C ops rest ⟨(d, .tu [.d (.v z), .d (.v (.bool false))]) :: e, obs⟩ Q) : AOp C ops rest o ⟨e, obs⟩ Q :=
 AOp.value hd hn (fun Ω a w hr => by
  obtain ⟨v, hv, hrep⟩ := (hr.eval hx).ifcV hs
  refine ⟨.tuple #[z, .bool false], by simp only [execOp, ho, hv, run_assertNo hp hz, Sem.run_bind, Result.andThen_ok, Sem.run_pure], ?_⟩
  refine .tu _ [_, _] rfl fun i p q hp hq => ?_
  match i, hp, hq with
  | 0, hp, hq => cases hp; cases hq; exact .d _ _ (.v _)
  | 1, hp, hq => cases hp; cases hq; exact .d _ _ (.v _)
  | i + 2, hp, hq => simp at hp) h

/-- The operation enters function f with what ys stand for. -/
def EntersS (C : Ctx) (o : Oper) (s : St) (f : FuncId) (ys : List SV) : Prop := ∀ Ω a w, Rel C s Ω a w → ∃ vs : List Value, (execOp a.eval o).run C.P w = .ok (.enter f vs.toArray) w ∧ vs.length = ys.length ∧
 ∀ (i : Nat) y v, ys[i]? = some y → vs[i]? = some v → RepS w (okB C s.obs Ω w) Ω y v
theorem EntersS.call {f : FuncId} {xs : List Operand} {ts : Array TypeId} {ys : List SV} (he : enters C.P f = true) (ho : o.op = .call { callee := .value (.func f), args := xs.toArray, argTypes := ts }) (hx : mapO (opS ⟨e, obs⟩) xs = some ys) : EntersS C o ⟨e, obs⟩ f ys := fun Ω a w hr => by
 obtain ⟨hlen, hi⟩ := mapO_get hx
 refine ⟨xs.map a.eval, by rw [run_call he ho, List.map_toArray], by simp [hlen], fun i y v hy hv => ?_⟩
 simp only [List.getElem?_map, Option.map_eq_some_iff] at hv
 obtain ⟨x, hxi, rfl⟩ := hv
 exact hr.eval (hi i x y hxi hy)
theorem EntersS.meth {x : Operand} {name : String} {xs : List Operand} {ts : Array TypeId} {ys : List SV} {f : FuncId} {t : TypeId} {how : Option Nat} {sv y rv : SV} (he : enters C.P f = true) (ho : o.op = .call { callee := .invoke x name, args := xs.toArray, argTypes := ts }) (hr0 : opS ⟨e, obs⟩ x = some sv)
  (hs : ifcS sv = some (t, y)) (hm : methT C.P t name = some (f, how)) (hrv : recvS y how = some rv) (hx : mapO (opS ⟨e, obs⟩) xs = some ys) : EntersS C o ⟨e, obs⟩ f (rv :: ys) := fun Ω a w hr => by
 obtain ⟨hlen, hi⟩ := mapO_get hx
 obtain ⟨v, hv, hrep⟩ := (hr.eval hr0).ifcV hs
 obtain ⟨u, hu, hru⟩ := run_method hm hrep hrv w
 refine ⟨u :: xs.map a.eval, ?_, by simp [hlen], fun i z q hz hq => ?_⟩
 ·have e1 : (#[Value.iface t v] ++ (xs.map a.eval).toArray).extract 1 (#[Value.iface t v] ++ (xs.map a.eval).toArray).size = (xs.map a.eval).toArray := by
   simp
   exact List.take_of_length_le (by simp)
  have e2 : (#[Value.iface t v] ++ (xs.map a.eval).toArray)[0]? = some (Value.iface t v) := by simp
  simp only [execOp, ho, resolve, Sem.run_bind, Sem.run_pure, Result.andThen_ok, invoke, List.map_toArray, hv, e1, e2, callMethod, run_program, hu, run_enters he]
  simp
 ·cases i with
  | zero => simp at hz hq; subst hz; subst hq; exact hru
  | succ i =>
   simp only [List.getElem?_cons_succ, List.getElem?_map, Option.map_eq_some_iff] at hz hq
   obtain ⟨x, hxi, rfl⟩ := hq
   exact hr.eval (hi i x z hxi hz)

/-- A call into a function's body; ks: the caller's slots that are kept. -/
theorem AOp.inlE {f : FuncId} {fn : Func} {c : Code} {ys : List SV} {n : Nat} {rs : List ResultVar} {e1 : List (Nat × SV)} (ks : List Nat) (hE : EntersS C o ⟨e, obs⟩ f ys) (hf : C.P.funcs[f]? = some fn) (hb : fn.body = some c) (hnt : fn.ntmps = n) (hrs : fn.results = rs.toArray)
  (hdn : match o.dst with | some d => d < C.n | none => True) (hl : ys.length ≤ n) (hk : Vm.keep ks e = some e1)
  (h : ∀ vs, AC (C.sub n) c ⟨enumS 0 ys, obs ++ [.frame vs e1]⟩ (InlQ C ops rest o.dst rs obs.length vs Q)) : AOp C ops rest o ⟨e, obs⟩ Q := fun Ω a w hr => by
 obtain ⟨zs, hrun, hlen, hi⟩ := hE Ω a w hr
 subst hnt
 have hrl : fn.results.toList = rs := by rw [hrs]
 unfold Oper.wp
 rw [hrun, Oper.upon_enter]
 obtain ⟨hm, hok⟩ := hr.mem.frame a.tmps e1 (fun t x hx => hr.env t x (keep_get hk hx))
 refine (calls_of_wp hf hb (R := fun ed w' => ∃ (v : Value) (s : St) (Ω' : List Value), ed = .returned v ∧ Mem C s.obs Ω' w' ∧ ∃ r e', RepS w' (okB C s.obs Ω' w') Ω' r v ∧ s.obs[obs.length]? = some (.frame a.tmps e') ∧ AO C ops rest ⟨putO o.dst r e', s.obs.set obs.length .dead⟩ Q) ?_).mono fun ed w' ⟨v, s, Ω', hed, hm', r, e', hrep, hfr, hao⟩ => ?_
 ·have hrel : Rel (C.sub fn.ntmps) ⟨enumS 0 ys, obs ++ [.frame a.tmps e1]⟩ (Ω ++ [undef]) { tmps := zs.toArray ++ Array.replicate (fn.ntmps - zs.toArray.size) undef, defers := [] } w := by
   refine ⟨rfl, by simp; omega, fun t x hx => ?_, hm.ctx⟩
   obtain ⟨_, hy⟩ := enumS_get ys 0 t x hx
   rw [Nat.sub_zero] at hy
   have hlt := (List.getElem?_eq_some_iff.1 hy).1
   have hzt : zs[t]? = some zs[t] := List.getElem?_eq_getElem (by omega)
   refine ⟨zs[t], ?_, ?_⟩
   ·rw [Array.getElem?_append_left (by simp; omega)]
    simp
   ·exact (hi t _ _ hy hzt).mono (fun b hb => ⟨hok b hb, rfl⟩) (fun o v e => get_left e)
  refine wp_mono (h a.tmps _ _ w hrel) fun ed a' w' ⟨s, Ω', hr', hq⟩ => ?_
  have fin : (∃ r e', resS C.P s rs = some r ∧ s.obs[obs.length]? = some (.frame a.tmps e') ∧ AO C ops rest ⟨putO o.dst r e', s.obs.set obs.length .dead⟩ Q) →
    a'.defers = [] ∧ ∃ v, (results fn a'.tmps).run C.P w' = .ok v w' ∧ ∃ (v_1 : Value) (s : St) (Ω' : List Value), Ending.returned v = Ending.returned v_1 ∧ Mem C s.obs Ω' w' ∧ ∃ r e', RepS w' (okB C s.obs Ω' w') Ω' r v_1 ∧ s.obs[obs.length]? = some (.frame a.tmps e') ∧ AO C ops rest ⟨putO o.dst r e', s.obs.set obs.length .dead⟩ Q := by
   intro ⟨r, e', hres, hfr, hao⟩
   rw [← hrl] at hres
   obtain ⟨v, hv, hrep⟩ := resS_rep hr' hres
   exact ⟨hr'.defers, v, hv, v, s, Ω', rfl, hr'.mem.ctx', r, e', hrep, hfr, hao⟩
  cases ed with
  | normal => exact fin hq
  | ret => exact fin hq
  | _ => exact hq.elim
 ·subst hed
  obtain ⟨hmk, hokk⟩ := hm'.kill obs.length
  obtain ⟨hh, hΩh⟩ : ∃ h, Ω'[obs.length]? = some h := ⟨_, List.getElem?_eq_getElem (by have := (List.getElem?_eq_some_iff.1 hfr).1; have := hm'.len; omega)⟩
  have hF := hm'.obj _ _ _ hfr hΩh
  have hbase : Rel C ⟨e', s.obs.set obs.length .dead⟩ Ω' a w' :=
   ⟨hr.defers, hr.size, fun t x hx => let ⟨v, hv, hrp⟩ := hF.2 t x hx; ⟨v, hv, hrp.mono (fun b hb => ⟨hokk b hb, rfl⟩) (fun _ _ e => e)⟩, hmk⟩
  cases hd : o.dst with
  | none =>
   rw [hd] at hao
   exact hao Ω' _ w' hbase
  | some d =>
   rw [hd] at hao hdn
   exact hao Ω' _ w' (hbase.put hdn (hrep.mono (fun b hb => ⟨hokk b hb, rfl⟩) (fun _ _ e => e)))

/-- A call with data, of whatever kind. -/
theorem AOp.callE {f : FuncId} {ys : List D} {zs : List SV} {R : D → Prop} (hE : EntersS C o ⟨e, obs⟩ f zs) (hd : o.dst = some d) (hn : d < C.n) (hm : C.may = [])
  (hx : mapO (dataS 9) zs = some ys) (hF : FnD C.P f ys R) (h : ∀ r, R r → AO C ops rest ⟨(d, .d r) :: e, obs⟩ Q) : AOp C ops rest o ⟨e, obs⟩ Q := fun Ω a w hr => by
 obtain ⟨hl, hi⟩ := mapO_get hx
 obtain ⟨vs, hrun, hlen, hv⟩ := hE Ω a w hr
 unfold Oper.wp
 rw [hrun, Oper.upon_enter]
 refine (hF.2 w (okB C obs Ω w) vs (hr.mem.fr.holds hm) (fun b hb => hb.2.1) (by omega) fun i y v hy hvi => ?_).mono fun ed w' ⟨v, r, he, hR, hb, hrep⟩ => ?_
 ·have hlt := (List.getElem?_eq_some_iff.1 hy).1
  have hz : zs[i]? = some zs[i] := List.getElem?_eq_getElem (by omega)
  exact dataS_rep 9 (hi i _ _ hz hy) (hv i _ _ hz hvi)
 ·subst he
  rw [hd]
  refine h r hR Ω _ w' ((hr.below hb).put hn (.d _ _ (hrep.mono fun b hk => ⟨?_, rfl⟩)))
  rcases hk.1 with hk1 | hk1
  ·exact ((hr.mem.below hb).2 b hk1).1
  ·refine ⟨.inr (Nat.le_trans hr.mem.fr.size hk1), hk.2, fun o' ob k e1 l e2 hbk => ?_⟩
   have := (hr.mem.obj o' ob k e1 e2).lt l hbk
   omega
end
/-- Is it a pointer, and the nil one? -/
def isNilP : SV → Option Bool
 | .ptr _ _ => some false
 | .ep _ _ => some false
 | .d (.pt _) => some false
 | .d (.v (.pointer none)) => some true
 | _ => none
section
variable {C : Ctx} {Q : Exit → St → Prop} {ops : Array Oper} {rest : List Oper} {o : Oper} {e : List (Nat × SV)} {obs : List Ob} {d : Nat} {t ty : TypeId} {x y : Operand}
/-- The type of what a package variable holds. -/
def errT (W : World) (g : Nat) : TypeId := match W.cell? ⟨g, 0, none⟩ with
 | some (.iface t _) => t
 | _ => 0
end
end Go.Vm

/- Functions that give a slice which is new: it becomes one of the caller's own. -/
namespace Go.Vm
set_option linter.unusedVariables false
def D.isV : D → Bool
 | .v _ => true
 | _ => false
theorem isV_map {α : Type} {f : α → D} (hf : ∀ x, (f x).isV = true) (l : List α) : (l.map f).all D.isV = true := by
 rw [List.all_map, List.all_eq_true]
 exact fun x _ => hf x
/-- Function f, called with data args, gives a slice of its own making that holds some cells with R cells; nothing that was there has turned. -/
def FnN (P : Program) (f : FuncId) (args : List D) (el sz : Nat) (R : List D → Prop) : Prop :=
 enters P f = true ∧ ∀ (W : World) (ok : Nat → Prop) (vs : List Value), HoldsG W → (∀ b, ok b → b < W.heap.size) → vs.length = args.length →
  (∀ (i : Nat) x v, args[i]? = some x → vs[i]? = some v → RepD W ok x v) →
  Calls P f vs.toArray W fun e w' => ∃ v cells n xs, e = .returned v ∧ R cells ∧ RowKit.Below W.heap.size W w' ∧ w'.ownsRow 0 el sz v n xs ∧ (∀ b, blk v = some b → W.heap.size ≤ b) ∧ xs.length = cells.length ∧
   ∀ (i : Nat) x y, cells[i]? = some x → xs[i]? = some y → x = .v y
def RetN (rs : List ResultVar) (el sz : Nat) (R : List D → Prop) : Exit → St → Prop
 | .normal, s => ∃ t p cells, rs = [.tmp t] ∧ get s.env t = some (.own p) ∧ s.obs[p]? = some (.grow el sz cells) ∧ cells.all D.isV = true ∧ R cells
 | .ret, s => ∃ t p cells, rs = [.tmp t] ∧ get s.env t = some (.own p) ∧ s.obs[p]? = some (.grow el sz cells) ∧ cells.all D.isV = true ∧ R cells
 | _, _ => False
theorem FnN.of {P : Program} {f : FuncId} {fn : Func} {c : Code} {args : List D} {el sz : Nat} {R : List D → Prop} {n : Nat} {rs : List ResultVar} (he : enters P f = true) (hf : P.funcs[f]? = some fn) (hb : fn.body = some c) (hnt : fn.ntmps = n) (hrs : fn.results = rs.toArray) (hn : args.length ≤ n)
  (h : ∀ (W : World) (ok : Nat → Prop), AC ⟨P, W, ok, [], n, []⟩ c ⟨enumD 0 args, []⟩ (RetN rs el sz R)) : FnN P f args el sz R := by
 subst hnt
 refine ⟨he, fun W ok vs hG hok hl hrep => calls_of_wp hf hb ?_⟩
 have hrel : Rel ⟨P, W, ok, [], fn.ntmps, []⟩ ⟨enumD 0 args, []⟩ [] { tmps := vs.toArray ++ Array.replicate (fn.ntmps - vs.toArray.size) undef, defers := [] } W := by
  refine ⟨rfl, by simp; omega, fun t x hx => ?_, ⟨rfl, fun o ob h e1 => by simp at e1, fun i j a b p q x _ e1 => by simp at e1, fun o ob p b e1 => by simp at e1, ⟨rfl, rfl, rfl, Nat.le_refl _, fun _ _ _ => rfl, hG⟩⟩⟩
  obtain ⟨y, rfl, _, hy⟩ := enumD_get args 0 t x hx
  rw [Nat.sub_zero] at hy
  have hlt := (List.getElem?_eq_some_iff.1 hy).1
  have hv : vs[t]? = some vs[t] := List.getElem?_eq_getElem (by omega)
  refine ⟨vs[t], ?_, .d _ _ ((hrep t _ _ hy hv).mono fun b hb => ⟨⟨.inl hb, hok b hb, fun o ob h e1 => by simp at e1⟩, rfl⟩)⟩
  rw [Array.getElem?_append_left (by simp; omega)]
  simp
 refine wp_mono (h W ok _ _ W hrel) fun ed a w ⟨s, Ω, hr, hq⟩ => ?_
 have fin : (∃ t p cells, rs = [.tmp t] ∧ get s.env t = some (.own p) ∧ s.obs[p]? = some (.grow el sz cells) ∧ cells.all D.isV = true ∧ R cells) → a.defers = [] ∧ ∃ v, (results fn a.tmps).run P w = .ok v w ∧
   ∃ v_1 cells n xs, Ending.returned v = Ending.returned v_1 ∧ R cells ∧ RowKit.Below W.heap.size W w ∧ w.ownsRow 0 el sz v_1 n xs ∧ (∀ b, blk v_1 = some b → W.heap.size ≤ b) ∧ xs.length = cells.length ∧
   ∀ (i : Nat) x y, cells[i]? = some x → xs[i]? = some y → x = .v y := by
  intro ⟨t, p, cells, hrt, hg, hp, hV, hR⟩
  obtain ⟨v, hv, hrep⟩ := hr.env t _ hg
  cases hrep with
  | own _ _ hΩ _ =>
   obtain ⟨m, xs, how, hxl, hrr⟩ := hr.mem.obj p _ _ hp hΩ
   refine ⟨hr.defers, v, ?_, v, cells, m, xs, rfl, hR, ⟨hr.mem.fr.os, hr.mem.fr.tape, hr.mem.fr.output, hr.mem.fr.size, fun b hb => hr.mem.fr.block b hb (by simp)⟩, how, fun b hbk => ?_, hxl, fun i x y hx hy => ?_⟩
   ·rw [results_eq, hrs, hrt, List.mapM_toArray]
    have : a.tmps.getD t undef = v := by simp [Array.getD_eq_getD_getElem?, hv]
    simp [resSem, this]
   ·rcases hr.mem.new p _ _ b hp rfl hΩ hbk with h1 | h1
    ·exact h1
    ·simp at h1
   ·have := List.all_eq_true.1 hV x (List.mem_of_getElem? hx)
    have hd := hrr i x y hx hy
    cases x with
    | v u => cases hd; rfl
    | _ => cases this
 cases ed with
 | normal => exact fin hq
 | ret => exact fin hq
 | _ => exact hq.elim
section
variable {C : Ctx} {Q : Exit → St → Prop} {ops : Array Oper} {rest : List Oper} {o : Oper} {e : List (Nat × SV)} {obs : List Ob} {d : Nat}
/-- A call that gives a new slice. -/
theorem AOp.callNew {f : FuncId} {xs : List Operand} {ts : Array TypeId} {ys : List D} {el sz : Nat} {cells : List D} (ho : o.op = .call { callee := .value (.func f), args := xs.toArray, argTypes := ts }) (hd : o.dst = some d) (hn : d < C.n) (hm : C.may = [])
  (hx : mapO (argD ⟨e, obs⟩) xs = some ys) (hF : FnN C.P f ys el sz (fun r => r = cells)) (h : AO C ops rest ⟨(d, .own obs.length) :: e, obs ++ [.grow el sz cells]⟩ Q) : AOp C ops rest o ⟨e, obs⟩ Q := fun Ω a w hr => by
 obtain ⟨hl, hi⟩ := mapO_get hx
 unfold Oper.wp
 rw [run_call hF.1 ho, Oper.upon_enter, List.map_toArray]
 refine (hF.2 w (okB C obs Ω w) (xs.map a.eval) (hr.mem.fr.holds hm) (fun b hb => hb.2.1) (by simp [hl]) fun i y v hy hv => ?_).mono fun ed w' ⟨v, cs, n, us, he, hR, hb, how, hblk, hul, hrr⟩ => ?_
 ·simp only [List.getElem?_map, Option.map_eq_some_iff] at hv
  obtain ⟨x, hxi, rfl⟩ := hv
  have := hi i x y hxi hy
  unfold argD at this
  split at this
  ·rename_i z hz
   exact dataS_rep 9 this (hr.eval hz)
  ·cases this
 ·subst he hR
  rw [hd]
  have hrel := hr.begin hb how hblk hul (fun i x y hx hy => by rw [hrr i x y hx hy]; exact .v y)
  have one1 : v.oneCell' = true := by rcases how.2 with ⟨rfl, _⟩ | ⟨g, cap, cur, rfl, _⟩ <;> rfl
  refine h _ _ w' (hrel.put hn (.own _ _ ?_ one1))
  have := hr.mem.len
  dsimp only at this
  rw [this, List.getElem?_append_right (Nat.le_refl _)]; simp
end
end Go.Vm
namespace Go.Vm
set_option linter.unusedVariables false
/-- Function f, called with data args, gives a pointer to a block of its own making that holds some cells with R cells; nothing that was there has turned. -/
def FnA (P : Program) (f : FuncId) (args : List D) (ty : Nat) (R : List D → Prop) : Prop :=
 enters P f = true ∧ ∀ (W : World) (ok : Nat → Prop) (vs : List Value), HoldsG W → (∀ b, ok b → b < W.heap.size) → vs.length = args.length →
  (∀ (i : Nat) x v, args[i]? = some x → vs[i]? = some v → RepD W ok x v) →
  Calls P f vs.toArray W fun e w' => ∃ (b : Nat) (cells : List D) (us : List Value), e = .returned (.pointer (some ⟨b, 0, none⟩)) ∧ R cells ∧ RowKit.Below W.heap.size W w' ∧ W.heap.size ≤ b ∧ w'.heap[b]? = some (.cells us.toArray ty (0, 0)) ∧ us.length = cells.length ∧ (∀ y, y ∈ us → y.oneCell' = true) ∧
   ∀ (i : Nat) x y, cells[i]? = some x → us[i]? = some y → RepD w' (fun k => (ok k ∨ W.heap.size ≤ k) ∧ k < w'.heap.size ∧ k ≠ b) x y
def RetA (rs : List ResultVar) (ty : Nat) (R : List D → Prop) : Exit → St → Prop
 | .normal, s => ∃ t p cells ds, rs = [.tmp t] ∧ get s.env t = some (.ptr p 0) ∧ s.obs[p]? = some (.fix ty cells) ∧ mapO (dataS 9) cells = some ds ∧ R ds
 | .ret, s => ∃ t p cells ds, rs = [.tmp t] ∧ get s.env t = some (.ptr p 0) ∧ s.obs[p]? = some (.fix ty cells) ∧ mapO (dataS 9) cells = some ds ∧ R ds
 | _, _ => False
theorem FnA.of {P : Program} {f : FuncId} {fn : Func} {c : Code} {args : List D} {ty : Nat} {R : List D → Prop} {n : Nat} {rs : List ResultVar} (he : enters P f = true) (hf : P.funcs[f]? = some fn) (hb : fn.body = some c) (hnt : fn.ntmps = n) (hrs : fn.results = rs.toArray) (hn : args.length ≤ n)
  (h : ∀ (W : World) (ok : Nat → Prop), AC ⟨P, W, ok, [], n, []⟩ c ⟨enumD 0 args, []⟩ (RetA rs ty R)) : FnA P f args ty R := by
 subst hnt
 refine ⟨he, fun W ok vs hG hok hl hrep => calls_of_wp hf hb ?_⟩
 have hrel : Rel ⟨P, W, ok, [], fn.ntmps, []⟩ ⟨enumD 0 args, []⟩ [] { tmps := vs.toArray ++ Array.replicate (fn.ntmps - vs.toArray.size) undef, defers := [] } W := by
  refine ⟨rfl, by simp; omega, fun t x hx => ?_, ⟨rfl, fun o ob h e1 => by simp at e1, fun i j a b p q x _ e1 => by simp at e1, fun o ob p b e1 => by simp at e1, ⟨rfl, rfl, rfl, Nat.le_refl _, fun _ _ _ => rfl, hG⟩⟩⟩
  obtain ⟨y, rfl, _, hy⟩ := enumD_get args 0 t x hx
  rw [Nat.sub_zero] at hy
  have hlt := (List.getElem?_eq_some_iff.1 hy).1
  have hv : vs[t]? = some vs[t] := List.getElem?_eq_getElem (by omega)
  refine ⟨vs[t], ?_, .d _ _ ((hrep t _ _ hy hv).mono fun b hb => ⟨⟨.inl hb, hok b hb, fun o ob h e1 => by simp at e1⟩, rfl⟩)⟩
  rw [Array.getElem?_append_left (by simp; omega)]
  simp
 refine wp_mono (h W ok _ _ W hrel) fun ed a w ⟨s, Ω, hr, hq⟩ => ?_
 have fin : (∃ t p cells ds, rs = [.tmp t] ∧ get s.env t = some (.ptr p 0) ∧ s.obs[p]? = some (.fix ty cells) ∧ mapO (dataS 9) cells = some ds ∧ R ds) → a.defers = [] ∧ ∃ v, (results fn a.tmps).run P w = .ok v w ∧
   ∃ (b : Nat) (cells : List D) (us : List Value), Ending.returned v = Ending.returned (.pointer (some ⟨b, 0, none⟩)) ∧ R cells ∧ RowKit.Below W.heap.size W w ∧ W.heap.size ≤ b ∧ w.heap[b]? = some (.cells us.toArray ty (0, 0)) ∧ us.length = cells.length ∧ (∀ y, y ∈ us → y.oneCell' = true) ∧
   ∀ (i : Nat) x y, cells[i]? = some x → us[i]? = some y → RepD w (fun k => (ok k ∨ W.heap.size ≤ k) ∧ k < w.heap.size ∧ k ≠ b) x y := by
  intro ⟨t, p, cells, ds, hrt, hg, hp, hV, hR⟩
  obtain ⟨v, hv, hrep⟩ := hr.env t _ hg
  obtain ⟨b, vs', hΩ, hw, hvl, hrr, h1, hvb⟩ : ∃ (b : Nat) (vs' : List Value), Ω[p]? = some (.pointer (some ⟨b, 0, none⟩)) ∧ w.heap[b]? = some (.cells vs'.toArray ty (0, 0)) ∧ vs'.length = cells.length ∧
    (∀ (i : Nat) x y, cells[i]? = some x → vs'[i]? = some y → RepS w (okB _ s.obs Ω w) Ω x y) ∧ (∀ y, y ∈ vs' → y.oneCell' = true) ∧ v = .pointer (some ⟨b, 0, none⟩) := by
   obtain ⟨b, vs', hev, hΩ, hw, hl', hrr', h1'⟩ := hr.fix hp hrep
   exact ⟨b, vs', hΩ, hw, hl', hrr', h1', by rw [hev]⟩
  subst hvb
  obtain ⟨hdl, hdi⟩ := mapO_get hV
  refine ⟨hr.defers, _, ?_, b, ds, vs', rfl, hR, ⟨hr.mem.fr.os, hr.mem.fr.tape, hr.mem.fr.output, hr.mem.fr.size, fun b hb => hr.mem.fr.block b hb (by simp)⟩, ?_, hw, by omega, h1, fun i x y hx hy => ?_⟩
  ·rw [results_eq, hrs, hrt, List.mapM_toArray]
   have : a.tmps.getD t undef = .pointer (some ⟨b, 0, none⟩) := by simp [Array.getD_eq_getD_getElem?, hv]
   simp [resSem, this]
  ·rcases hr.mem.new p _ _ b hp rfl hΩ rfl with h1 | h1
   ·exact h1
   ·simp at h1
  ·have hil : i < cells.length := by have := (List.getElem?_eq_some_iff.1 hx).1; omega
   have hci : cells[i]? = some cells[i] := List.getElem?_eq_getElem hil
   have hd := hdi i _ _ hci hx
   exact (dataS_rep 9 hd (hrr i _ y hci hy)).mono fun k hk => ⟨⟨hk.1, hk.2.1, fun e => hk.2.2 p _ _ hp rfl hΩ (by rw [e]; rfl)⟩, rfl⟩
 cases ed with
 | normal => exact fin hq
 | ret => exact fin hq
 | _ => exact hq.elim
section
variable {C : Ctx} {Q : Exit → St → Prop} {ops : Array Oper} {rest : List Oper} {o : Oper} {e : List (Nat × SV)} {obs : List Ob} {d : Nat}
theorem Rel.beginFix {Ω : List Value} {a : Act} {w w' : World} (hr : Rel C ⟨e, obs⟩ Ω a w) (hbel : RowKit.Below w.heap.size w w') {ty b : Nat} {us : List Value} {cells : List D} (hb : w.heap.size ≤ b) (hw : w'.heap[b]? = some (.cells us.toArray ty (0, 0))) (hl : us.length = cells.length) (h1 : ∀ y, y ∈ us → y.oneCell' = true)
  (hc : ∀ (i : Nat) x y, cells[i]? = some x → us[i]? = some y → RepD w' (fun k => (okB C obs Ω w k ∨ w.heap.size ≤ k) ∧ k < w'.heap.size ∧ k ≠ b) x y) :
  Rel C ⟨e, obs ++ [.fix ty (cells.map .d)]⟩ (Ω ++ [.pointer (some ⟨b, 0, none⟩)]) a w' := by
 have hlen : obs.length = Ω.length := hr.mem.len
 have new1 : ∀ {i : Nat} {ob : Ob} {k : Value}, (obs ++ [.fix ty (cells.map .d)])[i]? = some ob → (Ω ++ [.pointer (some ⟨b, 0, none⟩)])[i]? = some k → (obs[i]? = some ob ∧ Ω[i]? = some k) ∨ (i = obs.length ∧ ob = .fix ty (cells.map .d) ∧ k = .pointer (some ⟨b, 0, none⟩)) := fun {i ob k} e1 e2 => by
  rw [List.getElem?_append] at e1 e2
  rw [← hlen] at e2
  split at e1
  ·rename_i hi; rw [if_pos hi] at e2; exact .inl ⟨e1, e2⟩
  ·rename_i hi
   rw [if_neg hi] at e2
   cases hq : i - obs.length with
   | zero =>
    rw [hq] at e1 e2
    exact .inr ⟨by omega, (Option.some.inj e1).symm, (Option.some.inj e2).symm⟩
   | succ m => rw [hq] at e1; simp at e1
 have lt : ∀ {i : Nat} {ob : Ob} {k : Value} {b : Nat}, obs[i]? = some ob → ob.live = true → Ω[i]? = some k → blk k = some b → b < w.heap.size := fun e1 l e2 hbk => (hr.mem.obj _ _ _ e1 e2).lt l hbk
 have hok : ∀ k, okB C obs Ω w k → okB C (obs ++ [.fix ty (cells.map .d)]) (Ω ++ [.pointer (some ⟨b, 0, none⟩)]) w' k ∧ w'.heap[k]? = w.heap[k]? := fun b' hk => ⟨⟨hk.1, Nat.lt_of_lt_of_le hk.2.1 hbel.size, fun i ob k e1 l e2 => by
  rcases new1 e1 e2 with ⟨f1, f2⟩ | ⟨_, rfl, rfl⟩
  ·exact hk.2.2 i ob k f1 l f2
  ·intro he
   have he : b = b' := Option.some.inj he
   have := hk.2.1
   omega⟩, hbel.block b' hk.2.1⟩
 have hokN : ∀ k, ((okB C obs Ω w k ∨ w.heap.size ≤ k) ∧ k < w'.heap.size ∧ k ≠ b) → okB C (obs ++ [.fix ty (cells.map .d)]) (Ω ++ [.pointer (some ⟨b, 0, none⟩)]) w' k ∧ w'.heap[k]? = w'.heap[k]? := fun k hk => by
  rcases hk.1 with h | h
  ·exact ⟨(hok k h).1, rfl⟩
  ·refine ⟨⟨.inr (Nat.le_trans hr.mem.fr.size h), hk.2.1, fun i ob v e1 l e2 he => ?_⟩, rfl⟩
   rcases new1 e1 e2 with ⟨f1, f2⟩ | ⟨_, rfl, rfl⟩
   ·have := lt f1 l f2 he; omega
   ·cases he; exact hk.2.2 rfl
 have hΩ : ∀ (o : Nat) u, Ω[o]? = some u → (Ω ++ [.pointer (some ⟨b, 0, none⟩)])[o]? = some u := fun o u h => by
  rw [List.getElem?_append_left (List.getElem?_eq_some_iff.1 h).1]; exact h
 refine ⟨hr.defers, hr.size, fun q x hq => ?_, ⟨by simp [hlen], fun i ob k e1 e2 => ?_, fun i j x y p q b' hij e1 e2 l1 l2 e3 e4 hp => ?_, fun i ob k b' e1 l1 e2 hp => ?_, ?_⟩⟩
 ·obtain ⟨u, hu, hrep⟩ := hr.env q x hq
  exact ⟨u, hu, hrep.mono hok hΩ⟩
 ·rcases new1 e1 e2 with ⟨f1, f2⟩ | ⟨_, rfl, rfl⟩
  ·exact (hr.mem.obj i ob k f1 f2).mono hok hΩ (fun b hbk l => hbel.block b (lt f1 l f2 hbk))
  ·refine ⟨b, us, rfl, hw, by simp [hl], fun i x y hx hy => ?_, h1⟩
   simp only [List.getElem?_map, Option.map_eq_some_iff] at hx
   obtain ⟨x', hx', rfl⟩ := hx
   exact .d _ _ ((hc i x' y hx' hy).mono hokN)
 ·rcases new1 e1 e3 with ⟨f1, f2⟩ | ⟨h1, rfl, rfl⟩
  ·rcases new1 e2 e4 with ⟨g1, g2⟩ | ⟨_, rfl, rfl⟩
   ·exact hr.mem.sep i j x y p q b' hij f1 g1 l1 l2 f2 g2 hp
   ·intro he
    have he : b = b' := Option.some.inj he
    have h2 := lt f1 l1 f2 hp
    omega
  ·rcases new1 e2 e4 with ⟨g1, g2⟩ | ⟨h2, _, _⟩
   ·intro he
    have hp : b = b' := Option.some.inj hp
    have h2 := lt g1 l2 g2 he
    omega
   ·omega
 ·rcases new1 e1 e2 with ⟨f1, f2⟩ | ⟨_, rfl, rfl⟩
  ·exact hr.mem.new i ob k b' f1 l1 f2 hp
  ·cases hp; left; exact Nat.le_trans hr.mem.fr.size hb
 ·exact ⟨hbel.os.trans hr.mem.fr.os, hbel.tape.trans hr.mem.fr.tape, hbel.output.trans hr.mem.fr.output, Nat.le_trans hr.mem.fr.size hbel.size, fun b e1 e2 => (hbel.block b (Nat.lt_of_lt_of_le e1 hr.mem.fr.size)).trans (hr.mem.fr.block b e1 e2), hr.mem.fr.glob⟩
theorem AC.dec {c : Code} {s : St} (b : Bool) (hy : b = true → AC C c s Q) (hn : b = false → AC C c s Q) : AC C c s Q := by
 cases b with
 | true => exact hy rfl
 | false => exact hn rfl
end
end Go.Vm

/- What the row's condition on package variables tells of their cells. -/
namespace Go.Vm
open Go.Lib
end Go.Vm

/- Panics that are recovered: a function that panics; one that defers a closure, which recovers. -/
set_option linter.unusedVariables false
namespace Go.Vm
/-- A panic that is under way: with a value, not nil. -/
def PanC (ch : List PanicEntry) : Prop := ∃ t u, ch = [{ v := .iface t u, recovered := false }]
/-- Function f, called with data args, panics; nothing that was there has turned. -/
def FnP (P : Program) (f : FuncId) (args : List D) : Prop :=
 enters P f = true ∧ ∀ (W : World) (ok : Nat → Prop) (vs : List Value), HoldsG W → (∀ b, ok b → b < W.heap.size) → vs.length = args.length →
  (∀ (i : Nat) x v, args[i]? = some x → vs[i]? = some v → RepD W ok x v) →
  Calls P f vs.toArray W fun e w' => (∃ ch, e = .panicked ch ∧ PanC ch) ∧ RowKit.Below W.heap.size W w'
def PanQ : Exit → St → Prop
 | .panic ch, s => PanC ch
 | _, _ => False
theorem rel_start {P : Program} {n : Nat} {args : List D} {W : World} {ok : Nat → Prop} {vs : List Value} (hn : args.length ≤ n) (hG : HoldsG W) (hok : ∀ b, ok b → b < W.heap.size) (hl : vs.length = args.length)
  (hrep : ∀ (i : Nat) x v, args[i]? = some x → vs[i]? = some v → RepD W ok x v) : Rel ⟨P, W, ok, [], n, []⟩ ⟨enumD 0 args, []⟩ [] { tmps := vs.toArray ++ Array.replicate (n - vs.toArray.size) undef, defers := [] } W := by
 refine ⟨rfl, by simp; omega, fun t x hx => ?_, ⟨rfl, fun o ob h e1 => by simp at e1, fun i j a b p q x _ e1 => by simp at e1, fun o ob p b e1 => by simp at e1, ⟨rfl, rfl, rfl, Nat.le_refl _, fun _ _ _ => rfl, hG⟩⟩⟩
 obtain ⟨y, rfl, _, hy⟩ := enumD_get args 0 t x hx
 rw [Nat.sub_zero] at hy
 have hlt := (List.getElem?_eq_some_iff.1 hy).1
 have hv : vs[t]? = some vs[t] := List.getElem?_eq_getElem (by omega)
 refine ⟨vs[t], ?_, .d _ _ ((hrep t _ _ hy hv).mono fun b hb => ⟨⟨.inl hb, hok b hb, fun o ob h e1 => by simp at e1⟩, rfl⟩)⟩
 rw [Array.getElem?_append_left (by simp; omega)]
 simp
theorem FnP.of {P : Program} {f : FuncId} {fn : Func} {c : Code} {args : List D} {n : Nat} (he : enters P f = true) (hf : P.funcs[f]? = some fn) (hb : fn.body = some c) (hnt : fn.ntmps = n) (hn : args.length ≤ n)
  (h : ∀ (W : World) (ok : Nat → Prop), AC ⟨P, W, ok, [], n, []⟩ c ⟨enumD 0 args, []⟩ PanQ) : FnP P f args := by
 subst hnt
 refine ⟨he, fun W ok vs hG hok hl hrep => calls_of_wp hf hb ?_⟩
 refine wp_mono (h W ok _ _ W (rel_start hn hG hok hl hrep)) fun ed a w ⟨s, Ω, hr, hq⟩ => ?_
 cases ed with
 | panic ch => exact ⟨hr.defers, ⟨ch, rfl, hq⟩, ⟨hr.mem.fr.os, hr.mem.fr.tape, hr.mem.fr.output, hr.mem.fr.size, fun b hb => hr.mem.fr.block b hb (by simp)⟩⟩
 | _ => exact hq.elim
section
variable {C : Ctx} {Q : Exit → St → Prop} {ops : Array Oper} {rest : List Oper} {o : Oper} {e : List (Nat × SV)} {obs : List Ob} {d : Nat}
theorem AOp.panic {x : Operand} {t : TypeId} {y : SV} (ho : o.op = .panic x) (hx : opS ⟨e, obs⟩ x = some (.ifc t y)) (h : ∀ ch, PanC ch → Q (.panic ch) ⟨e, obs⟩) : AOp C ops rest o ⟨e, obs⟩ Q := fun Ω a w hr => by
 have hv := hr.eval hx
 generalize hev : a.eval x = v at hv
 cases hv with
 | ifc _ _ u hu =>
  have r1 : (execOp a.eval o).run C.P w = .halt (.panic (.iface t u)) w := by
   simp only [execOp, ho, hev, Sem.run_bind, run_panic_iface]
   rfl
  unfold Oper.wp
  rw [r1]
  exact ⟨⟨e, obs⟩, Ω, hr, h _ ⟨t, u, rfl⟩⟩
end
/-- The code c, in which function g is deferred; Q vs: what holds behind it, vs being what g has captured. -/
def AWP (C : Ctx) (g : Nat) (c : Code) (s : St) (Q : Array Value → Exit → St → Prop) : Prop :=
 ∀ Ω a w, Rel C s Ω a w → c.wp C.P (fun e a w => ∃ vs, Lift { C with dfs := [⟨.fn (.func g) vs, #[]⟩] } (Q vs) e a w) a w
theorem AWP.seq {C : Ctx} {g : Nat} {x y : Code} {s : St} {Q : Array Value → Exit → St → Prop} (h : AC C x s (fun e s' => e = .normal ∧ AWP C g y s' Q)) : AWP C g (.seq x y) s Q := fun Ω a w hr =>
 wp_seq (wp_mono (h Ω a w hr) fun e a w ⟨s, Ω, hr, he, hq⟩ => by
  subst he
  exact hq Ω a w hr)
/-- The closure is made and deferred; what it has captured is kept in sight. -/
theorem AWP.defer {C : Ctx} {g id d : Nat} {o1 o2 : Oper} {y : Code} {e : List (Nat × SV)} {obs : List Ob} {Q : Array Value → Exit → St → Prop} {caps : List Operand} (hC : C.dfs = []) (h1 : o1.op = .makeFunc (.func g) #[] caps.toArray) (hd : o1.dst = some d) (hn : d < C.n) (hg1 : o1.guard = none)
  (h2 : o2.op = .defer { callee := .value (.tmp d), args := #[], argTypes := #[] }) (hd2 : o2.dst = none) (hg2 : o2.guard = none)
  {cs : List SV} (hcs : mapO (opS ⟨e, obs⟩) caps = some cs) (h : ∀ vs : Array Value, vs.size = caps.length → AC { C with dfs := [⟨.fn (.func g) vs, #[]⟩] } y ⟨e, obs ++ [.frame vs (enumS 0 cs)]⟩ (Q vs)) (hfree : get e d = none) : AWP C g (.seq (.region id [o1, o2].toArray false) y) ⟨e, obs⟩ Q := by
 intro Ω a w hr
 refine wp_seq (wp_region_lit ?_)
 unfold wpList
 rw [if_pos (by simp [Region.wanted, hg1])]
 refine .inl ?_
 have r1 : (execOp a.eval o1).run C.P w = .ok (.value (.func (.func g) #[] (caps.map a.eval).toArray)) w := by
  simp [execOp, h1, Instr.makeFunc]
 unfold Oper.wp
 rw [r1, Oper.upon_value, hd]
 unfold wpList
 rw [if_pos (by simp [Region.wanted, hg2])]
 refine .inl ?_
 have hv : (a.put (some d) (.func (.func g) #[] (caps.map a.eval).toArray)).eval (.tmp d) = .func (.func g) #[] (caps.map a.eval).toArray := by
  have := Act.put_get (a := a) (d := d) (v := .func (.func g) #[] (caps.map a.eval).toArray) (by rw [hr.size]; exact hn)
  simp [Act.eval, Act.put, Array.getD_eq_getD_getElem?, hr.size, hn]
 have r2 : (execOp (a.put (some d) (.func (.func g) #[] (caps.map a.eval).toArray)).eval o2).run C.P w = .ok (.defer ⟨.fn (.func g) (caps.map a.eval).toArray, #[]⟩) w := by
  simp [execOp, h2, resolve, hv, Deferred.ofValue]
 unfold Oper.wp
 rw [r2]
 simp only [Oper.upon, hd2]
 obtain ⟨hl, hi⟩ := mapO_get hcs
 obtain ⟨hm, hok⟩ := hr.mem.frame (caps.map a.eval).toArray (enumS 0 cs) (fun t x hx => by
  obtain ⟨_, hy⟩ := enumS_get cs 0 t x hx
  rw [Nat.sub_zero] at hy
  have hlt := (List.getElem?_eq_some_iff.1 hy).1
  have hxt : caps[t]? = some caps[t] := List.getElem?_eq_getElem (by omega)
  exact ⟨a.eval caps[t], by simp [hxt], hr.eval (hi t _ _ hxt hy)⟩)
 have hrel : Rel { C with dfs := [⟨.fn (.func g) (caps.map a.eval).toArray, #[]⟩] } ⟨e, obs ++ [.frame (caps.map a.eval).toArray (enumS 0 cs)]⟩ (Ω ++ [undef]) { (a.put (some d) (.func (.func g) #[] (caps.map a.eval).toArray)) with defers := ⟨.fn (.func g) (caps.map a.eval).toArray, #[]⟩ :: a.defers } w := by
  refine ⟨by rw [hr.defers, hC], by simp [Act.put, hr.size], fun t x hx => ?_, ⟨hm.len, hm.obj, hm.sep, hm.new, ⟨hm.fr.os, hm.fr.tape, hm.fr.output, hm.fr.size, hm.fr.block, hm.fr.glob⟩⟩⟩
  obtain ⟨v, hv, hrp⟩ := hr.env t x hx
  refine ⟨v, ?_, hrp.mono (fun b hb => ⟨hok b hb, rfl⟩) (fun o v e => get_left e)⟩
  show (a.put (some d) _).tmps[t]? = some v
  rw [Act.put_get (by rw [hr.size]; exact hn)]
  have : t ≠ d := fun e => by rw [e, hfree] at hx; cases hx
  rw [if_neg (Ne.symm this)]; exact hv
 exact wp_mono (h _ (by simp) _ _ w hrel) fun e a w hq => ⟨_, hq⟩
/-- Behind the closure's end. -/
def EndQ (P : Program) (rs : List ResultVar) (k : Nat) (tm : Array Value) (R : D → Prop) : Exit → St → Prop
 | .normal, s | .ret, s => ∃ r e', s.obs[k]? = some (Ob.frame tm e') ∧ resD P ⟨e', s.obs.set k .dead⟩ rs = some r ∧ R r
 | _, _ => False
/-- Behind a panic: the closure's other code c2 is gone through, its test (slots d0, d1) passed. -/
def CatchQ (C : Ctx) (ng d0 d1 : Nat) (c2 : Code) (rs : List ResultVar) (R : D → Prop) (vs : Array Value) : Exit → St → Prop
 | .panic ch, s => PanC ch ∧ ∃ (k : Nat) (cs : List SV), s.obs[k]? = some (Ob.frame vs (enumS 0 cs)) ∧ (vs.size = cs.length ∧ cs.length ≤ ng) ∧ ∀ tm, AC (C.sub ng) c2 ⟨(d1, .d (dbool true)) :: (d0, .any) :: enumS 0 cs, s.obs ++ [.frame tm s.env]⟩ (EndQ C.P rs s.obs.length tm R)
 | _, _ => False
end Go.Vm

/- Arrays: of the call's own, and as data; loops gone through round by round. -/
set_option linter.unusedVariables false
namespace Go.Vm
/-- A loop, from the head of its body on. -/
def ACL (C : Ctx) (c : Code) (s : St) (Q : Exit → St → Prop) : Prop := ∀ Ω a w, Rel C s Ω a w → ∀ b k cs,
 ∃ e a' w', Lift C Q e a' w' ∧ Arrives C.P (lone (b.at a (.code c :: .inLoop c :: k)) cs w) b k cs e a' w'
def LoopUQ (C : Ctx) (c : Code) (Q : Exit → St → Prop) : Exit → St → Prop
 | .normal, s => ACL C c s Q
 | e, s => Q e s
section
variable {C : Ctx} {s : St} {Q : Exit → St → Prop}
/-- One round of a loop. -/
theorem ACL.round {c : Code} (h : AC C c s (LoopUQ C c Q)) : ACL C c s Q := by
 intro Ω a w hr b k cs
 obtain ⟨e, a₁, w₁, ⟨s₁, Ω₁, hr₁, hq⟩, harr⟩ := h Ω a w hr b (.inLoop c :: k) cs
 cases e with
 | normal =>
  obtain ⟨e₂, a₂, w₂, hq₂, harr₂⟩ := hq Ω₁ a₁ w₁ hr₁ b k cs
  exact ⟨e₂, a₂, w₂, hq₂, .of_steps (Steps.trans harr (.one step_inLoop)) harr₂⟩
 | exit id => exact ⟨_, a₁, w₁, ⟨s₁, Ω₁, hr₁, hq⟩, .pass (x := .inLoop c) rfl (fun _ _ => .inl (by simp)) harr⟩
 | goto l => exact ⟨_, a₁, w₁, ⟨s₁, Ω₁, hr₁, hq⟩, .pass (x := .inLoop c) rfl (fun _ _ => .inl (by simp)) harr⟩
 | ret => exact ⟨_, a₁, w₁, ⟨s₁, Ω₁, hr₁, hq⟩, .pass (x := .inLoop c) rfl (fun _ _ => .inl (by simp)) harr⟩
 | panic ch => exact ⟨_, a₁, w₁, ⟨s₁, Ω₁, hr₁, hq⟩, .pass (x := .inLoop c) rfl (fun _ _ => .inl (by simp)) harr⟩
 | outgrown => exact ⟨_, a₁, w₁, ⟨s₁, Ω₁, hr₁, hq⟩, .pass (x := .inLoop c) rfl (fun _ _ => .inl (by simp)) harr⟩
end
section
variable {C : Ctx} {Q : Exit → St → Prop} {ops : Array Oper} {rest : List Oper} {o : Oper} {e : List (Nat × SV)} {obs : List Ob} {d : Nat}
end
section
variable {H : Type} {enc : TypeId × Value → H} {P : Program} {W : World}
end
end Go.Vm

/- Errors in package variables, compared; method values that only are looked at; parts of slices of the call's own; package variables without cells. -/
set_option linter.unusedVariables false
namespace Go.Vm
section
variable {C : Ctx} {Q : Exit → St → Prop} {ops : Array Oper} {rest : List Oper} {o : Oper} {e : List (Nat × SV)} {obs : List Ob} {d : Nat} {t ty : TypeId} {x y : Operand}
/-- What a package variable of one cell holds at first. -/
def errV (W : World) (g : Nat) : Value := (W.cell? ⟨g, 0, none⟩).getD .nilIface
/-- The method is one of the type's own; it is not called through nil. -/
def nilT (P : Program) (t : TypeId) (name : String) : Bool := match P.info? t with
 | some i => match i.methods.find? (·.name == name) with
  | some m => m.path.toList.isEmpty && match m.func with
   | some (_, true) => true
   | some (_, false) => match P.underlying t with
    | some (.pointer _) => false
    | some _ => true
    | none => false
   | none => false
  | none => false
 | none => false
end
section
open Go.Lib
end
end Go.Vm

/- Regions that draw their order, with one operation (a call gone through in place) for which all ahead of it wait, and which all behind it wait for. -/
set_option linter.unusedVariables false
namespace Go.Vm
section
variable {C : Ctx} {ops : Array Oper} {obs : List Ob} {md : Region.Mode}
/-- What is listed at the end: then only the call is ready; behind it the others come in the text's order. -/
def callE (ops : Array Oper) (n : Nat) (listed : Array Bool) : Bool := (Region.ready .any ops listed == [n]) && Region.lexHead .any ops 0 (ops.size - (n + 1)) (n + 1) (listed.setIfInBounds n true)
def lexC (ops : Array Oper) (n : Nat) : Nat → Nat → Array Bool → Bool
 | 0, _, listed => callE ops n listed
 | f + 1, k, listed => (Region.ready .any ops listed).contains k && Region.free .any ops listed k && lexC ops n f (k + 1) (listed.setIfInBounds k true)
/-- The others wait for all of the first n. -/
def waitB (ops : Array Oper) (n : Nat) : Bool := (List.range ops.size).all fun t => decide (t < n) || (List.range n).all (ancB .any ops ops.size t)
def drawCB (ops : Array Oper) (n : Nat) : Bool := decide (n < ops.size) && waitB ops n && lexC ops n n 0 (Array.replicate ops.size false)
/-- Behind the call: the others, in whatever order. -/
def CallQ (C : Ctx) (ops : Array Oper) (l : List Oper) (Q : Exit → St → Prop) : Exit → St → Prop
 | .normal, s => AD C ops l s (fun s' => AO C ops [] s' Q)
 | e, s => Q e s
end
end Go.Vm

/- Function values that have captured something: made, kept in a slice literal, called. -/
set_option linter.unusedVariables false
namespace Go.Vm
section
variable {C : Ctx} {Q : Exit → St → Prop} {ops : Array Oper} {rest : List Oper} {o : Oper} {e : List (Nat × SV)} {obs : List Ob} {d : Nat} {t ty : TypeId} {x y : Operand}
theorem AOp.makeClo {g : FuncId} {caps : List Operand} {svs : List SV} (ho : o.op = .makeFunc (.func g) #[] caps.toArray) (hd : o.dst = some d) (hn : d < C.n) (hx : mapO (opS ⟨e, obs⟩) caps = some svs)
  (h : AO C ops rest ⟨(d, .fv (.func g) [] svs) :: e, obs⟩ Q) : AOp C ops rest o ⟨e, obs⟩ Q :=
 AOp.value hd hn (fun Ω a w hr => by
  obtain ⟨hlen, hi⟩ := mapO_get hx
  refine ⟨.func (.func g) ([] : List Value).toArray (caps.map a.eval).toArray, ?_, .fv _ _ _ [] (caps.map a.eval) rfl (by simp [hlen]) (fun i z v hz hv => by simp at hz) (fun i z v hz hv => ?_)⟩
  ·simp [execOp, ho, Instr.makeFunc]
  ·simp only [List.getElem?_map, Option.map_eq_some_iff] at hv
   obtain ⟨q, hq, rfl⟩ := hv
   exact hr.eval (hi i q z hq hz)) h
/-- A call of a function value that has captured something. -/
theorem EntersS.clo {f : FuncId} {x : Operand} {xs : List Operand} {ts : Array TypeId} {ys caps : List SV} (he : enters C.P f = true) (ho : o.op = .call { callee := .value x, args := xs.toArray, argTypes := ts }) (hc : opS ⟨e, obs⟩ x = some (.fv (.func f) [] caps)) (hx : mapO (opS ⟨e, obs⟩) xs = some ys) :
  EntersS C o ⟨e, obs⟩ f (ys ++ caps) := fun Ω a w hr => by
 obtain ⟨hlen, hi⟩ := mapO_get hx
 have hv := hr.eval hc
 generalize hev : a.eval x = v at hv
 cases hv with
 | fv _ _ _ fs cs hf hcl hfr hcr =>
  have hfs : fs = [] := List.length_eq_zero_iff.1 (by simpa using hf)
  subst hfs
  refine ⟨xs.map a.eval ++ cs, ?_, by simp [hlen, hcl], fun i z v hz hv => ?_⟩
  ·simp only [execOp, ho, resolve, hev, Deferred.ofValue, Sem.run_bind, Sem.run_pure, Result.andThen_ok, invoke, List.map_toArray, run_enters he]
   simp
  ·have hxl : (xs.map a.eval).length = ys.length := by simp [hlen]
   rcases Nat.lt_or_ge i ys.length with h | h
   ·rw [List.getElem?_append_left h] at hz
    rw [List.getElem?_append_left (by omega)] at hv
    simp only [List.getElem?_map, Option.map_eq_some_iff] at hv
    obtain ⟨q, hq, rfl⟩ := hv
    exact hr.eval (hi i q z hq hz)
   ·rw [List.getElem?_append_right h] at hz
    rw [List.getElem?_append_right (by omega), hxl] at hv
    exact hcr _ _ _ hz hv
theorem EntersS.cloD {f : FuncId} {x : Operand} {xs : List Operand} {ts : Array TypeId} {ys : List SV} {caps : List D} (he : enters C.P f = true) (ho : o.op = .call { callee := .value x, args := xs.toArray, argTypes := ts }) (hc : opS ⟨e, obs⟩ x = some (.d (.clo f caps))) (hx : mapO (opS ⟨e, obs⟩) xs = some ys) :
  EntersS C o ⟨e, obs⟩ f (ys ++ caps.map .d) := fun Ω a w hr => by
 obtain ⟨hlen, hi⟩ := mapO_get hx
 have hv := (hr.eval hc).isD
 generalize hev : a.eval x = v at hv
 cases hv with
 | clo _ _ cs hcl hcr =>
  refine ⟨xs.map a.eval ++ cs, ?_, by simp [hlen, hcl], fun i z v hz hv => ?_⟩
  ·simp only [execOp, ho, resolve, hev, Deferred.ofValue, Sem.run_bind, Sem.run_pure, Result.andThen_ok, invoke, List.map_toArray, run_enters he]
   simp
  ·have hxl : (xs.map a.eval).length = ys.length := by simp [hlen]
   rcases Nat.lt_or_ge i ys.length with h | h
   ·rw [List.getElem?_append_left h] at hz
    rw [List.getElem?_append_left (by omega)] at hv
    simp only [List.getElem?_map, Option.map_eq_some_iff] at hv
    obtain ⟨q, hq, rfl⟩ := hv
    exact hr.eval (hi i q z hq hz)
   ·rw [List.getElem?_append_right h] at hz
    rw [List.getElem?_append_right (by omega), hxl] at hv
    rw [List.getElem?_map] at hz
    obtain ⟨z', hz', rfl⟩ := Option.map_eq_some_iff.1 hz
    exact .d _ _ (hcr _ _ _ hz' hv)
/-- A slice is compared with nil of which it may be open whether it is nil: if it is empty. -/
theorem AOp.nilEqlU {α : Type} {f : List α → D} {x0 : Option (List α)} {el : TypeId} {sz : Nat} (ht : C.P.underlying t = some (.slice el)) (ho : o.op = .binOp .eql t x (.const (.slice none 0 0)) ty) (hd : o.dst = some d) (hn : d < C.n)
  (hx : opS ⟨e, obs⟩ x = some (.d (oN f x0))) (hf0 : f [] = .ds sz []) (hf : ∀ a l, ∃ sz c cs, f (a :: l) = .ds sz (c :: cs)) (h : ∀ b, (neO x0 = true → b = x0.isNone) → AO C ops rest ⟨(d, .d (dbool b)) :: e, obs⟩ Q) : AOp C ops rest o ⟨e, obs⟩ Q := by
 by_cases hn0 : neO x0 = true
 ·exact AOp.nilEql ht ho hd hn hx (neO_cons hf hn0) (h _ fun _ => rfl)
 ·have hx0 : x0 = some [] := by
   cases x0 with
   | none => exact absurd rfl hn0
   | some l => cases l with
    | nil => rfl
    | cons a l => exact absurd rfl hn0
  subst hx0
  intro Ω a w hr
  have h1 := (hr.eval hx).isD
  have h2 : RepD w (okB C obs Ω w) (.ds sz []) (a.eval x) := by rw [← hf0]; exact h1
  obtain ⟨ad, l, c, hv⟩ : ∃ ad l c, a.eval x = .slice ad l c := by
   generalize a.eval x = v at h2
   cases h2 with
   | nil _ ad c => exact ⟨_, _, _, rfl⟩
   | ds => exact ⟨_, _, _, rfl⟩
  have hy : a.eval (.const (.slice none 0 0)) = .slice none 0 0 := rfl
  have hg : eqGuard .eql t x (.const (.slice none 0 0)) (.slice ad l c) (.slice none 0 0) = pure () := rfl
  have hrun : (execOp a.eval o).run C.P w = .ok (.value (.bool ad.isNone)) w := by
   simp only [execOp, ho, hv, hy, hg, Sem.run_bind, Sem.run_pure, Result.andThen_ok, run_eql_slice_nil C.P w t el ad l c ht]
  have := h ad.isNone (fun hh => absurd hh hn0)
  unfold Oper.wp
  rw [hrun]
  simp only [Oper.upon, hd]
  exact this Ω _ w (hr.put hn (.d _ _ (.v _)))
end
section
variable {C : Ctx} {Q : Exit → St → Prop} {ops : Array Oper} {rest : List Oper} {o : Oper} {e : List (Nat × SV)} {obs : List Ob} {d : Nat}
/-- A pointer to data, read from. -/
theorem SVLe.ptEp (cells : List D) : SVLe (.d (.pt cells)) (.ep cells 0) := fun w ok Ω v hv => by
 have h := hv.isD
 cases h with
 | pt b off _ vals hb hcell hr => exact .ep b off 0 cells vals hb hcell hr
end
/-- One of two ways, of which it may be open which: then both give the same. -/
noncomputable def agr {R : Type} (n i : Bool) (x y : Option R) : Option R := cond n (cond i x y) (x.bind fun r => y.bind fun r' => @ite _ (r = r') (Classical.propDecidable _) (some r) none)
theorem agr_t {R : Type} {n i : Bool} {x y : Option R} {r : R} (h : agr n i x y = some r) (hb : n = true → true = i) : x = some r := by
 unfold agr at h
 cases n with
 | true => rw [← hb rfl] at h; exact h
 | false =>
  obtain ⟨r1, h1, h⟩ := Option.bind_eq_some_iff.1 (show (x.bind fun r => y.bind fun r' => @ite _ (r = r') (Classical.propDecidable _) (some r) none) = some r from h)
  obtain ⟨r2, h2, h⟩ := Option.bind_eq_some_iff.1 h
  split at h
  ·rw [h1]; exact h
  ·cases h
theorem agr_f {R : Type} {n i : Bool} {x y : Option R} {r : R} (h : agr n i x y = some r) (hb : n = true → false = i) : y = some r := by
 unfold agr at h
 cases n with
 | true => rw [← hb rfl] at h; exact h
 | false =>
  obtain ⟨r1, h1, h⟩ := Option.bind_eq_some_iff.1 (show (x.bind fun r => y.bind fun r' => @ite _ (r = r') (Classical.propDecidable _) (some r) none) = some r from h)
  obtain ⟨r2, h2, h⟩ := Option.bind_eq_some_iff.1 h
  split at h
  ·rename_i he; rw [h2, ← he]; exact h
  ·cases h
theorem agr_same {R : Type} {n i : Bool} {x y : Option R} {r : R} (hx : x = some r) (hy : y = some r) : agr n i x y = some r := by
 unfold agr
 rw [hx, hy]
 cases n with
 | true => cases i <;> rfl
 | false => exact if_pos rfl
/-- A pointer to a struct, in an interface value. -/
structure IfcV where
 mk ::
 (dt : TypeId)
 (cells : List D)
abbrev eIfc (x : IfcV) : D := .ifc x.dt (.pt x.cells)
/-- What cells are told of. -/
noncomputable def decodeD {α : Type} (c : α → List D) (l : List D) : Option α := @dite _ (∃ y, c y = l) (Classical.propDecidable _) (fun h => some (Classical.choose h)) (fun _ => none)
end Go.Vm

/- Constructors that are handed a slice of the caller's own, and keep it in the new block. -/
set_option linter.unusedVariables false
namespace Go.Vm
section
variable {C : Ctx} {Q : Exit → St → Prop} {ops : Array Oper} {rest : List Oper} {o : Oper} {e : List (Nat × SV)} {obs : List Ob} {d : Nat} {t ty : TypeId} {x y : Operand}
theorem Rel.subOW {Ω : List Value} {a : Act} {w : World} (hr : Rel C ⟨e, obs⟩ Ω a w) {p ty : Nat} {cells cells' : List SV} (hp : obs[p]? = some (.fix ty cells)) (hl : cells.length = cells'.length)
  (hi : ∀ (j : Nat) x, cells'[j]? = some x → ∃ z, cells[j]? = some z ∧ ∀ ok v, RepS w ok Ω z v → v.oneCell' = true → RepS w ok Ω x v) : Rel C ⟨e, obs.set p (.fix ty cells')⟩ Ω a w := by
 have g1 : ∀ {i : Nat} {ob : Ob}, (obs.set p (.fix ty cells'))[i]? = some ob → ∃ ob', obs[i]? = some ob' ∧ ob'.live = ob.live ∧ (ob' = ob ∨ (ob' = .fix ty cells ∧ ob = .fix ty cells')) := fun {i ob} h => by
  rcases get_set h with ⟨rfl, rfl, _⟩ | ⟨_, h⟩
  ·exact ⟨_, hp, rfl, .inr ⟨rfl, rfl⟩⟩
  ·exact ⟨ob, h, rfl, .inl rfl⟩
 have hok : ∀ b, okB C obs Ω w b → okB C (obs.set p (.fix ty cells')) Ω w b := fun b hb => ⟨hb.1, hb.2.1, fun i ob k e1 l e2 => by
  obtain ⟨ob', h1, h2, _⟩ := g1 e1
  exact hb.2.2 i ob' k h1 (by rw [h2]; exact l) e2⟩
 refine ⟨hr.defers, hr.size, fun t x hx => ?_, ⟨by simp; exact hr.mem.len, fun i ob k e1 e2 => ?_, fun i j x y h k b hij e1 e2 l1 l2 e3 e4 hp => ?_, fun i ob k b e1 l e2 hp => ?_, hr.mem.fr⟩⟩
 ·obtain ⟨v, hv, hrep⟩ := hr.env t x hx
  exact ⟨v, hv, hrep.mono (fun b hb => ⟨hok b hb, rfl⟩) (fun _ _ e => e)⟩
 ·obtain ⟨ob', h1, _, h3⟩ := g1 e1
  have H := (hr.mem.obj i ob' k h1 e2).mono (fun b hb => ⟨hok b hb, rfl⟩) (fun _ _ e => e) (fun _ _ _ => rfl)
  rcases h3 with rfl | ⟨rfl, rfl⟩
  ·exact H
  ·obtain ⟨b, vs, rfl, hw, hvl, hvr, hone⟩ := H
   refine ⟨b, vs, rfl, hw, by rw [hvl, hl], fun j x y hx hy => ?_, hone⟩
   obtain ⟨z, hz, hzl⟩ := hi j x hx
   exact hzl _ _ (hvr j z y hz hy) (hone y (List.mem_of_getElem? hy))
 ·obtain ⟨x', h1, q1, _⟩ := g1 e1
  obtain ⟨y', h2, q2, _⟩ := g1 e2
  exact hr.mem.sep i j x' y' h k b hij h1 h2 (by rw [q1]; exact l1) (by rw [q2]; exact l2) e3 e4 hp
 ·obtain ⟨x', h1, q1, _⟩ := g1 e1
  exact hr.mem.new i x' k b h1 (by rw [q1]; exact l) e2 hp
/-- An argument: data; or the own slice p. -/
def argT (p : Nat) (s : St) (x : Operand) : Option (Option D) := match opS s x with
 | some (.own q) => if q = p then some none else none
 | some y => (dataS 9 y).map some
 | none => none
def thruS (p : Nat) : Option D → SV
 | some y => .d y
 | none => .own p
theorem AOp.callAT {f : FuncId} {xs : List Operand} {ts : Array TypeId} {zs cz : List (Option D)} {svs : List SV} {p el sz n : Nat} {cells : List D} {ty : Nat} (ho : o.op = .call { callee := .value (.func f), args := xs.toArray, argTypes := ts }) (hd : o.dst = some d) (hn : d < C.n) (hm : C.may = [])
  (hx : mapO (argT p ⟨e, obs⟩) xs = some zs) (hp : obs[p]? = some (.grow el sz cells)) (hsz : 0 < sz) (hc : cells.length = n * sz)
  (hF : ∀ a c, FnA C.P f (zs.map fun z => z.getD (.v (.slice a n c))) ty (fun r => r = cz.map fun z => z.getD (.v (.slice a n c)))) (hs : cz.map (thruS p) = svs)
  (h : AO C ops rest ⟨(d, .ptr obs.length 0) :: e, obs ++ [.fix ty svs]⟩ Q) : AOp C ops rest o ⟨e, obs⟩ Q := fun Ω a w hr => by
 subst hs
 obtain ⟨hl, hi⟩ := mapO_get hx
 have hlen := hr.mem.len
 dsimp only at hlen
 obtain ⟨v, hv⟩ : ∃ v, Ω[p]? = some v := ⟨_, List.getElem?_eq_getElem (by have := (List.getElem?_eq_some_iff.1 hp).1; omega)⟩
 obtain ⟨m, xs', how, hxl, _⟩ := hr.mem.obj p _ _ hp hv
 have hmn : m = n := Nat.eq_of_mul_eq_mul_right hsz (by rw [← how.1, hxl, hc])
 subst hmn
 obtain ⟨ad, c, rfl⟩ : ∃ ad c, v = .slice ad m c := by
  rcases how.2 with ⟨h1, h2⟩ | ⟨g, cap, cur, h1, _⟩
  ·subst h2; exact ⟨none, 0, h1⟩
  ·exact ⟨_, _, h1⟩
 have hF' := hF ad c
 unfold Oper.wp
 rw [run_call hF'.1 ho, Oper.upon_enter, List.map_toArray]
 refine (hF'.2 w (okB C obs Ω w) (xs.map a.eval) (hr.mem.fr.holds hm) (fun b hb => hb.2.1) (by simp [hl]) fun i y u hy hu => ?_).mono fun ed w' ⟨b, cs, us, he, hR, hb, hge, hwb, hul, h1, hrr⟩ => ?_
 ·simp only [List.getElem?_map, Option.map_eq_some_iff] at hu hy
  obtain ⟨x, hxi, rfl⟩ := hu
  obtain ⟨z, hz, rfl⟩ := hy
  have := hi i x z hxi hz
  unfold argT at this
  split at this
  ·rename_i q hq
   split at this
   ·rename_i hqp
    subst hqp
    cases this
    have hrep := hr.eval hq
    generalize a.eval x = u at hrep
    cases hrep with
    | own _ _ hΩ _ =>
     rw [hv] at hΩ
     cases hΩ
     exact .v _
   ·cases this
  ·rename_i y' _ hy'
   obtain ⟨y2, hy2, rfl⟩ := Option.map_eq_some_iff.1 this
   exact dataS_rep 9 hy2 (hr.eval hy')
  ·cases this
 ·subst he hR
  rw [hd]
  have hrel := hr.beginFix hb hge hwb hul h1 hrr
  have hgl : (obs ++ [Ob.fix ty ((cz.map fun z => z.getD (.v (.slice ad m c))).map .d)])[obs.length]? = some (.fix ty ((cz.map fun z => z.getD (.v (.slice ad m c))).map .d)) := by simp
  have hΩ' : ∀ (i : Nat) u, Ω[i]? = some u → (Ω ++ [Value.pointer (some ⟨b, 0, none⟩)])[i]? = some u := fun i u hu => by
   rw [List.getElem?_append_left (List.getElem?_eq_some_iff.1 hu).1]; exact hu
  have hrel2 := hrel.subOW (cells' := cz.map (thruS p)) hgl (by simp) (fun j x hx => by
   rw [List.getElem?_map] at hx
   obtain ⟨z, hz, rfl⟩ := Option.map_eq_some_iff.1 hx
   refine ⟨.d (z.getD (.v (.slice ad m c))), by simp [hz], fun ok u hu ho => ?_⟩
   cases z with
   | some y => exact hu
   | none =>
    have h2 : RepD w' ok (.v (.slice ad m c)) u := hu.isD
    cases h2
    exact .own p _ (hΩ' p _ hv) ho)
  have e1 : (obs ++ [Ob.fix ty ((cz.map fun z => z.getD (.v (.slice ad m c))).map .d)]).set obs.length (.fix ty (cz.map (thruS p))) = obs ++ [.fix ty (cz.map (thruS p))] := by
   rw [List.set_append_right _ _ (Nat.le_refl _), Nat.sub_self]; rfl
  rw [e1] at hrel2
  refine h _ _ w' (hrel2.put hn (.ptr _ 0 b ?_))
  rw [hlen, List.getElem?_append_right (Nat.le_refl _)]; simp
/-- The length of a slice of which only the head is told. -/
theorem AOp.lenHdr {t el sz : TypeId} {x : Operand} {ad : Option Addr} {n c : Nat} (ho : o.op = .call { callee := .builtin .len, args := #[x], argTypes := #[t] }) (hd : o.dst = some d) (hn : d < C.n)
  (hx : opS ⟨e, obs⟩ x = some (.d (.v (.slice ad n c)))) (ht : elemT C.P t = some (el, sz))
  (h : AO C ops rest ⟨(d, .d (.v (.int .i64 n))) :: e, obs⟩ Q) : AOp C ops rest o ⟨e, obs⟩ Q :=
 AOp.value hd hn (fun Ω a w hr => ⟨.int .i64 n, by simp [execOp, ho, hr.evalV hx, resolve, invoke, builtin, run_lenSlice ht], .d _ _ (.v _)⟩) h
end
end Go.Vm

/- Arguments whose types lead to themselves. -/
namespace Go.Vm
set_option linter.unusedVariables false
section
variable {P : Program} {W : World} {H : Type} {enc : TypeId × Value → H}
/-- Types of a list lead to none outside it, but for numbers, truth values and strings. -/
def closedT (P : Program) (ts : List TypeId) : Bool := ts.all fun t => match P.underlying t with
 | some .bool | some (.int _) | some (.float _) | some .string => true
 | some (.slice e) => decide (0 < P.cellsOf e) && ts.contains e
 | some (.struct fs) => tiles P 0 fs.toList (P.cellsOf t) && fs.toList.all fun f => ts.contains f.type
 | _ => false
theorem closed_good {ts : List TypeId} (h : closedT P ts = true) : ∀ (n : Nat) (t : TypeId), t ∈ ts → goodT P n t = true := by
 intro n
 induction n with
 | zero => intro t _; rfl
 | succ n ih =>
  intro t ht
  have := List.all_eq_true.1 h t ht
  unfold goodT
  split at this
  ·rename_i e; rw [e]
  ·rename_i e; rw [e]
  ·rename_i e; rw [e]
  ·rename_i e; rw [e]
  ·rename_i e q; rw [q]
   simp only [Bool.and_eq_true, List.contains_iff_mem] at this ⊢
   exact ⟨this.1, ih _ this.2⟩
  ·rename_i fs q; rw [q]
   simp only [Bool.and_eq_true, List.all_eq_true, List.contains_iff_mem] at this ⊢
   exact ⟨this.1, fun f hf => ih _ (this.2 f hf)⟩
  ·cases this
theorem arg_structR {base : Nat} {t : TypeId} {v : Value} {d : DataW H} {p : List MemPlace} {fs : Array Field} (ts : List TypeId) (ht : P.underlying t = some (.struct fs)) (hc : closedT P ts = true) (hm : ts.contains t = true) (hval : Value.okWide P W .any base t v)
  (h : DataW.Trod enc P W 0 (fun _ => true) true t v d p) : ∃ n xs, RepD W (fun b => b < W.heap.size) (.ag xs) v ∧ Shape P n t xs := by
 obtain ⟨cs, rfl, _⟩ := WideShapes.okWide_struct ht hval
 obtain ⟨n, hn⟩ := h
 obtain ⟨xs, hr, hs⟩ := trod_shape n t _ _ (closed_good hc n t (by simpa using hm)) hn
 refine ⟨n, xs, ?_, hs⟩
 have := RepD.ag xs (cs.toList) (w := W) (ok := fun b => b < W.heap.size) (by rw [hr.1]; rfl) (fun i x y hx hy => hr.2 i x y hx hy)
 simpa using this
theorem shape_sliceR {n : Nat} {t e : TypeId} {xs : List D} (hu : P.underlying t = some (.slice e)) (h : Shape P n t xs) :
  ∃ m rows, n = m + 1 ∧ xs = [.ds (P.cellsOf e) (List.flatten rows)] ∧ rows.length ≤ maxLen ∧ ∀ r, r ∈ rows → Shape P m e r := by
 cases n with
 | zero => simp only [Shape] at h
 | succ n => simp only [Shape, hu] at h; obtain ⟨rows, h1, h2, h3⟩ := h; exact ⟨n, rows, rfl, h1, h2, fun r hr => (h3 r hr).1⟩
theorem shape_structR {n : Nat} {t : TypeId} {fs : List Field} {xs : List D} (hu : P.underlying t = some (.struct fs.toArray)) (h : Shape P n t xs) : ∃ m, n = m + 1 ∧ ShapeL P m (fs.map (·.type)) xs := by
 cases n with
 | zero => simp only [Shape] at h
 | succ n => simp only [Shape, hu] at h; exact ⟨n, rfl, h⟩
theorem flat_map {α : Type} (f : α → List D) (l : List α) : (l.map f).flatten = l.flatMap f := by
 rw [List.flatMap_def]
end
end Go.Vm
