/- The framework by which a function is walked through: what this claim needs of it. -/
import Derived.Test.YtjhdpnjlphpboaaDoorLibA
/- Nil slices in structs of one's own that become slices of one's own; cells of which nothing more is said. -/
set_option linter.unusedVariables false
set_option linter.unusedSimpArgs false
namespace Go.Vm
section
variable {C : Ctx} {Q : Exit → St → Prop} {ops : Array Oper} {rest : List Oper} {o : Oper} {e : List (Nat × SV)} {obs : List Ob} {d : Nat}
theorem Rel.adopt0 {Ω : List Value} {a : Act} {w : World} (hr : Rel C ⟨e, obs⟩ Ω a w) (el sz : Nat) :
  Rel C ⟨e, obs ++ [.grow el sz []]⟩ (Ω ++ [.slice none 0 0]) a w := by
 have hlen : obs.length = Ω.length := hr.mem.len
 have hok : ∀ b, okB C obs Ω w b → okB C (obs ++ [.grow el sz []]) (Ω ++ [.slice none 0 0]) w b := fun b hb => ⟨hb.1, hb.2.1, fun o ob k e1 l e2 => by
  rw [List.getElem?_append] at e1 e2
  rw [← hlen] at e2
  split at e1
  ·rename_i hi; rw [if_pos hi] at e2; exact hb.2.2 o ob k e1 l e2
  ·rename_i hi
   rw [if_neg hi] at e2
   have : k = .slice none 0 0 := by
    cases hq : o - obs.length with
    | zero => rw [hq] at e2; exact (Option.some.inj e2).symm
    | succ m => rw [hq] at e2; simp at e2
   subst this
   simp [blk]⟩
 have hΩ : ∀ (o : Nat) v, Ω[o]? = some v → (Ω ++ [.slice none 0 0])[o]? = some v := fun o v h => by
  rw [List.getElem?_append_left (List.getElem?_eq_some_iff.1 h).1]; exact h
 have new1 : ∀ {i : Nat} {ob : Ob} {k : Value}, (obs ++ [.grow el sz []])[i]? = some ob → (Ω ++ [.slice none 0 0])[i]? = some k → (obs[i]? = some ob ∧ Ω[i]? = some k) ∨ (i = obs.length ∧ ob = .grow el sz [] ∧ k = .slice none 0 0) := fun {i ob k} e1 e2 => by
  rw [List.getElem?_append] at e1 e2
  rw [← hlen] at e2
  split at e1
  ·rename_i hi; rw [if_pos hi] at e2; exact .inl ⟨e1, e2⟩
  ·rename_i hi
   rw [if_neg hi] at e2
   cases hq : i - obs.length with
   | zero =>
    rw [hq] at e1 e2
    exact .inr ⟨by omega, (Option.some.inj e1).symm, (Option.some.inj e2).symm⟩
   | succ m => rw [hq] at e1; simp at e1
 refine ⟨hr.defers, hr.size, fun q x hq => ?_, ⟨by simp [hlen], fun i ob k e1 e2 => ?_, fun i j a b p q x hij e1 e2 l1 l2 e3 e4 hp => ?_, fun i ob p b e1 l1 e2 hp => ?_, hr.mem.fr⟩⟩
 ·obtain ⟨v, hv, hrep⟩ := hr.env q x hq
  exact ⟨v, hv, hrep.mono (fun b hb => ⟨hok b hb, rfl⟩) hΩ⟩
 ·rcases new1 e1 e2 with ⟨f1, f2⟩ | ⟨_, rfl, rfl⟩
  ·exact (hr.mem.obj i ob k f1 f2).mono (fun b hb => ⟨hok b hb, rfl⟩) hΩ (fun _ _ _ => rfl)
  ·exact ⟨0, [], World.ownsRow_nil w 0 el sz, rfl, fun i x y hx => by simp at hx⟩
 ·rcases new1 e1 e3 with ⟨f1, f2⟩ | ⟨_, rfl, rfl⟩
  ·rcases new1 e2 e4 with ⟨g1, g2⟩ | ⟨_, rfl, rfl⟩
   ·exact hr.mem.sep i j a b p q x hij f1 g1 l1 l2 f2 g2 hp
   ·simp [blk]
  ·cases hp
 ·rcases new1 e1 e2 with ⟨f1, f2⟩ | ⟨_, rfl, rfl⟩
  ·exact hr.mem.new i ob p b f1 l1 f2 hp
  ·cases hp
theorem Rel.subOΩ {Ω : List Value} {a : Act} {w : World} (hr : Rel C ⟨e, obs⟩ Ω a w) {p ty : Nat} {cells cells' : List SV} (hp : obs[p]? = some (.fix ty cells)) (hl : cells'.length = cells.length) (hi : ∀ (i : Nat) y, cells'[i]? = some y → ∃ x, cells[i]? = some x ∧ ∀ w ok v, RepS w ok Ω x v → RepS w ok Ω y v) : Rel C ⟨e, obs.set p (.fix ty cells')⟩ Ω a w := by
 have g1 : ∀ {i : Nat} {ob : Ob}, (obs.set p (.fix ty cells'))[i]? = some ob → ∃ ob', obs[i]? = some ob' ∧ ob'.live = ob.live ∧ (ob' = ob ∨ (ob' = .fix ty cells ∧ ob = .fix ty cells')) := fun {i ob} h => by
  rcases get_set h with ⟨rfl, rfl, _⟩ | ⟨_, h⟩
  ·exact ⟨_, hp, rfl, .inr ⟨rfl, rfl⟩⟩
  ·exact ⟨ob, h, rfl, .inl rfl⟩
 have hok : ∀ b, okB C obs Ω w b → okB C (obs.set p (.fix ty cells')) Ω w b := fun b hb => ⟨hb.1, hb.2.1, fun i ob k e1 l e2 => by
  obtain ⟨ob', h1, h2, _⟩ := g1 e1
  exact hb.2.2 i ob' k h1 (by rw [h2]; exact l) e2⟩
 refine ⟨hr.defers, hr.size, fun t x hx => ?_, ⟨by simp; exact hr.mem.len, fun i ob k e1 e2 => ?_, fun i j x y h k b hij e1 e2 l1 l2 e3 e4 hp => ?_, fun i ob k b e1 l e2 hp => ?_, hr.mem.fr⟩⟩
 ·obtain ⟨v, hv, hrep⟩ := hr.env t x hx
  exact ⟨v, hv, hrep.mono (fun b hb => ⟨hok b hb, rfl⟩) (fun _ _ e => e)⟩
 ·obtain ⟨ob', h1, _, h3⟩ := g1 e1
  have H := (hr.mem.obj i ob' k h1 e2).mono (fun b hb => ⟨hok b hb, rfl⟩) (fun _ _ e => e) (fun _ _ _ => rfl)
  rcases h3 with rfl | ⟨rfl, rfl⟩
  ·exact H
  ·obtain ⟨b, vs, rfl, hw, hvl, hvr, hone⟩ := H
   refine ⟨b, vs, rfl, hw, by rw [hvl, hl], fun j x y hx hy => ?_, hone⟩
   obtain ⟨z, hz, hzl⟩ := hi j x hx
   exact hzl _ _ _ (hvr j z y hz hy)
 ·obtain ⟨x', h1, q1, _⟩ := g1 e1
  obtain ⟨y', h2, q2, _⟩ := g1 e2
  exact hr.mem.sep i j x' y' h k b hij h1 h2 (by rw [q1]; exact l1) (by rw [q2]; exact l2) e3 e4 hp
 ·obtain ⟨x', h1, q1, _⟩ := g1 e1
  exact hr.mem.new i x' k b h1 (by rw [q1]; exact l) e2 hp
theorem AC.adoptO {c : Code} (p j el sz : Nat) {ty : Nat} {cells : List SV} (hp : obs[p]? = some (.fix ty cells)) (hj : cells[j]? = some (.d (.v (.slice none 0 0))))
  (h : AC C c ⟨e, (obs ++ [Ob.grow el sz []]).set p (.fix ty (cells.set j (.own obs.length)))⟩ Q) : AC C c ⟨e, obs⟩ Q := fun Ω a w hr => by
 have h1 := hr.adopt0 el sz
 refine h _ a w (h1.subOΩ (cells := cells) (by rw [List.getElem?_append_left (List.getElem?_eq_some_iff.1 hp).1]; exact hp) (by simp) fun i y hy => ?_)
 rcases get_set hy with ⟨rfl, rfl, _⟩ | ⟨_, hy⟩
 ·refine ⟨_, hj, fun w ok v hv => ?_⟩
  have := hv.val
  subst this
  refine .own _ _ ?_
  rw [show obs.length = Ω.length from hr.mem.len, List.getElem?_append_right (Nat.le_refl _)]; simp
 ·exact ⟨y, hy, fun _ _ _ h => h⟩
theorem AOp.subO (p : Nat) {ty : Nat} {cells cells' : List SV} (hp : obs[p]? = some (.fix ty cells)) (hle : SVL cells cells') (h : AOp C ops rest o ⟨e, obs.set p (.fix ty cells')⟩ Q) : AOp C ops rest o ⟨e, obs⟩ Q := fun Ω a w hr => h Ω a w (hr.subO hp hle)
theorem AO.subO {l : List Oper} (p : Nat) {ty : Nat} {cells cells' : List SV} (hp : obs[p]? = some (.fix ty cells)) (hle : SVL cells cells') (h : AO C ops l ⟨e, obs.set p (.fix ty cells')⟩ Q) : AO C ops l ⟨e, obs⟩ Q := fun Ω a w hr => h Ω a w (hr.subO hp hle)
end
end Go.Vm

/- Slices of which it is told whether they are nil. -/
set_option linter.unusedVariables false
namespace Go.Vm
def oN {α : Type} (f : α → D) : Option α → D
 | none => .v (.slice none 0 0)
 | some l => f l
/-- It is nil, or has elements. -/
def neO {α : Type} : Option (List α) → Bool
 | none => true
 | some l => !l.isEmpty
theorem SVLe.oN {α : Type} {f : List α → D} {sz : Nat} (h : f [] = .ds sz []) (x : Option (List α)) : SVLe (.d (oN f x)) (.d (f (x.getD []))) := by
 cases x with
 | none => show SVLe (.d (.v (.slice none 0 0))) (.d (f [])); rw [h]; exact SVLe.nil sz
 | some l => exact SVLe.refl _
theorem SVLe.of_eq {x y : SV} (h : x = y) : SVLe x y := h ▸ SVLe.refl _
section
variable {C : Ctx} {Q : Exit → St → Prop} {ops : Array Oper} {rest : List Oper} {o : Oper} {e : List (Nat × SV)} {obs : List Ob} {d : Nat} {t ty : TypeId} {x y : Operand}
/-- What the last slot is, told otherwise. -/
theorem AO.top {l : List Oper} {x y : SV} (hle : SVLe x y) (h : AO C ops l ⟨(d, y) :: e, obs⟩ Q) : AO C ops l ⟨(d, x) :: e, obs⟩ Q := fun Ω a w hr => by
 refine h Ω a w ((hr.sub (t := d) (x := x) (by simp [get]) hle).congr fun t z hz => ?_)
 simp only [get] at hz ⊢
 split at hz
 ·rename_i e1; rw [if_pos e1]; exact hz
 ·rename_i e1; rw [if_neg e1, if_neg e1]; exact hz
end
end Go.Vm

/- Elements of growing slices of one's own: read and written. -/
set_option linter.unusedVariables false
set_option linter.unusedSimpArgs false
namespace Go.Vm
section
variable {C : Ctx} {Q : Exit → St → Prop} {ops : Array Oper} {rest : List Oper} {o : Oper} {e : List (Nat × SV)} {obs : List Ob} {d : Nat}
/-- copy into a slice made by make, of cells of one word. -/
theorem AOp.copyL {α : Type} {k : α → D} {l l2 : List α} {m n c : Nat} {t t2 : TypeId} {x y : Operand} {p ty el : Nat} (ho : o.op = .call { callee := .builtin .copy, args := #[x, y], argTypes := #[t, t2] }) (hd : o.dst = some d) (hn : d < C.n)
  (hx : opS ⟨e, obs⟩ x = some (.sl p 1 0 n c)) (hy : opS ⟨e, obs⟩ y = some (.d (.ds 1 (l2.map k)))) (ht : elemT C.P t = some (el, 1)) (hp : obs[p]? = some (.fix ty (l.map fun z => SV.d (k z)))) (hln : n = l.length) (hk : ∀ z, (k z).one = true)
  (hm : m = min l2.length l.length) (h : AO C ops rest ⟨(d, .d (.v (.int .i64 (m : Int)))) :: e, obs.set p (.fix ty ((l2.take m ++ l.drop m).map fun z => SV.d (k z)))⟩ Q) : AOp C ops rest o ⟨e, obs⟩ Q := by
 refine AOp.step hd hn (fun Ω a w hr => ?_) h
 obtain ⟨hu, hs⟩ := elemT_spec ht
 have hs1 : (C.P.info? el).map (·.size) = some 1 := hs
 have hvx := hr.eval hx
 have hvy := hr.eval hy
 generalize hex : a.eval x = u at hvx
 generalize hey : a.eval y = v at hvy
 cases hvx with
 | sl _ _ _ _ _ b hb =>
  obtain ⟨b', vs, he, hw, hvl, hrr, hone⟩ := hr.mem.obj p _ _ hp hb
  cases he
  rw [List.length_map] at hvl
  -- the source's cells
  have hsrc : ∃ (ad : Option Addr) (sl sc : Nat) (cs : List Value), v = .slice ad sl sc ∧ sl = l2.length ∧ cs.length = m ∧ (∀ (i : Nat) z, l2[i]? = some z → i < m → ∃ u, cs[i]? = some u ∧ RepD w (okB C obs Ω w) (k z) u ∧ u.oneCell' = true) ∧
    (m = 0 ∨ ∃ a0, ad = some a0 ∧ ∀ j u, cs[j]? = some u → w.cell? (a0.add j) = some u) := by
   cases hvy with
   | d _ _ hvy =>
    generalize hc : l2.map k = cells at hvy
    cases hvy with
    | nil _ ad cp =>
     have : l2 = [] := by simpa using hc
     subst this
     exact ⟨ad, 0, cp, [], rfl, rfl, by simp [hm], fun i z hz => by simp at hz, .inl (by simp [hm])⟩
    | ds _ b2 off len cap _ vals hcl hcc hok hcell hrr2 =>
     subst hc
     rw [List.length_map] at hcl
     refine ⟨_, len, cap, (List.range m).map vals, rfl, by omega, by simp, fun i z hz hi => ⟨vals i, by simp [hi], ?_⟩, .inr ⟨_, rfl, fun j u hj => ?_⟩⟩
     ·have hrep := hrr2 i (k z) (by rw [List.getElem?_map, hz]; rfl)
      exact ⟨hrep, hrep.one (hk z)⟩
     ·have hjm := (List.getElem?_eq_some_iff.1 hj).1
      simp at hjm
      simp [hjm] at hj
      subst hj
      have := hcell j (by simp; omega)
      have ea : (⟨b2, off, none⟩ : Addr).add j = ⟨b2, off + j, none⟩ := by unfold Addr.add; split <;> simp_all
      rw [ea]; exact this
  obtain ⟨ad, sl, sc, cs, rfl, hsl, hcs, hcsr, had⟩ := hsrc
  have hml : m ≤ l.length := by omega
  have hone' : ∀ u, u ∈ cs → u.oneCell' = true := fun u hu => by
   obtain ⟨i, hi⟩ := List.getElem?_of_mem hu
   have hlt := (List.getElem?_eq_some_iff.1 hi).1
   obtain ⟨z, hz⟩ : ∃ z, l2[i]? = some z := ⟨_, List.getElem?_eq_getElem (by omega)⟩
   obtain ⟨u', h1, _, h2⟩ := hcsr i z hz (by omega)
   rw [hi] at h1; cases h1; exact h2
  have hrun : (Builtin.copy_ #[t, t2] o.type #[.slice (some ⟨b, 0, none⟩) n c, .slice ad sl sc]).run C.P w = .ok (goInt cs.length) (w.setRow b (vs.take 0 ++ cs ++ vs.drop (0 + cs.length)).toArray) := by
   rcases had with h0 | ⟨a0, rfl, hcell⟩
   ·have hc0 : cs = [] := List.eq_nil_of_length_eq_zero (by omega)
    subst hc0
    have := run_copy_none (P := C.P) w t t2 o.type el (some ⟨b, 0, none⟩) ad n c sl sc hu hs1 (show min sl n = 0 by omega)
    rw [this]
    simp only [List.length_nil, List.take_zero, List.nil_append, Nat.add_zero, List.drop_zero]
    rw [setRow_self w b vs.toArray ty (0, 0) hw]
    rfl
   ·have := run_copy_row (P := C.P) w t t2 o.type el b 0 n c a0 sl sc vs.toArray ty cs hu hs1 hw (by rw [hcs, hm, hsl, hln]) hcell (by simp <;> omega) hone'
    simpa using this
  have key := hr.mem.set hp hb hw (vs.take 0 ++ cs ++ vs.drop (0 + cs.length)) (cells' := (l2.take m ++ l.drop m).map fun z => SV.d (k z)) (by simp; omega) (fun i x y hx hy => by
   rw [List.getElem?_map, Option.map_eq_some_iff] at hx
   obtain ⟨z, hz, rfl⟩ := hx
   simp only [List.take_zero, List.nil_append, Nat.zero_add] at hy
   rw [List.getElem?_append] at hz hy
   have l1 : (l2.take m).length = m := by simp; omega
   rw [l1] at hz
   rw [hcs] at hy
   split at hz
   ·rename_i hi
    rw [if_pos hi] at hy
    rw [List.getElem?_take, if_pos hi] at hz
    obtain ⟨u', h1, h2, _⟩ := hcsr i z hz hi
    rw [hy] at h1; cases h1
    exact .d _ _ h2
   ·rename_i hi
    rw [if_neg hi] at hy
    rw [List.getElem?_drop] at hz hy
    exact hrr (m + (i - m)) (.d (k z)) y (by rw [List.getElem?_map, hz]; rfl) hy) (fun y hy => by
   rcases List.mem_append.1 hy with hy | hy
   ·rcases List.mem_append.1 hy with hy | hy
    ·simp at hy
    ·exact hone' y hy
   ·exact hone y (List.mem_of_mem_drop hy))
  refine ⟨.int .i64 (m : Int), _, Ω, ?_, ⟨hr.defers, hr.size, fun t x hx => let ⟨v, hv, hr'⟩ := hr.env t x hx; ⟨v, hv, hr'.mono key.2 (fun _ _ e => e)⟩, key.1⟩, .d _ _ (.v _)⟩
  simp [execOp, ho, hex, hey, resolve, invoke, builtin, hrun, hcs, goInt]
theorem AOp.copyL2 {α : Type} {k : α → D} {l l2 l3 : List α} {m n c : Nat} {t t2 : TypeId} {x y : Operand} {p ty el : Nat} (ho : o.op = .call { callee := .builtin .copy, args := #[x, y], argTypes := #[t, t2] }) (hd : o.dst = some d) (hn : d < C.n)
  (hx : opS ⟨e, obs⟩ x = some (.sl p 1 0 n c)) (hy : opS ⟨e, obs⟩ y = some (.d (.ds 1 (l2.map k)))) (ht : elemT C.P t = some (el, 1)) (hp : obs[p]? = some (.fix ty (l.map fun z => SV.d (k z)))) (hln : n = l.length) (hk : ∀ z, (k z).one = true)
  (hm : m = min l2.length l.length) (h3 : l2.take m ++ l.drop m = l3) (h : AO C ops rest ⟨(d, .d (.v (.int .i64 (m : Int)))) :: e, obs.set p (.fix ty (l3.map fun z => SV.d (k z)))⟩ Q) : AOp C ops rest o ⟨e, obs⟩ Q := by
 subst h3; exact AOp.copyL ho hd hn hx hy ht hp hln hk hm h
end
end Go.Vm

/- Regions that draw their order, in which some operations turn memory while others still wait. -/
set_option linter.unusedVariables false
set_option linter.unusedSimpArgs false
namespace Go.Vm

def drE (sv : SV → Bool) (e : Env) : Env := fun t => (e t).bind fun y => if sv y = true then some y else none
def dropS (sv : SV → Bool) : List Nat → List (Nat × SV) → List (Nat × SV)
 | _, [] => []
 | seen, (k, x) :: r => if seen.contains k then dropS sv seen r else if sv x then (k, x) :: dropS sv (k :: seen) r else dropS sv (k :: seen) r
theorem get_dropS (sv : SV → Bool) : ∀ (e : List (Nat × SV)) (seen : List Nat) (t : Nat), get (dropS sv seen e) t = if t ∈ seen then none else drE sv (get e) t
 | [], seen, t => by simp [dropS, get, drE]
 | (k, x) :: r, seen, t => by
  simp only [dropS]
  split
  ·rename_i hk
   rw [get_dropS sv r seen t]
   split
   ·rfl
   ·rename_i ht
    have : k ≠ t := fun e => ht (by subst e; simpa using hk)
    simp [drE, get, this]
  ·rename_i hk
   have hk' : k ∉ seen := by simpa using hk
   split
   ·rename_i hx
    simp only [get]
    split
    ·rename_i e; subst e; rw [if_neg hk']; simp [drE, get, hx]
    ·rename_i e
     rw [get_dropS sv r (k :: seen) t]
     simp [drE, get, e, Ne.symm e]
   ·rename_i hx
    rw [get_dropS sv r (k :: seen) t]
    by_cases e : k = t
    ·subst e; simp [hk', drE, get, hx]
    ·simp [drE, get, e, Ne.symm e]
theorem drE_some {sv : SV → Bool} {e : Env} {t : Nat} {y : SV} (h : drE sv e t = some y) : e t = some y ∧ sv y = true := by
 unfold drE at h
 cases he : e t with
 | none => rw [he] at h; cases h
 | some z =>
  rw [he, Option.bind_some] at h
  split at h
  ·rename_i hz; cases h; exact ⟨rfl, hz⟩
  ·cases h
theorem drE_upd {sv : SV → Bool} {e : Env} {d : Option Nat} {x : SV} (h : sv x = true) : drE sv (upd e d x) = upd (drE sv e) d x := by
 cases d with
 | none => rfl
 | some d => funext t; simp only [drE, upd]; split <;> simp [h]

section
variable {C : Ctx} {ops : Array Oper} {md : Region.Mode}

/-- o turns memory from ob to ob'. -/
def MV (C : Ctx) (ops : Array Oper) (ob ob' : List Ob) (sv : SV → Bool) (o : Oper) (x : SV) (e : Env) : Prop :=
 o.guard = none ∧ ∀ (l : List (Nat × SV)), (∀ t, t ∈ o.looksAt ops → get l t = e t) → ∀ Ω a w, Rel C ⟨l, ob⟩ Ω a w →
  o.wp C.P a w (fun a' w' => ∃ (l' : List (Nat × SV)) (Ω' : List Value), get l' = upd (drE sv (get l)) o.dst x ∧ Rel C ⟨l', ob'⟩ Ω' a' w') (fun _ _ _ => False)

/-- hs: what gives values; ms: what turns memory, in its order; OL: the objects ahead of each of ms, and at the end; SL: what outlives each of ms. -/
structure Plan where
 hs : List Nat
 ms : List Nat
 OL : List (List Ob)
 SL : List (SV → Bool)

/-- Number i may come up behind the first k of those that turn memory. -/
def relK (md : Region.Mode) (ops : Array Oper) (p : Plan) (i : Nat) : Nat → Bool
 | 0 => true
 | k + 1 => match p.ms[k]? with
  | some j => !ancB md ops ops.size j i
  | none => true
def YA (C : Ctx) (md : Region.Mode) (ops : Array Oper) (p : Plan) (i : Nat) (o : Oper) (x : SV) (e : Env) : Prop := ∀ (k : Nat) (ob : List Ob), p.OL[k]? = some ob → relK md ops p i k = true → YV C ops ob o x e
/-- What o looks at outlives what the others turn, those that do not wait for it. -/
def SU (md : Region.Mode) (ops : Array Oper) (p : Plan) (i : Nat) (o : Oper) (x : SV) (e : Env) : Prop := ∀ (k : Nat) (sv : SV → Bool) (j : Nat), p.SL[k]? = some sv → p.ms[k]? = some j → ancB md ops ops.size j i = false → sv x = true ∧ ∀ t, t ∈ o.looksAt ops → ∀ y, e t = some y → sv y = true
def DN (p : Plan) (listed : Array Bool) (k : Nat) : Prop := ∀ (k' j : Nat), k' < k → p.ms[k']? = some j → listed.getD j false = true

def wpAnyT (C : Ctx) (md : Region.Mode) (ops : Array Oper) (p : Plan) (L : Array Bool → Env → Prop) : Nat → Array Bool → Env → Nat → Prop
 | 0, listed, e, k => k = p.ms.length ∧ L listed e
 | f + 1, listed, e, k => Region.ready md ops listed ≠ [] ∧ ∀ i ∈ Region.ready md ops listed,
   (i ∈ p.hs ∧ ∃ o x ob, ops[i]? = some o ∧ p.OL[k]? = some ob ∧ YV C ops ob o x e ∧ wpAnyT C md ops p L f (listed.setIfInBounds i true) (upd e o.dst x) k) ∨
   (p.ms[k]? = some i ∧ ∃ o x ob ob' sv, ops[i]? = some o ∧ p.OL[k]? = some ob ∧ p.OL[k + 1]? = some ob' ∧ p.SL[k]? = some sv ∧ MV C ops ob ob' sv o x e ∧
    wpAnyT C md ops p L f (listed.setIfInBounds i true) (upd (drE sv e) o.dst x) (k + 1))

/-- The walk: what gives values first, then what turns memory. -/
def AM (C : Ctx) (ops : Array Oper) (p : Plan) : Nat → List Nat → List (Nat × SV) → (St → Prop) → Prop
 | k, [], e, K => ∃ ob, p.OL[k]? = some ob ∧ K ⟨e, ob⟩
 | k, i :: is, e, K => ∃ o x ob ob' sv l', ops[i]? = some o ∧ p.OL[k]? = some ob ∧ p.OL[k + 1]? = some ob' ∧ p.SL[k]? = some sv ∧ MV C ops ob ob' sv o x (get e) ∧ get l' = upd (drE sv (get e)) o.dst x ∧ AM C ops p (k + 1) is l' K
def AH (C : Ctx) (md : Region.Mode) (ops : Array Oper) (p : Plan) : List Nat → List (Nat × SV) → (List (Nat × SV) → Prop) → Prop
 | [], e, K => K e
 | i :: rest, e, K => ∃ o x l', ops[i]? = some o ∧ YA C md ops p i o x (get e) ∧ SU md ops p i o x (get e) ∧ get l' = upd (get e) o.dst x ∧ AH C md ops p rest l' K

def drawMB (ops : Array Oper) (hs ms ts : List Nat) : Bool :=
 hs.all (· < ops.size) && ts.all (· < ops.size) && ts.all (fun t => !(hs ++ ms).contains t) && (hs.length + ms.length + ts.length == ops.size) &&
 ((List.range ops.size).all fun t => (hs ++ ms).contains t || (ts.contains t && (hs ++ ms).all (ancB .any ops ops.size t))) && headO .any ops (ms ++ ts) hs (Array.replicate ops.size false)

/-! ### How the walk is printed -/
variable {p : Plan} {rest : List Oper} {o : Oper} {e L : List (Nat × SV)} {d j dj : Nat} {x : SV} {want b : Bool} {K : List (Nat × SV) → Prop} {KS : St → Prop}
def GA (C : Ctx) (ops : Array Oper) (OL : List (List Ob)) (ks : List Nat) (o : Oper) (L : List (Nat × SV)) (d : Nat) (x : SV) : Prop := ∀ k ∈ ks, ∀ ob, OL[k]? = some ob → Gives C ops ob o L d x
theorem GA.nil {OL : List (List Ob)} {o : Oper} {L : List (Nat × SV)} {d : Nat} {x : SV} : GA C ops OL [] o L d x := fun k h => by cases h
theorem GA.cons {OL : List (List Ob)} {k : Nat} {ks : List Nat} {o : Oper} {L : List (Nat × SV)} {d : Nat} {x : SV} {ob : List Ob} (hk : OL[k]? = some ob) (h : Gives C ops ob o L d x) (t : GA C ops OL ks o L d x) : GA C ops OL (k :: ks) o L d x := fun k' hk' ob' hb => by
 rcases List.mem_cons.1 hk' with rfl | h'
 ·rw [hk] at hb; cases hb; exact h
 ·exact t k' h' ob' hb
def SA (SL : List (SV → Bool)) (L : List (Nat × SV)) (x : SV) : List Nat → Bool
 | [] => true
 | k :: ks => (match SL[k]? with | some sv => sv x && L.all fun q => sv q.2 | none => true) && SA SL L x ks
theorem SA.spec {SL : List (SV → Bool)} {L : List (Nat × SV)} {x : SV} : ∀ {ks : List Nat}, SA SL L x ks = true → ∀ k ∈ ks, ∀ sv, SL[k]? = some sv → sv x = true ∧ L.all (fun q => sv q.2) = true
 | [], _, k, hk, _, _ => by cases hk
 | k0 :: ks, h, k, hk, sv, hsv => by
  simp only [SA, Bool.and_eq_true] at h
  rcases List.mem_cons.1 hk with rfl | h'
  ·rw [hsv] at h; simpa using h.1
  ·exact SA.spec h.2 k h' sv hsv
/-- ks: behind how many of those that turn memory number i may come up; ss: which of them do not wait for it. -/
def relB (ops : Array Oper) (ms : List Nat) (i : Nat) (ks ss : List Nat) : Bool :=
 (List.range (ms.length + 1)).all (fun k => (match k with | 0 => false | k + 1 => match ms[k]? with | some j => ancB .any ops ops.size j i | none => false) || ks.contains k) &&
 (List.range ms.length).all (fun k => (match ms[k]? with | some j => ancB .any ops ops.size j i | none => false) || ss.contains k)
theorem keep_all {ks : List Nat} (hk : keep ks e = some L) (hl : looksB ops o ks = true) {sv : SV → Bool} (h : L.all (fun q => sv q.2) = true) : ∀ t, t ∈ o.looksAt ops → ∀ y, get e t = some y → sv y = true := fun t ht y hy => by
 simp only [looksB, Bool.and_eq_true, List.all_eq_true, List.contains_iff_mem] at hl
 obtain ⟨h1, _⟩ := (keep_get' hk t).1 (hl.1 t ht)
 rw [← h1] at hy
 have hmem : ∀ {l : List (Nat × SV)}, get l t = some y → (t, y) ∈ l := fun {l} => by
  induction l with
  | nil => intro h; cases h
  | cons q l ih =>
   obtain ⟨k, z⟩ := q
   intro h
   simp only [get] at h
   split at h
   ·rename_i e; subst e; cases h; simp
   ·simp [ih h]
 exact List.all_eq_true.1 h _ (hmem hy)
theorem AH.done (h : AM C ops p 0 p.ms e KS) : AH C .any ops p [] e (fun e' => AM C ops p 0 p.ms e' KS) := h
theorem AH.op {i : Nat} {is : List Nat} (ls ks ss : List Nat) (h0 : ops[i]? = some o) (hg : o.guard = none) (hl : looksB ops o ls = true) (hrel : relB ops p.ms i ks ss = true) (hlen : p.OL.length = p.ms.length + 1) (hk : keep ls e = some L) (hd : o.dst = some d)
  (hv : GA C ops p.OL ks o L d x) (hs : SA p.SL L x ss = true) (h : AH C .any ops p is ((d, x) :: e) K) : AH C .any ops p (i :: is) e K := by
 simp only [relB, Bool.and_eq_true, List.all_eq_true, List.mem_range, Bool.or_eq_true, List.contains_iff_mem] at hrel
 refine ⟨o, x, (d, x) :: e, h0, fun k ob hob hr => .inl ⟨by unfold wantE; rw [hg], VQ.of hk hl hd (hv k ?_ ob hob)⟩, fun k sv j h1 h2 h3 => ?_, by rw [hd, get_upd], h⟩
 ·have hlt := (List.getElem?_eq_some_iff.1 hob).1
  rcases hrel.1 k (by omega) with h | h
  ·exfalso
   cases k with
   | zero => cases h
   | succ k =>
    simp only [relK] at hr
    simp only at h
    split at h
    ·rename_i j hj
     rw [hj] at hr
     simp [h] at hr
    ·cases h
  ·exact h
 ·have hlt := (List.getElem?_eq_some_iff.1 h2).1
  rcases hrel.2 k hlt with h | h
  ·rw [h2] at h; simp only at h; rw [h3] at h; cases h
  ·obtain ⟨q1, q2⟩ := SA.spec hs k h sv h1
   exact ⟨q1, keep_all hk hl q2⟩
theorem AM.done {k : Nat} {ob : List Ob} (h1 : p.OL[k]? = some ob) (h : KS ⟨e, ob⟩) : AM C ops p k [] e KS := ⟨ob, h1, h⟩
theorem AM.op {k i : Nat} {is : List Nat} (ks : List Nat) {ob ob' : List Ob} {sv : SV → Bool} (h1 : ops[i]? = some o) (h2 : p.OL[k]? = some ob) (h3 : p.OL[k + 1]? = some ob') (h4 : p.SL[k]? = some sv) (hg : o.guard = none)
  (hl : looksB ops o ks = true) (hk : keep ks e = some L) (hd : o.dst = some d)
  (hv : ∀ (e : List (Nat × SV)) (Q : Exit → St → Prop), AO C ops [] ⟨(d, x) :: dropS sv [] (L ++ e), ob'⟩ Q → AOp C ops [] o ⟨L ++ e, ob⟩ Q)
  {e' : List (Nat × SV)} (he : dropS sv [] e = e') (h : AM C ops p (k + 1) is ((d, x) :: e') KS) : AM C ops p k (i :: is) e KS := by
 subst he
 have hdr : ∀ l : List (Nat × SV), get (dropS sv [] l) = drE sv (get l) := fun l => by funext t; rw [get_dropS]; simp
 refine ⟨o, x, ob, ob', sv, (d, x) :: dropS sv [] e, h1, h2, h3, h4, ⟨hg, ?_⟩, by rw [hd, get_upd, hdr], h⟩
 intro l hg' Ω a w hr
 simp only [looksB, Bool.and_eq_true, List.all_eq_true, List.contains_iff_mem] at hl
 have hsame : ∀ t, get (L ++ l) t = get l t := fun t => by
  rw [get_append]
  by_cases ht : t ∈ ks
  ·obtain ⟨h1, h2⟩ := (keep_get' hk t).1 ht
   rw [h1]
   have := hg' t (hl.2 t ht)
   rw [this]
   cases get e t <;> rfl
  ·rw [(keep_get' hk t).2 ht]
 have hr' : Rel C ⟨L ++ l, ob⟩ Ω a w := hr.congr fun t y hy => by rw [← hsame t]; exact hy
 have H := hv l (fun ed s => ed = .normal ∧ s = ⟨(d, x) :: dropS sv [] (L ++ l), ob'⟩) (AO.nil ⟨rfl, rfl⟩) Ω a w hr'
 refine wp_monoQ (fun a' w' hq => ?_) (fun ed a' w' hne hq => ?_) H
 ·obtain ⟨s, Ω', hr2, _, hs⟩ := hq
  subst hs
  refine ⟨_, Ω', ?_, hr2⟩
  rw [hd, get_upd, hdr]
  congr 1
  congr 1
  funext t; exact hsame t
 ·obtain ⟨s, Ω', _, he, _⟩ := hq
  exact hne he
end
section
variable {C : Ctx} {Q : Exit → St → Prop} {ops : Array Oper} {rest : List Oper} {o : Oper} {e : List (Nat × SV)} {obs : List Ob} {d : Nat}
theorem dropO_dropS (p : Nat) : ∀ (e : List (Nat × SV)) (seen : List Nat), dropO p seen e = dropS (SV.noO p) seen e
 | [], seen => rfl
 | (k, x) :: r, seen => by simp only [dropO, dropS, dropO_dropS p r]
/-- The slots that remain are told. -/
theorem AO.forget {l : List Oper} {e' : List (Nat × SV)} (hg : ∀ t y, get e' t = some y → get e t = some y) (h : AO C ops l ⟨e', obs⟩ Q) : AO C ops l ⟨e, obs⟩ Q := fun Ω a w hr => h Ω a w (hr.congr hg)
theorem AO.dropped {l : List Oper} {p : Nat} {x : SV} (h : AO C ops l ⟨(d, x) :: dropS (SV.noO p) [] e, obs⟩ Q) : AO C ops l ⟨(d, x) :: dropO p [] e, obs⟩ Q := by rw [dropO_dropS]; exact h
end
end Go.Vm

/- Plain Lean about printed functions: steps, elements, loops that scan a list. -/
set_option linter.unusedVariables false
set_option linter.unusedSimpArgs false
namespace Go.Vm
theorem in64 {z : Int} (h1 : 0 ≤ z) (h2 : z ≤ 9223372036854775807) : inI .i64 z := ⟨by simp only [lo]; omega, by simp only [hi]; omega⟩
theorem in64m {z : Int} (h1 : -9223372036854775808 ≤ z) (h2 : z ≤ 9223372036854775807) : inI .i64 z := ⟨by simp only [lo]; omega, by simp only [hi]; omega⟩
theorem cond_t {α : Type} {b : Bool} (h : b = true) (x y : α) : cond b x y = x := by rw [h]; rfl
theorem cond_f {α : Type} {b : Bool} (h : b = false) (x y : α) : cond b x y = y := by rw [h]; rfl
theorem nT {p : Prop} [Decidable p] (h : ¬ p) : (!decide p) = true := by simp [h]
theorem nF {p : Prop} [Decidable p] (h : p) : (!decide p) = false := by simp [h]
theorem aft_inl {V R T : Type} (v : V) (ret : R → Option T) (k : V → Option T) : aft (.inl v) ret k = k v := rfl
theorem aft_inr {V R T : Type} (r : R) (ret : R → Option T) (k : V → Option T) : aft (.inr r : Sum V R) ret k = ret r := rfl
theorem idx_get {α : Type} {l : List α} {k : Nat} {x : α} (h : l[k]? = some x) : idx l (k : Int) = some x := idx_some h rfl
theorem succ_cast (k : Nat) : ((k : Int) + 1) = ((k + 1 : Nat) : Int) := by omega
/-- A loop that goes through a list and gives bad at the first element that is not p. -/
theorem scan_loop {α T : Type} (l : List α) (b : (Int → Option (Sum Unit T)) → Int → Option (Sum Unit T)) (p : α → Bool) (bad : T)
  (hend : ∀ K (k : Nat), l.length ≤ k → b K (k : Int) = some (Sum.inl ()))
  (hstep : ∀ K (k : Nat) x, l[k]? = some x → b K (k : Int) = if p x = true then K ((k + 1 : Nat) : Int) else some (Sum.inr bad)) :
  ∀ (F k : Nat), l.length - k < F → iter b F (k : Int) = some (if (l.drop k).all p = true then Sum.inl () else Sum.inr bad) := by
 intro F
 induction F with
 | zero => intro k h; omega
 | succ F ih =>
  intro k h
  show b (iter b F) (k : Int) = _
  by_cases hk : k < l.length
  ·have hx : l[k]? = some l[k] := List.getElem?_eq_getElem hk
   rw [hstep _ k _ hx, List.drop_eq_getElem_cons hk, List.all_cons]
   by_cases hp : p l[k] = true
   ·rw [if_pos hp, hp, Bool.true_and]; exact ih (k + 1) (by omega)
   ·rw [if_neg hp]
    have : p l[k] = false := by simpa using hp
    rw [this, Bool.false_and, if_neg (by simp)]
  ·rw [hend _ k (by omega), List.drop_eq_nil_of_le (by omega)]; rfl
theorem scan_loop0 {α T : Type} (l : List α) (b : (Int → Option (Sum Unit T)) → Int → Option (Sum Unit T)) (p : α → Bool) (bad : T)
  (hend : ∀ K (k : Nat), l.length ≤ k → b K (k : Int) = some (Sum.inl ()))
  (hstep : ∀ K (k : Nat) x, l[k]? = some x → b K (k : Int) = if p x = true then K ((k + 1 : Nat) : Int) else some (Sum.inr bad)) {F : Nat} (hF : l.length < F) :
  iter b F (0 : Int) = some (if l.all p = true then Sum.inl () else Sum.inr bad) := by
 have := scan_loop l b p bad hend hstep F 0 (by omega)
 rwa [List.drop_zero] at this
theorem wf64 {x : Nat} (h : (Lit.float .f64 x).wf = true) : x < 18446744073709551616 := by
 have : x < 2 ^ 64 := by simpa [Lit.wf] using h
 omega
theorem lenq {a b n s : Nat} (q : n = b) (h : a = b * s) : a = n * s := q ▸ h
end Go.Vm

/- Regions that draw their order, in which operations turn memory in whatever order they come. -/
set_option linter.unusedVariables false
set_option linter.unusedSimpArgs false
namespace Go.Vm

/-- js: all but the tail, in the order in which they are gone through; ms: those of them that turn memory; OB: the objects, by what is listed; SL: what outlives each of ms. -/
structure Mids where
 js : List Nat
 ms : List Nat
 OB : (Nat → Bool) → List Ob
 SL : List (Nat × (SV → Bool))
def getF : List (Nat × (SV → Bool)) → Nat → SV → Bool
 | [], _ => fun _ => true
 | (k, f) :: r, i => if k = i then f else getF r i
def Mids.sv (p : Mids) (i : Nat) : SV → Bool := getF p.SL i
def Mids.svf (p : Mids) (i : Nat) : SV → Bool := if p.ms.contains i then p.sv i else fun _ => true
def setB (L : Nat → Bool) (i : Nat) : Nat → Bool := fun j => bif Nat.beq j i then true else L j
def lstB (listed : Array Bool) : Nat → Bool := fun j => listed.getD j false

theorem drE_true (e : Env) : drE (fun _ => true) e = e := by
 funext t; unfold drE; cases e t <;> simp
theorem drE_comm (f g : SV → Bool) (e : Env) : drE f (drE g e) = drE g (drE f e) := by
 funext t
 unfold drE
 cases e t with
 | none => rfl
 | some y => simp only [Option.bind_some]; by_cases h1 : f y = true <;> by_cases h2 : g y = true <;> simp [h1, h2]

section
variable {C : Ctx} {ops : Array Oper}

/-- The state tells at least this of what o looks at. -/
def Tells (ops : Array Oper) (o : Oper) (e : Env) (l : List (Nat × SV)) : Prop := ∀ t, t ∈ o.looksAt ops → ∀ y, e t = some y → get l t = some y
def MS (C : Ctx) (ops : Array Oper) (ob ob' : List Ob) (sv : SV → Bool) (o : Oper) (x : SV) (e : Env) : Prop :=
 wantE ops o e = some true ∧ ∀ (l : List (Nat × SV)), Tells ops o e l → ∀ Ω a w, Rel C ⟨l, ob⟩ Ω a w →
  o.wp C.P a w (fun a' w' => ∃ (l' : List (Nat × SV)) (Ω' : List Value), get l' = upd (drE sv (get l)) o.dst x ∧ Rel C ⟨l', ob'⟩ Ω' a' w') (fun _ _ _ => False)
def YS (C : Ctx) (ops : Array Oper) (obs : List Ob) (o : Oper) (x : SV) (e : Env) : Prop :=
 (wantE ops o e = some true ∧ ∀ (l : List (Nat × SV)), Tells ops o e l → ∀ Ω a w, Rel C ⟨l, obs⟩ Ω a w →
  o.wp C.P a w (fun a' w' => ∃ (l' : List (Nat × SV)) (Ω' : List Value), get l' = upd (get l) o.dst x ∧ Rel C ⟨l', obs⟩ Ω' a' w') (fun _ _ _ => False)) ∨
 (wantE ops o e = some false ∧ x = .d (.v undef) ∧ ∀ d, o.dst = some d → d < C.n)
theorem wantE_mono {o : Oper} {e e' : Env} {b : Bool} (h : ∀ t, t ∈ o.looksAt ops → ∀ y, e t = some y → e' t = some y) (hw : wantE ops o e = some b) : wantE ops o e' = some b := by
 unfold wantE at *
 cases hg : o.guard with
 | none => rw [hg] at hw; exact hw
 | some p =>
  obtain ⟨g, want⟩ := p
  rw [hg] at hw
  simp only at hw ⊢
  cases hj : (ops[g]?).bind (·.dst) with
  | none => rw [hj] at hw; cases hw
  | some dj =>
   rw [hj] at hw
   simp only at hw ⊢
   have hm : dj ∈ o.looksAt ops := by unfold Oper.looksAt; rw [hg]; simp only [hj]; simp
   cases he : e dj with
   | none => rw [he] at hw; cases hw
   | some y => rw [h dj hm y he]; rw [he] at hw; exact hw
theorem Tells.mono {o : Oper} {e e' : Env} {l : List (Nat × SV)} (h : ∀ t, t ∈ o.looksAt ops → ∀ y, e t = some y → e' t = some y) (ht : Tells ops o e' l) : Tells ops o e l := fun t hm y hy => ht t hm y (h t hm y hy)

/-- What may be listed when number i comes up. -/
def Adm (ops : Array Oper) (p : Mids) (L : Nat → Bool) (i : Nat) : Prop := L i = false ∧ ∀ k, k ∈ p.ms → (ancB .any ops ops.size i k = true → L k = true) ∧ (ancB .any ops ops.size k i = true → L k = false)
def ST (C : Ctx) (ops : Array Oper) (p : Mids) (i : Nat) (o : Oper) (x : SV) (e : Env) : Prop := ∀ L, Adm ops p L i →
 (p.ms.contains i = false ∧ YS C ops (p.OB L) o x e) ∨ (p.ms.contains i = true ∧ MS C ops (p.OB L) (p.OB (setB L i)) (p.sv i) o x e)
/-- The value outlives those that do not come ahead of it. -/
def SX (ops : Array Oper) (p : Mids) (i : Nat) (x : SV) : Prop := ∀ k, k ∈ p.ms → k ≠ i → ancB .any ops ops.size i k = false → ancB .any ops ops.size k i = false → p.sv k x = true
def SK (ops : Array Oper) (p : Mids) (i : Nat) (o : Oper) (e : Env) : Prop := ∀ k, k ∈ p.ms → k ≠ i → ancB .any ops ops.size i k = false → ancB .any ops ops.size k i = false → ∀ t, t ∈ o.looksAt ops → ∀ y, e t = some y → p.sv k y = true
theorem ST.mono {p : Mids} {i : Nat} {o : Oper} {x : SV} {e e' : Env} (h : ∀ t, t ∈ o.looksAt ops → ∀ y, e t = some y → e' t = some y) (hs : ST C ops p i o x e) : ST C ops p i o x e' := fun L hL => by
 rcases hs L hL with ⟨h1, h2⟩ | ⟨h1, h2, h3⟩
 ·refine .inl ⟨h1, ?_⟩
  rcases h2 with ⟨h2, h3⟩ | ⟨h2, h3⟩
  ·exact .inl ⟨wantE_mono h h2, fun l hl => h3 l (hl.mono h)⟩
  ·exact .inr ⟨wantE_mono h h2, h3⟩
 ·exact .inr ⟨h1, wantE_mono h h2, fun l hl => h3 l (hl.mono h)⟩

def wpAnyS (C : Ctx) (ops : Array Oper) (p : Mids) (K : Array Bool → Env → Prop) : Nat → Array Bool → Env → Prop
 | 0, listed, e => K listed e
 | f + 1, listed, e => Region.ready .any ops listed ≠ [] ∧ ∀ i ∈ Region.ready .any ops listed, i ∈ p.js ∧ ∃ o x, ops[i]? = some o ∧ ST C ops p i o x e ∧ SX ops p i x ∧
   wpAnyS C ops p K f (listed.setIfInBounds i true) (upd (drE (p.svf i) e) o.dst x)

theorem adm_of {p : Mids} {i : Nat} {listed : Array Bool} (inv : HInv .any ops p.js listed) (hi : i ∈ Region.ready .any ops listed) : Adm ops p (lstB listed) i := by
 obtain ⟨hun, oi, hoi, hall⟩ := mem_ready.1 hi
 refine ⟨getD_both hun, fun k hk => ⟨fun ha => ?_, fun ha => ?_⟩⟩
 ·exact anc_listed inv _ i k ha fun oj hj e he hb => by rw [hoi] at hj; cases hj; exact hall e he hb
 ·cases hq : lstB listed k with
  | false => rfl
  | true =>
   have := anc_listed inv _ k i ha fun ok hok e he hb => inv.closed k ok hok hq e he hb
   rw [getD_both hun] at this; cases this
theorem lst_set {listed : Array Bool} {i j : Nat} (h : i < listed.size) : lstB (listed.setIfInBounds i true) j = setB (lstB listed) i j := by
 unfold lstB setB
 by_cases e : j = i
 ·subst e; simp [Array.getD, h]
 ·rw [getD_set_ne false (fun h => e h.symm)]; simp [e]

theorem wpAny_of_S {p : Mids} {g : Nat} {K : Array Bool → Env → Prop} {Q' : Exit → Act → World → Prop} (hOB : ∀ L L', (∀ j ∈ p.ms, L j = L' j) → p.OB L = p.OB L')
  (hL : ∀ listed (l : List (Nat × SV)), K listed (get l) → ∀ Ω a w, Rel C ⟨l, p.OB (lstB listed)⟩ Ω a w → wpAny C.P .any ops Q' g listed a w) :
  ∀ (f : Nat) (listed : Array Bool) (l : List (Nat × SV)), HInv .any ops p.js listed → wpAnyS C ops p K f listed (get l) → ∀ Ω a w, Rel C ⟨l, p.OB (lstB listed)⟩ Ω a w → wpAny C.P .any ops Q' (f + g) listed a w
 | 0, listed, l, _, h, Ω, a, w, hr => by rw [Nat.zero_add]; exact hL _ _ h Ω a w hr
 | f + 1, listed, l, inv, h, Ω, a, w, hr => by
  rw [show f + 1 + g = (f + g) + 1 by omega]
  refine ⟨fun h0 => absurd h0 h.1, fun i hi => ?_⟩
  obtain ⟨hin, o, x, ho, hst, _, hK⟩ := h.2 i hi
  have inv' := inv.set hi hin
  have hlt : i < listed.size := by rw [inv.size]; exact (Array.getElem?_eq_some_iff.1 ho).1
  have hob' : p.OB (setB (lstB listed) i) = p.OB (lstB (listed.setIfInBounds i true)) := hOB _ _ fun j _ => (lst_set hlt).symm
  rcases hst _ (adm_of inv hi) with ⟨hm, hy⟩ | ⟨hm, hg, hmv⟩
  ·have hob : p.OB (lstB listed) = p.OB (lstB (listed.setIfInBounds i true)) := hOB _ _ fun j hj => by
    rw [lst_set hlt]
    have : j ≠ i := fun e => by subst e; simp [hj] at hm
    simp [setB, this]
   have hsv : p.svf i = fun _ => true := by unfold Mids.svf; rw [hm]; rfl
   rw [hsv, drE_true] at hK
   unfold wpOp
   simp only [ho]
   rcases hy with ⟨h1, h2⟩ | ⟨h1, rfl, h2⟩
   ·rw [if_pos (by rw [wantE_wanted h1 hr])]
    refine .inl (wp_monoQ (fun a' w' ⟨l', Ω', hg, hr'⟩ => ?_) (fun _ _ _ _ h => h.elim) (h2 l (fun _ _ _ h => h) Ω a w hr))
    exact wpAny_of_S hOB hL f _ l' inv' (by rw [hg]; exact hK) Ω' a' w' (hob ▸ hr')
   ·rw [if_neg (by rw [wantE_wanted h1 hr]; simp)]
    cases hd : o.dst with
    | none => rw [hd] at hK; exact wpAny_of_S hOB hL f _ l inv' hK Ω _ w (hob ▸ (hr.putNone undef))
    | some d =>
     rw [hd] at hK
     exact wpAny_of_S hOB hL f _ ((d, .d (.v undef)) :: l) inv' (by rw [get_upd]; exact hK) Ω _ w (hob ▸ (hr.put (h2 d hd) (.d _ _ (.v _))))
  ·unfold wpOp
   simp only [ho]
   rw [if_pos (by rw [wantE_wanted hg hr])]
   refine .inl (wp_monoQ (fun a' w' ⟨l', Ω', hg, hr'⟩ => ?_) (fun _ _ _ _ h => h.elim) (hmv l (fun _ _ _ h => h) Ω a w hr))
   have hsv : p.svf i = p.sv i := by unfold Mids.svf; rw [hm]; rfl
   exact wpAny_of_S hOB hL f _ l' inv' (by rw [hg, ← hsv]; exact hK) Ω' a' w' (hob' ▸ hr')

theorem svf_eq {p : Mids} {k : Nat} {y : SV} (h : k ∈ p.ms → p.sv k y = true) : p.svf k y = true := by
 unfold Mids.svf
 split
 ·rename_i hk; exact h (List.contains_iff_mem.1 hk)
 ·rfl
theorem wpAnyS_first {p : Mids} {i : Nat} {oi : Oper} {v : SV} {K : Array Bool → Env → Prop} (hi : ops[i]? = some oi) (hF : HFirst .any ops p.js) (hin : i ∈ p.js)
  (hdone : ∀ listed a, K listed a → ∀ j ∈ Region.ready .any ops listed, j ∉ p.js) :
  ∀ (f : Nat) (listed : Array Bool) (a : Env), HInv .any ops p.js listed →
   (∀ j oj, ops[j]? = some oj → j ≠ i → listed.getD j true = false → (∀ e ∈ oj.after, Region.binds .any e = true → e.on ≠ i) → oi.apart ops oj = true) →
   i ∈ Region.ready .any ops listed → ST C ops p i oi v a → SX ops p i v → SK ops p i oi a →
   wpAnyS C ops p K f (listed.setIfInBounds i true) (upd (drE (p.svf i) a) oi.dst v) → wpAnyS C ops p K (f + 1) listed a := by
 intro f
 induction f with
 | zero =>
  intro listed a inv _ hr hy hx hs H
  have hun := (mem_ready.1 hr).1
  refine ⟨fun h => (by rw [h] at hr; cases hr), fun j hj => ?_⟩
  have hjn : j ∈ p.js := hF listed inv i hin hun j hj
  refine ⟨hjn, ?_⟩
  by_cases hji : j = i
  ·subst hji; exact ⟨oi, v, hi, hy, hx, H⟩
  ·exact absurd hjn (hdone _ _ H j (ready_mono hj hji))
 | succ f ih =>
  intro listed a inv hfree hr hy hx hs H
  have hun := (mem_ready.1 hr).1
  refine ⟨fun h => (by rw [h] at hr; cases hr), fun j hj => ?_⟩
  have hjn : j ∈ p.js := hF listed inv i hin hun j hj
  refine ⟨hjn, ?_⟩
  by_cases hji : j = i
  ·subst hji; exact ⟨oi, v, hi, hy, hx, H⟩
  ·obtain ⟨hjun, oj, hoj, hall⟩ := mem_ready.1 hj
   have hnot : ∀ e ∈ oj.after, Region.binds .any e = true → e.on ≠ i := fun e he hb heq => by
    have h1 := hall e he hb
    rw [heq, getD_both hun] at h1
    cases h1
   have hap := hfree j oj hoj hji hjun hnot
   obtain ⟨a1, a2, a3⟩ := Oper.apart_spec hap
   have hfree' : ∀ k ok, ops[k]? = some ok → k ≠ i → (listed.setIfInBounds j true).getD k true = false →
     (∀ e ∈ ok.after, Region.binds .any e = true → e.on ≠ i) → oi.apart ops ok = true := fun k ok hk hki hun hno => by
    refine hfree k ok hk hki ?_ hno
    by_cases hjk : j = k
    ·subst hjk; exact hjun
    ·rw [getD_set_ne true hjk] at hun; exact hun
   have notanc : ∀ {j k : Nat}, j ∈ Region.ready .any ops listed → listed.getD k true = false → ancB .any ops ops.size j k = false := fun {j k} hj hun => by
    obtain ⟨_, oj, hoj, hall⟩ := mem_ready.1 hj
    cases hq : ancB .any ops ops.size j k with
    | false => rfl
    | true =>
     have := anc_listed inv _ j k hq (fun ok hok e he hb => by rw [hoj] at hok; cases hok; exact hall e he hb)
     rw [getD_both hun] at this; cases this
   obtain ⟨_, oj', y, hoj', hstj, hxj, hK⟩ := H.2 j (ready_mono hj hji)
   rw [hoj] at hoj'; cases hoj'
   have sjv : p.svf j v = true := svf_eq fun hjm => hx j hjm hji (notanc hr hjun) (notanc hj hun)
   have siy : p.svf i y = true := svf_eq fun him => hxj i him (Ne.symm hji) (notanc hj hun) (notanc hr hjun)
   refine ⟨oj, y, hoj, hstj.mono (fun t ht z hz => ?_), hxj, ?_⟩
   ·rw [upd_ne fun k hk e => a1 k hk (e ▸ ht)] at hz
    exact (drE_some hz).1
   ·refine ih (listed.setIfInBounds j true) _ (inv.set hj hjn) hfree' (ready_mono hr (Ne.symm hji)) (hy.mono fun t ht z hz => ?_) hx (fun k hk hki ha hb t ht z hz => ?_) ?_
    ·rw [upd_ne fun k hk e => a3 k hk (e ▸ ht)]
     have hz' : p.svf j z = true := svf_eq fun hjm => hs j hjm hji (notanc hr hjun) (notanc hj hun) t ht z hz
     simp [drE, hz, hz']
    ·rw [upd_ne fun k hk e => a3 k hk (e ▸ ht)] at hz
     exact hs k hk hki ha hb t ht z (drE_some hz).1
    ·rw [drE_upd siy, drE_comm, Array.setIfInBounds_comm _ _ hji]
     rw [drE_upd sjv] at hK
     rw [upd_comm (fun i hi => fun hk => a2 i hi hk)] at hK
     exact hK

/-- The walk. -/
def AS (C : Ctx) (ops : Array Oper) (p : Mids) : List Nat → List (Nat × SV) → (List (Nat × SV) → Prop) → Prop
 | [], e, K => K e
 | i :: rest, e, K => ∃ o x l', ops[i]? = some o ∧ ST C ops p i o x (get e) ∧ SX ops p i x ∧ SK ops p i o (get e) ∧ get l' = upd (drE (p.svf i) (get e)) o.dst x ∧ AS C ops p rest l' K

theorem wpAnyS_lex {p : Mids} {ts : List Nat} {K : List (Nat × SV) → Prop} (hF : HFirst .any ops p.js) (htl : ∀ t ∈ ts, t ∉ p.js) :
  ∀ (is : List Nat) (listed : Array Bool) (e : List (Nat × SV)), (∀ i ∈ is, i < ops.size ∧ i ∈ p.js) → (∀ j ∈ p.js, j ∈ is ∨ listed.getD j false = true) → HInv .any ops p.js listed →
  headO .any ops ts is listed = true → AS C ops p is e K →
  wpAnyS C ops p (fun listed' a' => (tailO .any ops ts listed' = true ∧ ∀ j ∈ p.js, listed'.getD j false = true) ∧ ∃ l', a' = get l' ∧ K l') is.length listed (get e)
 | [], listed, e, _, hall, inv, hB, h => ⟨⟨hB, fun j hj => (hall j hj).resolve_left (by simp)⟩, e, rfl, h⟩
 | i :: is, listed, e, hl, hall, inv, hB, h => by
  have hi := hl i (by simp)
  simp only [headO, Bool.and_eq_true] at hB
  obtain ⟨⟨hr, hf⟩, hB'⟩ := hB
  have hr' : i ∈ Region.ready .any ops listed := by simpa using hr
  obtain ⟨o, x, l', h0, hy, hx, hs, hg, hK⟩ := h
  refine wpAnyS_first h0 hF hi.2 (fun listed' a' hL => ?_) is.length listed _ inv (Region.free_spec h0 hf) hr' hy hx hs ?_
  ·intro j hj
   cases ts with
   | nil => have := hL.1.1; simp only [tailO, List.isEmpty_iff] at this; rw [this] at hj; cases hj
   | cons t ts =>
    have := hL.1.1
    simp only [tailO, Bool.and_eq_true, decide_eq_true_eq] at this
    rw [this.1] at hj
    have : j = t := by simpa using hj
    subst this
    exact htl j (by simp)
  ·rw [← hg]
   refine wpAnyS_lex hF htl is _ l' (fun j hj => hl j (by simp [hj])) (fun j hj => ?_) (inv.set hr' hi.2) hB' hK
   by_cases hji : j = i
   ·subst hji; right
    have : j < listed.size := by rw [inv.size]; exact hi.1
    simp [Array.getD, this]
   ·rcases hall j hj with h | h
    ·left; rcases List.mem_cons.1 h with h | h
     ·exact absurd h hji
     ·exact h
    ·right; exact getD_set_true h

def drawSB (ops : Array Oper) (js ms ts : List Nat) : Bool :=
 js.all (· < ops.size) && ts.all (· < ops.size) && ts.all (fun t => !js.contains t) && (js.length + ts.length == ops.size) && ms.all (js.contains ·) &&
 ((List.range ops.size).all fun t => js.contains t || (ts.contains t && js.all (ancB .any ops ops.size t))) && headO .any ops ts js (Array.replicate ops.size false)

theorem AC.drawS {id : Nat} {l : List Oper} {s : St} {Q : Exit → St → Prop} (js ms ts : List Nat) (OB : (Nat → Bool) → List Ob) (SL : List (Nat × (SV → Bool))) (hm : C.P.follows .mixedOrders = true) (hB : drawSB l.toArray js ms ts = true)
  (hOB : ∀ L L', (∀ j ∈ ms, L j = L' j) → OB L = OB L') (h0 : OB (fun _ => false) = s.obs)
  (h : AS C l.toArray ⟨js, ms, OB, SL⟩ js s.env (fun e' => AO C l.toArray (opsAt l.toArray ts) ⟨e', OB (fun _ => true)⟩ Q)) : AC C (.region id l.toArray true) s Q := fun Ω a w hr => by
 simp only [drawSB, Bool.and_eq_true, beq_iff_eq] at hB
 obtain ⟨⟨⟨⟨⟨⟨b1, b2⟩, b3⟩, b4⟩, b4'⟩, b5⟩, b6⟩ := hB
 have hF : HFirst .any l.toArray js := by
  intro listed inv i hi hun j hj
  obtain ⟨_, oj, hoj, hall⟩ := mem_ready.1 hj
  have hlt := (Array.getElem?_eq_some_iff.1 hoj).1
  have := List.all_eq_true.1 b5 j (List.mem_range.2 hlt)
  simp only [Bool.or_eq_true, Bool.and_eq_true, List.contains_iff_mem] at this
  rcases this with h | ⟨_, h⟩
  ·exact h
  ·have ha := anc_listed inv _ j i (List.all_eq_true.1 h i hi) (fun ok hk e he hb => by
    have : ok = oj := Option.some.inj (hk.symm.trans hoj)
    subst this
    exact hall e he hb)
   rw [getD_both hun] at ha
   cases ha
 have inv0 : HInv .any l.toArray js (Array.replicate l.toArray.size false) :=
  ⟨by simp, fun j oj _ hl => (by rw [getD_replicate_false] at hl; cases hl), fun t _ ht => getD_in (by simpa using ht) (getD_replicate_false _ _)⟩
 have H := wpAnyS_lex (p := ⟨js, ms, OB, SL⟩) (ts := ts) hF (fun t ht => by have := List.all_eq_true.1 b3 t ht; simpa using this) js _ s.env (fun i hi => ⟨by have := List.all_eq_true.1 b1 i hi; simpa using this, hi⟩) (fun j hj => .inl hj) inv0 b6 h
 refine wp_region_any hm ?_
 have := wpAny_of_S (Q' := Lift C Q) (p := ⟨js, ms, OB, SL⟩) (g := ts.length) hOB (fun listed e hL Ω a w hr => by
  obtain ⟨⟨h7, h8⟩, l', he, hK⟩ := hL
  have hob : OB (lstB listed) = OB (fun _ => true) := hOB _ _ fun j hj => h8 j (by have := List.all_eq_true.1 b4' j hj; simpa using this)
  have hr' : Rel C ⟨e, OB (fun _ => true)⟩ Ω a w := hob ▸ hr
  exact wpAny_of_tailO ts listed a w b2 h7 (hK Ω a w (hr'.congr fun t x hx => by rw [he]; exact hx))) _ _ s.env inv0 H Ω a _ (by
   have e0 : OB (lstB (Array.replicate l.toArray.size false)) = s.obs := by
    rw [← h0]; exact hOB _ _ fun j _ => getD_replicate_false _ _
   show Rel C ⟨s.env, OB _⟩ Ω a _
   rw [e0]; exact hr.drew)
 have e4 : js.length + ts.length = l.toArray.size := b4
 rw [e4] at this
 exact this

/-! ### How the walk is printed -/
variable {p : Mids} {o : Oper} {e Ls : List (Nat × SV)} {d j dj i : Nat} {x : SV} {want b : Bool} {K : List (Nat × SV) → Prop} {is : List Nat}
/-- What is listed for sure, what is not, and else L. -/
def elemN : List Nat → Nat → Bool
 | [], _ => false
 | a :: r, k => bif Nat.beq a k then true else elemN r k
theorem elemN_mem {k : Nat} : ∀ {l : List Nat}, elemN l k = true → k ∈ l
 | [], h => by cases h
 | a :: r, h => by
  simp only [elemN] at h
  by_cases e : a = k
  ·subst e; simp
  ·cases q : Nat.beq a k with
   | true => exact absurd (Nat.eq_of_beq_eq_true q) e
   | false => rw [q] at h; exact List.mem_cons_of_mem _ (elemN_mem h)
def force (T F : List Nat) (L : Nat → Bool) : Nat → Bool := fun k => bif elemN T k then true else bif elemN F k then false else L k
def relS (ops : Array Oper) (ms : List Nat) (i : Nat) (T F su : List Nat) : Bool :=
 T.all (fun k => ms.contains k && ancB .any ops ops.size i k) && F.all (fun k => k == i || (ms.contains k && ancB .any ops ops.size k i)) && ms.all (fun k => k == i || ancB .any ops ops.size i k || ancB .any ops ops.size k i || su.contains k)
def SAS (p : Mids) (Ls : List (Nat × SV)) (x : SV) (su : List Nat) : Bool := su.all fun k => p.sv k x && Ls.all fun q => p.sv k q.2
theorem force_eq {T F su : List Nat} {L : Nat → Bool} (hr : relS ops p.ms i T F su = true) (hL : Adm ops p L i) : force T F L = L := by
 simp only [relS, Bool.and_eq_true, List.all_eq_true, List.contains_iff_mem, Bool.or_eq_true, beq_iff_eq] at hr
 obtain ⟨⟨h1, h2⟩, _⟩ := hr
 funext k
 unfold force
 cases q1 : elemN T k with
 | true => have := h1 k (elemN_mem q1); exact ((hL.2 k this.1).1 this.2).symm
 | false =>
  cases q2 : elemN F k with
  | true =>
   rcases h2 k (elemN_mem q2) with rfl | h
   ·exact hL.1.symm
   ·exact ((hL.2 k h.1).2 h.2).symm
  | false => rfl
theorem keeps {ks : List Nat} (hk : keep ks e = some Ls) (hl : looksB ops o ks = true) {t : Nat} (ht : t ∈ o.looksAt ops) {y : SV} (hy : get e t = some y) : (t, y) ∈ Ls := by
 simp only [looksB, Bool.and_eq_true, List.all_eq_true, List.contains_iff_mem] at hl
 obtain ⟨h1, _⟩ := (keep_get' hk t).1 (hl.1 t ht)
 rw [← h1] at hy
 exact get_mem hy
theorem sx_sk {ks T F su : List Nat} (hr : relS ops p.ms i T F su = true) (hk : keep ks e = some Ls) (hl : looksB ops o ks = true) (hs : SAS p Ls x su = true) : SX ops p i x ∧ SK ops p i o (get e) := by
 simp only [relS, Bool.and_eq_true, List.all_eq_true, List.contains_iff_mem, Bool.or_eq_true, beq_iff_eq] at hr
 simp only [SAS, Bool.and_eq_true, List.all_eq_true] at hs
 have h3 : ∀ k, k ∈ p.ms → k ≠ i → ancB .any ops ops.size i k = false → ancB .any ops ops.size k i = false → k ∈ su := fun k h1 h2 h3 h4 => by
  rcases hr.2 k h1 with ((h | h) | h) | h
  ·exact absurd h h2
  ·rw [h3] at h; cases h
  ·rw [h4] at h; cases h
  ·exact h
 exact ⟨fun k h1 h2 h4 h5 => (hs k (h3 k h1 h2 h4 h5)).1, fun k h1 h2 h4 h5 t ht y hy => (hs k (h3 k h1 h2 h4 h5)).2 (t, y) (keeps hk hl ht hy)⟩
theorem tells_same {ks : List Nat} {l : List (Nat × SV)} (hk : keep ks e = some Ls) (hl : looksB ops o ks = true) (ht : Tells ops o (get e) l) : ∀ t, get (Ls ++ l) t = get l t := fun t => by
 simp only [looksB, Bool.and_eq_true, List.all_eq_true, List.contains_iff_mem] at hl
 rw [get_append]
 by_cases hm : t ∈ ks
 ·obtain ⟨h1, h2⟩ := (keep_get' hk t).1 hm
  rw [h1]
  obtain ⟨y, hy⟩ := Option.isSome_iff_exists.1 h2
  rw [hy]
  exact (ht t (hl.2 t hm) y hy).symm
 ·rw [(keep_get' hk t).2 hm]
theorem gives_run {obs : List Ob} {ks : List Nat} (hk : keep ks e = some Ls) (hl : looksB ops o ks = true) (hd : o.dst = some d) (hv : Gives C ops obs o Ls d x) (l : List (Nat × SV)) (ht : Tells ops o (get e) l) (Ω : List Value) (a : Act) (w : World) (hr : Rel C ⟨l, obs⟩ Ω a w) :
  o.wp C.P a w (fun a' w' => ∃ (l' : List (Nat × SV)) (Ω' : List Value), get l' = upd (get l) o.dst x ∧ Rel C ⟨l', obs⟩ Ω' a' w') (fun _ _ _ => False) := by
 have hsame := tells_same hk hl ht
 have hr' : Rel C ⟨Ls ++ l, obs⟩ Ω a w := hr.congr fun t y hy => by rw [← hsame t]; exact hy
 have H := hv l (fun ed s => ed = .normal ∧ s = ⟨(d, x) :: (Ls ++ l), obs⟩) (AO.nil ⟨rfl, rfl⟩) Ω a w hr'
 refine wp_monoQ (fun a' w' hq => ?_) (fun ed a' w' hne hq => ?_) H
 ·obtain ⟨s, Ω', hr2, _, hs⟩ := hq
  subst hs
  refine ⟨_, Ω', ?_, hr2⟩
  rw [hd, get_upd]
  congr 1
  funext t; exact hsame t
 ·obtain ⟨s, Ω', _, he, _⟩ := hq
  exact hne he
theorem AS.done (h : K e) : AS C ops p [] e K := h
theorem AS.give (hm : p.ms.contains i = false) {T F su ks : List Nat} (h0 : ops[i]? = some o) (hd : o.dst = some d) (hl : looksB ops o ks = true) (hr : relS ops p.ms i T F su = true) (hk : keep ks e = some Ls) (hs : SAS p Ls x su = true)
  (hy : ∀ L, YS C ops (p.OB (force T F L)) o x (get e)) (h : AS C ops p is ((d, x) :: e) K) : AS C ops p (i :: is) e K :=
 ⟨o, x, (d, x) :: e, h0, fun L hL => .inl ⟨hm, by have := hy L; rw [force_eq hr hL] at this; exact this⟩, (sx_sk hr hk hl hs).1, (sx_sk hr hk hl hs).2, by simp only [Mids.svf, hm]; rw [if_neg (by simp), drE_true, hd, get_upd], h⟩
theorem AS.op (ks T F su : List Nat) (h0 : ops[i]? = some o) (hm : p.ms.contains i = false) (hg : o.guard = none) (hl : looksB ops o ks = true) (hr : relS ops p.ms i T F su = true) (hk : keep ks e = some Ls) (hd : o.dst = some d)
  (hv : ∀ L, Gives C ops (p.OB (force T F L)) o Ls d x) (hs : SAS p Ls x su = true) (h : AS C ops p is ((d, x) :: e) K) : AS C ops p (i :: is) e K :=
 AS.give hm h0 hd hl hr hk hs (fun L => .inl ⟨by unfold wantE; rw [hg], gives_run hk hl hd (hv L)⟩) h
theorem want_eq {b : Bool} (hg : o.guard = some (j, want)) (hj : ((ops[j]?).bind (·.dst)) = some dj) (hx : get e dj = some (.d (.v (.bool b)))) : wantE ops o (get e) = some (b == want) := by
 unfold wantE; rw [hg]; simp only [hj]; show (match get e dj with | some (.d (.v (.bool b))) => some (b == want) | some (.d (.v (.tuple _))) => some false | _ => none) = _; rw [hx]
theorem AS.opY (ks T F su : List Nat) (h0 : ops[i]? = some o) (hm : p.ms.contains i = false) (hg : o.guard = some (j, want)) (hj : ((ops[j]?).bind (·.dst)) = some dj) (hx : get e dj = some (.d (.v (.bool b)))) (hb : b = want)
  (hl : looksB ops o ks = true) (hr : relS ops p.ms i T F su = true) (hk : keep ks e = some Ls) (hd : o.dst = some d)
  (hv : ∀ L, Gives C ops (p.OB (force T F L)) o Ls d x) (hs : SAS p Ls x su = true) (h : AS C ops p is ((d, x) :: e) K) : AS C ops p (i :: is) e K :=
 AS.give hm h0 hd hl hr hk hs (fun L => .inl ⟨by rw [want_eq hg hj hx]; simp [hb], gives_run hk hl hd (hv L)⟩) h
theorem AS.opN (ks T F su : List Nat) (h0 : ops[i]? = some o) (hm : p.ms.contains i = false) (hg : o.guard = some (j, want)) (hj : ((ops[j]?).bind (·.dst)) = some dj) (hx : get e dj = some (.d (.v (.bool b)))) (hb : b = (!want))
  (hl : looksB ops o ks = true) (hr : relS ops p.ms i T F su = true) (hk : keep ks e = some Ls) (hd : o.dst = some d) (hn : d < C.n)
  (hs : SAS p Ls (.d (.v undef)) su = true) (h : AS C ops p is ((d, .d (.v undef)) :: e) K) : AS C ops p (i :: is) e K :=
 AS.give hm h0 hd hl hr hk hs (fun L => .inr ⟨by rw [want_eq hg hj hx]; simp [hb], rfl, fun k hk => by rw [hd] at hk; cases hk; exact hn⟩) h
theorem AS.split (dj : Nat) (want : Bool) (hx : get e dj = some (.d (.v (.bool b)))) (hyes : b = want → AS C ops p is e K) (hno : b = (!want) → AS C ops p is e K) : AS C ops p is e K := by
 by_cases hb : b = want
 ·exact hyes hb
 ·exact hno (by cases b <;> cases want <;> simp_all)
theorem AS.dec (b : Bool) (hyes : b = true → AS C ops p is e K) (hno : b = false → AS C ops p is e K) : AS C ops p is e K := by
 cases b
 ·exact hno rfl
 ·exact hyes rfl
theorem AS.midW (ks T F su : List Nat) {sv : SV → Bool} (h0 : ops[i]? = some o) (hm : p.ms.contains i = true) (hsv : p.sv i = sv) (hg : wantE ops o (get e) = some true) (hl : looksB ops o ks = true) (hr : relS ops p.ms i T F su = true) (hk : keep ks e = some Ls) (hd : o.dst = some d)
  (hv : ∀ (L : Nat → Bool) (e : List (Nat × SV)) (Q : Exit → St → Prop), AO C ops [] ⟨(d, x) :: dropS sv [] (Ls ++ e), p.OB (setB (force T F L) i)⟩ Q → AOp C ops [] o ⟨Ls ++ e, p.OB (force T F L)⟩ Q)
  (hs : SAS p Ls x su = true) {e' : List (Nat × SV)} (he : dropS sv [] e = e') (h : AS C ops p is ((d, x) :: e') K) : AS C ops p (i :: is) e K := by
 subst he hsv
 have hdr : ∀ l : List (Nat × SV), get (dropS (p.sv i) [] l) = drE (p.sv i) (get l) := fun l => by funext t; rw [get_dropS]; simp
 refine ⟨o, x, _, h0, fun L hL => .inr ⟨hm, hg, ?_⟩, (sx_sk hr hk hl hs).1, (sx_sk hr hk hl hs).2, by rw [hd, get_upd, hdr]; simp only [Mids.svf, hm, if_true], h⟩
 intro l ht Ω a w hrl
 have hv := hv L
 rw [force_eq hr hL] at hv
 have hsame := tells_same hk hl ht
 have hr' : Rel C ⟨Ls ++ l, p.OB L⟩ Ω a w := hrl.congr fun t y hy => by rw [← hsame t]; exact hy
 have H := hv l (fun ed s => ed = .normal ∧ s = ⟨(d, x) :: dropS (p.sv i) [] (Ls ++ l), p.OB (setB L i)⟩) (AO.nil ⟨rfl, rfl⟩) Ω a w hr'
 refine wp_monoQ (fun a' w' hq => ?_) (fun ed a' w' hne hq => ?_) H
 ·obtain ⟨s, Ω', hr2, _, hs⟩ := hq
  subst hs
  refine ⟨_, Ω', ?_, hr2⟩
  rw [hd, get_upd, hdr]
  congr 1
  congr 1
  funext t; exact hsame t
 ·obtain ⟨s, Ω', _, he, _⟩ := hq
  exact hne he
theorem AS.mid (ks T F su : List Nat) {sv : SV → Bool} (h0 : ops[i]? = some o) (hm : p.ms.contains i = true) (hsv : p.sv i = sv) (hg : o.guard = none) (hl : looksB ops o ks = true) (hr : relS ops p.ms i T F su = true) (hk : keep ks e = some Ls) (hd : o.dst = some d)
  (hv : ∀ (L : Nat → Bool) (e : List (Nat × SV)) (Q : Exit → St → Prop), AO C ops [] ⟨(d, x) :: dropS sv [] (Ls ++ e), p.OB (setB (force T F L) i)⟩ Q → AOp C ops [] o ⟨Ls ++ e, p.OB (force T F L)⟩ Q)
  (hs : SAS p Ls x su = true) {e' : List (Nat × SV)} (he : dropS sv [] e = e') (h : AS C ops p is ((d, x) :: e') K) : AS C ops p (i :: is) e K :=
 AS.midW ks T F su h0 hm hsv (by unfold wantE; rw [hg]) hl hr hk hd hv hs he h
/-- A store among them. -/
theorem AS.mid0W (ks T F su : List Nat) {sv : SV → Bool} (h0 : ops[i]? = some o) (hm : p.ms.contains i = true) (hsv : p.sv i = sv) (hg : wantE ops o (get e) = some true) (hl : looksB ops o ks = true) (hr : relS ops p.ms i T F su = true) (hk : keep ks e = some Ls) (hd : o.dst = none)
  (hv : ∀ (L : Nat → Bool) (e : List (Nat × SV)) (Q : Exit → St → Prop), AO C ops [] ⟨dropS sv [] (Ls ++ e), p.OB (setB (force T F L) i)⟩ Q → AOp C ops [] o ⟨Ls ++ e, p.OB (force T F L)⟩ Q)
  (hs : SAS p Ls .any su = true) {e' : List (Nat × SV)} (he : dropS sv [] e = e') (h : AS C ops p is e' K) : AS C ops p (i :: is) e K := by
 subst he hsv
 have hdr : ∀ l : List (Nat × SV), get (dropS (p.sv i) [] l) = drE (p.sv i) (get l) := fun l => by funext t; rw [get_dropS]; simp
 refine ⟨o, .any, _, h0, fun L hL => .inr ⟨hm, hg, ?_⟩, (sx_sk hr hk hl hs).1, (sx_sk hr hk hl hs).2, by rw [hd, hdr]; simp only [Mids.svf, hm, if_true]; rfl, h⟩
 intro l ht Ω a w hrl
 have hv := hv L
 rw [force_eq hr hL] at hv
 have hsame := tells_same hk hl ht
 have hr' : Rel C ⟨Ls ++ l, p.OB L⟩ Ω a w := hrl.congr fun t y hy => by rw [← hsame t]; exact hy
 have H := hv l (fun ed s => ed = .normal ∧ s = ⟨dropS (p.sv i) [] (Ls ++ l), p.OB (setB L i)⟩) (AO.nil ⟨rfl, rfl⟩) Ω a w hr'
 refine wp_monoQ (fun a' w' hq => ?_) (fun ed a' w' hne hq => ?_) H
 ·obtain ⟨s, Ω', hr2, _, hs⟩ := hq
  subst hs
  refine ⟨_, Ω', ?_, hr2⟩
  rw [hd, hdr]
  show drE (p.sv i) (get (Ls ++ l)) = drE (p.sv i) (get l)
  congr 1
  funext t; exact hsame t
 ·obtain ⟨s, Ω', _, he, _⟩ := hq
  exact hne he
theorem AS.mid0 (ks T F su : List Nat) {sv : SV → Bool} (h0 : ops[i]? = some o) (hm : p.ms.contains i = true) (hsv : p.sv i = sv) (hg : o.guard = none) (hl : looksB ops o ks = true) (hr : relS ops p.ms i T F su = true) (hk : keep ks e = some Ls) (hd : o.dst = none)
  (hv : ∀ (L : Nat → Bool) (e : List (Nat × SV)) (Q : Exit → St → Prop), AO C ops [] ⟨dropS sv [] (Ls ++ e), p.OB (setB (force T F L) i)⟩ Q → AOp C ops [] o ⟨Ls ++ e, p.OB (force T F L)⟩ Q)
  (hs : SAS p Ls .any su = true) {e' : List (Nat × SV)} (he : dropS sv [] e = e') (h : AS C ops p is e' K) : AS C ops p (i :: is) e K :=
 AS.mid0W ks T F su h0 hm hsv (by unfold wantE; rw [hg]) hl hr hk hd hv hs he h
theorem AO.dropT {l : List Oper} {obs : List Ob} {Q : Exit → St → Prop} {sv : SV → Bool} {e : List (Nat × SV)} (h : AO C ops l ⟨dropS sv [] e, obs⟩ Q) : AO C ops l ⟨e, obs⟩ Q :=
 AO.forget (fun q z hq => by
  rw [get_dropS] at hq
  simp only [List.not_mem_nil, if_false] at hq
  exact (drE_some hq).1) h
end

/-! ### Room for objects that are made in whatever order -/
/-- It leads neither to k nor to m. -/
def SV.noO2 (k m : Nat) (x : SV) : Bool := x.noO k && x.noO m
def Ob.noO2 (k m : Nat) (x : Ob) : Bool := x.noO k && x.noO m
inductive AllNo (k m : Nat) : List Ob → Prop
 | nil : AllNo k m []
 | cons {ob : Ob} {r : List Ob} (h : ob.noO2 k m = true) (t : AllNo k m r) : AllNo k m (ob :: r)
theorem noO2_cond {k m : Nat} {b : Bool} {x y : Ob} (hx : x.noO2 k m = true) (hy : y.noO2 k m = true) : (bif b then x else y).noO2 k m = true := by cases b <;> assumption
theorem noO2_fixl {α : Type} {k m ty : Nat} {f : α → SV} {l : List α} (hf : ∀ z, (f z).noO2 k m = true) : (Ob.fix ty (l.map f)).noO2 k m = true := by
 simp only [Ob.noO2, Ob.noO, Bool.and_eq_true, List.all_eq_true]
 refine ⟨fun x hx => ?_, fun x hx => ?_⟩ <;> obtain ⟨z, _, rfl⟩ := List.mem_map.1 hx <;> have := hf z <;> simp only [SV.noO2, Bool.and_eq_true] at this
 ·exact this.1
 ·exact this.2
theorem AllNo.get {k m : Nat} : ∀ {l : List Ob}, AllNo k m l → ∀ {i : Nat} {ob : Ob}, l[i]? = some ob → ob.noO2 k m = true
 | _, .cons h t, 0, _, e => by cases e; exact h
 | _, .cons h t, i + 1, ob, e => t.get (by simpa using e)
theorem RepS.moved {w w' : World} {ok ok' : Nat → Prop} {Ω Ω' : List Value} {k m : Nat} (h : ∀ b, ok b → ok' b ∧ w'.heap[b]? = w.heap[b]?) (hΩ : ∀ o v, o ≠ k → o ≠ m → Ω[o]? = some v → Ω'[o]? = some v)
  {x : SV} {v : Value} (hx : x.noO2 k m = true) (hr : RepS w ok Ω x v) : RepS w' ok' Ω' x v := by
 simp only [SV.noO2, Bool.and_eq_true] at hx
 obtain ⟨hx, hx2⟩ := hx
 have ht : ∀ {o : Nat} {v : Value}, (o != k) = true → (o != m) = true → Ω[o]? = some v → Ω'[o]? = some v := fun h1 h2 e => hΩ _ _ (by simpa using h1) (by simpa using h2) e
 induction hr with
 | any v => exact .any v
 | d x v hd => exact .d x v (hd.mono h)
 | ptr o off b ho => exact .ptr o off b (ht hx hx2 ho)
 | ptrG o off b len cap ho => exact .ptrG o off b len cap (ht hx hx2 ho)
 | sl o sz off len cap b ho => exact .sl o sz off len cap b (ht hx hx2 ho)
 | own o v ho h1 => exact .own o v (ht hx hx2 ho) h1
 | pre o k n cap a ho hk => exact .pre o k n cap a (ht hx hx2 ho) hk
 | full sz cells a n hd => exact .full sz cells a n (hd.mono h)
 | ep b off i cells vals hb2 hcell hr => exact .ep b off i cells vals (h b hb2).1 (fun j hj => by rw [cell_heap (h b hb2).2]; exact hcell j hj) (fun j x hj => (hr j x hj).mono h)
 | ag cells vs hl _ ih => exact .ag cells vs hl fun i x y h1 h2 => ih i x y h1 h2 (SV.noOL_get hx h1) (SV.noOL_get hx2 h1)
 | tu cells vs hl _ ih => exact .tu cells vs hl fun i x y h1 h2 => ih i x y h1 h2 (SV.noOL_get hx h1) (SV.noOL_get hx2 h1)
 | ifc t x u _ ih => exact .ifc t x u (ih hx hx2)
 | fv fn first caps fs cs hf hc _ _ ih1 ih2 =>
  have g1 : SV.noOL k first = true ∧ SV.noOL k caps = true := by simpa only [SV.noO, Bool.and_eq_true] using hx
  have g2 : SV.noOL m first = true ∧ SV.noOL m caps = true := by simpa only [SV.noO, Bool.and_eq_true] using hx2
  exact .fv fn first caps fs cs hf hc (fun i x y h1 h2 => ih1 i x y h1 h2 (SV.noOL_get g1.1 h1) (SV.noOL_get g2.1 h1)) (fun i x y h1 h2 => ih2 i x y h1 h2 (SV.noOL_get g1.2 h1) (SV.noOL_get g2.2 h1))

theorem allNo {k : Nat} {l : List Ob} (h : AllNo k k l) : l.all (Ob.noO k) = true := List.all_eq_true.2 fun ob hm => by
 obtain ⟨i, hi⟩ := List.getElem?_of_mem hm
 have := h.get hi
 simp only [Ob.noO2, Bool.and_self] at this
 exact this
/-- What leads to the last object leads to number k instead. -/
def SV.sunk (m k : Nat) : SV → Option SV
 | .ptr o off => if o = m then some (.ptr k off) else none
 | .sl o sz off len cap => if o = m then some (.sl k sz off len cap) else none
 | .own o => if o = m then some (.own k) else none
 | _ => none
theorem RepS.sunk {w w' : World} {ok ok' : Nat → Prop} {Ω Ω' : List Value} {k m : Nat} (hΩ : ∀ v, Ω[m]? = some v → Ω'[k]? = some v) {x y : SV} {v : Value} (hx : x.sunk m k = some y) (hr : RepS w ok Ω x v) : RepS w' ok' Ω' y v := by
 cases hr with
 | ptr o off b ho => simp only [SV.sunk] at hx; split at hx <;> cases hx; subst_vars; exact .ptr _ _ _ (hΩ _ ho)
 | ptrG o off b len cap ho => simp only [SV.sunk] at hx; split at hx <;> cases hx; subst_vars; exact .ptrG _ _ _ _ _ (hΩ _ ho)
 | sl o sz off len cap b ho => simp only [SV.sunk] at hx; split at hx <;> cases hx; subst_vars; exact .sl _ _ _ _ _ _ (hΩ _ ho)
 | own o v ho h1 => simp only [SV.sunk] at hx; split at hx <;> cases hx; subst_vars; exact .own _ _ (hΩ _ ho) h1
 | _ => cases hx

theorem Rel.sink {C : Ctx} {e : List (Nat × SV)} {obs : List Ob} {new : Ob} {Ω : List Value} {a : Act} {w : World} {d k m : Nat} {x y : SV} (h : Rel C ⟨(d, x) :: e, obs ++ [new]⟩ Ω a w) (hm : obs.length = m) (hk : obs[k]? = some .dead) (hx : x.sunk m k = some y)
  (hno : AllNo k m obs) (hnew : new.noO2 k m = true) : ∃ Ω', Rel C ⟨(d, y) :: dropS (SV.noO2 k m) [] e, obs.set k new⟩ Ω' a w := by
 obtain ⟨hdf, hsz, henv, hmem⟩ := h
 have hlen : Ω.length = m + 1 := by have := hmem.len; simp at this; omega
 have hkm : k < m := by have := (List.getElem?_eq_some_iff.1 hk).1; omega
 obtain ⟨v0, hv0⟩ : ∃ v, Ω[m]? = some v := ⟨_, List.getElem?_eq_getElem (by omega)⟩
 have hold : ∀ o v, o ≠ k → o ≠ m → Ω[o]? = some v → ((Ω.take m).set k v0)[o]? = some v := fun o v h1 h2 h3 => by
  have : o < m := by have := (List.getElem?_eq_some_iff.1 h3).1; omega
  rw [List.getElem?_set_ne (Ne.symm h1), List.getElem?_take, if_pos this]; exact h3
 have hkk : ((Ω.take m).set k v0)[k]? = some v0 := by rw [List.getElem?_set_self (by simp; omega)]
 -- whence an entry comes
 have hfrom : ∀ {i : Nat} {ob : Ob}, (obs.set k new)[i]? = some ob → (i = k ∧ ob = new) ∨ (i ≠ k ∧ i < m ∧ obs[i]? = some ob) := fun {i ob} e => by
  rcases get_set e with ⟨h1, h2, _⟩ | ⟨h1, h2⟩
  ·exact .inl ⟨h1, h2⟩
  ·exact .inr ⟨h1, by have := (List.getElem?_eq_some_iff.1 h2).1; omega, h2⟩
 have hval : ∀ {i : Nat} {v : Value}, ((Ω.take m).set k v0)[i]? = some v → (i = k ∧ v = v0) ∨ (i ≠ k ∧ Ω[i]? = some v) := fun {i v} e => by
  rcases get_set e with ⟨h1, h2, _⟩ | ⟨h1, h2⟩
  ·exact .inl ⟨h1, h2⟩
  ·rw [List.getElem?_take] at h2
   split at h2
   ·exact .inr ⟨h1, h2⟩
   ·cases h2
 have hnewat : (obs ++ [new])[m]? = some new := by rw [← hm]; simp
 have hat : ∀ {i : Nat} {ob : Ob} {v : Value}, (obs.set k new)[i]? = some ob → ((Ω.take m).set k v0)[i]? = some v → ∃ i', (obs ++ [new])[i']? = some ob ∧ Ω[i']? = some v ∧ (i' = if i = k then m else i) := fun {i ob v} e1 e2 => by
  rcases hfrom e1 with ⟨h1, h2⟩ | ⟨h1, h2, h3⟩
  ·rcases hval e2 with ⟨_, h4⟩ | ⟨h4, _⟩
   ·subst h2 h4; exact ⟨m, hnewat, hv0, by simp [h1]⟩
   ·exact absurd h1 h4
  ·rcases hval e2 with ⟨h4, _⟩ | ⟨_, h4⟩
   ·exact absurd h4 h1
   ·exact ⟨i, get_left h3, h4, by simp [h1]⟩
 have hok : ∀ b, okB C (obs ++ [new]) Ω w b → okB C (obs.set k new) ((Ω.take m).set k v0) w b ∧ w.heap[b]? = w.heap[b]? := fun b hb => ⟨⟨hb.1, hb.2.1, fun i ob v e1 hl e2 => by
  obtain ⟨i', e1', e2', _⟩ := hat e1 e2
  exact hb.2.2 i' ob v e1' hl e2'⟩, rfl⟩
 refine ⟨(Ω.take m).set k v0, hdf, hsz, fun t z hz => ?_, ?_⟩
 ·simp only [Vm.get] at hz
  split at hz
  ·rename_i ht; cases hz
   obtain ⟨v, hv, hr⟩ := henv t x (by simp [Vm.get, ht])
   exact ⟨v, hv, hr.sunk (fun v hv => by rw [hv0] at hv; cases hv; exact hkk) hx⟩
  ·rename_i ht
   rw [get_dropS] at hz
   simp only [List.not_mem_nil, if_false] at hz
   obtain ⟨h1, h2⟩ := drE_some hz
   obtain ⟨v, hv, hr⟩ := henv t z (by simp only [Vm.get, if_neg ht]; exact h1)
   exact ⟨v, hv, hr.moved hok hold h2⟩
 ·refine ⟨by simp [hlen]; omega, fun i ob v e1 e2 => ?_, fun i j a b v u y hij e1 e2 l1 l2 e3 e4 => ?_, fun i ob v b e1 l e2 hb => ?_, hmem.fr⟩
  ·have hnob : ob.noO2 k m = true := by
    rcases hfrom e1 with ⟨_, h2⟩ | ⟨_, _, h3⟩
    ·rw [h2]; exact hnew
    ·exact hno.get h3
   obtain ⟨i', e1', e2', _⟩ := hat e1 e2
   have H := hmem.obj i' ob v e1' e2'
   cases ob with
   | dead => trivial
   | frame vs env =>
    simp only [Ob.noO2, Ob.noO, Bool.and_eq_true] at hnob
    exact ⟨H.1, fun t x hx => let ⟨v, hv, hr⟩ := H.2 t x hx; ⟨v, hv, hr.moved hok hold (by
     simp only [SV.noO2, Bool.and_eq_true]
     exact ⟨List.all_eq_true.1 hnob.1 (t, x) (get_mem hx), List.all_eq_true.1 hnob.2 (t, x) (get_mem hx)⟩)⟩⟩
   | grow ty sz cells =>
    obtain ⟨n, xs, ho, hl, hr⟩ := H
    exact ⟨n, xs, ho, hl, fun i x y hx hy => (hr i x y hx hy).mono hok⟩
   | fix ty cells =>
    obtain ⟨b, vs, rfl, hw, hl, hr, h1⟩ := H
    simp only [Ob.noO2, Ob.noO, Bool.and_eq_true] at hnob
    exact ⟨b, vs, rfl, hw, hl, fun i x y hx hy => (hr i x y hx hy).moved hok hold (by
     simp only [SV.noO2, Bool.and_eq_true]
     exact ⟨List.all_eq_true.1 hnob.1 x (List.mem_of_getElem? hx), List.all_eq_true.1 hnob.2 x (List.mem_of_getElem? hx)⟩), h1⟩
  ·obtain ⟨i', e1', e3', hi'⟩ := hat e1 e3
   obtain ⟨j', e2', e4', hj'⟩ := hat e2 e4
   have : i' ≠ j' := by
    intro he
    have hi := (List.getElem?_eq_some_iff.1 e1).1
    have hj := (List.getElem?_eq_some_iff.1 e2).1
    simp at hi hj
    by_cases h1 : i = k <;> by_cases h2 : j = k
    ·exact hij (h1.trans h2.symm)
    ·rw [if_pos h1] at hi'; rw [if_neg h2] at hj'; omega
    ·rw [if_neg h1] at hi'; rw [if_pos h2] at hj'; omega
    ·rw [if_neg h1] at hi'; rw [if_neg h2] at hj'; omega
   exact hmem.sep i' j' a b v u y this e1' e2' l1 l2 e3' e4'
  ·obtain ⟨i', e1', e2', _⟩ := hat e1 e2
   exact hmem.new i' ob v b e1' l e2' hb

section
variable {C : Ctx} {Q : Exit → St → Prop} {ops : Array Oper} {e : List (Nat × SV)} {obs : List Ob} {d : Nat}
theorem AO.sink {l : List Oper} {new : Ob} (k m : Nat) {x y : SV} (hm : obs.length = m) (hk : obs[k]? = some .dead) (hx : x.sunk m k = some y) (hno : AllNo k m obs) (hnew : new.noO2 k m = true)
  (h : AO C ops l ⟨(d, y) :: dropS (SV.noO2 k m) [] e, obs.set k new⟩ Q) : AO C ops l ⟨(d, x) :: e, obs ++ [new]⟩ Q := fun Ω a w hr => by
 obtain ⟨Ω', hr'⟩ := hr.sink hm hk hx hno hnew
 exact h Ω' a w hr'
theorem AO.objs {l : List Oper} {obs' : List Ob} (ho : obs' = obs) (h : AO C ops l ⟨e, obs'⟩ Q) : AO C ops l ⟨e, obs⟩ Q := ho ▸ h
theorem Rel.room {s : St} {Ω : List Value} {a : Act} {w : World} (h : Rel C s Ω a w) : Rel C ⟨s.env, s.obs ++ [.dead]⟩ (Ω ++ [undef]) a w := by
 have hok : ∀ b, okB C s.obs Ω w b → okB C (s.obs ++ [.dead]) (Ω ++ [undef]) w b ∧ w.heap[b]? = w.heap[b]? := fun b hb => ⟨⟨hb.1, hb.2.1, fun i ob v e1 hl e2 => by
  rcases list_get_append e1 with e1 | ⟨_, rfl⟩
  ·rcases list_get_append e2 with e2 | ⟨h1, _⟩
   ·exact hb.2.2 i ob v e1 hl e2
   ·have := (List.getElem?_eq_some_iff.1 e1).1; have := h.mem.len; omega
  ·cases hl⟩, rfl⟩
 have hΩ : ∀ (o : Nat) v, Ω[o]? = some v → (Ω ++ [undef])[o]? = some v := fun o v e => get_left e
 have hval : ∀ {i : Nat} {ob : Ob} {v : Value}, (s.obs ++ [.dead])[i]? = some ob → ob.live = true → (Ω ++ [undef])[i]? = some v → s.obs[i]? = some ob ∧ Ω[i]? = some v := fun {i ob v} e1 hl e2 => by
  rcases list_get_append e1 with e1 | ⟨_, rfl⟩
  ·rcases list_get_append e2 with e2 | ⟨h1, _⟩
   ·exact ⟨e1, e2⟩
   ·have := (List.getElem?_eq_some_iff.1 e1).1; have := h.mem.len; omega
  ·cases hl
 refine ⟨h.defers, h.size, fun t x hx => let ⟨v, h1, h2⟩ := h.env t x hx; ⟨v, h1, h2.mono hok hΩ⟩, by simp [h.mem.len], fun i ob v e1 e2 => ?_, fun i j a b v u y hij e1 e2 l1 l2 e3 e4 => ?_, fun i ob v b e1 l e2 hb => ?_, h.mem.fr⟩
 ·cases hl : ob.live with
  | false => cases ob <;> first | trivial | cases hl
  | true =>
   obtain ⟨e1', e2'⟩ := hval e1 hl e2
   exact (h.mem.obj i ob v e1' e2').mono hok hΩ fun b _ _ => rfl
 ·obtain ⟨q1, q2⟩ := hval e1 l1 e3
  obtain ⟨q3, q4⟩ := hval e2 l2 e4
  exact h.mem.sep i j a b v u y hij q1 q3 l1 l2 q2 q4
 ·obtain ⟨q1, q2⟩ := hval e1 l e2
  exact h.mem.new i ob v b q1 l q2 hb
theorem AC.room {c : Code} {s : St} (h : AC C c ⟨s.env, s.obs ++ [.dead]⟩ Q) : AC C c s Q := fun Ω a w hr => h _ a w hr.room
end
end Go.Vm

/- Functions that are gone through where they are called: their caller waits, its slots kept among the objects. -/
namespace Go.Vm
set_option linter.unusedVariables false

def enumS : Nat → List SV → List (Nat × SV)
 | _, [] => []
 | i, x :: r => (i, x) :: enumS (i + 1) r
theorem enumS_get (l : List SV) : ∀ (i t : Nat) (x : SV), get (enumS i l) t = some x → i ≤ t ∧ l[t - i]? = some x := by
 induction l with
 | nil => intro i t x h; cases h
 | cons y l ih =>
  intro i t x h
  simp only [enumS, get] at h
  split at h
  ·rename_i e; subst e; cases h; exact ⟨Nat.le_refl _, by simp⟩
  ·rename_i hne
   obtain ⟨hle, hl⟩ := ih (i + 1) t x h
   refine ⟨by omega, ?_⟩
   have : t - i = (t - (i + 1)) + 1 := by omega
   rw [this]; simpa using hl

def resS (P : Program) (s : St) (rs : List ResultVar) : Option SV :=
 match mapO (resV P s) rs with
 | some [y] => some y
 | some ys => some (.tu ys)
 | none => none

theorem resS_rep {C : Ctx} {s : St} {Ω : List Value} {a : Act} {w : World} (hr : Rel C s Ω a w) {fn : Func} {y : SV} (h : resS C.P s fn.results.toList = some y) :
  ∃ v, (results fn a.tmps).run C.P w = .ok v w ∧ RepS w (okB C s.obs Ω w) Ω y v := by
 have key : ∀ (l : List ResultVar) (ys : List SV), mapO (resV C.P s) l = some ys →
   ∃ vs : List Value, (l.mapM (resSem a.tmps)).run C.P w = .ok vs w ∧ vs.length = ys.length ∧
    ∀ (i : Nat) p q, ys[i]? = some p → vs[i]? = some q → RepS w (okB C s.obs Ω w) Ω p q := by
  intro l
  induction l with
  | nil => intro ys h; cases h; exact ⟨[], rfl, rfl, fun i p q hp => by simp at hp⟩
  | cons r l ih =>
   intro ys h
   simp only [mapO] at h
   split at h
   ·rename_i y hy
    split at h
    ·rename_i t ht
     cases h
     obtain ⟨vs, hrun, hl, hrr⟩ := ih t ht
     obtain ⟨v, hv, hrep⟩ := resV_rep hr hy
     refine ⟨v :: vs, ?_, by simp [hl], fun i p q hp hq => ?_⟩
     ·simp [List.mapM_cons, hv, hrun]
     ·cases i with
      | zero => simp at hp hq; subst hp; subst hq; exact hrep
      | succ i => simp at hp hq; exact hrr i p q hp hq
    ·cases h
   ·cases h
 unfold resS at h
 split at h
 ·rename_i y' hys
  cases h
  obtain ⟨vs, hrun, hl, hrr⟩ := key _ _ hys
  match vs, hl with
  | [v], _ =>
   refine ⟨v, ?_, hrr 0 _ _ rfl rfl⟩
   rw [results_eq]
   rw [← Array.toArray_toList (xs := fn.results), List.mapM_toArray]
   simp [hrun]
 ·rename_i ys hne hys
  cases h
  obtain ⟨vs, hrun, hl, hrr⟩ := key _ _ hys
  refine ⟨.tuple vs.toArray, ?_, .tu ys vs hl hrr⟩
  have h1 : ¬ vs.length = 1 := fun e => by
   rw [hl] at e
   match ys, e with
   | [y], _ => exact hne y rfl
  rw [results_eq]
  rw [← Array.toArray_toList (xs := fn.results), List.mapM_toArray]
  simp [hrun, h1]
 ·cases h

/-- The same, with slots of another function. -/
abbrev Ctx.sub (C : Ctx) (n : Nat) : Ctx := ⟨C.P, C.W, C.ok, C.may, n, []⟩
theorem Mem.ctx {C : Ctx} {n : Nat} {obs : List Ob} {Ω : List Value} {w : World} (h : Mem C obs Ω w) : Mem (C.sub n) obs Ω w :=
 ⟨h.len, h.obj, h.sep, h.new, ⟨h.fr.os, h.fr.tape, h.fr.output, h.fr.size, h.fr.block, h.fr.glob, h.fr.gmay⟩⟩
theorem Mem.ctx' {C : Ctx} {n : Nat} {obs : List Ob} {Ω : List Value} {w : World} (h : Mem (C.sub n) obs Ω w) : Mem C obs Ω w :=
 ⟨h.len, h.obj, h.sep, h.new, ⟨h.fr.os, h.fr.tape, h.fr.output, h.fr.size, h.fr.block, h.fr.glob, h.fr.gmay⟩⟩

/-- Slots are laid among the objects. -/
theorem Mem.frame {C : Ctx} {obs : List Ob} {Ω : List Value} {w : World} (h : Mem C obs Ω w) (vs : Array Value) (env : List (Nat × SV)) (he : ∀ t x, get env t = some x → ∃ v, vs[t]? = some v ∧ RepS w (okB C obs Ω w) Ω x v) :
  Mem C (obs ++ [.frame vs env]) (Ω ++ [undef]) w ∧ ∀ b, okB C obs Ω w b → okB C (obs ++ [.frame vs env]) (Ω ++ [undef]) w b := by
 have hb0 : blk undef = none := rfl
 have hΩ : ∀ (o : Nat) v, Ω[o]? = some v → (Ω ++ [undef])[o]? = some v := fun o v e => get_left e
 -- an object, or the new one
 have hval : ∀ {i : Nat} {ob : Ob} {v : Value}, (obs ++ [Ob.frame vs env])[i]? = some ob → (Ω ++ [undef])[i]? = some v → (obs[i]? = some ob ∧ Ω[i]? = some v) ∨ (ob = .frame vs env ∧ v = undef) := fun {i ob v} e1 e2 => by
  rcases list_get_append e1 with e1 | ⟨h1, rfl⟩
  ·rcases list_get_append e2 with e2 | ⟨h2, _⟩
   ·exact .inl ⟨e1, e2⟩
   ·have := (List.getElem?_eq_some_iff.1 e1).1; have := h.len; omega
  ·rcases list_get_append e2 with e2 | ⟨h2, rfl⟩
   ·have := (List.getElem?_eq_some_iff.1 e2).1; have := h.len; omega
   ·exact .inr ⟨rfl, rfl⟩
 have hok : ∀ b, okB C obs Ω w b → okB C (obs ++ [.frame vs env]) (Ω ++ [undef]) w b := fun b hb => ⟨hb.1, hb.2.1, fun i ob v e1 hl e2 => by
  rcases hval e1 e2 with ⟨q1, q2⟩ | ⟨rfl, rfl⟩
  ·exact hb.2.2 i ob v q1 hl q2
  ·rw [hb0]; intro e; cases e⟩
 refine ⟨⟨by simp [h.len], fun i ob v e1 e2 => ?_, fun i j a b v u y hij e1 e2 l1 l2 e3 e4 hp => ?_, fun i ob v b e1 l e2 hb => ?_, h.fr⟩, hok⟩
 ·rcases hval e1 e2 with ⟨q1, q2⟩ | ⟨rfl, rfl⟩
  ·exact (h.obj i ob v q1 q2).mono (fun b hb => ⟨hok b hb, rfl⟩) hΩ fun b _ _ => rfl
  ·exact ⟨hb0, fun t x hx => let ⟨v, hv, hr⟩ := he t x hx; ⟨v, hv, hr.mono (fun b hb => ⟨hok b hb, rfl⟩) hΩ⟩⟩
 ·rcases hval e1 e3 with ⟨q1, q2⟩ | ⟨rfl, rfl⟩
  ·rcases hval e2 e4 with ⟨q3, q4⟩ | ⟨rfl, rfl⟩
   ·exact h.sep i j a b v u y hij q1 q3 l1 l2 q2 q4 hp
   ·rw [hb0]; intro e; cases e
  ·rw [hb0] at hp; cases hp
 ·rcases hval e1 e2 with ⟨q1, q2⟩ | ⟨rfl, rfl⟩
  ·exact h.new i ob v b q1 l q2 hb
  ·rw [hb0] at hb; cases hb

def putO (dst : Option Nat) (r : SV) (e : List (Nat × SV)) : List (Nat × SV) := match dst with
 | some d => (d, r) :: e
 | none => e
/-- What comes behind a function's end. -/
def InlQ (C : Ctx) (ops : Array Oper) (rest : List Oper) (dst : Option Nat) (rs : List ResultVar) (k : Nat) (vs : Array Value) (Q : Exit → St → Prop) : Exit → St → Prop
 | .normal, s | .ret, s => ∃ r e', resS C.P s rs = some r ∧ s.obs[k]? = some (.frame vs e') ∧ AO C ops rest ⟨putO dst r e', s.obs.set k .dead⟩ Q
 | _, _ => False

section
variable {C : Ctx} {Q : Exit → St → Prop} {ops : Array Oper} {rest : List Oper} {o : Oper} {e : List (Nat × SV)} {obs : List Ob} {d : Nat}
theorem inlret {rs : List ResultVar} {k : Nat} {vs : Array Value} {s : St} {dst : Option Nat} {r : SV} {e' : List (Nat × SV)} {ob' : List Ob} (h1 : resS C.P s rs = some r) (h2 : s.obs[k]? = some (.frame vs e')) (h4 : s.obs.set k .dead = ob')
  (h3 : AO C ops rest ⟨putO dst r e', ob'⟩ Q) : InlQ C ops rest dst rs k vs Q .ret s := ⟨r, e', h1, h2, h4 ▸ h3⟩
theorem inlend {rs : List ResultVar} {k : Nat} {vs : Array Value} {s : St} {dst : Option Nat} {r : SV} {e' : List (Nat × SV)} {ob' : List Ob} (h1 : resS C.P s rs = some r) (h2 : s.obs[k]? = some (.frame vs e')) (h4 : s.obs.set k .dead = ob')
  (h3 : AO C ops rest ⟨putO dst r e', ob'⟩ Q) : InlQ C ops rest dst rs k vs Q .normal s := ⟨r, e', h1, h2, h4 ▸ h3⟩

/-- A call into a function's body; ks: the caller's slots that are kept. -/
theorem AOp.inl {f : FuncId} {fn : Func} {c : Code} {xs : List Operand} {ts : Array TypeId} {ys : List SV} {n : Nat} {rs : List ResultVar} {e1 : List (Nat × SV)} (ks : List Nat) (he : enters C.P f = true) (hf : C.P.funcs[f]? = some fn) (hb : fn.body = some c) (hnt : fn.ntmps = n) (hrs : fn.results = rs.toArray)
  (ho : o.op = .call { callee := .value (.func f), args := xs.toArray, argTypes := ts }) (hdn : match o.dst with | some d => d < C.n | none => True) (hx : mapO (opS ⟨e, obs⟩) xs = some ys) (hl : ys.length ≤ n) (hk : Vm.keep ks e = some e1)
  (h : ∀ vs, AC (C.sub n) c ⟨enumS 0 ys, obs ++ [.frame vs e1]⟩ (InlQ C ops rest o.dst rs obs.length vs Q)) : AOp C ops rest o ⟨e, obs⟩ Q := fun Ω a w hr => by
 obtain ⟨hlen, hi⟩ := mapO_get hx
 subst hnt
 have hrl : fn.results.toList = rs := by rw [hrs]
 unfold Oper.wp
 rw [run_call he ho, Oper.upon_enter, List.map_toArray]
 obtain ⟨hm, hok⟩ := hr.mem.frame a.tmps e1 (fun t x hx => hr.env t x (keep_get hk hx))
 refine (calls_of_wp hf hb (R := fun ed w' => ∃ (v : Value) (s : St) (Ω' : List Value), ed = .returned v ∧ Mem C s.obs Ω' w' ∧ ∃ r e', RepS w' (okB C s.obs Ω' w') Ω' r v ∧ s.obs[obs.length]? = some (.frame a.tmps e') ∧ AO C ops rest ⟨putO o.dst r e', s.obs.set obs.length .dead⟩ Q) ?_).mono fun ed w' ⟨v, s, Ω', hed, hm', r, e', hrep, hfr, hao⟩ => ?_
 ·have hrel : Rel (C.sub fn.ntmps) ⟨enumS 0 ys, obs ++ [.frame a.tmps e1]⟩ (Ω ++ [undef]) { tmps := (xs.map a.eval).toArray ++ Array.replicate (fn.ntmps - (xs.map a.eval).toArray.size) undef, defers := [] } w := by
   refine ⟨rfl, by simp; omega, fun t x hx => ?_, hm.ctx⟩
   obtain ⟨_, hy⟩ := enumS_get ys 0 t x hx
   rw [Nat.sub_zero] at hy
   have hlt := (List.getElem?_eq_some_iff.1 hy).1
   have hxt : xs[t]? = some xs[t] := List.getElem?_eq_getElem (by omega)
   refine ⟨a.eval xs[t], ?_, ?_⟩
   ·rw [Array.getElem?_append_left (by simp; omega)]
    simp [hxt]
   ·exact (hr.eval (hi t _ _ hxt hy)).mono (fun b hb => ⟨hok b hb, rfl⟩) (fun o v e => get_left e)
  refine wp_mono (h a.tmps _ _ w hrel) fun ed a' w' ⟨s, Ω', hr', hq⟩ => ?_
  have fin : (∃ r e', resS C.P s rs = some r ∧ s.obs[obs.length]? = some (.frame a.tmps e') ∧ AO C ops rest ⟨putO o.dst r e', s.obs.set obs.length .dead⟩ Q) →
    a'.defers = [] ∧ ∃ v, (results fn a'.tmps).run C.P w' = .ok v w' ∧ ∃ (v_1 : Value) (s : St) (Ω' : List Value), Ending.returned v = Ending.returned v_1 ∧ Mem C s.obs Ω' w' ∧ ∃ r e', RepS w' (okB C s.obs Ω' w') Ω' r v_1 ∧ s.obs[obs.length]? = some (.frame a.tmps e') ∧ AO C ops rest ⟨putO o.dst r e', s.obs.set obs.length .dead⟩ Q := by
   intro ⟨r, e', hres, hfr, hao⟩
   rw [← hrl] at hres
   obtain ⟨v, hv, hrep⟩ := resS_rep hr' hres
   exact ⟨hr'.defers, v, hv, v, s, Ω', rfl, hr'.mem.ctx', r, e', hrep, hfr, hao⟩
  cases ed with
  | normal => exact fin hq
  | ret => exact fin hq
  | _ => exact hq.elim
 ·subst hed
  obtain ⟨hmk, hokk⟩ := hm'.kill obs.length
  have hfrob : ∃ h, Ω'[obs.length]? = some h := ⟨_, List.getElem?_eq_getElem (by have := (List.getElem?_eq_some_iff.1 hfr).1; have := hm'.len; omega)⟩
  obtain ⟨hh, hΩh⟩ := hfrob
  have hF := hm'.obj _ _ _ hfr hΩh
  have hbase : Rel C ⟨e', s.obs.set obs.length .dead⟩ Ω' a w' :=
   ⟨hr.defers, hr.size, fun t x hx => let ⟨v, hv, hrp⟩ := hF.2 t x hx; ⟨v, hv, hrp.mono (fun b hb => ⟨hokk b hb, rfl⟩) (fun _ _ e => e)⟩, hmk⟩
  cases hd : o.dst with
  | none =>
   rw [hd] at hao
   exact hao Ω' _ w' hbase
  | some d =>
   rw [hd] at hao hdn
   exact hao Ω' _ w' (hbase.put hdn (hrep.mono (fun b hb => ⟨hokk b hb, rfl⟩) (fun _ _ e => e)))

/-- Slots of a waiting function are forgotten. -/
theorem Rel.subF {Ω : List Value} {a : Act} {w : World} (hr : Rel C ⟨e, obs⟩ Ω a w) {p : Nat} {vs : Array Value} {env env' : List (Nat × SV)} (hp : obs[p]? = some (.frame vs env)) (hle : ∀ t x, get env' t = some x → ∃ y, get env t = some y ∧ SVLe y x) : Rel C ⟨e, obs.set p (.frame vs env')⟩ Ω a w := by
 have hlt := (List.getElem?_eq_some_iff.1 hp).1
 have from' : ∀ {i : Nat} {ob : Ob}, (obs.set p (.frame vs env'))[i]? = some ob → (i = p ∧ ob = .frame vs env') ∨ obs[i]? = some ob := fun {i ob} e1 => by
  rcases get_set e1 with ⟨h1, h2, _⟩ | ⟨_, h2⟩
  ·exact .inl ⟨h1, h2⟩
  ·exact .inr h2
 have lv : ∀ {i : Nat} {ob : Ob}, (obs.set p (.frame vs env'))[i]? = some ob → ∃ ob', obs[i]? = some ob' ∧ ob'.live = ob.live := fun {i ob} e1 => by
  rcases from' e1 with ⟨rfl, rfl⟩ | h
  ·exact ⟨_, hp, rfl⟩
  ·exact ⟨_, h, rfl⟩
 have hok : ∀ b, okB C obs Ω w b → okB C (obs.set p (.frame vs env')) Ω w b := fun b hb => ⟨hb.1, hb.2.1, fun i ob k e1 l e2 => by
  obtain ⟨ob', h1, h2⟩ := lv e1
  exact hb.2.2 i ob' k h1 (h2.trans l) e2⟩
 refine ⟨hr.defers, hr.size, fun t x hx => ?_, ⟨by simp; exact hr.mem.len, fun i ob k e1 e2 => ?_, fun i j x y h k b hij e1 e2 l1 l2 e3 e4 hp2 => ?_, fun i ob k b e1 l e2 hb => ?_, hr.mem.fr⟩⟩
 ·obtain ⟨v, hv, hrep⟩ := hr.env t x hx
  exact ⟨v, hv, hrep.mono (fun b hb => ⟨hok b hb, rfl⟩) (fun _ _ e => e)⟩
 ·rcases from' e1 with ⟨rfl, rfl⟩ | h
  ·have H := hr.mem.obj _ _ k hp e2
   refine ⟨H.1, fun t x hx => ?_⟩
   obtain ⟨y, hy, hyx⟩ := hle t x hx
   obtain ⟨v, hv, hrep⟩ := H.2 t y hy
   exact ⟨v, hv, (hyx _ _ _ _ hrep).mono (fun b hb => ⟨hok b hb, rfl⟩) (fun _ _ e => e)⟩
  ·exact (hr.mem.obj i ob k h e2).mono (fun b hb => ⟨hok b hb, rfl⟩) (fun _ _ e => e) fun b _ _ => rfl
 ·obtain ⟨x', h1, q1⟩ := lv e1
  obtain ⟨y', h2, q2⟩ := lv e2
  exact hr.mem.sep i j x' y' h k b hij h1 h2 (q1.trans l1) (q2.trans l2) e3 e4 hp2
 ·obtain ⟨ob', h1, h2⟩ := lv e1
  exact hr.mem.new i ob' k b h1 (h2.trans l) e2 hb
theorem AO.subF {l : List Oper} (p : Nat) (ks : List Nat) {vs : Array Value} {env env' : List (Nat × SV)} (hp : obs[p]? = some (.frame vs env)) (hk : Vm.keep ks env = some env') (h : AO C ops l ⟨e, obs.set p (.frame vs env')⟩ Q) : AO C ops l ⟨e, obs⟩ Q :=
 fun Ω a w hr => h Ω a w (hr.subF hp fun t x hx => ⟨x, keep_get hk hx, SVLe.refl x⟩)
theorem AC.subF {c : Code} (p : Nat) (ks : List Nat) {vs : Array Value} {env env' : List (Nat × SV)} (hp : obs[p]? = some (.frame vs env)) (hk : Vm.keep ks env = some env') (h : AC C c ⟨e, obs.set p (.frame vs env')⟩ Q) : AC C c ⟨e, obs⟩ Q :=
 fun Ω a w hr => h Ω a w (hr.subF hp fun t x hx => ⟨x, keep_get hk hx, SVLe.refl x⟩)

end
end Go.Vm

/- Values of interfaces: they are made, told apart, and their methods called. -/
namespace Go.Vm
set_option linter.unusedVariables false

/-- Type t is no interface. -/
def concT (P : Program) (t : TypeId) : Bool := match P.underlying t with
 | some (.interface _) => false
 | some _ => true
 | none => false
theorem run_makeIfc {P : Program} {t : TypeId} (h : concT P t = true) (x : Value) (w : World) : (Instr.makeInterface t x).run P w = .ok (.iface t x) w := by
 unfold concT at h
 split at h
 ·cases h
 ·rename_i d hd hne
  unfold Instr.makeInterface
  rw [Sem.run_bind, run_underlying hne, Result.andThen_ok]
  split
  ·rename_i q; exact (hd q rfl).elim
  ·rfl
 ·cases h

/-- Does a value of the dynamic type t pass as one of type u? -/
def passT (P : Program) (t u : TypeId) : Option Bool := match P.underlying u with
 | some (.interface want) => match P.info? t with
  | some i => some (Instr.missingMethod want i.methods).isNone
  | none => none
 | some _ => some (t == u)
 | none => none
/-- What an interface's slot holds. -/
def ifcS : SV → Option (TypeId × SV)
 | .ifc t x => some (t, x)
 | .d (.ifc t x) => some (t, .d x)
 | _ => none
theorem RepS.ifcV {w : World} {ok : Nat → Prop} {Ω : List Value} {s x : SV} {t : TypeId} {v : Value} (h : RepS w ok Ω s v) (hs : ifcS s = some (t, x)) : ∃ u, v = .iface t u ∧ RepS w ok Ω x u := by
 cases h with
 | ifc t' y u hy => cases hs; exact ⟨u, rfl, hy⟩
 | d y u hd =>
  cases hd with
  | ifc t' y' u' h' => cases hs; exact ⟨u', rfl, .d _ _ h'⟩
  | _ => cases hs
 | _ => cases hs

/-! ### methods -/
theorem fieldOff_spec {P : Program} {t i k : Nat} (h : fieldOff P t i = some k) : ∃ (fs : Array Field) (f : Field) (j : TypeInfo), P.underlying t = some (.struct fs) ∧ fs[i]? = some f ∧ P.info? f.type = some j ∧ ¬ j.size = 0 ∧ f.offset = k := by
 unfold fieldOff at h
 split at h
 ·rename_i fs hu
  split at h
  ·rename_i f hf
   split at h
   ·rename_i j hj
    split at h
    ·cases h
    ·rename_i hs; cases h; exact ⟨fs, f, j, hu, hf, hj, hs, rfl⟩
   ·cases h
  ·cases h
 ·cases h
def fieldTy (P : Program) (t : TypeId) (i : Nat) : Option TypeId := match P.underlying t with
 | some (.struct fs) => (fs[i]?).map (·.type)
 | _ => none
/-- The place of an embedded part, behind a pointer: its type and its distance. -/
def stepsT (P : Program) : List FieldStep → TypeId → Nat → Option (TypeId × Nat)
 | [], t, k => some (t, k)
 | s :: r, _, k => if s.deref then none else match fieldOff P s.struct s.index, fieldTy P s.struct s.index with
  | some j, some u => stepsT P r u (k + j)
  | _, _ => none
theorem run_steps {P : Program} : ∀ (l : List FieldStep) (t : TypeId) (k : Nat) {u : TypeId} {j : Nat} (b off : Nat) (w : World), stepsT P l t k = some (u, j) →
  (follow l t (.var ⟨b, off + k, none⟩)).run P w = .ok (u, .var ⟨b, off + j, none⟩) w
 | [], t, k, u, j, b, off, w, h => by cases h; rfl
 | s :: r, t, k, u, j, b, off, w, h => by
  simp only [stepsT] at h
  split at h
  ·cases h
  ·rename_i hd
   split at h
   ·rename_i j' u' h1 h2
    obtain ⟨fs, f, i, hu, hf, hi, hs, ho⟩ := fieldOff_spec h1
    have hty : u' = f.type := by
     unfold fieldTy at h2
     rw [hu] at h2
     simp only [hf, Option.map_some] at h2
     exact (Option.some.inj h2).symm
    subst hty
    have ih := run_steps r f.type (k + j') b off w h
    have e : off + k + f.offset = off + (k + j') := by omega
    unfold follow
    simp only [Sem.run_bind, run_underlying hu, Result.andThen_ok, hf, hd, Bool.false_eq_true, if_false, fieldPlace, sizeOf, typeInfo, run_program, hi, Sem.run_pure, hs, Addr.add_of, e]
    exact ih
   ·cases h
/-- The function that a method's name leads to, and how the receiver is found: itself, or so far behind the pointer. -/
def methT (P : Program) (t : TypeId) (name : String) : Option (FuncId × Option Nat) :=
 if P.types.size + Made.depth = 0 then none else
 match P.info? t with
 | some i => match i.methods.find? (·.name == name) with
  | some m => match m.func with
   | some (f, pr) => match m.path.toList with
    | [] => match P.underlying t with
     | some (.pointer _) => if pr then some (f, none) else none
     | some _ => if pr then none else some (f, none)
     | none => none
    | s :: r => if s.deref && pr then match fieldOff P s.struct s.index, fieldTy P s.struct s.index with
      | some k, some u => match stepsT P r u k with
       | some (u2, j) => match P.underlying u2 with
        | some (.pointer _) => none
        | some _ => some (f, some j)
        | none => none
       | none => none
      | _, _ => none
     else none
   | none => none
  | none => none
 | none => none
/-- The receiver. -/
def recvS (sv : SV) : Option Nat → Option SV
 | none => some sv
 | some k => match sv with
  | .ptr o off => some (.ptr o (off + k))
  | .d (.pt cells) => some (.ep cells k)
  | .ep cells i => some (.ep cells (i + k))
  | _ => none
theorem run_method {P : Program} {t : TypeId} {name : String} {f : FuncId} {how : Option Nat} (h : methT P t name = some (f, how)) {w : World} {ok : Nat → Prop} {Ω : List Value} {sv rv : SV} {v : Value} (hv : RepS w ok Ω sv v) (hr : recvS sv how = some rv) (w' : World) :
  ∃ u, (method (P.types.size + Made.depth) t v name).run P w' = .ok (f, u) w' ∧ RepS w ok Ω rv u := by
 unfold methT at h
 split at h
 ·cases h
 ·rename_i hfuel
  obtain ⟨n, hn⟩ : ∃ n, P.types.size + Made.depth = n + 1 := ⟨P.types.size + Made.depth - 1, by omega⟩
  rw [hn]
  split at h
  ·rename_i i hi
   split at h
   ·rename_i m hm
    split at h
    ·rename_i f' pr hfn
     split at h
     ·rename_i hpath
      -- the value itself
      have key : ∀ d, P.underlying t = some d → (∀ q, d = .pointer q → pr = true) → ((∀ q, d ≠ .pointer q) → pr = false) → f' = f → how = none → ∃ u, (method (n + 1) t v name).run P w' = .ok (f, u) w' ∧ RepS w ok Ω rv u := by
       intro d hd hp hnp hf hh
       subst hf hh
       cases hr
       refine ⟨v, ?_, hv⟩
       unfold method
       simp only [Sem.run_bind, typeInfo, run_program, hi, Result.andThen_ok, Sem.run_pure, hm, hpath, follow, hfn, receiverAt, run_underlying hd]
       cases d with
       | pointer q => rw [hp q rfl]; rfl
       | _ => rw [hnp (fun q e => by cases e)]; rfl
      split at h
      ·rename_i q hd
       split at h
       ·rename_i hpr; cases h
        exact key _ hd (fun _ _ => hpr) (fun hc => absurd rfl (hc q)) rfl rfl
       ·cases h
      ·rename_i d hne hd
       split at h
       ·cases h
       ·rename_i hpr; cases h
        exact key _ hd (fun q e => (hne q e).elim) (fun _ => by simpa using hpr) rfl rfl
      ·cases h
     ·rename_i s r hpath
      split at h
      ·rename_i hsd
       rw [Bool.and_eq_true] at hsd
       obtain ⟨hder, hpr⟩ := hsd
       split at h
       ·rename_i k u1 h1 h2
        split at h
        ·rename_i u2 j hst
         obtain ⟨fs, fl, i1, hu, hf, hi1, hs, ho⟩ := fieldOff_spec h1
         have hty : u1 = fl.type := by
          unfold fieldTy at h2
          rw [hu] at h2
          simp only [hf, Option.map_some] at h2
          exact (Option.some.inj h2).symm
         subst hty
         -- the address
         have haddr : f' = f ∧ how = some j ∧ (∃ d, P.underlying u2 = some d ∧ ∀ q, d ≠ .pointer q) := by
          split at h
          ·cases h
          ·rename_i d hne hd; cases h; exact ⟨rfl, rfl, _, hd, fun q e => hne q e⟩
          ·cases h
         obtain ⟨rfl, rfl, d, hd, hdn⟩ := haddr
         have fin : ∀ b off, v = .pointer (some ⟨b, off, none⟩) → (method (n + 1) t v name).run P w' = .ok (f', .pointer (some ⟨b, off + j, none⟩)) w' := by
          intro b off hvv
          subst hvv
          have hrun := run_steps r fl.type k b off w' hst
          have e : off + fl.offset = off + k := by omega
          unfold method
          simp only [Sem.run_bind, typeInfo, run_program, hi, Result.andThen_ok, Sem.run_pure, hm, hpath, follow, run_underlying hu, hf, hder, if_true, Place.get, asAddr, fieldPlace, sizeOf, hi1, hs, if_false, Addr.add_of, e, hrun, hfn, receiverAt, run_underlying hd, hpr]
          all_goals (cases d <;> first | rfl | exact absurd rfl (hdn _))
         cases hv with
         | ptr o off b hb => cases hr; exact ⟨_, fin b off rfl, .ptr o _ b hb⟩
         | ptrG o off b len cap hb => cases hr; exact ⟨_, fin b off rfl, .ptrG o _ b len cap hb⟩
         | ep b off i2 cells vals hb hc hrr =>
          cases hr
          refine ⟨_, fin b (off + i2) rfl, ?_⟩
          rw [Nat.add_assoc]
          exact .ep b off (i2 + j) cells vals hb hc hrr
         | d y u hyd =>
          cases hyd with
          | pt b off cells vals hb hc hrr => cases hr; exact ⟨_, fin b off rfl, .ep b off j cells vals hb hc hrr⟩
          | _ => cases hr
         | _ => cases hr
        ·cases h
       ·cases h
      ·cases h
    ·cases h
   ·cases h
  ·cases h

section
variable {C : Ctx} {Q : Exit → St → Prop} {ops : Array Oper} {rest : List Oper} {o : Oper} {e : List (Nat × SV)} {obs : List Ob} {d : Nat}
theorem AOp.makeIfc {t : TypeId} {x : Operand} {sv : SV} (ho : o.op = .makeInterface t x) (hd : o.dst = some d) (hn : d < C.n) (hx : opS ⟨e, obs⟩ x = some sv) (ht : concT C.P t = true)
  (h : AO C ops rest ⟨(d, .ifc t sv) :: e, obs⟩ Q) : AOp C ops rest o ⟨e, obs⟩ Q :=
 AOp.value hd hn (fun Ω a w hr => ⟨_, by simp only [execOp, ho, run_makeIfc ht, Sem.run_bind, Result.andThen_ok, Sem.run_pure], .ifc t _ _ (hr.eval hx)⟩) h
/-- The operation enters function f with what ys stand for. -/
def EntersS (C : Ctx) (o : Oper) (s : St) (f : FuncId) (ys : List SV) : Prop := ∀ Ω a w, Rel C s Ω a w → ∃ vs : List Value, (execOp a.eval o).run C.P w = .ok (.enter f vs.toArray) w ∧ vs.length = ys.length ∧
 ∀ (i : Nat) y v, ys[i]? = some y → vs[i]? = some v → RepS w (okB C s.obs Ω w) Ω y v
theorem EntersS.call {f : FuncId} {xs : List Operand} {ts : Array TypeId} {ys : List SV} (he : enters C.P f = true) (ho : o.op = .call { callee := .value (.func f), args := xs.toArray, argTypes := ts }) (hx : mapO (opS ⟨e, obs⟩) xs = some ys) : EntersS C o ⟨e, obs⟩ f ys := fun Ω a w hr => by
 obtain ⟨hlen, hi⟩ := mapO_get hx
 refine ⟨xs.map a.eval, by rw [run_call he ho, List.map_toArray], by simp [hlen], fun i y v hy hv => ?_⟩
 simp only [List.getElem?_map, Option.map_eq_some_iff] at hv
 obtain ⟨x, hxi, rfl⟩ := hv
 exact hr.eval (hi i x y hxi hy)
theorem EntersS.meth {x : Operand} {name : String} {xs : List Operand} {ts : Array TypeId} {ys : List SV} {f : FuncId} {t : TypeId} {how : Option Nat} {sv y rv : SV} (he : enters C.P f = true) (ho : o.op = .call { callee := .invoke x name, args := xs.toArray, argTypes := ts }) (hr0 : opS ⟨e, obs⟩ x = some sv)
  (hs : ifcS sv = some (t, y)) (hm : methT C.P t name = some (f, how)) (hrv : recvS y how = some rv) (hx : mapO (opS ⟨e, obs⟩) xs = some ys) : EntersS C o ⟨e, obs⟩ f (rv :: ys) := fun Ω a w hr => by
 obtain ⟨hlen, hi⟩ := mapO_get hx
 obtain ⟨v, hv, hrep⟩ := (hr.eval hr0).ifcV hs
 obtain ⟨u, hu, hru⟩ := run_method hm hrep hrv w
 refine ⟨u :: xs.map a.eval, ?_, by simp [hlen], fun i z q hz hq => ?_⟩
 ·have e1 : (#[Value.iface t v] ++ (xs.map a.eval).toArray).extract 1 (#[Value.iface t v] ++ (xs.map a.eval).toArray).size = (xs.map a.eval).toArray := by
   simp
   exact List.take_of_length_le (by simp)
  have e2 : (#[Value.iface t v] ++ (xs.map a.eval).toArray)[0]? = some (Value.iface t v) := by simp
  simp only [execOp, ho, resolve, Sem.run_bind, Sem.run_pure, Result.andThen_ok, invoke, List.map_toArray, hv, e1, e2, callMethod, run_program, hu, run_enters he]
  simp
 ·cases i with
  | zero => simp at hz hq; subst hz; subst hq; exact hru
  | succ i =>
   simp only [List.getElem?_cons_succ, List.getElem?_map, Option.map_eq_some_iff] at hz hq
   obtain ⟨x, hxi, rfl⟩ := hq
   exact hr.eval (hi i x z hxi hz)

/-- A call into a function's body; ks: the caller's slots that are kept. -/
theorem AOp.inlE {f : FuncId} {fn : Func} {c : Code} {ys : List SV} {n : Nat} {rs : List ResultVar} {e1 : List (Nat × SV)} (ks : List Nat) (hE : EntersS C o ⟨e, obs⟩ f ys) (hf : C.P.funcs[f]? = some fn) (hb : fn.body = some c) (hnt : fn.ntmps = n) (hrs : fn.results = rs.toArray)
  (hdn : match o.dst with | some d => d < C.n | none => True) (hl : ys.length ≤ n) (hk : Vm.keep ks e = some e1)
  (h : ∀ vs, AC (C.sub n) c ⟨enumS 0 ys, obs ++ [.frame vs e1]⟩ (InlQ C ops rest o.dst rs obs.length vs Q)) : AOp C ops rest o ⟨e, obs⟩ Q := fun Ω a w hr => by
 obtain ⟨zs, hrun, hlen, hi⟩ := hE Ω a w hr
 subst hnt
 have hrl : fn.results.toList = rs := by rw [hrs]
 unfold Oper.wp
 rw [hrun, Oper.upon_enter]
 obtain ⟨hm, hok⟩ := hr.mem.frame a.tmps e1 (fun t x hx => hr.env t x (keep_get hk hx))
 refine (calls_of_wp hf hb (R := fun ed w' => ∃ (v : Value) (s : St) (Ω' : List Value), ed = .returned v ∧ Mem C s.obs Ω' w' ∧ ∃ r e', RepS w' (okB C s.obs Ω' w') Ω' r v ∧ s.obs[obs.length]? = some (.frame a.tmps e') ∧ AO C ops rest ⟨putO o.dst r e', s.obs.set obs.length .dead⟩ Q) ?_).mono fun ed w' ⟨v, s, Ω', hed, hm', r, e', hrep, hfr, hao⟩ => ?_
 ·have hrel : Rel (C.sub fn.ntmps) ⟨enumS 0 ys, obs ++ [.frame a.tmps e1]⟩ (Ω ++ [undef]) { tmps := zs.toArray ++ Array.replicate (fn.ntmps - zs.toArray.size) undef, defers := [] } w := by
   refine ⟨rfl, by simp; omega, fun t x hx => ?_, hm.ctx⟩
   obtain ⟨_, hy⟩ := enumS_get ys 0 t x hx
   rw [Nat.sub_zero] at hy
   have hlt := (List.getElem?_eq_some_iff.1 hy).1
   have hzt : zs[t]? = some zs[t] := List.getElem?_eq_getElem (by omega)
   refine ⟨zs[t], ?_, ?_⟩
   ·rw [Array.getElem?_append_left (by simp; omega)]
    simp
   ·exact (hi t _ _ hy hzt).mono (fun b hb => ⟨hok b hb, rfl⟩) (fun o v e => get_left e)
  refine wp_mono (h a.tmps _ _ w hrel) fun ed a' w' ⟨s, Ω', hr', hq⟩ => ?_
  have fin : (∃ r e', resS C.P s rs = some r ∧ s.obs[obs.length]? = some (.frame a.tmps e') ∧ AO C ops rest ⟨putO o.dst r e', s.obs.set obs.length .dead⟩ Q) →
    a'.defers = [] ∧ ∃ v, (results fn a'.tmps).run C.P w' = .ok v w' ∧ ∃ (v_1 : Value) (s : St) (Ω' : List Value), Ending.returned v = Ending.returned v_1 ∧ Mem C s.obs Ω' w' ∧ ∃ r e', RepS w' (okB C s.obs Ω' w') Ω' r v_1 ∧ s.obs[obs.length]? = some (.frame a.tmps e') ∧ AO C ops rest ⟨putO o.dst r e', s.obs.set obs.length .dead⟩ Q := by
   intro ⟨r, e', hres, hfr, hao⟩
   rw [← hrl] at hres
   obtain ⟨v, hv, hrep⟩ := resS_rep hr' hres
   exact ⟨hr'.defers, v, hv, v, s, Ω', rfl, hr'.mem.ctx', r, e', hrep, hfr, hao⟩
  cases ed with
  | normal => exact fin hq
  | ret => exact fin hq
  | _ => exact hq.elim
 ·subst hed
  obtain ⟨hmk, hokk⟩ := hm'.kill obs.length
  obtain ⟨hh, hΩh⟩ : ∃ h, Ω'[obs.length]? = some h := ⟨_, List.getElem?_eq_getElem (by have := (List.getElem?_eq_some_iff.1 hfr).1; have := hm'.len; omega)⟩
  have hF := hm'.obj _ _ _ hfr hΩh
  have hbase : Rel C ⟨e', s.obs.set obs.length .dead⟩ Ω' a w' :=
   ⟨hr.defers, hr.size, fun t x hx => let ⟨v, hv, hrp⟩ := hF.2 t x hx; ⟨v, hv, hrp.mono (fun b hb => ⟨hokk b hb, rfl⟩) (fun _ _ e => e)⟩, hmk⟩
  cases hd : o.dst with
  | none =>
   rw [hd] at hao
   exact hao Ω' _ w' hbase
  | some d =>
   rw [hd] at hao hdn
   exact hao Ω' _ w' (hbase.put hdn (hrep.mono (fun b hb => ⟨hokk b hb, rfl⟩) (fun _ _ e => e)))

/-- A call with data, of whatever kind. -/
theorem AOp.callE {f : FuncId} {ys : List D} {zs : List SV} {R : D → Prop} (hE : EntersS C o ⟨e, obs⟩ f zs) (hd : o.dst = some d) (hn : d < C.n) (hm : C.may = C.may)
  (hx : mapO (dataS 9) zs = some ys) (hF : FnD C.P f ys R) (h : ∀ r, R r → AO C ops rest ⟨(d, .d r) :: e, obs⟩ Q) : AOp C ops rest o ⟨e, obs⟩ Q := fun Ω a w hr => by
 obtain ⟨hl, hi⟩ := mapO_get hx
 obtain ⟨vs, hrun, hlen, hv⟩ := hE Ω a w hr
 unfold Oper.wp
 rw [hrun, Oper.upon_enter]
 refine (hF.2 w (okB C obs Ω w) vs (hr.mem.fr.holds hm) (fun b hb => hb.2.1) (by omega) fun i y v hy hvi => ?_).mono fun ed w' ⟨v, r, he, hR, hb, hrep⟩ => ?_
 ·have hlt := (List.getElem?_eq_some_iff.1 hy).1
  have hz : zs[i]? = some zs[i] := List.getElem?_eq_getElem (by omega)
  exact dataS_rep 9 (hi i _ _ hz hy) (hv i _ _ hz hvi)
 ·subst he
  rw [hd]
  refine h r hR Ω _ w' ((hr.below hb).put hn (.d _ _ (hrep.mono fun b hk => ⟨?_, rfl⟩)))
  rcases hk.1 with hk1 | hk1
  ·exact ((hr.mem.below hb).2 b hk1).1
  ·refine ⟨.inr (.inl (Nat.le_trans hr.mem.fr.size hk1)), hk.2, fun o' ob k e1 l e2 hbk => ?_⟩
   have := (hr.mem.obj o' ob k e1 e2).lt l hbk
   omega
end
/-- Is it a pointer, and the nil one? -/
def isNilP : SV → Option Bool
 | .ptr _ _ => some false
 | .ep _ _ => some false
 | .d (.pt _) => some false
 | .d (.v (.pointer none)) => some true
 | _ => none
section
variable {C : Ctx} {Q : Exit → St → Prop} {ops : Array Oper} {rest : List Oper} {o : Oper} {e : List (Nat × SV)} {obs : List Ob} {d : Nat} {t ty : TypeId} {x y : Operand}
/-- The type of what a package variable holds. -/
def errT (W : World) (g : Nat) : TypeId := match W.cell? ⟨g, 0, none⟩ with
 | some (.iface t _) => t
 | _ => 0
theorem AOp.ifcNeq {sv y : SV} {u : TypeId} (ho : o.op = .binOp .neq t x (.const .nilIface) ty) (hd : o.dst = some d) (hn : d < C.n) (hx : opS ⟨e, obs⟩ x = some sv) (hs : ifcS sv = some (u, y)) (ht : C.P.underlying t = some (.interface (C.P.methodsAt t)))
  (h : AO C ops rest ⟨(d, .d (dbool true)) :: e, obs⟩ Q) : AOp C ops rest o ⟨e, obs⟩ Q :=
 AOp.value hd hn (fun Ω a w hr => by
  obtain ⟨v, hv, _⟩ := (hr.eval hx).ifcV hs
  refine ⟨.bool true, ?_, .d _ _ (.v _)⟩
  have hy : a.eval (.const .nilIface) = .nilIface := rfl
  have hg : eqGuard .neq t x (.const .nilIface) (.iface u v) .nilIface = pure () := rfl
  simp only [execOp, ho, hv, hy, hg, Sem.run_bind, Sem.run_pure, Result.andThen_ok, run_neq_held_nil w t u v ht]) h
theorem AOp.ifcEql {sv y : SV} {u : TypeId} (ho : o.op = .binOp .eql t x (.const .nilIface) ty) (hd : o.dst = some d) (hn : d < C.n) (hx : opS ⟨e, obs⟩ x = some sv) (hs : ifcS sv = some (u, y)) (ht : C.P.underlying t = some (.interface (C.P.methodsAt t)))
  (h : AO C ops rest ⟨(d, .d (dbool false)) :: e, obs⟩ Q) : AOp C ops rest o ⟨e, obs⟩ Q :=
 AOp.value hd hn (fun Ω a w hr => by
  obtain ⟨v, hv, _⟩ := (hr.eval hx).ifcV hs
  refine ⟨.bool false, ?_, .d _ _ (.v _)⟩
  have hy : a.eval (.const .nilIface) = .nilIface := rfl
  have hg : eqGuard .eql t x (.const .nilIface) (.iface u v) .nilIface = pure () := rfl
  simp only [execOp, ho, hv, hy, hg, Sem.run_bind, Sem.run_pure, Result.andThen_ok, run_eql_held_nil w t u v ht]) h
theorem eqGuard_nil (b : BinOp) (t : TypeId) (x : Operand) (P : Program) (w : World) : (eqGuard b t x (.const .nilIface) .nilIface .nilIface).run P w = .ok () w := by
 unfold eqGuard
 cases b <;> simp
theorem AOp.nilNeq (ho : o.op = .binOp .neq t x (.const .nilIface) ty) (hd : o.dst = some d) (hn : d < C.n) (hx : opS ⟨e, obs⟩ x = some (.d (.v .nilIface))) (ht : C.P.underlying t = some (.interface (C.P.methodsAt t)))
  (h : AO C ops rest ⟨(d, .d (dbool false)) :: e, obs⟩ Q) : AOp C ops rest o ⟨e, obs⟩ Q :=
 AOp.value hd hn (fun Ω a w hr => by
  have hv := hr.evalV hx
  refine ⟨.bool false, ?_, .d _ _ (.v _)⟩
  have hy : a.eval (.const .nilIface) = .nilIface := rfl
  simp only [execOp, ho, hv, hy, eqGuard_nil, Sem.run_bind, Sem.run_pure, Result.andThen_ok, run_neq_nil_nil w t ht]) h
theorem AOp.nilEq (ho : o.op = .binOp .eql t x (.const .nilIface) ty) (hd : o.dst = some d) (hn : d < C.n) (hx : opS ⟨e, obs⟩ x = some (.d (.v .nilIface))) (ht : C.P.underlying t = some (.interface (C.P.methodsAt t)))
  (h : AO C ops rest ⟨(d, .d (dbool true)) :: e, obs⟩ Q) : AOp C ops rest o ⟨e, obs⟩ Q :=
 AOp.value hd hn (fun Ω a w hr => by
  have hv := hr.evalV hx
  refine ⟨.bool true, ?_, .d _ _ (.v _)⟩
  have hy : a.eval (.const .nilIface) = .nilIface := rfl
  simp only [execOp, ho, hv, hy, eqGuard_nil, Sem.run_bind, Sem.run_pure, Result.andThen_ok, run_eql_nil_nil w t ht]) h
end
end Go.Vm

/- Functions that give a slice which is new: it becomes one of the caller's own. -/
namespace Go.Vm
set_option linter.unusedVariables false
def D.isV : D → Bool
 | .v _ => true
 | _ => false
theorem isV_map {α : Type} {f : α → D} (hf : ∀ x, (f x).isV = true) (l : List α) : (l.map f).all D.isV = true := by
 rw [List.all_map, List.all_eq_true]
 exact fun x _ => hf x
/-- Function f, called with data args, gives a slice of its own making that holds some cells with R cells; nothing that was there has turned. -/
def FnN (P : Program) (f : FuncId) (args : List D) (el sz : Nat) (R : List D → Prop) : Prop :=
 enters P f = true ∧ ∀ (W : World) (ok : Nat → Prop) (vs : List Value), HoldsG W → (∀ b, ok b → b < W.heap.size) → vs.length = args.length →
  (∀ (i : Nat) x v, args[i]? = some x → vs[i]? = some v → RepD W ok x v) →
  Calls P f vs.toArray W fun e w' => ∃ v cells n xs, e = .returned v ∧ R cells ∧ RowKit.Below W.heap.size W w' ∧ w'.ownsRow 0 el sz v n xs ∧ (∀ b, blk v = some b → W.heap.size ≤ b) ∧ xs.length = cells.length ∧
   ∀ (i : Nat) x y, cells[i]? = some x → xs[i]? = some y → x = .v y
def RetN (rs : List ResultVar) (el sz : Nat) (R : List D → Prop) : Exit → St → Prop
 | .normal, s => ∃ t p cells, rs = [.tmp t] ∧ get s.env t = some (.own p) ∧ s.obs[p]? = some (.grow el sz cells) ∧ cells.all D.isV = true ∧ R cells
 | .ret, s => ∃ t p cells, rs = [.tmp t] ∧ get s.env t = some (.own p) ∧ s.obs[p]? = some (.grow el sz cells) ∧ cells.all D.isV = true ∧ R cells
 | _, _ => False
theorem FnN.of {P : Program} {f : FuncId} {fn : Func} {c : Code} {args : List D} {el sz : Nat} {R : List D → Prop} {n : Nat} {rs : List ResultVar} (he : enters P f = true) (hf : P.funcs[f]? = some fn) (hb : fn.body = some c) (hnt : fn.ntmps = n) (hrs : fn.results = rs.toArray) (hn : args.length ≤ n)
  (h : ∀ (W : World) (ok : Nat → Prop), AC ⟨P, W, ok, [], n, []⟩ c ⟨enumD 0 args, []⟩ (RetN rs el sz R)) : FnN P f args el sz R := by
 subst hnt
 refine ⟨he, fun W ok vs hG hok hl hrep => calls_of_wp hf hb ?_⟩
 have hrel : Rel ⟨P, W, ok, [], fn.ntmps, []⟩ ⟨enumD 0 args, []⟩ [] { tmps := vs.toArray ++ Array.replicate (fn.ntmps - vs.toArray.size) undef, defers := [] } W := by
  refine ⟨rfl, by simp; omega, fun t x hx => ?_, ⟨rfl, fun o ob h e1 => by simp at e1, fun i j a b p q x _ e1 => by simp at e1, fun o ob p b e1 => by simp at e1, ⟨rfl, rfl, rfl, Nat.le_refl _, fun _ _ _ => rfl, hG, fun b h => by cases h⟩⟩⟩
  obtain ⟨y, rfl, _, hy⟩ := enumD_get args 0 t x hx
  rw [Nat.sub_zero] at hy
  have hlt := (List.getElem?_eq_some_iff.1 hy).1
  have hv : vs[t]? = some vs[t] := List.getElem?_eq_getElem (by omega)
  refine ⟨vs[t], ?_, .d _ _ ((hrep t _ _ hy hv).mono fun b hb => ⟨⟨.inl hb, hok b hb, fun o ob h e1 => by simp at e1⟩, rfl⟩)⟩
  rw [Array.getElem?_append_left (by simp; omega)]
  simp
 refine wp_mono (h W ok _ _ W hrel) fun ed a w ⟨s, Ω, hr, hq⟩ => ?_
 have fin : (∃ t p cells, rs = [.tmp t] ∧ get s.env t = some (.own p) ∧ s.obs[p]? = some (.grow el sz cells) ∧ cells.all D.isV = true ∧ R cells) → a.defers = [] ∧ ∃ v, (results fn a.tmps).run P w = .ok v w ∧
   ∃ v_1 cells n xs, Ending.returned v = Ending.returned v_1 ∧ R cells ∧ RowKit.Below W.heap.size W w ∧ w.ownsRow 0 el sz v_1 n xs ∧ (∀ b, blk v_1 = some b → W.heap.size ≤ b) ∧ xs.length = cells.length ∧
   ∀ (i : Nat) x y, cells[i]? = some x → xs[i]? = some y → x = .v y := by
  intro ⟨t, p, cells, hrt, hg, hp, hV, hR⟩
  obtain ⟨v, hv, hrep⟩ := hr.env t _ hg
  cases hrep with
  | own _ _ hΩ _ =>
   obtain ⟨m, xs, how, hxl, hrr⟩ := hr.mem.obj p _ _ hp hΩ
   refine ⟨hr.defers, v, ?_, v, cells, m, xs, rfl, hR, ⟨hr.mem.fr.os, hr.mem.fr.tape, hr.mem.fr.output, hr.mem.fr.size, fun b hb => hr.mem.fr.block b hb (by simp)⟩, how, fun b hbk => ?_, hxl, fun i x y hx hy => ?_⟩
   ·rw [results_eq, hrs, hrt, List.mapM_toArray]
    have : a.tmps.getD t undef = v := by simp [Array.getD_eq_getD_getElem?, hv]
    simp [resSem, this]
   ·rcases hr.mem.new p _ _ b hp rfl hΩ hbk with h1 | h1
    ·exact h1
    ·simp at h1
   ·have := List.all_eq_true.1 hV x (List.mem_of_getElem? hx)
    have hd := hrr i x y hx hy
    cases x with
    | v u => cases hd; rfl
    | _ => cases this
 cases ed with
 | normal => exact fin hq
 | ret => exact fin hq
 | _ => exact hq.elim
section
variable {C : Ctx} {Q : Exit → St → Prop} {ops : Array Oper} {rest : List Oper} {o : Oper} {e : List (Nat × SV)} {obs : List Ob} {d : Nat}
/-- A call that gives a new slice. -/
theorem AOp.callNew {f : FuncId} {xs : List Operand} {ts : Array TypeId} {ys : List D} {el sz : Nat} {cells : List D} (ho : o.op = .call { callee := .value (.func f), args := xs.toArray, argTypes := ts }) (hd : o.dst = some d) (hn : d < C.n) (hm : C.may = C.may)
  (hx : mapO (argD ⟨e, obs⟩) xs = some ys) (hF : FnN C.P f ys el sz (fun r => r = cells)) (h : AO C ops rest ⟨(d, .own obs.length) :: e, obs ++ [.grow el sz cells]⟩ Q) : AOp C ops rest o ⟨e, obs⟩ Q := fun Ω a w hr => by
 obtain ⟨hl, hi⟩ := mapO_get hx
 unfold Oper.wp
 rw [run_call hF.1 ho, Oper.upon_enter, List.map_toArray]
 refine (hF.2 w (okB C obs Ω w) (xs.map a.eval) (hr.mem.fr.holds hm) (fun b hb => hb.2.1) (by simp [hl]) fun i y v hy hv => ?_).mono fun ed w' ⟨v, cs, n, us, he, hR, hb, how, hblk, hul, hrr⟩ => ?_
 ·simp only [List.getElem?_map, Option.map_eq_some_iff] at hv
  obtain ⟨x, hxi, rfl⟩ := hv
  have := hi i x y hxi hy
  unfold argD at this
  split at this
  ·rename_i z hz
   exact dataS_rep 9 this (hr.eval hz)
  ·cases this
 ·subst he hR
  rw [hd]
  have hrel := hr.begin hb how hblk hul (fun i x y hx hy => by rw [hrr i x y hx hy]; exact .v y)
  have one1 : v.oneCell' = true := by rcases how.2 with ⟨rfl, _⟩ | ⟨g, cap, cur, rfl, _⟩ <;> rfl
  refine h _ _ w' (hrel.put hn (.own _ _ ?_ one1))
  have := hr.mem.len
  dsimp only at this
  rw [this, List.getElem?_append_right (Nat.le_refl _)]; simp
end
end Go.Vm
namespace Go.Vm
set_option linter.unusedVariables false
/-- Function f, called with data args, gives a pointer to a block of its own making that holds some cells with R cells; nothing that was there has turned. -/
def FnA (P : Program) (f : FuncId) (args : List D) (ty : Nat) (R : List D → Prop) : Prop :=
 enters P f = true ∧ ∀ (W : World) (ok : Nat → Prop) (vs : List Value), HoldsG W → (∀ b, ok b → b < W.heap.size) → vs.length = args.length →
  (∀ (i : Nat) x v, args[i]? = some x → vs[i]? = some v → RepD W ok x v) →
  Calls P f vs.toArray W fun e w' => ∃ (b : Nat) (cells : List D) (us : List Value), e = .returned (.pointer (some ⟨b, 0, none⟩)) ∧ R cells ∧ RowKit.Below W.heap.size W w' ∧ W.heap.size ≤ b ∧ w'.heap[b]? = some (.cells us.toArray ty (0, 0)) ∧ us.length = cells.length ∧ (∀ y, y ∈ us → y.oneCell' = true) ∧
   ∀ (i : Nat) x y, cells[i]? = some x → us[i]? = some y → RepD w' (fun k => (ok k ∨ W.heap.size ≤ k) ∧ k < w'.heap.size ∧ k ≠ b) x y
def RetA (rs : List ResultVar) (ty : Nat) (R : List D → Prop) : Exit → St → Prop
 | .normal, s => ∃ t p cells ds, rs = [.tmp t] ∧ get s.env t = some (.ptr p 0) ∧ s.obs[p]? = some (.fix ty cells) ∧ mapO (dataS 9) cells = some ds ∧ R ds
 | .ret, s => ∃ t p cells ds, rs = [.tmp t] ∧ get s.env t = some (.ptr p 0) ∧ s.obs[p]? = some (.fix ty cells) ∧ mapO (dataS 9) cells = some ds ∧ R ds
 | _, _ => False
theorem FnA.of {P : Program} {f : FuncId} {fn : Func} {c : Code} {args : List D} {ty : Nat} {R : List D → Prop} {n : Nat} {rs : List ResultVar} (he : enters P f = true) (hf : P.funcs[f]? = some fn) (hb : fn.body = some c) (hnt : fn.ntmps = n) (hrs : fn.results = rs.toArray) (hn : args.length ≤ n)
  (h : ∀ (W : World) (ok : Nat → Prop), AC ⟨P, W, ok, [], n, []⟩ c ⟨enumD 0 args, []⟩ (RetA rs ty R)) : FnA P f args ty R := by
 subst hnt
 refine ⟨he, fun W ok vs hG hok hl hrep => calls_of_wp hf hb ?_⟩
 have hrel : Rel ⟨P, W, ok, [], fn.ntmps, []⟩ ⟨enumD 0 args, []⟩ [] { tmps := vs.toArray ++ Array.replicate (fn.ntmps - vs.toArray.size) undef, defers := [] } W := by
  refine ⟨rfl, by simp; omega, fun t x hx => ?_, ⟨rfl, fun o ob h e1 => by simp at e1, fun i j a b p q x _ e1 => by simp at e1, fun o ob p b e1 => by simp at e1, ⟨rfl, rfl, rfl, Nat.le_refl _, fun _ _ _ => rfl, hG, fun b h => by cases h⟩⟩⟩
  obtain ⟨y, rfl, _, hy⟩ := enumD_get args 0 t x hx
  rw [Nat.sub_zero] at hy
  have hlt := (List.getElem?_eq_some_iff.1 hy).1
  have hv : vs[t]? = some vs[t] := List.getElem?_eq_getElem (by omega)
  refine ⟨vs[t], ?_, .d _ _ ((hrep t _ _ hy hv).mono fun b hb => ⟨⟨.inl hb, hok b hb, fun o ob h e1 => by simp at e1⟩, rfl⟩)⟩
  rw [Array.getElem?_append_left (by simp; omega)]
  simp
 refine wp_mono (h W ok _ _ W hrel) fun ed a w ⟨s, Ω, hr, hq⟩ => ?_
 have fin : (∃ t p cells ds, rs = [.tmp t] ∧ get s.env t = some (.ptr p 0) ∧ s.obs[p]? = some (.fix ty cells) ∧ mapO (dataS 9) cells = some ds ∧ R ds) → a.defers = [] ∧ ∃ v, (results fn a.tmps).run P w = .ok v w ∧
   ∃ (b : Nat) (cells : List D) (us : List Value), Ending.returned v = Ending.returned (.pointer (some ⟨b, 0, none⟩)) ∧ R cells ∧ RowKit.Below W.heap.size W w ∧ W.heap.size ≤ b ∧ w.heap[b]? = some (.cells us.toArray ty (0, 0)) ∧ us.length = cells.length ∧ (∀ y, y ∈ us → y.oneCell' = true) ∧
   ∀ (i : Nat) x y, cells[i]? = some x → us[i]? = some y → RepD w (fun k => (ok k ∨ W.heap.size ≤ k) ∧ k < w.heap.size ∧ k ≠ b) x y := by
  intro ⟨t, p, cells, ds, hrt, hg, hp, hV, hR⟩
  obtain ⟨v, hv, hrep⟩ := hr.env t _ hg
  obtain ⟨b, vs', hΩ, hw, hvl, hrr, h1, hvb⟩ : ∃ (b : Nat) (vs' : List Value), Ω[p]? = some (.pointer (some ⟨b, 0, none⟩)) ∧ w.heap[b]? = some (.cells vs'.toArray ty (0, 0)) ∧ vs'.length = cells.length ∧
    (∀ (i : Nat) x y, cells[i]? = some x → vs'[i]? = some y → RepS w (okB _ s.obs Ω w) Ω x y) ∧ (∀ y, y ∈ vs' → y.oneCell' = true) ∧ v = .pointer (some ⟨b, 0, none⟩) := by
   obtain ⟨b, vs', hev, hΩ, hw, hl', hrr', h1'⟩ := hr.fix hp hrep
   exact ⟨b, vs', hΩ, hw, hl', hrr', h1', by rw [hev]⟩
  subst hvb
  obtain ⟨hdl, hdi⟩ := mapO_get hV
  refine ⟨hr.defers, _, ?_, b, ds, vs', rfl, hR, ⟨hr.mem.fr.os, hr.mem.fr.tape, hr.mem.fr.output, hr.mem.fr.size, fun b hb => hr.mem.fr.block b hb (by simp)⟩, ?_, hw, by omega, h1, fun i x y hx hy => ?_⟩
  ·rw [results_eq, hrs, hrt, List.mapM_toArray]
   have : a.tmps.getD t undef = .pointer (some ⟨b, 0, none⟩) := by simp [Array.getD_eq_getD_getElem?, hv]
   simp [resSem, this]
  ·rcases hr.mem.new p _ _ b hp rfl hΩ rfl with h1 | h1
   ·exact h1
   ·simp at h1
  ·have hil : i < cells.length := by have := (List.getElem?_eq_some_iff.1 hx).1; omega
   have hci : cells[i]? = some cells[i] := List.getElem?_eq_getElem hil
   have hd := hdi i _ _ hci hx
   exact (dataS_rep 9 hd (hrr i _ y hci hy)).mono fun k hk => ⟨⟨hk.1.elim .inl (fun h => h.elim .inr (fun h => by cases h)), hk.2.1, fun e => hk.2.2 p _ _ hp rfl hΩ (by rw [e]; rfl)⟩, rfl⟩
 cases ed with
 | normal => exact fin hq
 | ret => exact fin hq
 | _ => exact hq.elim
section
variable {C : Ctx} {Q : Exit → St → Prop} {ops : Array Oper} {rest : List Oper} {o : Oper} {e : List (Nat × SV)} {obs : List Ob} {d : Nat}
theorem AC.dec {c : Code} {s : St} (b : Bool) (hy : b = true → AC C c s Q) (hn : b = false → AC C c s Q) : AC C c s Q := by
 cases b with
 | true => exact hy rfl
 | false => exact hn rfl
/-- A pointer to a block of the call's own becomes data; the block is forgotten. -/
theorem Rel.freezePt {Ω : List Value} {a : Act} {w : World} (hr : Rel C ⟨e, obs⟩ Ω a w) (hm : C.may = C.may) {t p off ty : Nat} {cells : List SV} {ds : List D} (hx : get e t = some (.ptr p off)) (hp : obs[p]? = some (.fix ty cells))
  (hc : cells = ds.map .d) (hoff : off ≤ ds.length) :
  Rel C ⟨(t, .d (.pt (ds.drop off))) :: e, obs.set p .dead⟩ Ω a w := by
 subst hc
 obtain ⟨hmem, hok⟩ := hr.mem.kill p
 have mono : ∀ {z : SV} {u : Value}, RepS w (okB C obs Ω w) Ω z u → RepS w (okB C (obs.set p .dead) Ω w) Ω z u := fun h => h.mono (fun b hb => ⟨hok b hb, rfl⟩) (fun _ _ e => e)
 refine ⟨hr.defers, hr.size, fun q z hq => ?_, hmem⟩
 simp only [get] at hq
 split at hq
 ·rename_i h; subst h; cases hq
  obtain ⟨v, hv, hrep⟩ := hr.env t _ hx
  obtain ⟨b, vs, hev, hΩ, hw, hvl, hvr, _⟩ := hr.fix hp hrep
  refine ⟨v, hv, .d _ _ ?_⟩
  rw [hev]
  rw [List.length_map] at hvl
  refine .pt _ _ _ (fun i => vs.getD (off + i) undef) ⟨?_, (Array.getElem?_eq_some_iff.1 hw).1, fun i ob k e1 l e2 => ?_⟩ (fun i hi => ?_) (fun i x hx => ?_)
  ·rcases hr.mem.new p _ _ b hp rfl hΩ rfl with h | h
   ·exact .inr (.inl h)
   ·exact .inr (.inr h)
  ·rcases get_set e1 with ⟨rfl, rfl, _⟩ | ⟨hi, e1⟩
   ·cases l
   ·exact hr.mem.sep p i _ _ _ _ b (Ne.symm hi) hp e1 rfl l hΩ e2 rfl
  ·rw [List.length_drop] at hi
   rw [cell_of_row w b (off + i) _ ty (0, 0) hw]
   have : off + i < vs.length := by omega
   simp [this]
  ·rw [List.getElem?_drop] at hx
   have hi := (List.getElem?_eq_some_iff.1 hx).1
   have hv : vs[off + i]? = some (vs.getD (off + i) undef) := by rw [List.getD_eq_getElem?_getD, List.getElem?_eq_getElem (by omega)]; rfl
   exact (mono (hvr (off + i) (.d x) _ (by rw [List.getElem?_map, hx]; rfl) hv)).isD
 ·obtain ⟨v, hv, hrep⟩ := hr.env q z hq
  exact ⟨v, hv, mono hrep⟩
theorem AO.freezeP {l : List Oper} (t p : Nat) {off ty : Nat} {cells : List SV} {ds : List D} (hm : C.may = C.may) (hx : get e t = some (.ptr p off)) (hp : obs[p]? = some (.fix ty cells))
  (hc : cells = ds.map .d) (hoff : off ≤ ds.length) (h : AO C ops l ⟨(t, .d (.pt (ds.drop off))) :: e, obs.set p .dead⟩ Q) : AO C ops l ⟨e, obs⟩ Q := fun Ω a w hr => h _ a w (hr.freezePt hm hx hp hc hoff)
theorem AC.freezeP {c : Code} (t p : Nat) {off ty : Nat} {cells : List SV} {ds : List D} (hm : C.may = C.may) (hx : get e t = some (.ptr p off)) (hp : obs[p]? = some (.fix ty cells))
  (hc : cells = ds.map .d) (hoff : off ≤ ds.length) (h : AC C c ⟨(t, .d (.pt (ds.drop off))) :: e, obs.set p .dead⟩ Q) : AC C c ⟨e, obs⟩ Q := fun Ω a w hr => h _ a w (hr.freezePt hm hx hp hc hoff)
end
end Go.Vm

/- What the row's condition on package variables tells of their cells. -/
namespace Go.Vm
open Go.Lib
theorem cell_lt {W : World} {g i : Nat} {v : Value} (h : W.cell? ⟨g, i, none⟩ = some v) : g < W.heap.size := by
 unfold World.cell? at h
 simp only at h
 rcases Nat.lt_or_ge g W.heap.size with h1 | h1
 ·exact h1
 ·rw [Array.getElem?_eq_none h1] at h; simp at h
end Go.Vm

/- Panics that are recovered: a function that panics; one that defers a closure, which recovers. -/
set_option linter.unusedVariables false
namespace Go.Vm
/-- A panic that is under way: with a value, not nil. -/
def PanC (ch : List PanicEntry) : Prop := ∃ t u, ch = [{ v := .iface t u, recovered := false }]
/-- Function f, called with data args, panics; nothing that was there has turned. -/
def FnP (P : Program) (f : FuncId) (args : List D) : Prop :=
 enters P f = true ∧ ∀ (W : World) (ok : Nat → Prop) (vs : List Value), HoldsG W → (∀ b, ok b → b < W.heap.size) → vs.length = args.length →
  (∀ (i : Nat) x v, args[i]? = some x → vs[i]? = some v → RepD W ok x v) →
  Calls P f vs.toArray W fun e w' => (∃ ch, e = .panicked ch ∧ PanC ch) ∧ RowKit.Below W.heap.size W w'
def PanQ : Exit → St → Prop
 | .panic ch, s => PanC ch
 | _, _ => False
theorem rel_start {P : Program} {n : Nat} {args : List D} {W : World} {ok : Nat → Prop} {vs : List Value} (hn : args.length ≤ n) (hG : HoldsG W) (hok : ∀ b, ok b → b < W.heap.size) (hl : vs.length = args.length)
  (hrep : ∀ (i : Nat) x v, args[i]? = some x → vs[i]? = some v → RepD W ok x v) : Rel ⟨P, W, ok, [], n, []⟩ ⟨enumD 0 args, []⟩ [] { tmps := vs.toArray ++ Array.replicate (n - vs.toArray.size) undef, defers := [] } W := by
 refine ⟨rfl, by simp; omega, fun t x hx => ?_, ⟨rfl, fun o ob h e1 => by simp at e1, fun i j a b p q x _ e1 => by simp at e1, fun o ob p b e1 => by simp at e1, ⟨rfl, rfl, rfl, Nat.le_refl _, fun _ _ _ => rfl, hG, fun b h => by cases h⟩⟩⟩
 obtain ⟨y, rfl, _, hy⟩ := enumD_get args 0 t x hx
 rw [Nat.sub_zero] at hy
 have hlt := (List.getElem?_eq_some_iff.1 hy).1
 have hv : vs[t]? = some vs[t] := List.getElem?_eq_getElem (by omega)
 refine ⟨vs[t], ?_, .d _ _ ((hrep t _ _ hy hv).mono fun b hb => ⟨⟨.inl hb, hok b hb, fun o ob h e1 => by simp at e1⟩, rfl⟩)⟩
 rw [Array.getElem?_append_left (by simp; omega)]
 simp
theorem FnP.of {P : Program} {f : FuncId} {fn : Func} {c : Code} {args : List D} {n : Nat} (he : enters P f = true) (hf : P.funcs[f]? = some fn) (hb : fn.body = some c) (hnt : fn.ntmps = n) (hn : args.length ≤ n)
  (h : ∀ (W : World) (ok : Nat → Prop), AC ⟨P, W, ok, [], n, []⟩ c ⟨enumD 0 args, []⟩ PanQ) : FnP P f args := by
 subst hnt
 refine ⟨he, fun W ok vs hG hok hl hrep => calls_of_wp hf hb ?_⟩
 refine wp_mono (h W ok _ _ W (rel_start hn hG hok hl hrep)) fun ed a w ⟨s, Ω, hr, hq⟩ => ?_
 cases ed with
 | panic ch => exact ⟨hr.defers, ⟨ch, rfl, hq⟩, ⟨hr.mem.fr.os, hr.mem.fr.tape, hr.mem.fr.output, hr.mem.fr.size, fun b hb => hr.mem.fr.block b hb (by simp)⟩⟩
 | _ => exact hq.elim
section
variable {C : Ctx} {Q : Exit → St → Prop} {ops : Array Oper} {rest : List Oper} {o : Oper} {e : List (Nat × SV)} {obs : List Ob} {d : Nat}
theorem AOp.panic {x : Operand} {t : TypeId} {y : SV} (ho : o.op = .panic x) (hx : opS ⟨e, obs⟩ x = some (.ifc t y)) (h : ∀ ch, PanC ch → Q (.panic ch) ⟨e, obs⟩) : AOp C ops rest o ⟨e, obs⟩ Q := fun Ω a w hr => by
 have hv := hr.eval hx
 generalize hev : a.eval x = v at hv
 cases hv with
 | ifc _ _ u hu =>
  have r1 : (execOp a.eval o).run C.P w = .halt (.panic (.iface t u)) w := by
   simp only [execOp, ho, hev, Sem.run_bind, run_panic_iface]
   rfl
  unfold Oper.wp
  rw [r1]
  exact ⟨⟨e, obs⟩, Ω, hr, h _ ⟨t, u, rfl⟩⟩
end
/-- The code c, in which function g is deferred; Q vs: what holds behind it, vs being what g has captured. -/
def AWP (C : Ctx) (g : Nat) (c : Code) (s : St) (Q : Array Value → Exit → St → Prop) : Prop :=
 ∀ Ω a w, Rel C s Ω a w → c.wp C.P (fun e a w => ∃ vs, Lift { C with dfs := [⟨.fn (.func g) vs, #[]⟩] } (Q vs) e a w) a w
theorem AWP.seq {C : Ctx} {g : Nat} {x y : Code} {s : St} {Q : Array Value → Exit → St → Prop} (h : AC C x s (fun e s' => e = .normal ∧ AWP C g y s' Q)) : AWP C g (.seq x y) s Q := fun Ω a w hr =>
 wp_seq (wp_mono (h Ω a w hr) fun e a w ⟨s, Ω, hr, he, hq⟩ => by
  subst he
  exact hq Ω a w hr)
/-- The closure is made and deferred; what it has captured is kept in sight. -/
theorem AWP.defer {C : Ctx} {g id d : Nat} {o1 o2 : Oper} {y : Code} {e : List (Nat × SV)} {obs : List Ob} {Q : Array Value → Exit → St → Prop} {caps : List Operand} (hC : C.dfs = []) (h1 : o1.op = .makeFunc (.func g) #[] caps.toArray) (hd : o1.dst = some d) (hn : d < C.n) (hg1 : o1.guard = none)
  (h2 : o2.op = .defer { callee := .value (.tmp d), args := #[], argTypes := #[] }) (hd2 : o2.dst = none) (hg2 : o2.guard = none)
  {cs : List SV} (hcs : mapO (opS ⟨e, obs⟩) caps = some cs) (h : ∀ vs : Array Value, vs.size = caps.length → AC { C with dfs := [⟨.fn (.func g) vs, #[]⟩] } y ⟨e, obs ++ [.frame vs (enumS 0 cs)]⟩ (Q vs)) (hfree : get e d = none) : AWP C g (.seq (.region id [o1, o2].toArray false) y) ⟨e, obs⟩ Q := by
 intro Ω a w hr
 refine wp_seq (wp_region_lit ?_)
 unfold wpList
 rw [if_pos (by simp [Region.wanted, hg1])]
 refine .inl ?_
 have r1 : (execOp a.eval o1).run C.P w = .ok (.value (.func (.func g) #[] (caps.map a.eval).toArray)) w := by
  simp [execOp, h1, Instr.makeFunc]
 unfold Oper.wp
 rw [r1, Oper.upon_value, hd]
 unfold wpList
 rw [if_pos (by simp [Region.wanted, hg2])]
 refine .inl ?_
 have hv : (a.put (some d) (.func (.func g) #[] (caps.map a.eval).toArray)).eval (.tmp d) = .func (.func g) #[] (caps.map a.eval).toArray := by
  have := Act.put_get (a := a) (d := d) (v := .func (.func g) #[] (caps.map a.eval).toArray) (by rw [hr.size]; exact hn)
  simp [Act.eval, Act.put, Array.getD_eq_getD_getElem?, hr.size, hn]
 have r2 : (execOp (a.put (some d) (.func (.func g) #[] (caps.map a.eval).toArray)).eval o2).run C.P w = .ok (.defer ⟨.fn (.func g) (caps.map a.eval).toArray, #[]⟩) w := by
  simp [execOp, h2, resolve, hv, Deferred.ofValue]
 unfold Oper.wp
 rw [r2]
 simp only [Oper.upon, hd2]
 obtain ⟨hl, hi⟩ := mapO_get hcs
 obtain ⟨hm, hok⟩ := hr.mem.frame (caps.map a.eval).toArray (enumS 0 cs) (fun t x hx => by
  obtain ⟨_, hy⟩ := enumS_get cs 0 t x hx
  rw [Nat.sub_zero] at hy
  have hlt := (List.getElem?_eq_some_iff.1 hy).1
  have hxt : caps[t]? = some caps[t] := List.getElem?_eq_getElem (by omega)
  exact ⟨a.eval caps[t], by simp [hxt], hr.eval (hi t _ _ hxt hy)⟩)
 have hrel : Rel { C with dfs := [⟨.fn (.func g) (caps.map a.eval).toArray, #[]⟩] } ⟨e, obs ++ [.frame (caps.map a.eval).toArray (enumS 0 cs)]⟩ (Ω ++ [undef]) { (a.put (some d) (.func (.func g) #[] (caps.map a.eval).toArray)) with defers := ⟨.fn (.func g) (caps.map a.eval).toArray, #[]⟩ :: a.defers } w := by
  refine ⟨by rw [hr.defers, hC], by simp [Act.put, hr.size], fun t x hx => ?_, ⟨hm.len, hm.obj, hm.sep, hm.new, ⟨hm.fr.os, hm.fr.tape, hm.fr.output, hm.fr.size, hm.fr.block, hm.fr.glob, hm.fr.gmay⟩⟩⟩
  obtain ⟨v, hv, hrp⟩ := hr.env t x hx
  refine ⟨v, ?_, hrp.mono (fun b hb => ⟨hok b hb, rfl⟩) (fun o v e => get_left e)⟩
  show (a.put (some d) _).tmps[t]? = some v
  rw [Act.put_get (by rw [hr.size]; exact hn)]
  have : t ≠ d := fun e => by rw [e, hfree] at hx; cases hx
  rw [if_neg (Ne.symm this)]; exact hv
 exact wp_mono (h _ (by simp) _ _ w hrel) fun e a w hq => ⟨_, hq⟩
/-- Behind the closure's end. -/
def EndQ (P : Program) (rs : List ResultVar) (k : Nat) (tm : Array Value) (R : D → Prop) : Exit → St → Prop
 | .normal, s | .ret, s => ∃ r e', s.obs[k]? = some (Ob.frame tm e') ∧ resD P ⟨e', s.obs.set k .dead⟩ rs = some r ∧ R r
 | _, _ => False
/-- Behind a panic: the closure's other code c2 is gone through, its test (slots d0, d1) passed. -/
def CatchQ (C : Ctx) (ng d0 d1 : Nat) (c2 : Code) (rs : List ResultVar) (R : D → Prop) (vs : Array Value) : Exit → St → Prop
 | .panic ch, s => PanC ch ∧ ∃ (k : Nat) (cs : List SV), s.obs[k]? = some (Ob.frame vs (enumS 0 cs)) ∧ (vs.size = cs.length ∧ cs.length ≤ ng) ∧ ∀ tm, AC (C.sub ng) c2 ⟨(d1, .d (dbool true)) :: (d0, .any) :: enumS 0 cs, s.obs ++ [.frame tm s.env]⟩ (EndQ C.P rs s.obs.length tm R)
 | _, _ => False
end Go.Vm

/- Arrays: of the call's own, and as data; loops gone through round by round. -/
set_option linter.unusedVariables false
namespace Go.Vm
/-- A loop, from the head of its body on. -/
def ACL (C : Ctx) (c : Code) (s : St) (Q : Exit → St → Prop) : Prop := ∀ Ω a w, Rel C s Ω a w → ∀ b k cs,
 ∃ e a' w', Lift C Q e a' w' ∧ Arrives C.P (lone (b.at a (.code c :: .inLoop c :: k)) cs w) b k cs e a' w'
def LoopUQ (C : Ctx) (c : Code) (Q : Exit → St → Prop) : Exit → St → Prop
 | .normal, s => ACL C c s Q
 | e, s => Q e s
section
variable {C : Ctx} {s : St} {Q : Exit → St → Prop}
theorem AC.loopU {c : Code} (h : ACL C c s Q) : AC C (.loop c) s Q := fun Ω a w hr b k cs => by
 obtain ⟨e, a', w', hq, harr⟩ := h Ω a w hr b k cs
 exact ⟨e, a', w', hq, .of_steps (.one step_loop) harr⟩
/-- One round of a loop. -/
theorem ACL.round {c : Code} (h : AC C c s (LoopUQ C c Q)) : ACL C c s Q := by
 intro Ω a w hr b k cs
 obtain ⟨e, a₁, w₁, ⟨s₁, Ω₁, hr₁, hq⟩, harr⟩ := h Ω a w hr b (.inLoop c :: k) cs
 cases e with
 | normal =>
  obtain ⟨e₂, a₂, w₂, hq₂, harr₂⟩ := hq Ω₁ a₁ w₁ hr₁ b k cs
  exact ⟨e₂, a₂, w₂, hq₂, .of_steps (Steps.trans harr (.one step_inLoop)) harr₂⟩
 | exit id => exact ⟨_, a₁, w₁, ⟨s₁, Ω₁, hr₁, hq⟩, .pass (x := .inLoop c) rfl (fun _ _ => .inl (by simp)) harr⟩
 | goto l => exact ⟨_, a₁, w₁, ⟨s₁, Ω₁, hr₁, hq⟩, .pass (x := .inLoop c) rfl (fun _ _ => .inl (by simp)) harr⟩
 | ret => exact ⟨_, a₁, w₁, ⟨s₁, Ω₁, hr₁, hq⟩, .pass (x := .inLoop c) rfl (fun _ _ => .inl (by simp)) harr⟩
 | panic ch => exact ⟨_, a₁, w₁, ⟨s₁, Ω₁, hr₁, hq⟩, .pass (x := .inLoop c) rfl (fun _ _ => .inl (by simp)) harr⟩
 | outgrown => exact ⟨_, a₁, w₁, ⟨s₁, Ω₁, hr₁, hq⟩, .pass (x := .inLoop c) rfl (fun _ _ => .inl (by simp)) harr⟩
end
section
variable {C : Ctx} {Q : Exit → St → Prop} {ops : Array Oper} {rest : List Oper} {o : Oper} {e : List (Nat × SV)} {obs : List Ob} {d : Nat}
/-- a[:], a an own array. -/
theorem AOp.sliceArr {t n el sz p off : Nat} {x : Operand} (ho : o.op = .slice t x none none none) (hd : o.dst = some d) (hn : d < C.n) (hx : opS ⟨e, obs⟩ x = some (.ptr p off)) (ht : arrT C.P t = some (n, el, sz)) (hfix : ∃ ty cells, obs[p]? = some (.fix ty cells))
  (h : AO C ops rest ⟨(d, .sl p sz off n n) :: e, obs⟩ Q) : AOp C ops rest o ⟨e, obs⟩ Q :=
 AOp.value hd hn (fun Ω a w hr => by
  obtain ⟨ty, cells, hp⟩ := hfix
  have hv := hr.eval hx
  generalize hev : a.eval x = v at hv
  obtain ⟨b, vs, rfl, hΩ, _⟩ := hr.fix hp hv
  obtain ⟨hu, hs⟩ := arrT_spec ht
  have e1 : C.P.arrayLen t = n := by simp [Program.arrayLen, hu]
  have e2 : C.P.elem t = el := by simp [Program.elem, hu]
  refine ⟨.slice (some ⟨b, off, none⟩) n n, ?_, .sl _ _ _ _ _ b hΩ⟩
  have := run_sliceAt_array_all (P := C.P) w t (⟨b, off, none⟩ : Addr) (by rw [e1, e2]; exact hu)
  simp only [execOp, ho, hev, Option.map_none, Sem.run_bind, this, e1, e2, run_sizeOf hs, Result.andThen_ok, slicedAt, Sem.run_pure]
  have e3 : (if n = 0 then (⟨b, off, none⟩ : Addr) else (⟨b, off, none⟩ : Addr).add (0 * sz)) = ⟨b, off, none⟩ := by
   split
   ·rfl
   ·simp [Addr.add_of]
  rw [e3]; rfl) h
end
section
variable {H : Type} {enc : TypeId × Value → H} {P : Program} {W : World}
end
end Go.Vm

/- Errors in package variables, compared; method values that only are looked at; parts of slices of the call's own; package variables without cells. -/
set_option linter.unusedVariables false
namespace Go.Vm
section
variable {C : Ctx} {Q : Exit → St → Prop} {ops : Array Oper} {rest : List Oper} {o : Oper} {e : List (Nat × SV)} {obs : List Ob} {d : Nat} {t ty : TypeId} {x y : Operand}
/-- What a package variable of one cell holds at first. -/
def errV (W : World) (g : Nat) : Value := (W.cell? ⟨g, 0, none⟩).getD .nilIface
theorem errV_p {W : World} (h : HoldsG W) {g : Nat} (hg : g ∈ GlobsP) : g < W.heap.size ∧ ∃ u a, errV W g = .iface u (.pointer (some a)) ∧ W.cell? ⟨g, 0, none⟩ = some (errV W g) ∧ ErrT u := by
 obtain ⟨h1, u, a, h2, h4⟩ := h.2.2 g hg
 have h3 : errV W g = .iface u (.pointer (some a)) := by unfold errV; rw [h2]; rfl
 exact ⟨h1, u, a, h3, by rw [h3]; exact h2, h4⟩
theorem AOp.loadEV {g : Nat} (ho : o.op = .load t (.global g)) (hd : o.dst = some d) (hn : d < C.n) (hm : C.may = C.may) (ht : aggT C.P t = some false) (hg : g ∈ GlobsP)
  (h : AO C ops rest ⟨(d, .d (.v (errV C.W g))) :: e, obs⟩ Q) : AOp C ops rest o ⟨e, obs⟩ Q :=
 AOp.value hd hn (fun Ω a w hr => by
  obtain ⟨hlt, u, b, hv, hc0, _⟩ := errV_p hr.mem.fr.glob hg
  have hc : w.cell? ⟨g, 0, none⟩ = some (errV C.W g) := by rw [← hc0]; exact cell_heap (hr.mem.fr.block g hlt (fun hb => hr.mem.fr.gmay _ hb (.inr (.inr hg))))
  refine ⟨errV C.W g, ?_, .d _ _ (.v _)⟩
  have hev : a.eval (.global g) = .pointer (some ⟨g, 0, none⟩) := rfl
  simp only [execOp, ho, hev, Instr.loadAt, Instr.sureAddr, Sem.run_bind, Sem.run_pure, Result.andThen_ok, run_load1 ht hc]) h
theorem AOp.errEql {g : Nat} (ho : o.op = .binOp .eql t x (.const .nilIface) ty) (hd : o.dst = some d) (hn : d < C.n) (hx : opS ⟨e, obs⟩ x = some (.d (.v (errV C.W g)))) (hg : g ∈ GlobsP) (ht : C.P.underlying t = some (.interface (C.P.methodsAt t)))
  (h : AO C ops rest ⟨(d, .d (dbool false)) :: e, obs⟩ Q) : AOp C ops rest o ⟨e, obs⟩ Q :=
 AOp.value hd hn (fun Ω a w hr => by
  obtain ⟨hlt, u, b, hv, hc0, _⟩ := errV_p hr.mem.fr.glob hg
  have he := hr.evalV hx
  rw [hv] at he
  refine ⟨.bool false, ?_, .d _ _ (.v _)⟩
  have hy : a.eval (.const .nilIface) = .nilIface := rfl
  have hgd : eqGuard .eql t x (.const .nilIface) (.iface u (.pointer (some b))) .nilIface = pure () := rfl
  simp only [execOp, ho, he, hy, hgd, Sem.run_bind, Sem.run_pure, Result.andThen_ok, run_eql_held_nil w t u (.pointer (some b)) ht]) h
theorem run_sameAddr (P : Program) (w : World) (a : Addr) : (sameAddr a a).run P w = .ok true w := by
 unfold sameAddr
 simp
theorem run_und {P : Program} {u : TypeId} {dd : TypeDesc} (h : P.underlying u = some dd) (w : World) : (underlying u).run P w = .ok dd w := by
 unfold underlying
 simp [h]
theorem run_tyi {P : Program} {u : TypeId} {i : TypeInfo} (h : P.info? u = some i) (w : World) : (typeInfo u).run P w = .ok i w := by
 unfold typeInfo
 simp [h]
theorem run_eql_ptr {P : Program} {t u : TypeId} (hc : cmpP P u = true) (ht : P.underlying t = some (.interface (P.methodsAt t))) (w : World) (a : Addr) :
  (binOp .eql t (.iface u (.pointer (some a))) (.iface u (.pointer (some a)))).run P w = .ok (.bool true) w := by
 unfold cmpP at hc
 split at hc
 ·rename_i i el hi hu
  simp only [Bool.and_eq_true] at hc
  obtain ⟨j, hj⟩ := Option.isSome_iff_exists.1 hc.2
  have h1 : (Op.equalIn 9999 u (.pointer (some a)) (.pointer (some a))).run P w = .ok true w := by
   show (Op.equalIn (9998 + 1) u (.pointer (some a)) (.pointer (some a))).run P w = .ok true w
   unfold Op.equalIn
   by_cases hz : j.size = 0 <;> simp [run_und hu, run_tyi hj, hz, run_sameAddr, sizeOf]
  have h2 : (Op.equal t (.iface u (.pointer (some a))) (.iface u (.pointer (some a)))).run P w = .ok true w := by
   show (Op.equalIn (9999 + 1) t (.iface u (.pointer (some a))) (.iface u (.pointer (some a)))).run P w = .ok true w
   unfold Op.equalIn
   simp [run_und ht, run_tyi hi, hc.1, h1]
  simp [binOp, h2]
 ·cases hc
/-- An error is the one that a package variable holds: itself. -/
theorem AOp.errSame {g : Nat} (ho : o.op = .binOp .eql t x y ty) (hd : o.dst = some d) (hn : d < C.n) (hx : opS ⟨e, obs⟩ x = some (.d (.v (errV C.W g)))) (hy : opS ⟨e, obs⟩ y = some (.d (.v (errV C.W g)))) (hg : g ∈ GlobsP) (hc : ∀ u, ErrT u → cmpP C.P u = true)
  (ht : C.P.underlying t = some (.interface (C.P.methodsAt t))) (h : AO C ops rest ⟨(d, .d (dbool true)) :: e, obs⟩ Q) : AOp C ops rest o ⟨e, obs⟩ Q :=
 AOp.value hd hn (fun Ω a w hr => by
  obtain ⟨hlt, u, b, hv, hc0, hk⟩ := errV_p hr.mem.fr.glob hg
  have he := hr.evalV hx
  have hf := hr.evalV hy
  rw [hv] at he hf
  refine ⟨.bool true, ?_, .d _ _ (.v _)⟩
  have hgd : eqGuard .eql t x y (.iface u (.pointer (some b))) (.iface u (.pointer (some b))) = pure () := rfl
  simp only [execOp, ho, he, hf, hgd, Sem.run_bind, Sem.run_pure, Result.andThen_ok, run_eql_ptr (hc u hk) ht w b]) h
/-- A package variable of a struct without fields. -/
theorem AOp.loadG0 {g : Nat} (ho : o.op = .load t (.global g)) (hd : o.dst = some d) (hn : d < C.n) (ht : aggT C.P t = some true) (hs : sizeT C.P t = some 0)
  (h : AO C ops rest ⟨(d, .ag []) :: e, obs⟩ Q) : AOp C ops rest o ⟨e, obs⟩ Q :=
 AOp.value hd hn (fun Ω a w hr => by
  refine ⟨.agg ([] : List Value).toArray, ?_, .ag _ [] rfl fun i x y hx hy => by simp at hx⟩
  have hev : a.eval (.global g) = .pointer (some ⟨g, 0, none⟩) := rfl
  have := run_loadN (P := C.P) (w := w) (b := g) (off := 0) (vs := []) ht hs rfl (fun j hj => absurd hj (by omega))
  simp only [execOp, ho, hev, Instr.loadAt, Instr.sureAddr, Sem.run_bind, Sem.run_pure, Result.andThen_ok, this]) h
/-- The method is one of the type's own; it is not called through nil. -/
def nilT (P : Program) (t : TypeId) (name : String) : Bool := match P.info? t with
 | some i => match i.methods.find? (·.name == name) with
  | some m => m.path.toList.isEmpty && match m.func with
   | some (_, true) => true
   | some (_, false) => match P.underlying t with
    | some (.pointer _) => false
    | some _ => true
    | none => false
   | none => false
  | none => false
 | none => false
theorem run_nilAhead {P : Program} {t : TypeId} {name : String} (h : nilT P t name = true) (n : Nat) (v : Value) (w : World) : (nilAhead (n + 1) t v name).run P w = .ok (some false) w := by
 unfold nilT at h
 unfold nilAhead
 cases hi : P.info? t with
 | none => simp [hi] at h
 | some i =>
  simp only [hi] at h
  cases hm : i.methods.find? (·.name == name) with
  | none => simp [hm] at h
  | some m =>
   simp only [hm, Bool.and_eq_true] at h
   have hp : m.path.toList = [] := List.isEmpty_iff.1 h.1
   obtain ⟨_, h⟩ := h
   cases hf : m.func with
   | none => simp [hf] at h
   | some fp =>
    obtain ⟨f, pr⟩ := fp
    cases pr with
    | true => simp [run_tyi hi, hm, hp, hf, followBlind]
    | false =>
     simp only [hf] at h
     cases hu : P.underlying t with
     | none => simp [hu] at h
     | some dd =>
      simp only [hu] at h
      cases dd <;> first | (simp at h; done) | simp [run_tyi hi, hm, hp, hf, followBlind, run_und hu]
/-- x.name, as a value that only is looked at: whether x is nil. -/
theorem AOp.makeMeth {name : String} {sv : SV} (ho : o.op = .makeFunc (.method name) #[x] #[]) (hd : o.dst = some d) (hn : d < C.n) (hx : opS ⟨e, obs⟩ x = some sv)
  (h : AO C ops rest ⟨(d, .fv (.method name) [sv] []) :: e, obs⟩ Q) : AOp C ops rest o ⟨e, obs⟩ Q :=
 AOp.value hd hn (fun Ω a w hr => by
  refine ⟨.func (.method name) [a.eval x].toArray ([] : List Value).toArray, ?_, .fv _ _ _ [a.eval x] [] rfl rfl (fun i z v hz hv => ?_) (fun i z v hz hv => by simp at hz)⟩
  ·simp [execOp, ho, Instr.makeFunc]
  ·cases i with
   | zero => cases hz; cases hv; exact hr.eval hx
   | succ i => simp at hz) h
theorem AOp.nilMeth {name : String} {sv z : SV} {u : TypeId} (ho : o.op = .nilCheck x) (hd : o.dst = some d) (hn : d < C.n) (hx : opS ⟨e, obs⟩ x = some (.fv (.method name) [sv] [])) (hs : ifcS sv = some (u, z)) (ht : nilT C.P u name = true)
  (h : AO C ops rest ⟨(d, .any) :: e, obs⟩ Q) : AOp C ops rest o ⟨e, obs⟩ Q :=
 AOp.value hd hn (fun Ω a w hr => by
  have hv := hr.eval hx
  generalize hev : a.eval x = v at hv
  cases hv with
  | fv _ _ _ fs cs hf hc hfr hcr =>
   match fs, hf with
   | [v0], _ =>
    obtain ⟨w0, rfl, _⟩ := (hfr 0 _ _ rfl rfl).ifcV hs
    refine ⟨.func (.method name) [Value.iface u w0].toArray cs.toArray, ?_, .any _⟩
    have hN : (nilAhead (C.P.types.size + Made.depth) u w0 name).run C.P w = .ok (some false) w := run_nilAhead ht (C.P.types.size + 99) w0 w
    simp [execOp, ho, hev, hN]) h
/-- s[lo:], s a slice into an object of the call's own. -/
theorem AOp.sliceSl {el sz p off len cap : Nat} {k : IntKind} {i : Int} (ho : o.op = .slice t x (some y) none none) (hd : o.dst = some d) (hn : d < C.n) (hx : opS ⟨e, obs⟩ x = some (.sl p sz off len cap)) (hy : opS ⟨e, obs⟩ y = some (.d (.v (.int k i)))) (ht : elemT C.P t = some (el, sz))
  (h0 : 0 ≤ i) (h1 : i.toNat ≤ len) (h : AO C ops rest ⟨(d, .sl p sz (if cap = i.toNat then off else off + i.toNat * sz) (len - i.toNat) (cap - i.toNat)) :: e, obs⟩ Q) : AOp C ops rest o ⟨e, obs⟩ Q :=
 AOp.value hd hn (fun Ω a w hr => by
  have hv := hr.eval hx
  generalize hev : a.eval x = v at hv
  cases hv with
  | sl _ _ _ _ _ b hob =>
   obtain ⟨hu, hso⟩ := elem_of ht
   refine ⟨_, ?_, .sl _ _ _ _ _ b hob⟩
   have := run_slice_l (P := C.P) w t (some ⟨b, off, none⟩) len cap hu k i h0 (by omega)
   simp only [execOp, ho, hev, hr.evalV hy, Option.map_some, Option.map_none, Sem.run_bind, run_sliceAt_slice w t _ _ _ _ hu, this, hso, run_sizeOf (elemT_spec ht).2, Result.andThen_ok, sliced, Sem.run_pure]
   by_cases hcc : cap = i.toNat
   ·simp [hcc]
   ·simp [hcc, Addr.add_of]) h
theorem AOp.sliceSl0 {el sz p len cap : Nat} {k : IntKind} (ho : o.op = .slice t x (some y) none none) (hd : o.dst = some d) (hn : d < C.n) (hx : opS ⟨e, obs⟩ x = some (.sl p sz 0 len cap)) (hy : opS ⟨e, obs⟩ y = some (.d (.v (.int k 0)))) (ht : elemT C.P t = some (el, sz))
  (h : AO C ops rest ⟨(d, .sl p sz 0 len cap) :: e, obs⟩ Q) : AOp C ops rest o ⟨e, obs⟩ Q :=
 AOp.sliceSl ho hd hn hx hy ht (Int.le_refl _) (Nat.zero_le _) (by simpa using h)
end
theorem dlt_ge {a b : Int} {v : Bool} (h : decide (a < b) = v) : decide (b ≤ a) = !v := by subst h; by_cases h : a < b <;> simp [h] <;> omega
theorem dlt_self (a : Int) : decide (a < a) = false := by simp
section
open Go.Lib
theorem laid_ints {P : Program} {W : World} {l : List (String × DataW Unit)} {n : String} {bs : List Int} {g m : Nat} {t el : TypeId} (h : laidMet P l W) (hm : (n, .agg (bs.map fun b => .lit (.int .i64 b))) ∈ l) (hg : P.globalNamed n = some g)
  (hty : (P.globals[g]?).map (·.type) = some t) (ht : P.underlying t = some (.array m el)) (hel : P.underlying el = some (.int .i64)) (hc : P.cellsOf el = 1) (k : Nat) (b : Int) (hk : bs[k]? = some b) : g < W.heap.size ∧ W.cell? ⟨g, k, none⟩ = some (.int .i64 b) := by
 obtain ⟨g', t', cs, fuel, p, h1, h2, h3, h4⟩ := laidMet.reads h hm
 obtain rfl := Option.some.inj (hg.symm.trans h1)
 obtain rfl := Option.some.inj (hty.symm.trans h2)
 obtain ⟨xs, fm, _, ex, hlen, hl, hel'⟩ := DataW.trod_array ht h4
 have e3 := DataW.agg.inj (Prod.mk.inj ex).1
 have hx : (xs.map (·.1))[k]? = some (.lit (.int .i64 b)) := by rw [← e3, List.getElem?_map, hk]; rfl
 rw [List.getElem?_map, Option.map_eq_some_iff] at hx
 obtain ⟨x, hxk, hxb⟩ := hx
 have hkm : k < m := by rw [← hl]; exact (List.getElem?_eq_some_iff.1 hxk).1
 have hd := hel' k hkm
 rw [hxk, hc, Nat.mul_one] at hd
 have hcell : (cs.toList.drop k).take 1 = [.int .i64 b] := by
  cases fm with
  | zero => simp [DataW.trod] at hd
  | succ fm =>
   simp only [DataW.trod, hel] at hd
   generalize hq : (cs.toList.drop k).take 1 = q at *
   split at hd <;> simp_all
   all_goals (obtain ⟨_, rfl⟩ := hd; simp_all)
 have hg0 : cs.toList[k]? = some (.int .i64 b) := by
  have : ((cs.toList.drop k).take 1)[0]? = some (.int .i64 b) := by rw [hcell]; rfl
  rw [List.getElem?_take, if_pos (by omega), List.getElem?_drop] at this
  simpa using this
 have hv := World.var?_cell hg h3 k
 have hcs : cs[k]? = some (.int .i64 b) := by rw [← hg0]; simp
 exact ⟨cell_lt (by rw [hv, hcs]), by rw [hv, hcs]⟩
theorem LaidVars_place {P : Program} {w : World} : ∀ {l : List (String × DataW Unit)} {ps : List MemPlace}, DataW.LaidVars P w l ps → ∀ n d, (n, d) ∈ l → ∃ g t cs fuel p, P.globalNamed n = some g ∧ (P.globals[g]?).map (·.type) = some t ∧ w.var? P n = some cs ∧
  DataW.trod (fun _ => ()) P w 0 (fun _ => true) false fuel t cs.toList = some (d, p) ∧ ∀ k, k < cs.size → MemPlace.cell g k ∈ ps
 | [], _, _, _, _, hm => by cases hm
 | (n', d') :: r, ps, h, n, d, hm => by
  obtain ⟨g, t, cs, fuel, p, q, h1, h2, h3, h4, h5, h6⟩ := h
  rcases List.mem_cons.1 hm with e | e
  ·cases e
   refine ⟨g, t, cs, fuel, p, h1, h2, h3, h4, fun k hk => ?_⟩
   rw [h6]
   exact List.mem_append_left _ (List.mem_append_left _ (List.mem_map.2 ⟨k, List.mem_range.2 hk, by simp⟩))
  ·obtain ⟨g', t', cs', f', p', a1, a2, a3, a4, a5⟩ := LaidVars_place h5 n d e
   exact ⟨g', t', cs', f', p', a1, a2, a3, a4, fun k hk => by rw [h6]; exact List.mem_append_right _ (a5 k hk)⟩
/-- An error that errors.New made: a pointer of its type. -/
theorem laid_errP {P : Program} {W : World} {l : List (String × DataW Unit)} {n : String} {text : List UInt8} {g : Nat} {t tp te ts : TypeId} {ms : Array (String × TypeId)} {f : Field} (hrow : ∀ u, P.typeName? 3 u = some "*errors.errorString" → u = tp) (h : laidMet P l W)
  (hm : (n, .iface "*errors.errorString" (.ptr (.agg [.lit (.string text)]))) ∈ l) (hg : P.globalNamed n = some g) (hty : (P.globals[g]?).map (·.type) = some t) (ht : P.underlying t = some (.interface ms))
  (hp : P.underlying tp = some (.pointer te)) (he : P.underlying te = some (.struct #[f])) (hft : f.type = ts) (hfo : f.offset = 0) (hs : P.underlying ts = some .string) (hc : P.cellsOf te = 1) (hcs : P.cellsOf ts = 1) :
  g < W.heap.size ∧ ∃ u a, W.cell? ⟨g, 0, none⟩ = some (.iface u (.pointer (some a))) ∧ u = tp := by
 obtain ⟨ps, hv, hnd, hps⟩ := h
 obtain ⟨g', t', cs, fuel, p, h1, h2, h3, h4, h5⟩ := LaidVars_place hv _ _ hm
 obtain rfl := Option.some.inj (hg.symm.trans h1)
 obtain rfl := Option.some.inj (hty.symm.trans h2)
 have hcell := World.var?_cell hg h3 0
 obtain ⟨a, s, hcs', _⟩ := errorString_of_trod ht hrow hp he hft hfo hs hc hcs h4 (fun u v huv => by
  have hsz : 0 < cs.size := by rw [← Array.length_toList, huv]; exact Nat.one_pos
  refine (hps g 0 (h5 0 hsz)).2 u v ?_
  rw [hcell, ← Array.getElem?_toList, huv]
  rfl)
 have hc0 : cs[0]? = some (.iface tp (.pointer (some a))) := by rw [← Array.getElem?_toList, hcs']; rfl
 exact ⟨cell_lt (by rw [hcell, hc0]), tp, a, by rw [hcell, hc0], rfl⟩
end
end Go.Vm

/- Regions that draw their order, with one operation (a call gone through in place) for which all ahead of it wait, and which all behind it wait for. -/
set_option linter.unusedVariables false
namespace Go.Vm
section
variable {C : Ctx} {ops : Array Oper} {obs : List Ob} {md : Region.Mode}
/-- What is listed at the end: then only the call is ready; behind it the others come in the text's order. -/
def callE (ops : Array Oper) (n : Nat) (listed : Array Bool) : Bool := (Region.ready .any ops listed == [n]) && Region.lexHead .any ops 0 (ops.size - (n + 1)) (n + 1) (listed.setIfInBounds n true)
def lexC (ops : Array Oper) (n : Nat) : Nat → Nat → Array Bool → Bool
 | 0, _, listed => callE ops n listed
 | f + 1, k, listed => (Region.ready .any ops listed).contains k && Region.free .any ops listed k && lexC ops n f (k + 1) (listed.setIfInBounds k true)
theorem callE_ready {n : Nat} {listed : Array Bool} (h : callE ops n listed = true) : ∀ j ∈ Region.ready .any ops listed, n ≤ j := by
 intro j hj
 simp only [callE, Bool.and_eq_true, beq_iff_eq] at h
 rw [h.1] at hj
 have : j = n := by simpa using hj
 omega
theorem wpAnyV_lexC {n : Nat} {K : St → Prop} (hF : HeadFirst .any ops n) :
  ∀ (l : List Oper) (k : Nat) (listed : Array Bool) (e : List (Nat × SV)), (∀ j, j < l.length → l[j]? = ops[k + j]?) → k + l.length = n → HeadInv .any ops n listed →
  lexC ops n l.length k listed = true → AD C ops l ⟨e, obs⟩ K →
  wpAnyV C .any ops obs n (fun listed' a' => (callE ops n listed' = true ∧ HeadInv .any ops n listed') ∧ ∃ l', a' = get l' ∧ K ⟨l', obs⟩) l.length listed (get e)
 | [], k, listed, e, _, hk, inv, hB, h => ⟨⟨hB, inv⟩, e, rfl, h⟩
 | o :: l, k, listed, e, hl, hk, inv, hB, h => by
  have h0 : ops[k]? = some o := by simpa using (hl 0 (by simp)).symm
  simp only [List.length_cons, lexC, Bool.and_eq_true] at hB
  obtain ⟨⟨hr, hf⟩, hB'⟩ := hB
  have hkn : k < n := by simp only [List.length_cons] at hk; omega
  have hr' : k ∈ Region.ready .any ops listed := by simpa using hr
  obtain ⟨x, l', hy, hg, hK⟩ := h
  refine wpAnyV_first h0 hF hkn (fun listed' a' hL => callE_ready hL.1.1) l.length listed _ inv (Region.free_spec h0 hf) hr' hy ?_
  rw [← hg]
  exact wpAnyV_lexC hF l (k + 1) _ l' (fun j hj => by have := hl (j + 1) (by simp; omega); simpa [Nat.add_assoc, Nat.add_comm 1 j] using this) (by simp only [List.length_cons] at hk; omega) (inv.set hr' hkn) hB' hK
/-- The others wait for all of the first n. -/
def waitB (ops : Array Oper) (n : Nat) : Bool := (List.range ops.size).all fun t => decide (t < n) || (List.range n).all (ancB .any ops ops.size t)
theorem headFirst_wait {n : Nat} (h : waitB ops n = true) : HeadFirst .any ops n := by
 intro listed inv i hi hun j hj
 obtain ⟨_, oj, hoj, hall⟩ := mem_ready.1 hj
 have hlt := (Array.getElem?_eq_some_iff.1 hoj).1
 have := List.all_eq_true.1 h j (List.mem_range.2 hlt)
 simp only [Bool.or_eq_true, decide_eq_true_eq] at this
 rcases this with h | h
 ·exact h
 ·have inv' : HInv .any ops (List.range n) listed := ⟨inv.size, inv.closed, fun t h1 h2 => inv.tail t (by simpa using h1) h2⟩
  have ha := anc_listed inv' _ j i (List.all_eq_true.1 h i (List.mem_range.2 hi)) (fun ok hk e he hb => by
   have : ok = oj := Option.some.inj (hk.symm.trans hoj)
   subst this
   exact hall e he hb)
  rw [getD_both hun] at ha
  cases ha
def drawCB (ops : Array Oper) (n : Nat) : Bool := decide (n < ops.size) && waitB ops n && lexC ops n n 0 (Array.replicate ops.size false)
/-- Behind the call: the others, in whatever order. -/
def CallQ (C : Ctx) (ops : Array Oper) (l : List Oper) (Q : Exit → St → Prop) : Exit → St → Prop
 | .normal, s => AD C ops l s (fun s' => AO C ops [] s' Q)
 | e, s => Q e s
theorem CallQ.ne {l : List Oper} {Q : Exit → St → Prop} {e : Exit} {s : St} (he : e ≠ .normal) : CallQ C ops l Q e s = Q e s := by
 cases e <;> first | rfl | exact absurd rfl he
theorem AC.drawC {id : Nat} {l : List Oper} {s : St} {Q : Exit → St → Prop} (n : Nat) {o : Oper} (hm : C.P.follows .mixedOrders = true) (hB : drawCB l.toArray n = true) (ho : l[n]? = some o)
  (h : AD C l.toArray (l.take n) s (fun s' => AO C l.toArray [o] s' (CallQ C l.toArray (l.drop (n + 1)) Q))) : AC C (.region id l.toArray true) s Q := fun Ω a w hr => by
 simp only [drawCB, Bool.and_eq_true, decide_eq_true_eq] at hB
 obtain ⟨⟨hn, hf⟩, hlex⟩ := hB
 have hn' : n < l.length := by simpa using hn
 have htl : (l.take n).length = n := by simp; omega
 have inv0 : HeadInv .any l.toArray n (Array.replicate l.toArray.size false) :=
  ⟨by simp, fun j oj _ hl => (by rw [getD_replicate_false] at hl; cases hl), fun t _ ht => getD_in (by simpa using ht) (getD_replicate_false _ _)⟩
 have H := wpAnyV_lexC (headFirst_wait hf) (l.take n) 0 _ s.env (fun j hj => by
  have hj' : j < n := by rw [htl] at hj; exact hj
  simp [hj']) (by simpa using htl) inv0 (by rw [htl]; exact hlex) h
 refine wp_region_any hm ?_
 have := wpAny_of_V (Q' := Lift C Q) (g := l.toArray.size - n) (fun listed e hL Ω a w hr => by
  obtain ⟨⟨hE, inv⟩, l', he, hK⟩ := hL
  simp only [callE, Bool.and_eq_true, beq_iff_eq] at hE
  obtain ⟨hrd, hlex2⟩ := hE
  have hw := hK Ω a w (hr.congr fun t x hx => by rw [he]; exact hx)
  have ho' : l.toArray[n]? = some o := by simpa using ho
  rw [show l.toArray.size - n = (l.toArray.size - (n + 1)) + 1 by omega]
  refine ⟨fun h1 => (by rw [hrd] at h1; cases h1), fun i hi => ?_⟩
  rw [hrd] at hi
  obtain rfl : i = n := by simpa using hi
  have hrdi : i ∈ Region.ready .any l.toArray listed := by rw [hrd]; simp
  -- behind the call
  have next : ∀ a' w', Lift C (CallQ C l.toArray (l.drop (i + 1)) Q) .normal a' w' → wpAny C.P .any l.toArray (Lift C Q) (l.toArray.size - (i + 1)) (listed.setIfInBounds i true) a' w' := by
   intro a' w' ⟨s2, Ω2, hr2, hA⟩
   have hA' : AD C l.toArray (l.drop (i + 1)) s2 (fun s' => AO C l.toArray [] s' Q) := hA
   have hdl : (l.drop (i + 1)).length = l.toArray.size - (i + 1) := by simp
   have inv2 : HeadInv .any l.toArray l.toArray.size (listed.setIfInBounds i true) := by
    have i2 : HeadInv .any l.toArray l.toArray.size listed := ⟨inv.size, inv.closed, fun t h1 h2 => by omega⟩
    exact i2.set hrdi hn
   have hF2 : HeadFirst .any l.toArray l.toArray.size := headFirst_of (by simp [headFirstB])
   have H2 := wpAnyV_lex (md := .any) (g := 0) (K := fun s' => AO C l.toArray [] s' Q) hF2 (l.drop (i + 1)) (i + 1) _ s2.env (fun j hj => by simp [List.getElem?_drop]) (by rw [hdl]; omega) inv2 (by rw [hdl]; exact hlex2) hA'
   have T := wpAny_of_V (Q' := Lift C Q) (g := 0) (fun listed3 e3 hL3 Ω3 a3 w3 hr3 => by
    obtain ⟨h1, l3, he3, hK3⟩ := hL3
    have h2 := hK3 Ω3 a3 w3 (hr3.congr fun t x hx => by rw [he3]; exact hx)
    exact ⟨by simpa [Region.seqB] using h1, h2⟩) _ _ _ H2 Ω2 a' w' hr2
   rw [hdl, Nat.add_zero] at T
   exact T
  unfold wpOp
  simp only [ho']
  unfold wpList at hw
  split
  ·rename_i hwant
   rw [if_pos hwant] at hw
   rcases hw with hw | ⟨h1, h2⟩
   ·refine .inl (wp_monoQ (fun a' w' hk => next a' w' hk) (fun e a' w' hne hk => ?_) hw)
    obtain ⟨s2, Ω2, hr2, hq⟩ := hk
    rw [CallQ.ne hne] at hq
    exact ⟨s2, Ω2, hr2, hq⟩
   ·refine .inr ⟨h1, ?_⟩
    obtain ⟨a2, w2, s2, Ω2, hr2, hq⟩ := h2
    exact ⟨a2, w2, s2, Ω2, hr2, hq⟩
  ·rename_i hwant
   rw [if_neg hwant] at hw
   exact next _ _ hw) _ _ _ H Ω a _ hr.drew
 rw [htl, show n + (l.toArray.size - n) = l.toArray.size by omega] at this
 exact this
end
end Go.Vm

/- Function values that have captured something: made, kept in a slice literal, called. -/
set_option linter.unusedVariables false
namespace Go.Vm
section
variable {C : Ctx} {Q : Exit → St → Prop} {ops : Array Oper} {rest : List Oper} {o : Oper} {e : List (Nat × SV)} {obs : List Ob} {d : Nat} {t ty : TypeId} {x y : Operand}
/-- A call of a function value that has captured something. -/
theorem EntersS.clo {f : FuncId} {x : Operand} {xs : List Operand} {ts : Array TypeId} {ys caps : List SV} (he : enters C.P f = true) (ho : o.op = .call { callee := .value x, args := xs.toArray, argTypes := ts }) (hc : opS ⟨e, obs⟩ x = some (.fv (.func f) [] caps)) (hx : mapO (opS ⟨e, obs⟩) xs = some ys) :
  EntersS C o ⟨e, obs⟩ f (ys ++ caps) := fun Ω a w hr => by
 obtain ⟨hlen, hi⟩ := mapO_get hx
 have hv := hr.eval hc
 generalize hev : a.eval x = v at hv
 cases hv with
 | fv _ _ _ fs cs hf hcl hfr hcr =>
  have hfs : fs = [] := List.length_eq_zero_iff.1 (by simpa using hf)
  subst hfs
  refine ⟨xs.map a.eval ++ cs, ?_, by simp [hlen, hcl], fun i z v hz hv => ?_⟩
  ·simp only [execOp, ho, resolve, hev, Deferred.ofValue, Sem.run_bind, Sem.run_pure, Result.andThen_ok, invoke, List.map_toArray, run_enters he]
   simp
  ·have hxl : (xs.map a.eval).length = ys.length := by simp [hlen]
   rcases Nat.lt_or_ge i ys.length with h | h
   ·rw [List.getElem?_append_left h] at hz
    rw [List.getElem?_append_left (by omega)] at hv
    simp only [List.getElem?_map, Option.map_eq_some_iff] at hv
    obtain ⟨q, hq, rfl⟩ := hv
    exact hr.eval (hi i q z hq hz)
   ·rw [List.getElem?_append_right h] at hz
    rw [List.getElem?_append_right (by omega), hxl] at hv
    exact hcr _ _ _ hz hv
end
section
variable {C : Ctx} {Q : Exit → St → Prop} {ops : Array Oper} {rest : List Oper} {o : Oper} {e : List (Nat × SV)} {obs : List Ob} {d : Nat}
end
/-- One of two ways, of which it may be open which: then both give the same. -/
noncomputable def agr {R : Type} (n i : Bool) (x y : Option R) : Option R := cond n (cond i x y) (x.bind fun r => y.bind fun r' => @ite _ (r = r') (Classical.propDecidable _) (some r) none)
/-- A pointer to a struct, in an interface value. -/
structure IfcV where
 mk ::
 (dt : TypeId)
 (cells : List D)
abbrev eIfc (x : IfcV) : D := .ifc x.dt (.pt x.cells)
/-- What cells are told of. -/
noncomputable def decodeD {α : Type} (c : α → List D) (l : List D) : Option α := @dite _ (∃ y, c y = l) (Classical.propDecidable _) (fun h => some (Classical.choose h)) (fun _ => none)
end Go.Vm

/- Constructors that are handed a slice of the caller's own, and keep it in the new block. -/
set_option linter.unusedVariables false
namespace Go.Vm
section
variable {C : Ctx} {Q : Exit → St → Prop} {ops : Array Oper} {rest : List Oper} {o : Oper} {e : List (Nat × SV)} {obs : List Ob} {d : Nat} {t ty : TypeId} {x y : Operand}
/-- An argument: data; or the own slice p. -/
def argT (p : Nat) (s : St) (x : Operand) : Option (Option D) := match opS s x with
 | some (.own q) => if q = p then some none else none
 | some y => (dataS 9 y).map some
 | none => none
def thruS (p : Nat) : Option D → SV
 | some y => .d y
 | none => .own p
end
end Go.Vm

/- Proved: (*bytes.Buffer).grow, over whatever program bears the library's text of it: the row behind it is new, of what was there only the buffer's block turns. -/
set_option linter.unusedVariables false
namespace Go.Vm
open Go Go.Proofs Go.Shelf Go.RowKit
variable {P : Program} {ρ : Ren}
/-- What growing leaves: a new row N, with room. -/
def Grew (T e b l n : Nat) (lr : Int) (bs : List Value) (w w' : World) : Prop :=
 ∃ N cap2 cells, w.heap.size ≤ N ∧ N ≠ b ∧ w'.heap[b]? = some (.cells #[.slice (some ⟨N, 0, none⟩) (l + n) cap2, .int .i64 0, .int .i8 lr] T (0, 0)) ∧ w'.heap[N]? = some (.cells cells e (0, 0)) ∧
  cells.size = cap2 ∧ cells.toList.take l = bs ∧ l + n ≤ cap2 ∧ cap2 ≤ maxLen ∧ w.grownBy w' (some b)
theorem grew_end {T e b N l n cap2 : Nat} {lr : Int} {w w2 : World} {v0 : Value} {cells : Array Value} {bs : List Value} (hN1 : w.heap.size ≤ N) (hNb : N ≠ b)
  (hbk2 : w2.heap[b]? = some (.cells #[v0, .int .i64 0, .int .i8 lr] T (0, 0))) (hN : w2.heap[N]? = some (.cells cells e (0, 0)))
  (hcsz : cells.size = cap2) (htk : cells.toList.take l = bs) (hcap2 : l + n ≤ cap2) (hcm2 : cap2 ≤ maxLen) (hg : w.grownBy w2 (some b)) (v1 : Value) :
  Grew T e b l n lr bs w (((w2.setCell ⟨b, 0, none⟩ v1).setCell ⟨b, 1, none⟩ (.int .i64 0)).setCell ⟨b, 0, none⟩ (.slice (some ⟨N, 0, none⟩) (l + n) cap2)) := by
 refine ⟨N, cap2, cells, hN1, hNb, Lib.heap_setCell_same (i := 0) (Lib.heap_setCell_same (i := 1) (Lib.heap_setCell_same (i := 0) hbk2 v1) (.int .i64 0)) _, ?_, hcsz, htk, hcap2, hcm2, Lib.grownBy_setB (Lib.grownBy_setB (Lib.grownBy_setB hg 0 _) 1 _) 0 _⟩
 rw [Below.heap_setCell _ _ _ _ hNb, Below.heap_setCell _ _ _ _ hNb, Below.heap_setCell _ _ _ _ hNb]
 exact hN
theorem grew_small {T e b n cap : Nat} {lr : Int} {w W : World} {v0 : Value} {M : Array Value} (hbkW : W.heap[b]? = some (.cells #[v0, .int .i64 0, .int .i8 lr] T (0, 0))) (hs : w.heap.size ≤ W.heap.size)
  (hMs : M.size = cap) (hn : n ≤ cap) (hcm : cap ≤ maxLen) (hg : w.grownBy W (some b)) :
  Grew T e b 0 n lr [] w ((W.setCell ⟨b, 0, none⟩ (.slice (some ⟨W.heap.size, 0, none⟩) n cap)).alloc (.cells M e)) := by
 have hbW := Lib.lt_of_heap hbkW
 have hsz : (W.setCell ⟨b, 0, none⟩ (.slice (some ⟨W.heap.size, 0, none⟩) n cap)).heap.size = W.heap.size := by simp [World.setCell]
 refine ⟨W.heap.size, cap, M, hs, by omega, ?_, ?_, hMs, by simp, by omega, hcm, Lib.grownBy_allocR (Lib.grownBy_setB hg 0 _) _⟩
 ·rw [Below.heap_alloc _ _ b (by rw [hsz]; exact hbW), Nat.zero_add]
  exact Lib.heap_setCell_same (i := 0) hbkW _
 ·have := heap_alloc_new (W.setCell ⟨b, 0, none⟩ (.slice (some ⟨W.heap.size, 0, none⟩) n cap)) (.cells M e)
  rw [hsz] at this
  exact this
set_option maxHeartbeats 12800000 in
set_option maxRecDepth 100000 in
/-- grow, where there is no row and little is asked -/
theorem grow_small (L : LaysM.n252 P ρ) (b n : Nat) (lr : Int) (w : World)
  (hbk : w.heap[b]? = some (.cells #[.slice none 0 0, .int .i64 0, .int .i8 lr] (ρ.t 93) (0, 0))) (hn : 1 ≤ n) (h64 : n ≤ 64) :
  Calls P (ρ.f 252) #[.pointer (some ⟨b, 0, none⟩), .int .i64 n] w fun e w' => e = .returned (.int .i64 0) ∧ Grew (ρ.t 93) (ρ.t 5) b 0 n lr [] w w' := by
 have mixed := L.mixed
 have t5 := L.t5; have a5 := L.a5; have z5 := L.z5; have v5 := L.v5
 have t130 := L.t130; have a130 := L.a130; have z130 := L.z130; have v130 := L.v130
 have t3 := L.t3; have a3 := L.a3; have z3 := L.z3; have v3 := L.v3
 have t4 := L.t4; have a4 := L.a4; have z4 := L.z4; have v4 := L.v4
 have t0 := L.t0; have a0 := L.a0; have z0 := L.z0; have v0 := L.v0
 have t93 := L.t93; have u93 := run_underlying L.t93; have a93 := L.a93; have z93 := L.z93; have v93 := L.v93
 have t131 := L.t131; have a131 := L.a131; have z131 := L.z131; have v131 := L.v131
 have t37 := L.t37; have a37 := L.a37; have z37 := L.z37; have v37 := L.v37
 have t75 := L.t75; have a75 := L.a75; have z75 := L.z75; have v75 := L.v75
 have e181 : ∀ args w, (callFunc (ρ.f 181) args).run P w = .ok (.enter (ρ.f 181) args) w := enters_of L.f181 (by kernel_rfl) rfl
 have e251 : ∀ args w, (callFunc (ρ.f 251) args).run P w = .ok (.enter (ρ.f 251) args) w := enters_of L.f251 (by kernel_rfl) rfl
 obtain ⟨i0, hi, hz0, hz1, hz2⟩ := info_parts L.i5
 obtain ⟨M, hM⟩ : ∃ M, M = madeCells (Value.int .u8 0).cells ((64 : Int).toNat * i0.size) := ⟨_, rfl⟩
 have hMs : M.size = 64 := by rw [hM, size_madeCells, hz1]; rfl
 have hmk : ∀ W : World, (Instr.makeSlice (ρ.t 37) (.int .i64 (n : Int)) (.int .i64 64)).run P W = .ok (.slice (some ⟨W.heap.size, 0, none⟩) n 64) (W.alloc (.cells M (ρ.t 5))) := fun W => by
  have h := run_makeSlice (P := P) W (ρ.t 37) (ρ.t 5) i0 (.int .u8 0) L.t37 hi hz0 .i64 .i64 (n : Int) 64 (by omega) (by omega) (by rw [hz1]; decide) (by rw [hz2]; decide) (by decide)
  rw [← hM] at h
  simpa using h
 clear hM
 have hIs : Lib.IsBuffer (ρ.t 93) (ρ.t 5) 0 b [] w := ⟨Nat.zero_le _, _, _, hbk, World.ownsRow_nil _ _ _ _, by simp [Value.ownBlock]⟩
 have hnil : ∀ W, (binOp .eql (ρ.t 37) (.slice none 0 0) (.slice none 0 0)).run P W = .ok (.bool true) W := fun W => Lib.run_eql_slice_nil_nil W _ _ L.t37
 go_enter L.f252, Body.n252_ntmps ρ
 go_wp2_with (go_at_fn (ρ.f 181); refine (Any.Buffer_Len { L with } 0 b [] _ hIs).mono ?_)
 rintro e W0 ⟨rfl, k, hW0⟩
 have hbk0 : W0.heap[b]? = some (.cells #[.slice none 0 0, .int .i64 0, .int .i8 lr] (ρ.t 93) (0, 0)) := by rw [hW0]; exact hbk
 have c0 : W0.cell? ⟨b, 0, none⟩ = some (.slice none 0 0) := by rw [Lib.cell_of_heap hbk0]; rfl
 have c1 : W0.cell? ⟨b, 1, none⟩ = some (.int .i64 0) := by rw [Lib.cell_of_heap hbk0]; rfl
 have f0 : W0.frozen? ⟨b, 0, none⟩ = false := Lib.frozen_of_heap hbk0 0
 have f1 : W0.frozen? ⟨b, 1, none⟩ = false := Lib.frozen_of_heap hbk0 1
 have hbW0 := Lib.lt_of_heap hbk0
 have c0a : ∀ o, (W0.alloc o).cell? ⟨b, 0, none⟩ = some (.slice none 0 0) := fun o => (World.cell?_of_block (a := ⟨b, 0, none⟩) (Below.heap_alloc W0 o b hbW0)).trans c0
 have f0a : ∀ o, (W0.alloc o).frozen? ⟨b, 0, none⟩ = false := fun o => (World.frozen?_of_block (a := ⟨b, 0, none⟩) (Below.heap_alloc W0 o b hbW0)).trans f0
 have HW0 := Lib.hid hW0
 clear hW0 hIs
 go_wp2_with (go_at_fn (ρ.f 251); refine (Any.Buffer_tryGrow_none { L with } b _ 0 0 n _ c0 (Nat.le_refl _) (Nat.zero_le _) (by omega)).mono ?_; rintro e w' ⟨rfl, rfl⟩)
 go_ret
 have hsz0 : w'.heap.size = w.heap.size := by rw [HW0.out]; rfl
 have hb0 : w.grownBy w' (some b) := by rw [HW0.out]; exact ⟨rfl, rfl, rfl, Nat.le_refl _, fun _ _ _ => rfl⟩
 exact ⟨rfl, grew_small hbk0 (by omega) hMs h64 (by unfold maxLen; omega) hb0⟩
set_option maxHeartbeats 12800000 in
set_option maxRecDepth 100000 in
/-- grow, where there is no row and much is asked -/
theorem grow_big (L : LaysM.n252 P ρ) (b n : Nat) (lr : Int) (w : World)
  (hbk : w.heap[b]? = some (.cells #[.slice none 0 0, .int .i64 0, .int .i8 lr] (ρ.t 93) (0, 0))) (h64 : 64 < n) (hlim : n ≤ 140737488355328) :
  Calls P (ρ.f 252) #[.pointer (some ⟨b, 0, none⟩), .int .i64 n] w fun e w' => e = .returned (.int .i64 0) ∧ Grew (ρ.t 93) (ρ.t 5) b 0 n lr [] w w' := by
 have mixed := L.mixed
 have t5 := L.t5; have a5 := L.a5; have z5 := L.z5; have v5 := L.v5
 have t130 := L.t130; have a130 := L.a130; have z130 := L.z130; have v130 := L.v130
 have t3 := L.t3; have a3 := L.a3; have z3 := L.z3; have v3 := L.v3
 have t4 := L.t4; have a4 := L.a4; have z4 := L.z4; have v4 := L.v4
 have t0 := L.t0; have a0 := L.a0; have z0 := L.z0; have v0 := L.v0
 have t93 := L.t93; have u93 := run_underlying L.t93; have a93 := L.a93; have z93 := L.z93; have v93 := L.v93
 have t131 := L.t131; have a131 := L.a131; have z131 := L.z131; have v131 := L.v131
 have t37 := L.t37; have a37 := L.a37; have z37 := L.z37; have v37 := L.v37
 have t75 := L.t75; have a75 := L.a75; have z75 := L.z75; have v75 := L.v75
 have e181 : ∀ args w, (callFunc (ρ.f 181) args).run P w = .ok (.enter (ρ.f 181) args) w := enters_of L.f181 (by kernel_rfl) rfl
 have e251 : ∀ args w, (callFunc (ρ.f 251) args).run P w = .ok (.enter (ρ.f 251) args) w := enters_of L.f251 (by kernel_rfl) rfl
 have e290 : ∀ args w, (callFunc (ρ.f 290) args).run P w = .ok (.enter (ρ.f 290) args) w := enters_of L.f290 (by kernel_rfl) rfl
 have hn : 1 ≤ n := by omega
 have hIs : Lib.IsBuffer (ρ.t 93) (ρ.t 5) 0 b [] w := ⟨Nat.zero_le _, _, _, hbk, World.ownsRow_nil _ _ _ _, by simp [Value.ownBlock]⟩
 have hnil : ∀ W, (binOp .eql (ρ.t 37) (.slice none 0 0) (.slice none 0 0)).run P W = .ok (.bool true) W := fun W => Lib.run_eql_slice_nil_nil W _ _ L.t37
 go_enter L.f252, Body.n252_ntmps ρ
 go_wp2_with (go_at_fn (ρ.f 181); refine (Any.Buffer_Len { L with } 0 b [] _ hIs).mono ?_)
 rintro e W0 ⟨rfl, k, hW0⟩
 have hbk0 : W0.heap[b]? = some (.cells #[.slice none 0 0, .int .i64 0, .int .i8 lr] (ρ.t 93) (0, 0)) := by rw [hW0]; exact hbk
 have c0 : W0.cell? ⟨b, 0, none⟩ = some (.slice none 0 0) := by rw [Lib.cell_of_heap hbk0]; rfl
 have c1 : W0.cell? ⟨b, 1, none⟩ = some (.int .i64 0) := by rw [Lib.cell_of_heap hbk0]; rfl
 have f0 : W0.frozen? ⟨b, 0, none⟩ = false := Lib.frozen_of_heap hbk0 0
 have f1 : W0.frozen? ⟨b, 1, none⟩ = false := Lib.frozen_of_heap hbk0 1
 have HW0 := Lib.hid hW0
 clear hW0 hIs
 go_wp2_with (go_at_fn (ρ.f 251); refine (Any.Buffer_tryGrow_none { L with } b _ 0 0 n _ c0 (Nat.le_refl _) (Nat.zero_le _) (by omega)).mono ?_; rintro e w' ⟨rfl, rfl⟩)
 have hbW := Lib.lt_of_heap hbk0
 have hwn : IntKind.i64.wrap (n : Int) = n := by rw [IntKind.wrap_i64]; omega
 go_region_with_o (
   go_at_fn (ρ.f 290)
   refine (Any.bytes_growSlice_nil { L with } n _ hn hlim).mono ?_
   rintro e w2 ⟨cap2, cells, rfl, hN, hcsz, hcap2, hcm2, hbel⟩
   have hbk2 : w2.heap[b]? = some (.cells #[.slice none 0 0, .int .i64 0, .int .i8 lr] (ρ.t 93) (0, 0)) := (hbel.block b hbW).trans hbk0
   have d0 : w2.cell? ⟨b, 0, none⟩ = some (.slice none 0 0) := by rw [Lib.cell_of_heap hbk2]; rfl
   have d1 : w2.cell? ⟨b, 1, none⟩ = some (.int .i64 0) := by rw [Lib.cell_of_heap hbk2]; rfl
   have e0 : w2.frozen? ⟨b, 0, none⟩ = false := Lib.frozen_of_heap hbk2 0
   have e1 : w2.frozen? ⟨b, 1, none⟩ = false := Lib.frozen_of_heap hbk2 1)
 all_goals (
  go_wp2
  go_ret
  have hsz0 : w'.heap.size = w.heap.size := by rw [HW0.out]; rfl
  have hb0 : w.grownBy w'.drew (some b) := by rw [HW0.out]; exact ⟨rfl, rfl, rfl, Nat.le_refl _, fun _ _ _ => rfl⟩
  exact ⟨rfl, by simpa using grew_end (l := 0) (n := n) (bs := []) (by show w.heap.size ≤ w'.heap.size; omega) (by show w'.heap.size ≠ b; omega) hbk2 hN hcsz (by simp) (by omega) hcm2 (Lib.grownBy_below hb0 hbel) _⟩)
set_option maxHeartbeats 12800000 in
set_option maxRecDepth 100000 in
/-- grow, where the row has no room; some bytes are in it -/
theorem grow_row (L : LaysM.n252 P ρ) (b g l cap n : Nat) (lr : Int) (cur : Array Value) (bs : List Value) (w : World)
  (hbk : w.heap[b]? = some (.cells #[.slice (some ⟨g, 0, none⟩) l cap, .int .i64 0, .int .i8 lr] (ρ.t 93) (0, 0)))
  (hl : bs.length = l) (hl0 : l ≠ 0) (hg : w.heap[g]? = some (.cells cur (ρ.t 5) (0, 0))) (hlc : l ≤ cap) (hcm : cap ≤ maxLen) (hcs : cur.size = cap) (htake : cur.toList.take l = bs) (hgb : g ≠ b)
  (h1 : ∀ v ∈ bs, v.oneCell' = true) (hn : 1 ≤ n) (hroom : cap - l < n) (hlim : l + n ≤ 140737488355328) :
  Calls P (ρ.f 252) #[.pointer (some ⟨b, 0, none⟩), .int .i64 n] w fun e w' => e = .returned (.int .i64 l) ∧ Grew (ρ.t 93) (ρ.t 5) b l n lr bs w w' := by
 have mixed := L.mixed
 have t5 := L.t5; have a5 := L.a5; have z5 := L.z5; have v5 := L.v5
 have t130 := L.t130; have a130 := L.a130; have z130 := L.z130; have v130 := L.v130
 have t3 := L.t3; have a3 := L.a3; have z3 := L.z3; have v3 := L.v3
 have t4 := L.t4; have a4 := L.a4; have z4 := L.z4; have v4 := L.v4
 have t0 := L.t0; have a0 := L.a0; have z0 := L.z0; have v0 := L.v0
 have t93 := L.t93; have u93 := run_underlying L.t93; have a93 := L.a93; have z93 := L.z93; have v93 := L.v93
 have t131 := L.t131; have a131 := L.a131; have z131 := L.z131; have v131 := L.v131
 have t37 := L.t37; have a37 := L.a37; have z37 := L.z37; have v37 := L.v37
 have t75 := L.t75; have a75 := L.a75; have z75 := L.z75; have v75 := L.v75
 have e181 : ∀ args w, (callFunc (ρ.f 181) args).run P w = .ok (.enter (ρ.f 181) args) w := enters_of L.f181 (by kernel_rfl) rfl
 have e251 : ∀ args w, (callFunc (ρ.f 251) args).run P w = .ok (.enter (ρ.f 251) args) w := enters_of L.f251 (by kernel_rfl) rfl
 have e290 : ∀ args w, (callFunc (ρ.f 290) args).run P w = .ok (.enter (ρ.f 290) args) w := enters_of L.f290 (by kernel_rfl) rfl
 have hIs : Lib.IsBuffer (ρ.t 93) (ρ.t 5) 0 b bs w := ⟨Nat.zero_le _, _, _, hbk, ⟨by rw [hl, Nat.mul_one], .inr ⟨g, cap, cur, by rw [hl], Nat.zero_le _, hg, by omega, hcm, by omega, by rw [hl, Nat.mul_one]; exact htake⟩⟩, by simp [Value.ownBlock]; exact hgb⟩
 have hnil : ∀ W, (binOp .eql (ρ.t 37) (.slice (some ⟨g, 0, none⟩) l cap) (.slice none 0 0)).run P W = .ok (.bool false) W := fun W => Lib.run_eql_slice_some_nil W _ _ _ L.t37
 go_enter L.f252, Body.n252_ntmps ρ
 go_wp2_with (go_at_fn (ρ.f 181); refine (Any.Buffer_Len { L with } 0 b bs _ hIs).mono ?_)
 rintro e W0 ⟨rfl, k, hW0⟩
 rw [hl]
 have hbk0 : W0.heap[b]? = some (.cells #[.slice (some ⟨g, 0, none⟩) l cap, .int .i64 0, .int .i8 lr] (ρ.t 93) (0, 0)) := by rw [hW0]; exact hbk
 have hg0 : W0.heap[g]? = some (.cells cur (ρ.t 5) (0, 0)) := by rw [hW0]; exact hg
 have c0 : W0.cell? ⟨b, 0, none⟩ = some (.slice (some ⟨g, 0, none⟩) l cap) := by rw [Lib.cell_of_heap hbk0]; rfl
 have c1 : W0.cell? ⟨b, 1, none⟩ = some (.int .i64 0) := by rw [Lib.cell_of_heap hbk0]; rfl
 have f0 : W0.frozen? ⟨b, 0, none⟩ = false := Lib.frozen_of_heap hbk0 0
 have f1 : W0.frozen? ⟨b, 1, none⟩ = false := Lib.frozen_of_heap hbk0 1
 have HW0 := Lib.hid hW0
 clear hW0 hIs
 have hcm' := hcm
 unfold maxLen at hcm'
 go_wp2_with (go_at_fn (ρ.f 251); refine (Any.Buffer_tryGrow_none { L with } b _ l cap n _ c0 hlc hcm hroom).mono ?_; rintro e w' ⟨rfl, rfl⟩)
 have hc2 : cap ≤ 140737488355328 := by omega
 have h1' : ∀ v ∈ cur.toList.take l, v.oneCell' = true := by rw [htake]; exact h1
 have hbW := Lib.lt_of_heap hbk0
 have hwn : IntKind.i64.wrap (n : Int) = n := by rw [IntKind.wrap_i64]; omega
 go_region_with_o (
   go_at_fn (ρ.f 290)
   refine (Any.bytes_growSlice_row { L with } g l cap n cur _ ?_ hcs hlc hn hlim hc2 h1').mono ?_
   exact hg0
   rintro e w2 ⟨cap2, cells, rfl, hN, hcsz, htk, hcap2, hcm2, hbel⟩
   have hbk2 : w2.heap[b]? = some (.cells #[.slice (some ⟨g, 0, none⟩) l cap, .int .i64 0, .int .i8 lr] (ρ.t 93) (0, 0)) := (hbel.block b hbW).trans hbk0
   have d0 : w2.cell? ⟨b, 0, none⟩ = some (.slice (some ⟨g, 0, none⟩) l cap) := by rw [Lib.cell_of_heap hbk2]; rfl
   have d1 : w2.cell? ⟨b, 1, none⟩ = some (.int .i64 0) := by rw [Lib.cell_of_heap hbk2]; rfl
   have e0 : w2.frozen? ⟨b, 0, none⟩ = false := Lib.frozen_of_heap hbk2 0
   have e1 : w2.frozen? ⟨b, 1, none⟩ = false := Lib.frozen_of_heap hbk2 1)
 all_goals (
  go_wp2
  go_ret
  have hsz0 : w'.heap.size = w.heap.size := by rw [HW0.out]; rfl
  have hb0 : w.grownBy w'.drew (some b) := by rw [HW0.out]; exact ⟨rfl, rfl, rfl, Nat.le_refl _, fun _ _ _ => rfl⟩
  exact ⟨rfl, grew_end (by show w.heap.size ≤ w'.heap.size; omega) (by show w'.heap.size ≠ b; omega) hbk2 hN hcsz (htk.trans htake) hcap2 hcm2 (Lib.grownBy_below hb0 hbel) _⟩)
set_option maxHeartbeats 12800000 in
set_option maxRecDepth 100000 in
/-- grow, where the row has no room; no bytes are in it -/
theorem grow_row0 (L : LaysM.n252 P ρ) (b g cap n : Nat) (lr : Int) (cur : Array Value) (bs : List Value) (w : World)
  (hbk : w.heap[b]? = some (.cells #[.slice (some ⟨g, 0, none⟩) 0 cap, .int .i64 0, .int .i8 lr] (ρ.t 93) (0, 0)))
  (hl : bs.length = 0) (hg : w.heap[g]? = some (.cells cur (ρ.t 5) (0, 0))) (hlc : 0 ≤ cap) (hcm : cap ≤ maxLen) (hcs : cur.size = cap) (htake : cur.toList.take 0 = bs) (hgb : g ≠ b)
  (h1 : ∀ v ∈ bs, v.oneCell' = true) (hn : 1 ≤ n) (hroom : cap - 0 < n) (hlim : 0 + n ≤ 140737488355328) :
  Calls P (ρ.f 252) #[.pointer (some ⟨b, 0, none⟩), .int .i64 n] w fun e w' => e = .returned (.int .i64 0) ∧ Grew (ρ.t 93) (ρ.t 5) b 0 n lr bs w w' := by
 have mixed := L.mixed
 have t5 := L.t5; have a5 := L.a5; have z5 := L.z5; have v5 := L.v5
 have t130 := L.t130; have a130 := L.a130; have z130 := L.z130; have v130 := L.v130
 have t3 := L.t3; have a3 := L.a3; have z3 := L.z3; have v3 := L.v3
 have t4 := L.t4; have a4 := L.a4; have z4 := L.z4; have v4 := L.v4
 have t0 := L.t0; have a0 := L.a0; have z0 := L.z0; have v0 := L.v0
 have t93 := L.t93; have u93 := run_underlying L.t93; have a93 := L.a93; have z93 := L.z93; have v93 := L.v93
 have t131 := L.t131; have a131 := L.a131; have z131 := L.z131; have v131 := L.v131
 have t37 := L.t37; have a37 := L.a37; have z37 := L.z37; have v37 := L.v37
 have t75 := L.t75; have a75 := L.a75; have z75 := L.z75; have v75 := L.v75
 have e181 : ∀ args w, (callFunc (ρ.f 181) args).run P w = .ok (.enter (ρ.f 181) args) w := enters_of L.f181 (by kernel_rfl) rfl
 have e251 : ∀ args w, (callFunc (ρ.f 251) args).run P w = .ok (.enter (ρ.f 251) args) w := enters_of L.f251 (by kernel_rfl) rfl
 have e290 : ∀ args w, (callFunc (ρ.f 290) args).run P w = .ok (.enter (ρ.f 290) args) w := enters_of L.f290 (by kernel_rfl) rfl
 have hIs : Lib.IsBuffer (ρ.t 93) (ρ.t 5) 0 b bs w := ⟨Nat.zero_le _, _, _, hbk, ⟨by rw [hl, Nat.mul_one], .inr ⟨g, cap, cur, by rw [hl], Nat.zero_le _, hg, by omega, hcm, by omega, by rw [hl, Nat.mul_one]; exact htake⟩⟩, by simp [Value.ownBlock]; exact hgb⟩
 have hnil : ∀ W, (binOp .eql (ρ.t 37) (.slice (some ⟨g, 0, none⟩) 0 cap) (.slice none 0 0)).run P W = .ok (.bool false) W := fun W => Lib.run_eql_slice_some_nil W _ _ _ L.t37
 go_enter L.f252, Body.n252_ntmps ρ
 go_wp2_with (go_at_fn (ρ.f 181); refine (Any.Buffer_Len { L with } 0 b bs _ hIs).mono ?_)
 rintro e W0 ⟨rfl, k, hW0⟩
 rw [hl]
 have hbk0 : W0.heap[b]? = some (.cells #[.slice (some ⟨g, 0, none⟩) 0 cap, .int .i64 0, .int .i8 lr] (ρ.t 93) (0, 0)) := by rw [hW0]; exact hbk
 have hg0 : W0.heap[g]? = some (.cells cur (ρ.t 5) (0, 0)) := by rw [hW0]; exact hg
 have c0 : W0.cell? ⟨b, 0, none⟩ = some (.slice (some ⟨g, 0, none⟩) 0 cap) := by rw [Lib.cell_of_heap hbk0]; rfl
 have c1 : W0.cell? ⟨b, 1, none⟩ = some (.int .i64 0) := by rw [Lib.cell_of_heap hbk0]; rfl
 have f0 : W0.frozen? ⟨b, 0, none⟩ = false := Lib.frozen_of_heap hbk0 0
 have f1 : W0.frozen? ⟨b, 1, none⟩ = false := Lib.frozen_of_heap hbk0 1
 have HW0 := Lib.hid hW0
 clear hW0 hIs
 have hcm' := hcm
 unfold maxLen at hcm'
 go_wp2_with (go_at_fn (ρ.f 251); refine (Any.Buffer_tryGrow_none { L with } b _ 0 cap n _ c0 hlc hcm hroom).mono ?_; rintro e w' ⟨rfl, rfl⟩)
 have hc2 : cap ≤ 140737488355328 := by omega
 have h1' : ∀ v ∈ cur.toList.take 0, v.oneCell' = true := by rw [htake]; exact h1
 have hbW := Lib.lt_of_heap hbk0
 have hwn : IntKind.i64.wrap (n : Int) = n := by rw [IntKind.wrap_i64]; omega
 go_region_with_o (
   go_at_fn (ρ.f 290)
   refine (Any.bytes_growSlice_row { L with } g 0 cap n cur _ ?_ hcs hlc hn hlim hc2 h1').mono ?_
   exact hg0
   rintro e w2 ⟨cap2, cells, rfl, hN, hcsz, htk, hcap2, hcm2, hbel⟩
   have hbk2 : w2.heap[b]? = some (.cells #[.slice (some ⟨g, 0, none⟩) 0 cap, .int .i64 0, .int .i8 lr] (ρ.t 93) (0, 0)) := (hbel.block b hbW).trans hbk0
   have d0 : w2.cell? ⟨b, 0, none⟩ = some (.slice (some ⟨g, 0, none⟩) 0 cap) := by rw [Lib.cell_of_heap hbk2]; rfl
   have d1 : w2.cell? ⟨b, 1, none⟩ = some (.int .i64 0) := by rw [Lib.cell_of_heap hbk2]; rfl
   have e0 : w2.frozen? ⟨b, 0, none⟩ = false := Lib.frozen_of_heap hbk2 0
   have e1 : w2.frozen? ⟨b, 1, none⟩ = false := Lib.frozen_of_heap hbk2 1)
 all_goals (
  go_wp2
  go_ret
  have hsz0 : w'.heap.size = w.heap.size := by rw [HW0.out]; rfl
  have hb0 : w.grownBy w'.drew (some b) := by rw [HW0.out]; exact ⟨rfl, rfl, rfl, Nat.le_refl _, fun _ _ _ => rfl⟩
  exact ⟨rfl, by simpa using grew_end (l := 0) (n := n) (by show w.heap.size ≤ w'.heap.size; omega) (by show w'.heap.size ≠ b; omega) hbk2 hN hcsz (htk.trans htake) hcap2 hcm2 (Lib.grownBy_below hb0 hbel) _⟩)
end Go.Vm

/- Proved: (*bytes.Buffer).Write, over whatever program bears the library's text of it: of what was there only the buffer's block and its row turn, and the row behind it is the elder one or new. -/
set_option linter.unusedVariables false
namespace Go.Vm
open Go Go.Proofs Go.Shelf Go.RowKit
variable {P : Program} {ρ : Ren}
/-- What a write leaves. -/
def Wrote (T e b : Nat) (v : Value) (bs cs : List Value) (w w' : World) : Prop :=
 ∃ v', w'.heap[b]? = some (.cells #[v', .int .i64 0, .int .i8 0] T (0, 0)) ∧ w'.ownsRow 0 e 1 v' (bs ++ cs).length (bs ++ cs) ∧ v'.ownBlock ≠ some b ∧
  (w'.os = w.os ∧ w'.tape = w.tape ∧ w'.output = w.output ∧ w.heap.size ≤ w'.heap.size) ∧
  (∀ k, k < w.heap.size → k ≠ b → v.ownBlock ≠ some k → w'.heap[k]? = w.heap[k]?) ∧ ∀ k, v'.ownBlock = some k → v.ownBlock = some k ∨ w.heap.size ≤ k
/-- the row, written -/
theorem wrote_end {T e b g l cap : Nat} {v : Value} {bs cs : List Value} {cur : Array Value} {w W1 : World} (hbk2 : W1.heap[b]? = some (.cells #[.slice (some ⟨g, 0, none⟩) (l + cs.length) cap, .int .i64 0, .int .i8 0] T (0, 0)))
  (hg : W1.heap[g]? = some (.cells cur e (0, 0))) (hcs : cur.size = cap) (hcm : cap ≤ maxLen) (hgb : g ≠ b) (hroom : l + cs.length ≤ cap) (htk : cur.toList.take l = bs) (hl : bs.length = l)
  (hgr : w.grownBy W1 (some b)) (hold : v.ownBlock = some g ∨ w.heap.size ≤ g) :
  Wrote T e b v bs cs w (W1.setRow g (cur.toList.take l ++ cs ++ cur.toList.drop (l + cs.length)).toArray) := by
 obtain ⟨r1, r2⟩ := Lib.written_end (news := cs) (l := l) (B := 0) (Nat.zero_le b) hbk2 (Nat.zero_le g) hg hcm hcs hgb hroom
 have hgs := (Array.getElem?_eq_some_iff.1 hg).1
 rw [htk] at r1 r2 ⊢
 obtain ⟨-, v', lr', h1, h2, h3⟩ := r1
 have hbf : (W1.setRow g (bs ++ cs ++ cur.toList.drop (l + cs.length)).toArray).heap[b]? = some (.cells #[.slice (some ⟨g, 0, none⟩) (l + cs.length) cap, .int .i64 0, .int .i8 0] T (0, 0)) := by
  rw [setRow_other _ _ _ _ (Ne.symm hgb)]; exact hbk2
 rw [hbf] at h1
 have e1 := Option.some.inj h1
 injection e1 with e1 _
 have e2 : Value.slice (some ⟨g, 0, none⟩) (l + cs.length) cap = v' := by
  have := congrArg (fun a => a[0]?) e1
  simpa using this
 subst e2
 refine ⟨_, hbf, h2, h3, ⟨r2.os.trans hgr.os, r2.tape.trans hgr.tape, r2.output.trans hgr.output, Nat.le_trans hgr.size r2.size⟩, fun k h4 h5 h6 => ?_, fun k h4 => ?_⟩
 ·have hk : k ≠ g := fun e => by
   rcases hold with h7 | h7
   ·exact h6 (by rw [h7, e])
   ·omega
  rw [setRow_other _ _ _ _ hk]
  exact hgr.block k h4 (fun e => h5 (Option.some.inj e))
 ·have : g = k := Option.some.inj h4
  rw [← this]; exact hold
theorem wrote_none {T e b : Nat} {v : Value} {bs : List Value} {w W1 : World} (hbk : W1.heap[b]? = some (.cells #[v, .int .i64 0, .int .i8 0] T (0, 0))) (ho : W1.ownsRow 0 e 1 v bs.length bs) (hne : v.ownBlock ≠ some b) (hgr : w.grownBy W1 (some b)) :
  Wrote T e b v bs [] w W1 :=
 ⟨v, hbk, by rw [List.append_nil]; exact ho, hne, ⟨hgr.os, hgr.tape, hgr.output, hgr.size⟩, fun k h4 h5 _ => hgr.block k h4 (fun e => h5 (Option.some.inj e)), fun k h => .inl h⟩
set_option maxHeartbeats 12800000 in
set_option maxRecDepth 100000 in
theorem write_k (L : LaysM.n180 P ρ) (b : Nat) (v : Value) (lr : Int) (bs cs : List Value) (ao : Option Addr) (n c : Nat) (w : World) (hbk : w.heap[b]? = some (.cells #[v, .int .i64 0, .int .i8 lr] (ρ.t 93) (0, 0)))
  (hown : w.ownsRow 0 (ρ.t 5) 1 v bs.length bs) (hne : v.ownBlock ≠ some b) (h1 : ∀ v ∈ bs, v.oneCell' = true)
  (hn : cs.length = n) (hsrc : n ≠ 0 → ∃ a, ao = some a ∧ a.block ≠ b ∧ ∀ (j : Nat) v, cs[j]? = some v → w.cell? (a.add j) = some v) (h1c : ∀ v ∈ cs, v.oneCell' = true) (hlim : bs.length + n ≤ 140737488355328) :
  Calls P (ρ.f 180) #[.pointer (some ⟨b, 0, none⟩), .slice ao n c] w fun e w' => e = .returned (.tuple #[.int .i64 n, .nilIface]) ∧ Wrote (ρ.t 93) (ρ.t 5) b v bs cs w w' := by
 have mixed := L.mixed
 have t5 := L.t5; have a5 := L.a5; have z5 := L.z5; have v5 := L.v5
 have t130 := L.t130; have a130 := L.a130; have z130 := L.z130; have v130 := L.v130
 have t37 := L.t37; have a37 := L.a37; have z37 := L.z37; have v37 := L.v37
 have t3 := L.t3; have a3 := L.a3; have z3 := L.z3; have v3 := L.v3
 have t75 := L.t75; have a75 := L.a75; have z75 := L.z75; have v75 := L.v75
 have t0 := L.t0; have a0 := L.a0; have z0 := L.z0; have v0 := L.v0
 have t93 := L.t93; have u93 := run_underlying L.t93; have a93 := L.a93; have z93 := L.z93; have v93 := L.v93
 have t91 := L.t91; have a91 := L.a91; have z91 := L.z91; have v91 := L.v91
 have t131 := L.t131; have a131 := L.a131; have z131 := L.z131; have v131 := L.v131
 have t4 := L.t4; have a4 := L.a4; have z4 := L.z4; have v4 := L.v4
 have e251 : ∀ args w, (callFunc (ρ.f 251) args).run P w = .ok (.enter (ρ.f 251) args) w := enters_of L.f251 (by kernel_rfl) rfl
 have e252 : ∀ args w, (callFunc (ρ.f 252) args).run P w = .ok (.enter (ρ.f 252) args) w := enters_of L.f252 (by kernel_rfl) rfl
 have c2 : w.cell? ⟨b, 2, none⟩ = some (.int .i8 lr) := by rw [Lib.cell_of_heap hbk]; rfl
 have f2 : w.frozen? ⟨b, 2, none⟩ = false := Lib.frozen_of_heap hbk 2
 have hbs : b < w.heap.size := (Array.getElem?_eq_some_iff.1 hbk).1
 -- behind 'b.lastRead = opInvalid'
 have hg0 : w.grownBy (w.setCell ⟨b, 2, none⟩ (.int .i8 0)) (some b) := Lib.grownBy_setCell w b 2 _
 have hbk0 : (w.setCell ⟨b, 2, none⟩ (.int .i8 0)).heap[b]? = some (.cells #[v, .int .i64 0, .int .i8 0] (ρ.t 93) (0, 0)) := Lib.heap_setCell_same (i := 2) hbk (.int .i8 0)
 have hsz0 : (w.setCell ⟨b, 2, none⟩ (.int .i8 0)).heap.size = w.heap.size := by simp [World.setCell]
 have hinfo : (P.info? (ρ.t 5)).map (·.size) = some 1 := by
  obtain ⟨i0, hi, -, hz1, -⟩ := info_parts L.i5
  rw [hi]; simp [hz1]
 -- the row
 have hrow : (bs = [] ∧ v = .slice none 0 0) ∨ ∃ g cap cur, v = .slice (some ⟨g, 0, none⟩) bs.length cap ∧ w.heap[g]? = some (.cells cur (ρ.t 5) (0, 0)) ∧ bs.length ≤ cap ∧ cap ≤ maxLen ∧ cur.size = cap ∧ cur.toList.take bs.length = bs ∧ g ≠ b := by
  rcases hown.2 with ⟨rfl, h0⟩ | ⟨g, cap, cur, rfl, -, hg, hnc, hcm, hcs, htk⟩
  ·exact .inl ⟨List.eq_nil_of_length_eq_zero h0, rfl⟩
  ·exact .inr ⟨g, cap, cur, rfl, hg, hnc, hcm, by simpa using hcs, by simpa using htk, fun e => hne (by simp [Value.ownBlock, e])⟩
 by_cases hs0 : n = 0
 ·subst hs0
  have hc0 : cs = [] := List.eq_nil_of_length_eq_zero hn
  subst hc0
  have hce : ∀ d dLen dCap W, (Builtin.copy_ #[(ρ.t 37), (ρ.t 37)] (ρ.t 3) #[.slice d dLen dCap, .slice ao 0 c]).run P W = .ok (goInt 0) W := fun d dLen dCap W => run_copy_none W (ρ.t 37) (ρ.t 37) (ρ.t 3) (ρ.t 5) d ao dLen dCap 0 c L.t37 hinfo (by simp)
  obtain ⟨av, cap, rfl, hlc, hcm⟩ : ∃ ao cap, v = .slice ao bs.length cap ∧ bs.length ≤ cap ∧ cap ≤ maxLen := by
   rcases hrow with ⟨rfl, rfl⟩ | ⟨g, cap, cur, rfl, -, h2, h3, -⟩
   ·exact ⟨none, 0, rfl, Nat.le_refl _, Nat.zero_le _⟩
   ·exact ⟨_, cap, rfl, h2, h3⟩
  have c0 : (w.setCell ⟨b, 2, none⟩ (.int .i8 0)).cell? ⟨b, 0, none⟩ = some (.slice av bs.length cap) := by rw [Lib.cell_of_heap hbk0]; rfl
  have f0 : (w.setCell ⟨b, 2, none⟩ (.int .i8 0)).frozen? ⟨b, 0, none⟩ = false := Lib.frozen_of_heap hbk0 0
  have hfin : Wrote (ρ.t 93) (ρ.t 5) b (.slice av bs.length cap) bs [] w ((w.setCell ⟨b, 2, none⟩ (.int .i8 0)).setCell ⟨b, 0, none⟩ (.slice av (bs.length + 0) cap)) :=
   wrote_none (Lib.heap_setCell_same (i := 0) hbk0 (.slice av (bs.length + 0) cap)) (by
    rcases hrow with ⟨rfl, e⟩ | ⟨g, cap', cur, e, hg, h2, h3, h4, h5, h6⟩
    ·cases e; exact World.ownsRow_nil _ _ _ _
    ·cases e
     refine ⟨by rw [Nat.mul_one], .inr ⟨g, cap, cur, rfl, Nat.zero_le _, ?_, h2, h3, by simpa using h4, by simpa using h5⟩⟩
     rw [Below.heap_setCell _ _ _ _ h6, Below.heap_setCell _ _ _ _ h6]; exact hg) hne (Lib.grownBy_setB hg0 0 _)
  have hcm' := hcm
  unfold maxLen at hcm'
  go_enter L.f180, Body.n180_ntmps ρ
  go_wp2_with (go_at_fn (ρ.f 251); refine (Any.Buffer_tryGrow_room { L with } b av bs.length cap 0 _ c0 f0 hlc hcm (by omega)).mono ?_; rintro e W1 ⟨rfl, hW1⟩)
  have d0 : W1.cell? ⟨b, 0, none⟩ = some (.slice av (bs.length + 0) cap) := by rw [hW1, Lib.cell_of_heap (Lib.heap_setCell_same (i := 0) hbk0 (.slice av (bs.length + 0) cap))]; rfl
  rw [← hW1] at hfin
  have HW1 := Lib.hid hW1
  clear hW1 c0 f0 c2 f2
  go_wp2
  all_goals (go_ret2; refine ⟨by first | rfl | simp, ?_⟩; first | exact hfin | (rw [HW1.out] at hfin; exact hfin) | (rw [HW1.out, show cap = bs.length by omega] at hfin; exact hfin))
 ·-- some bytes
  have hsrc' := hsrc hs0
  clear hsrc
  obtain ⟨a, rfl, hab, hsrc⟩ := hsrc'
  have fin : ∀ (g cap : Nat) (cur : Array Value) (W1 : World), W1.heap[b]? = some (.cells #[.slice (some ⟨g, 0, none⟩) (bs.length + n) cap, .int .i64 0, .int .i8 0] (ρ.t 93) (0, 0)) → W1.heap[g]? = some (.cells cur (ρ.t 5) (0, 0)) → cur.size = cap → cap ≤ maxLen → g ≠ b →
    bs.length + n ≤ cap → cur.toList.take bs.length = bs → w.grownBy W1 (some b) → (v.ownBlock = some g ∨ w.heap.size ≤ g) →
    (∀ W : World, W = W1 → ((Builtin.copy_ #[(ρ.t 37), (ρ.t 37)] (ρ.t 3) #[.slice (some ⟨g, bs.length, none⟩) n (cap - bs.length), .slice (some a) n c]).run P W = .ok (goInt n) (W1.setRow g (cur.toList.take bs.length ++ cs ++ cur.toList.drop (bs.length + cs.length)).toArray))) ∧
    Wrote (ρ.t 93) (ρ.t 5) b v bs cs w (W1.setRow g (cur.toList.take bs.length ++ cs ++ cur.toList.drop (bs.length + cs.length)).toArray) := by
   intro g cap cur W1 hbk2 hg hcs hcm hgb hroom htk hgr hold
   have hsrc1 : ∀ j v, cs[j]? = some v → W1.cell? (a.add j) = some v := fun j v hj => hgr.cell (hsrc j v hj) (by rw [Lib.block_add]; exact fun e => hab (Option.some.inj e))
   have hcp := run_copy_row (P := P) W1 (ρ.t 37) (ρ.t 37) (ρ.t 3) (ρ.t 5) g bs.length n (cap - bs.length) a n c cur (ρ.t 5) cs L.t37 hinfo hg (by rw [hn]; exact (Nat.min_self n).symm) hsrc1 (by rw [hn]; omega) h1c
   refine ⟨fun W hW => by rw [hW, hcp, hn], wrote_end (by rw [hn]; exact hbk2) hg hcs hcm hgb (by rw [hn]; exact hroom) htk rfl hgr hold⟩
  have grown : ∀ W1 : World, Grew (ρ.t 93) (ρ.t 5) b bs.length n 0 bs (w.setCell ⟨b, 2, none⟩ (.int .i8 0)) W1 → ∃ (N cap : Nat) (cur : Array Value), W1.heap[b]? = some (.cells #[.slice (some ⟨N, 0, none⟩) (bs.length + n) cap, .int .i64 0, .int .i8 0] (ρ.t 93) (0, 0)) ∧ bs.length + n ≤ cap ∧ cap ≤ maxLen ∧
    (∀ W : World, W = W1 → ((Builtin.copy_ #[(ρ.t 37), (ρ.t 37)] (ρ.t 3) #[.slice (some ⟨N, bs.length, none⟩) n (cap - bs.length), .slice (some a) n c]).run P W = .ok (goInt n) (W1.setRow N (cur.toList.take bs.length ++ cs ++ cur.toList.drop (bs.length + cs.length)).toArray))) ∧
    Wrote (ρ.t 93) (ρ.t 5) b v bs cs w (W1.setRow N (cur.toList.take bs.length ++ cs ++ cur.toList.drop (bs.length + cs.length)).toArray) := by
   rintro W1 ⟨N, cap, cur, h1, h2, h3, h4, h5, h6, h7, h8, h9⟩
   obtain ⟨q1, q2⟩ := fin N cap cur W1 h3 h4 h5 h8 h2 h7 h6 (Lib.grownBy_trans hg0 h9) (.inr (by rw [hsz0] at h1; exact h1))
   exact ⟨N, cap, cur, h3, h7, h8, q1, q2⟩
  have after : ∀ W1 : World, Grew (ρ.t 93) (ρ.t 5) b bs.length n 0 bs (w.setCell ⟨b, 2, none⟩ (.int .i8 0)) W1 → ∃ (N cap : Nat) (W2 : World), W1.cell? ⟨b, 0, none⟩ = some (.slice (some ⟨N, 0, none⟩) (bs.length + n) cap) ∧ bs.length + n ≤ cap ∧ cap ≤ maxLen ∧
    (Builtin.copy_ #[(ρ.t 37), (ρ.t 37)] (ρ.t 3) #[.slice (some ⟨N, bs.length, none⟩) n (cap - bs.length), .slice (some a) n c]).run P W1 = .ok (goInt n) W2 ∧ Wrote (ρ.t 93) (ρ.t 5) b v bs cs w W2 := by
   intro W1 h
   obtain ⟨N, cap, cur, h3, h7, h8, q1, q2⟩ := grown W1 h
   exact ⟨N, cap, _, by rw [Lib.cell_of_heap h3]; rfl, h7, h8, q1 W1 rfl, q2⟩
  have hn1 : 1 ≤ n := by omega
  by_cases hroom : ∃ g cap cur, v = .slice (some ⟨g, 0, none⟩) bs.length cap ∧ w.heap[g]? = some (.cells cur (ρ.t 5) (0, 0)) ∧ bs.length ≤ cap ∧ cap ≤ maxLen ∧ cur.size = cap ∧ cur.toList.take bs.length = bs ∧ g ≠ b ∧ n ≤ cap - bs.length
  ·-- there is room
   obtain ⟨g, cap, cur, rfl, hg, hlc, hcm, hcs, htk, hgb, hrm⟩ := hroom
   have c0 : (w.setCell ⟨b, 2, none⟩ (.int .i8 0)).cell? ⟨b, 0, none⟩ = some (.slice (some ⟨g, 0, none⟩) bs.length cap) := by rw [Lib.cell_of_heap hbk0]; rfl
   have f0 : (w.setCell ⟨b, 2, none⟩ (.int .i8 0)).frozen? ⟨b, 0, none⟩ = false := Lib.frozen_of_heap hbk0 0
   have hcm' := hcm
   unfold maxLen at hcm'
   have hbk1 := Lib.heap_setCell_same (i := 0) hbk0 (.slice (some ⟨g, 0, none⟩) (bs.length + n) cap)
   obtain ⟨q1, q2⟩ := fin g cap cur _ hbk1 (by rw [Below.heap_setCell _ _ _ _ hgb, Below.heap_setCell _ _ _ _ hgb]; exact hg) hcs hcm hgb (by omega) htk (Lib.grownBy_setB hg0 0 _) (.inl rfl)
   generalize hW2 : World.setRow _ _ _ = W2 at q1 q2
   have hne' : ¬ cap = bs.length := by omega
   go_enter L.f180, Body.n180_ntmps ρ
   go_wp2_with (go_at_fn (ρ.f 251); refine (Any.Buffer_tryGrow_room { L with } b (some ⟨g, 0, none⟩) bs.length cap n _ c0 f0 hlc hcm hrm).mono ?_; rintro e W1 ⟨rfl, hW1⟩)
   have d0 : W1.cell? ⟨b, 0, none⟩ = some (.slice (some ⟨g, 0, none⟩) (bs.length + n) cap) := by rw [hW1, Lib.cell_of_heap hbk1]; rfl
   have hcp := q1 W1 hW1
   rw [← hW1] at q1
   have hcp' : (Builtin.copy_ #[(ρ.t 37), (ρ.t 37)] (ρ.t 3) #[.slice (some ⟨g, bs.length, none⟩) n (cap - bs.length), .slice (some a) n c]).run P W1 = .ok (goInt n) W2 := hcp
   clear q1 hcp hbk1 c0 f0 c2 f2 hW1
   go_wp2
   go_ret2
   exact ⟨rfl, q2⟩
  ·-- there is none: it grows
   obtain ⟨av, cap, rfl, hlc, hcm, hlt, hgrow⟩ : ∃ ao cap, v = .slice ao bs.length cap ∧ bs.length ≤ cap ∧ cap ≤ maxLen ∧ cap - bs.length < n ∧
     Calls P (ρ.f 252) #[.pointer (some ⟨b, 0, none⟩), .int .i64 n] (w.setCell ⟨b, 2, none⟩ (.int .i8 0)) fun e w' => e = .returned (.int .i64 bs.length) ∧ Grew (ρ.t 93) (ρ.t 5) b bs.length n 0 bs (w.setCell ⟨b, 2, none⟩ (.int .i8 0)) w' := by
    rcases hrow with ⟨rfl, rfl⟩ | ⟨g, cap, cur, rfl, hg, hlc, hcm, hcs, htk, hgb⟩
    ·refine ⟨none, 0, rfl, Nat.le_refl _, Nat.zero_le _, by simp; omega, ?_⟩
     by_cases h64 : n ≤ 64
     ·exact grow_small { L with } b n 0 _ hbk0 hn1 h64
     ·exact grow_big { L with } b n 0 _ hbk0 (by omega) (by simpa using hlim)
    ·have hrm : cap - bs.length < n := by
      rcases Nat.lt_or_ge (cap - bs.length) n with h | h
      ·exact h
      ·exact absurd ⟨g, cap, cur, rfl, hg, hlc, hcm, hcs, htk, hgb, h⟩ hroom
     refine ⟨_, cap, rfl, hlc, hcm, hrm, ?_⟩
     have hg' : (w.setCell ⟨b, 2, none⟩ (.int .i8 0)).heap[g]? = some (.cells cur (ρ.t 5) (0, 0)) := by rw [Below.heap_setCell _ _ _ _ hgb]; exact hg
     by_cases hl0 : bs.length = 0
     ·have := grow_row0 (ρ := ρ) (P := P) { L with } b g cap n 0 cur bs _ (by rw [hl0] at hbk0; exact hbk0) hl0 hg' (Nat.zero_le _) hcm hcs (by rw [hl0] at htk; exact htk) hgb h1 hn1 (by omega) (by omega)
      rw [hl0]
      exact this
     ·exact grow_row { L with } b g bs.length cap n 0 cur bs _ hbk0 rfl hl0 hg' hlc hcm hcs htk hgb h1 hn1 hrm hlim
   have c0 : (w.setCell ⟨b, 2, none⟩ (.int .i8 0)).cell? ⟨b, 0, none⟩ = some (.slice av bs.length cap) := by rw [Lib.cell_of_heap hbk0]; rfl
   have hcm' := hcm
   unfold maxLen at hcm'
   go_enter L.f180, Body.n180_ntmps ρ
   go_wp2_with (go_at_fn (ρ.f 251); refine (Any.Buffer_tryGrow_none { L with } b av bs.length cap n _ c0 hlc hcm hlt).mono ?_; rintro e W1 ⟨rfl, hW1⟩)
   subst hW1
   go_wp2_with (go_at_fn (ρ.f 252); refine hgrow.mono ?_)
   rintro e W1 ⟨rfl, hG⟩
   obtain ⟨N, cap2, W2, d0, hr2, hcm2, hcp, q2⟩ := after W1 hG
   have hcm2' := hcm2
   unfold maxLen at hcm2'
   have hne' : ¬ cap2 = bs.length := by omega
   clear c0 f2 c2 hgrow hG
   go_wp2
   go_ret2
   exact ⟨rfl, q2⟩
end Go.Vm

/- Writing into a bytes.Buffer of the call's own: one operation. -/
set_option linter.unusedVariables false
namespace Go.Vm
open Go.Proofs Go.RowKit
section
variable {C : Ctx} {e : List (Nat × SV)} {obs : List Ob} {Q : Exit → St → Prop} {ops : Array Oper} {rest : List Oper} {o : Oper} {d : Nat}
/-- Function f writes bytes (elements of type bt) into a buffer (a block of type T). -/
def BufWr (P : Program) (f T bt : Nat) : Prop := enters P f = true ∧ ∀ (b : Nat) (v : Value) (lr : Int) (bs cs : List Value) (ao : Option Addr) (n c : Nat) (w : World), w.heap[b]? = some (.cells #[v, .int .i64 0, .int .i8 lr] T (0, 0)) →
 w.ownsRow 0 bt 1 v bs.length bs → v.ownBlock ≠ some b → (∀ v ∈ bs, v.oneCell' = true) → cs.length = n → (n ≠ 0 → ∃ a, ao = some a ∧ a.block ≠ b ∧ ∀ (j : Nat) v, cs[j]? = some v → w.cell? (a.add j) = some v) → (∀ v ∈ cs, v.oneCell' = true) →
 bs.length + n ≤ 140737488355328 → Calls P f #[.pointer (some ⟨b, 0, none⟩), .slice ao n c] w fun e w' => e = .returned (.tuple #[.int .i64 n, .nilIface]) ∧ Wrote T bt b v bs cs w w'
/-- What a slice holds that is to be written: of the call's own array, an own slice, or data. -/
def srcOf (obs : List Ob) : SV → Option (List D)
 | .sl k 1 0 len _ => match obs[k]? with
  | some (.fix _ cells) => if len ≤ cells.length then mapO (dataS 1) (cells.take len) else none
  | _ => none
 | .own k => match obs[k]? with
  | some (.grow _ 1 cells) => some cells
  | _ => none
 | .d (.ds 1 cells) => some cells
 | _ => none
/-- It lies elsewhere. -/
def srcNe (p q : Nat) : SV → Bool
 | .sl k _ _ _ _ => k != p && k != q
 | .own k => k != p && k != q
 | _ => true
theorem bw_blk {w : World} {ty sz n : Nat} {v : Value} {xs : List Value} (h : w.ownsRow 0 ty sz v n xs) : blk v = v.ownBlock := by
 rcases h.2 with ⟨rfl, _⟩ | ⟨g, cap, cur, rfl, _⟩ <;> rfl
theorem vals_of : ∀ {ds : List D}, ds.all D.isV = true → ∃ vs : List Value, ds = vs.map .v
 | [], _ => ⟨[], rfl⟩
 | x :: r, h => by
  simp only [List.all_cons, Bool.and_eq_true] at h
  obtain ⟨vs, rfl⟩ := vals_of h.2
  cases x with
  | v u => exact ⟨u :: vs, rfl⟩
  | _ => cases h.1
theorem src_spec {Ω : List Value} {a : Act} {w : World} (hr : Rel C ⟨e, obs⟩ Ω a w) {x : SV} {v : Value} {ds : List D} {p q b : Nat} {T : Nat} {pc : List SV} (hx : RepS w (okB C obs Ω w) Ω x v) (hs : srcOf obs x = some ds) (hne : srcNe p q x = true)
  (hp : obs[p]? = some (.fix T pc)) (hΩ : Ω[p]? = some (.pointer (some ⟨b, 0, none⟩))) {cs : List Value} (hv : ds = cs.map .v) :
  ∃ ao n c, v = .slice ao n c ∧ cs.length = n ∧ (n ≠ 0 → ∃ a, ao = some a ∧ a.block ≠ b ∧ ∀ (j : Nat) v, cs[j]? = some v → w.cell? (a.add j) = some v) := by
 subst hv
 cases x with
 | d x =>
  cases x with
  | ds sz cells =>
   match sz, hs with
   | 1, hs =>
    obtain rfl : cells = cs.map .v := Option.some.inj hs
    cases hx with
    | d _ _ h =>
     generalize hz : cs.map D.v = z at h
     cases h with
     | nil _ a c =>
      have : cs = [] := List.map_eq_nil_iff.1 hz
      subst this
      exact ⟨_, 0, _, rfl, rfl, fun h => absurd rfl h⟩
     | ds _ b2 off len cap _ vals hn hc hb hcell hrr =>
      subst hz
      refine ⟨_, len, cap, rfl, by simpa using hn, fun _ => ⟨_, rfl, fun e => hb.2.2 p _ _ hp rfl hΩ (by rw [← e]; rfl), fun j u hj => ?_⟩⟩
      have hjl := (List.getElem?_eq_some_iff.1 hj).1
      have h1 := hrr j (.v u) (by rw [List.getElem?_map, hj]; rfl)
      rw [Addr.add_of, hcell j (by simpa using hjl)]
      generalize vals j = y at h1
      cases h1; rfl
  | _ => cases hs
 | own k =>
  simp only [srcNe, Bool.and_eq_true, bne_iff_ne, ne_eq] at hne
  simp only [srcOf] at hs
  split at hs
  ·rename_i ty cells hk
   obtain rfl : cells = cs.map .v := Option.some.inj hs
   obtain ⟨n, xs, hΩk, how, hxl, hrr⟩ := hr.growV hk hx
   have hxs : xs = cs := by
    apply List.ext_getElem?
    intro j
    by_cases hj : j < cs.length
    ·have h1 : cs[j]? = some cs[j] := List.getElem?_eq_getElem hj
     obtain ⟨y, h2⟩ : ∃ y, xs[j]? = some y := ⟨_, List.getElem?_eq_getElem (by rw [hxl, List.length_map]; exact hj)⟩
     have h3 := hrr j (.v cs[j]) y (by rw [List.getElem?_map, h1]; rfl) h2
     rw [h1, h2]
     generalize cs[j] = z at h3
     cases h3; rfl
    ·rw [List.length_map] at hxl; rw [List.getElem?_eq_none (by omega), List.getElem?_eq_none (by omega)]
   subst hxs
   have hbk := bw_blk how
   rcases how.2 with ⟨rfl, h0⟩ | ⟨g, cap, cur, rfl, -, hg, hnc, hcm, hcs, htk⟩
   ·have h1 := how.1
    rw [h0] at h1
    exact ⟨none, 0, 0, rfl, by omega, fun h => absurd rfl h⟩
   ·have hn := how.1
    refine ⟨_, n, cap, rfl, by omega, fun _ => ⟨_, rfl, fun e => hr.mem.sep k p _ _ _ _ g hne.1 hk hp rfl rfl hΩk hΩ rfl (by rw [← e]; rfl), fun j u hj => ?_⟩⟩
    have hjl := (List.getElem?_eq_some_iff.1 hj).1
    rw [Addr.add_of, Lib.cell_of_heap hg]
    have h5 := congrArg (fun l => l[j]?) htk
    rw [List.getElem?_take, if_pos (by omega)] at h5
    simpa [hj] using h5
  ·cases hs
 | sl k sz off len cap =>
  simp only [srcNe, Bool.and_eq_true, bne_iff_ne, ne_eq] at hne
  match sz, off, hs with
  | 1, 0, hs =>
   simp only [srcOf] at hs
   split at hs
   ·rename_i ty cells hk
    split at hs
    ·rename_i hle
     cases hx with
     | sl _ _ _ _ _ b2 hb2 =>
      obtain ⟨b3, vs, he, hw, hl, hrr, h1⟩ := hr.mem.obj k _ _ hk hb2
      cases he
      obtain ⟨hl2, hi⟩ := mapO_get hs
      rw [List.length_map, List.length_take, Nat.min_eq_left hle] at hl2
      refine ⟨_, len, cap, rfl, by omega, fun _ => ⟨_, rfl, fun e => hr.mem.sep k p _ _ _ _ b2 hne.1 hk hp rfl rfl hb2 hΩ rfl (by rw [← e]; rfl), fun j u hj => ?_⟩⟩
      have hjl := (List.getElem?_eq_some_iff.1 hj).1
      have hcj : cells[j]? = some cells[j] := List.getElem?_eq_getElem (by omega)
      obtain ⟨y, hvj⟩ : ∃ y, vs[j]? = some y := ⟨_, List.getElem?_eq_getElem (by omega)⟩
      have h2 := hi j cells[j] (.v u) (by rw [List.getElem?_take, if_pos (by omega)]; exact hcj) (by rw [List.getElem?_map, hj]; rfl)
      have h3 := dataS_rep 1 h2 (hrr j _ _ hcj hvj)
      rw [Addr.add_of, Nat.zero_add, cell_of_row w b2 j _ ty (0, 0) hw]
      rw [List.getElem?_toArray, hvj]
      cases h3; rfl
    ·cases hs
   ·cases hs
  | 1, _ + 1, hs => cases hs
  | 0, _, hs => cases hs
  | _ + 2, _, hs => cases hs
 | _ => cases hs
/-- The objects behind a write. -/
def wroteObs (obs : List Ob) (p q T bt : Nat) (l : List Value) : List Ob := (obs.set p (.fix T [.own q, .d (.v (.int .i64 0)), .d (.v (.int .i8 0))])).set q (.grow bt 1 (l.map .v))
theorem Mem.wrote {C : Ctx} {obs : List Ob} {Ω : List Value} {w w' : World} (h : Mem C obs Ω w) {p q b T bt : Nat} {pc : List SV} {ds : List D} {v : Value} {bs cs : List Value} (hp : obs[p]? = some (.fix T pc)) (hq : obs[q]? = some (.grow bt 1 ds)) (hpq : p ≠ q)
  (hΩp : Ω[p]? = some (.pointer (some ⟨b, 0, none⟩))) (hΩq : Ω[q]? = some v) (hw : Wrote T bt b v bs cs w w') (hno : ∀ i ob, i ≠ p → i ≠ q → obs[i]? = some ob → ob.noO q = true) :
  ∃ v', Mem C (wroteObs obs p q T bt (bs ++ cs)) (Ω.set q v') w' ∧ v'.oneCell' = true ∧ ∀ k, okB C obs Ω w k → okB C (wroteObs obs p q T bt (bs ++ cs)) (Ω.set q v') w' k ∧ w'.heap[k]? = w.heap[k]? := by
 obtain ⟨v', hb', how', hne', ⟨f1, f2, f3, f4⟩, hfr, hrow⟩ := hw
 obtain ⟨n0, xs0, how0, _, _⟩ := h.obj q _ _ hq hΩq
 have b1 := bw_blk how0
 have b2 := bw_blk how'
 have one1 : v'.oneCell' = true := by rcases how'.2 with ⟨rfl, _⟩ | ⟨g, cap, cur, rfl, _⟩ <;> rfl
 have hplt := (List.getElem?_eq_some_iff.1 hp).1
 have hqlt := (List.getElem?_eq_some_iff.1 hq).1
 have hΩqlt := (List.getElem?_eq_some_iff.1 hΩq).1
 have lk : ∀ {i : Nat} {ob : Ob}, (wroteObs obs p q T bt (bs ++ cs))[i]? = some ob → (i = q ∧ ob = .grow bt 1 ((bs ++ cs).map .v)) ∨ (i = p ∧ ob = .fix T [.own q, .d (.v (.int .i64 0)), .d (.v (.int .i8 0))]) ∨ (i ≠ p ∧ i ≠ q ∧ obs[i]? = some ob) := fun {i ob} e1 => by
  rcases get_set e1 with ⟨rfl, rfl, _⟩ | ⟨hi, e1⟩
  ·exact .inl ⟨rfl, rfl⟩
  ·rcases get_set e1 with ⟨rfl, rfl, _⟩ | ⟨hi2, e1⟩
   ·exact .inr (.inl ⟨rfl, rfl⟩)
   ·exact .inr (.inr ⟨hi2, hi, e1⟩)
 have gΩ : ∀ {i : Nat} {k : Value}, i ≠ q → (Ω.set q v')[i]? = some k → Ω[i]? = some k := fun hi e => by rwa [List.getElem?_set_ne (Ne.symm hi)] at e
 have qΩ : ∀ {k : Value}, (Ω.set q v')[q]? = some k → k = v' := fun {k} e => by
  rw [List.getElem?_set_self hΩqlt] at e; exact (Option.some.inj e).symm
 have pΩ : ∀ {k : Value}, (Ω.set q v')[p]? = some k → k = .pointer (some ⟨b, 0, none⟩) := fun {k} e => by
  have := gΩ hpq e
  rw [hΩp] at this; exact (Option.some.inj this).symm
 have hok : ∀ k, okB C obs Ω w k → okB C (wroteObs obs p q T bt (bs ++ cs)) (Ω.set q v') w' k ∧ w'.heap[k]? = w.heap[k]? := fun k hk => by
  have hkb : b ≠ k := fun e => hk.2.2 p _ _ hp rfl hΩp (by rw [← e]; rfl)
  have hkv : v.ownBlock ≠ some k := fun e => hk.2.2 q _ _ hq rfl hΩq (by rw [b1]; exact e)
  refine ⟨⟨hk.1, Nat.lt_of_lt_of_le hk.2.1 f4, fun i ob z e1 l e2 hz => ?_⟩, hfr k hk.2.1 (Ne.symm hkb) hkv⟩
  rcases lk e1 with ⟨rfl, rfl⟩ | ⟨rfl, rfl⟩ | ⟨h1, h2, h3⟩
  ·rw [qΩ e2, b2] at hz
   rcases hrow k hz with h4 | h4
   ·exact hkv h4
   ·exact absurd hk.2.1 (by omega)
  ·rw [pΩ e2] at hz
   exact hkb (Option.some.inj hz)
  ·exact hk.2.2 i ob z h3 l (gΩ h2 e2) hz
 -- the other objects' blocks
 have oth : ∀ {i : Nat} {ob : Ob} {k : Value} {x : Nat}, i ≠ p → i ≠ q → obs[i]? = some ob → ob.live = true → Ω[i]? = some k → blk k = some x → x < w.heap.size ∧ x ≠ b ∧ v.ownBlock ≠ some x := fun {i ob k x} h1 h2 h3 l h4 h5 =>
  ⟨(h.obj i ob k h3 h4).lt l h5, fun e => h.sep i p _ _ _ _ x h1 h3 hp l rfl h4 hΩp h5 (by rw [e]; rfl), fun e => h.sep i q _ _ _ _ x h2 h3 hq l rfl h4 hΩq h5 (by rw [b1]; exact e)⟩
 refine ⟨v', ⟨by simp [wroteObs, h.len], fun i ob k e1 e2 => ?_, fun i j a c x y z hij e1 e2 l1 l2 e3 e4 hx hy => ?_, fun i ob k z e1 l1 e2 hz => ?_, ?_⟩, one1, hok⟩
 ·rcases lk e1 with ⟨rfl, rfl⟩ | ⟨rfl, rfl⟩ | ⟨h1, h2, h3⟩
  ·rw [qΩ e2]
   refine ⟨_, _, how', by simp, fun j x y hx hy => ?_⟩
   rw [List.getElem?_map, hy] at hx
   cases hx
   exact .v _
  ·rw [pΩ e2]
   refine ⟨b, [v', .int .i64 0, .int .i8 0], rfl, hb', rfl, fun j x y hx hy => ?_, fun y hy => ?_⟩
   ·match j with
    | 0 =>
     cases hx; cases hy
     exact .own _ _ (List.getElem?_set_self hΩqlt) one1
    | 1 => cases hx; cases hy; exact .d _ _ (.v _)
    | 2 => cases hx; cases hy; exact .d _ _ (.v _)
    | _ + 3 => cases hx
   ·simp only [List.mem_cons, List.not_mem_nil, or_false] at hy
    rcases hy with rfl | rfl | rfl
    ·exact one1
    ·rfl
    ·rfl
  ·have e2' := gΩ h2 e2
   have H := h.obj i ob k h3 e2'
   have hn := hno i ob h1 h2 h3
   cases ob with
   | dead => trivial
   | frame vs env => exact ⟨H.1, fun t x hx => let ⟨u, hu, hr⟩ := H.2 t x hx; ⟨u, hu, hr.noO hok (List.all_eq_true.1 (show env.all (fun q' => q'.2.noO q) = true from hn) (t, x) (get_mem hx))⟩⟩
   | grow ty2 sz2 cells2 =>
    obtain ⟨m, ys, hq2, hql, hqr⟩ := H
    refine ⟨m, ys, ⟨hq2.1, ?_⟩, hql, fun i x y hx hy => (hqr i x y hx hy).mono hok⟩
    have bq := bw_blk hq2
    rcases hq2.2 with hh | ⟨g, cap, cur, rfl, g1, g2, g3⟩
    ·exact .inl hh
    ·obtain ⟨o1, o2, o3⟩ := oth h1 h2 h3 rfl e2' rfl
     exact .inr ⟨g, cap, cur, rfl, g1, by rw [hfr g o1 o2 o3]; exact g2, g3⟩
   | fix ty2 cells2 =>
    obtain ⟨b3, vs, he, hw3, hl3, hr3, h13⟩ := H
    subst he
    obtain ⟨o1, o2, o3⟩ := oth h1 h2 h3 rfl e2' rfl
    refine ⟨b3, vs, rfl, by rw [hfr b3 o1 o2 o3]; exact hw3, hl3, fun j x y hx hy => (hr3 j x y hx hy).noO hok (List.all_eq_true.1 (show cells2.all (SV.noO q) = true from hn) x (List.mem_of_getElem? hx)), h13⟩
 ·-- apart
  have bq : ∀ {z : Nat}, blk v' = some z → v.ownBlock = some z ∨ w.heap.size ≤ z := fun hz => hrow _ (by rw [← b2]; exact hz)
  have bp : blk (Value.pointer (some ⟨b, 0, none⟩)) = some b := rfl
  rcases lk e1 with ⟨rfl, rfl⟩ | ⟨rfl, rfl⟩ | ⟨h1, h2, h3⟩ <;> rcases lk e2 with ⟨rfl, rfl⟩ | ⟨rfl, rfl⟩ | ⟨h4, h5, h6⟩
  ·exact hij rfl
  ·rw [qΩ e3] at hx; rw [pΩ e4] at hy
   rw [b2] at hx
   cases hy
   exact hne' hx
  ·rw [qΩ e3] at hx
   obtain ⟨o1, o2, o3⟩ := oth h4 h5 h6 l2 (gΩ h5 e4) hy
   rcases bq hx with h7 | h7
   ·exact o3 h7
   ·omega
  ·rw [pΩ e3] at hx; rw [qΩ e4] at hy
   rw [b2] at hy
   cases hx
   exact hne' hy
  ·exact hij rfl
  ·rw [pΩ e3] at hx
   obtain ⟨o1, o2, o3⟩ := oth h4 h5 h6 l2 (gΩ h5 e4) hy
   exact o2 (Option.some.inj hx).symm
  ·rw [qΩ e4] at hy
   obtain ⟨o1, o2, o3⟩ := oth h1 h2 h3 l1 (gΩ h2 e3) hx
   rcases bq hy with h7 | h7
   ·exact o3 h7
   ·omega
  ·rw [pΩ e4] at hy
   obtain ⟨o1, o2, o3⟩ := oth h1 h2 h3 l1 (gΩ h2 e3) hx
   exact o2 (Option.some.inj hy).symm
  ·exact h.sep i j _ _ _ _ z hij h3 h6 l1 l2 (gΩ h2 e3) (gΩ h5 e4) hx hy
 ·rcases lk e1 with ⟨rfl, rfl⟩ | ⟨rfl, rfl⟩ | ⟨h1, h2, h3⟩
  ·rw [qΩ e2, b2] at hz
   rcases hrow z hz with h4 | h4
   ·exact h.new _ _ _ z hq rfl hΩq (by rw [b1]; exact h4)
   ·exact .inl (Nat.le_trans h.fr.size h4)
  ·rw [pΩ e2] at hz
   exact h.new _ _ _ z hp rfl hΩp hz
  ·exact h.new i ob k z h3 l1 (gΩ h2 e2) hz
 ·refine ⟨f1.trans h.fr.os, f2.trans h.fr.tape, f3.trans h.fr.output, Nat.le_trans h.fr.size f4, fun z hz hm => ?_, h.fr.glob, h.fr.gmay⟩
  have n1 : z ≠ b := fun e => by
   rcases h.new p _ _ b hp rfl hΩp rfl with h1 | h1
   ·omega
   ·exact hm (by rw [e]; exact h1)
  have n2 : v.ownBlock ≠ some z := fun e => by
   rcases h.new q _ _ z hq rfl hΩq (by rw [b1]; exact e) with h1 | h1
   ·omega
   ·exact hm h1
  rw [hfr z (Nat.lt_of_lt_of_le hz h.fr.size) n1 n2]
  exact h.fr.block z hz hm
/-- A write into a buffer. -/
theorem AOp.callW {f T bt p q : Nat} {lr : Int} {src : SV} {bs cs : List D} (hE : EntersS C o ⟨e, obs⟩ f [.ptr p 0, src]) (hB : BufWr C.P f T bt) (hd : o.dst = some d) (hn : d < C.n)
  (hp : obs[p]? = some (.fix T [.own q, .d (.v (.int .i64 0)), .d (.v (.int .i8 lr))])) (hq : obs[q]? = some (.grow bt 1 bs)) (hs : srcOf obs src = some cs) (hne : srcNe p q src = true)
  (hbv : bs.all D.isV = true) (hcv : cs.all D.isV = true) (hb1 : bs.all D.one = true) (hc1 : cs.all D.one = true) (hlim : bs.length + cs.length ≤ 140737488355328)
  (hno : ((obs.set p .dead).set q .dead).all (Ob.noO q) = true) {e' : List (Nat × SV)} (he : dropO q [] e = e')
  (h : AO C ops rest ⟨(d, .d (.tu [.v (.int .i64 ((cs.length : Nat) : Int)), .v .nilIface])) :: e', (obs.set p (.fix T [.own q, .d (.v (.int .i64 0)), .d (.v (.int .i8 0))])).set q (.grow bt 1 (bs ++ cs))⟩ Q) : AOp C ops rest o ⟨e, obs⟩ Q := fun Ω a w hr => by
 subst he
 obtain ⟨bv, rfl⟩ := vals_of hbv
 obtain ⟨cv, rfl⟩ := vals_of hcv
 rw [List.length_map] at h
 obtain ⟨vs, hrun, hlen, hv⟩ := hE Ω a w hr
 match vs, hlen with
 | [u1, u2], _ =>
  have r1 := hv 0 _ u1 rfl rfl
  have r2 := hv 1 _ u2 rfl rfl
  have hpq : p ≠ q := fun e => by rw [e, hq] at hp; cases hp
  obtain ⟨b, us, rfl, hΩp, hw, hul, hur, _⟩ := hr.fix hp r1
  match us, hul with
  | [x0, x1, x2], _ =>
   have s0 := hur 0 _ x0 rfl rfl
   have s1 := hur 1 _ x1 rfl rfl
   have s2 := hur 2 _ x2 rfl rfl
   have e1 : x1 = .int .i64 0 := by cases s1 with | d _ _ h => cases h; rfl
   have e2 : x2 = .int .i8 lr := by cases s2 with | d _ _ h => cases h; rfl
   subst e1 e2
   obtain ⟨n, xs, hΩq, how, hxl, hxr⟩ := hr.growV hq s0
   have hxs : xs = bv := by
    apply List.ext_getElem?
    intro j
    by_cases hj : j < bv.length
    ·have h1 : bv[j]? = some bv[j] := List.getElem?_eq_getElem hj
     obtain ⟨y, h2⟩ : ∃ y, xs[j]? = some y := ⟨_, List.getElem?_eq_getElem (by rw [hxl, List.length_map]; exact hj)⟩
     have h3 := hxr j (.v bv[j]) y (by rw [List.getElem?_map, h1]; rfl) h2
     rw [h1, h2]
     generalize bv[j] = z at h3
     cases h3; rfl
    ·rw [List.length_map] at hxl; rw [List.getElem?_eq_none (by omega), List.getElem?_eq_none (by omega)]
   subst hxs
   have hnl : n = xs.length := by have := how.1; omega
   subst hnl
   have one : ∀ (l : List Value), (l.map D.v).all D.one = true → ∀ v ∈ l, v.oneCell' = true := fun l hl v hm => by
    have := List.all_eq_true.1 hl (.v v) (List.mem_map.2 ⟨v, hm, rfl⟩)
    exact (RepD.v (w := w) (ok := fun _ => True) v).one this
   obtain ⟨ao, m, c, rfl, hcl, hsrc⟩ := src_spec hr r2 hs hne hp hΩp rfl
   have hx0 : x0.ownBlock ≠ some b := fun e => hr.mem.sep q p _ _ _ _ b (Ne.symm hpq) hq hp rfl rfl hΩq hΩp (by rw [bw_blk how]; exact e) rfl
   unfold Oper.wp
   rw [hrun, Oper.upon_enter]
   refine (hB.2 b x0 lr xs cv ao m c w hw how hx0 (one _ hb1) hcl hsrc (one _ hc1) (by simpa [hcl] using hlim)).mono fun ed w' ⟨hed, hwr⟩ => ?_
   subst hed
   obtain ⟨v', hm, ho1, hok⟩ := hr.mem.wrote hp hq hpq hΩp hΩq hwr (fun i ob h1 h2 h3 => List.all_eq_true.1 hno ob (List.mem_of_getElem? (i := i) (by
    rw [List.getElem?_set_ne (Ne.symm h2), List.getElem?_set_ne (Ne.symm h1)]; exact h3)))
   rw [hd]
   have hrel : Rel C ⟨dropO q [] e, wroteObs obs p q T bt (xs ++ cv)⟩ (Ω.set q v') a w' := ⟨hr.defers, hr.size, fun t sv ht => by
    obtain ⟨_, hg, hf⟩ := dropO_get ht
    obtain ⟨val, hval, hrep⟩ := hr.env t sv hg
    exact ⟨val, hval, hrep.noO hok hf⟩, hm⟩
   have := h _ _ w' ((show Rel C ⟨dropO q [] e, (obs.set p (.fix T [.own q, .d (.v (.int .i64 0)), .d (.v (.int .i8 0))])).set q (.grow bt 1 (xs.map D.v ++ cv.map D.v))⟩ (Ω.set q v') a w' by rw [← List.map_append]; exact hrel).put hn (.d _ (.tuple #[.int .i64 ((cv.length : Nat) : Int), .nilIface]) (.tu [.v (.int .i64 ((cv.length : Nat) : Int)), .v .nilIface] [.int .i64 ((cv.length : Nat) : Int), .nilIface] rfl fun i x y hx hy => by
    match i with
    | 0 => cases hx; cases hy; exact .v _
    | 1 => cases hx; cases hy; exact .v _
    | _ + 2 => cases hx)))
   rw [← hcl]
   exact this
/-- The same; the counts are told. -/
theorem AOp.callW' {f T bt p q m n : Nat} {lr : Int} {src : SV} {bs cs : List D} (hE : EntersS C o ⟨e, obs⟩ f [.ptr p 0, src]) (hB : BufWr C.P f T bt) (hd : o.dst = some d) (hn : d < C.n)
  (hp : obs[p]? = some (.fix T [.own q, .d (.v (.int .i64 0)), .d (.v (.int .i8 lr))])) (hq : obs[q]? = some (.grow bt 1 bs)) (hs : srcOf obs src = some cs) (hne : srcNe p q src = true)
  (hbv : bs.all D.isV = true) (hcv : cs.all D.isV = true) (hb1 : bs.all D.one = true) (hc1 : cs.all D.one = true) (hm : bs.length = m * 1) (hk : cs.length = n * 1) (hlim : m + n ≤ 140737488355328)
  (hno : ((obs.set p .dead).set q .dead).all (Ob.noO q) = true) {e' : List (Nat × SV)} (he : dropO q [] e = e') {ds : List D} (hcat : bs ++ cs = ds)
  (h : AO C ops rest ⟨(d, .d (.tu [.v (.int .i64 (n : Int)), .v .nilIface])) :: e', (obs.set p (.fix T [.own q, .d (.v (.int .i64 0)), .d (.v (.int .i8 0))])).set q (.grow bt 1 ds)⟩ Q) : AOp C ops rest o ⟨e, obs⟩ Q := by
 rw [Nat.mul_one] at hm hk
 subst hm hk hcat
 exact AOp.callW hE hB hd hn hp hq hs hne hbv hcv hb1 hc1 hlim hno he h
theorem one_map {α : Type} {f : α → D} (hf : ∀ x, (f x).one = true) (l : List α) : (l.map f).all D.one = true := by
 rw [List.all_map, List.all_eq_true]
 exact fun x _ => hf x
/-- An array of the call's own, all of it. -/
theorem src_arr {α : Type} {f : α → D} {k n c ty : Nat} {l : List α} (hk : obs[k]? = some (.fix ty (l.map fun z => SV.d (f z)))) (hn : n = l.length) : srcOf obs (.sl k 1 0 n c) = some (l.map f) := by
 subst hn
 simp only [srcOf, hk]
 rw [if_pos (by rw [List.length_map]; exact Nat.le_refl _), List.take_of_length_le (by rw [List.length_map]; exact Nat.le_refl _)]
 have : ∀ l : List α, mapO (dataS 1) (l.map fun z => SV.d (f z)) = some (l.map f) := by
  intro l
  induction l with
  | nil => rfl
  | cons x l ih => simp only [List.map_cons, mapO, ih]; rfl
 exact this l
/-- An element of a part of an array of the call's own. -/
theorem AOp.indexSf {t el : TypeId} {x ix : Operand} {k : IntKind} {i lo : Int} {p n : Nat} (ho : o.op = .indexAddr t x ix) (hd : o.dst = some d) (hn : d < C.n) (hx : opS ⟨e, obs⟩ x = some (.sl p 1 (if n = lo.toNat then 0 else 0 + lo.toNat * 1) (n - lo.toNat) (n - lo.toNat)))
  (hi : opS ⟨e, obs⟩ ix = some (.d (.v (.int k i)))) (ht : elemT C.P t = some (el, 1)) (h : (0 ≤ lo ∧ 0 ≤ i) ∧ i < ((n - lo.toNat : Nat) : Int))
  (hA : AO C ops rest ⟨(d, .ptr p (0 + (lo + i).toNat * 1)) :: e, obs⟩ Q) : AOp C ops rest o ⟨e, obs⟩ Q := by
 refine AOp.indexSl ho hd hn hx hi ht h.1.2 h.2 ?_
 have : (if n = lo.toNat then 0 else 0 + lo.toNat * 1) + i.toNat * 1 = 0 + (lo + i).toNat * 1 := by
  have h1 := h.1.1; have h2 := h.1.2; have h3 := h.2
  rw [if_neg (by omega)]
  omega
 rw [this]
 exact hA
theorem AO.adoptO {l : List Oper} (p j el sz : Nat) {ty : Nat} {cells : List SV} (hp : obs[p]? = some (.fix ty cells)) (hj : cells[j]? = some (.d (.v (.slice none 0 0))))
  (h : AO C ops l ⟨e, (obs ++ [Ob.grow el sz []]).set p (.fix ty (cells.set j (.own obs.length)))⟩ Q) : AO C ops l ⟨e, obs⟩ Q := fun Ω a w hr => by
 have h1 := hr.adopt0 el sz
 refine h _ a w (h1.subOΩ (cells := cells) (by rw [List.getElem?_append_left (List.getElem?_eq_some_iff.1 hp).1]; exact hp) (by simp) fun i y hy => ?_)
 rcases get_set hy with ⟨rfl, rfl, _⟩ | ⟨_, hy⟩
 ·refine ⟨_, hj, fun w ok v hv => ?_⟩
  have := hv.val
  subst this
  refine .own _ _ ?_
  rw [hr.mem.len, List.getElem?_append_right (Nat.le_refl _)]
  simp
 ·exact ⟨y, hy, fun w ok v hv => hv⟩
theorem Rel.subOK {Ω : List Value} {a : Act} {w : World} (hr : Rel C ⟨e, obs⟩ Ω a w) {p ty : Nat} {cells cells' : List SV} (hp : obs[p]? = some (.fix ty cells)) (hl : cells.length = cells'.length)
  (hi : ∀ (j : Nat) x, cells'[j]? = some x → ∃ z, cells[j]? = some z ∧ ∀ v, RepS w (okB C obs Ω w) Ω z v → RepS w (okB C obs Ω w) Ω x v) : Rel C ⟨e, obs.set p (.fix ty cells')⟩ Ω a w := by
 have g1 : ∀ {i : Nat} {ob : Ob}, (obs.set p (.fix ty cells'))[i]? = some ob → ∃ ob', obs[i]? = some ob' ∧ ob'.live = ob.live ∧ (ob' = ob ∨ (ob' = .fix ty cells ∧ ob = .fix ty cells')) := fun {i ob} h => by
  rcases get_set h with ⟨rfl, rfl, _⟩ | ⟨_, h⟩
  ·exact ⟨_, hp, rfl, .inr ⟨rfl, rfl⟩⟩
  ·exact ⟨ob, h, rfl, .inl rfl⟩
 have hok : ∀ b, okB C obs Ω w b → okB C (obs.set p (.fix ty cells')) Ω w b := fun b hb => ⟨hb.1, hb.2.1, fun i ob k e1 l e2 => by
  obtain ⟨ob', h1, h2, _⟩ := g1 e1
  exact hb.2.2 i ob' k h1 (by rw [h2]; exact l) e2⟩
 have mono : ∀ {z : SV} {u : Value}, RepS w (okB C obs Ω w) Ω z u → RepS w (okB C (obs.set p (.fix ty cells')) Ω w) Ω z u := fun h => h.mono (fun b hb => ⟨hok b hb, rfl⟩) (fun _ _ e => e)
 refine ⟨hr.defers, hr.size, fun t x hx => ?_, ⟨by simp; exact hr.mem.len, fun i ob k e1 e2 => ?_, fun i j x y h k b hij e1 e2 l1 l2 e3 e4 hp => ?_, fun i ob k b e1 l e2 hp => ?_, hr.mem.fr⟩⟩
 ·obtain ⟨v, hv, hrep⟩ := hr.env t x hx
  exact ⟨v, hv, mono hrep⟩
 ·obtain ⟨ob', h1, _, h3⟩ := g1 e1
  have H := hr.mem.obj i ob' k h1 e2
  rcases h3 with rfl | ⟨rfl, rfl⟩
  ·exact H.mono (fun b hb => ⟨hok b hb, rfl⟩) (fun _ _ e => e) (fun _ _ _ => rfl)
  ·obtain ⟨b, vs, rfl, hw, hvl, hvr, hone⟩ := H
   refine ⟨b, vs, rfl, hw, by rw [hvl, hl], fun j x y hx hy => ?_, hone⟩
   obtain ⟨z, hz, hzl⟩ := hi j x hx
   exact mono (hzl _ (hvr j z y hz hy))
 ·obtain ⟨x', h1, q1, _⟩ := g1 e1
  obtain ⟨y', h2, q2, _⟩ := g1 e2
  exact hr.mem.sep i j x' y' h k b hij h1 h2 (by rw [q1]; exact l1) (by rw [q2]; exact l2) e3 e4 hp
 ·obtain ⟨x', h1, q1, _⟩ := g1 e1
  exact hr.mem.new i x' k b h1 (by rw [q1]; exact l) e2 hp
/-- An own slice in a block of the call's own becomes data. -/
theorem Rel.freezeGO {Ω : List Value} {a : Act} {w : World} (hr : Rel C ⟨e, obs⟩ Ω a w) (hm : C.may = C.may) {p q i T ty sz : Nat} {pc : List SV} {cells : List D} (hp : obs[p]? = some (.fix T pc)) (hi : pc[i]? = some (.own q)) (hq : obs[q]? = some (.grow ty sz cells)) :
  Rel C ⟨thawE q (.ds sz cells) e, (obs.set q .dead).set p (.fix T (pc.set i (.d (.ds sz cells))))⟩ Ω a w := by
 have hpq : p ≠ q := fun e => by rw [e, hq] at hp; cases hp
 have h1 := hr.freezeGrow hm hq
 refine h1.subOK (by rw [List.getElem?_set_ne (Ne.symm hpq)]; exact hp) (by simp) fun j x hx => ?_
 rcases get_set hx with ⟨rfl, rfl, _⟩ | ⟨_, hx⟩
 ·refine ⟨_, hi, fun v hv => ?_⟩
  obtain ⟨hmem, hok⟩ := hr.mem.kill q
  cases hv with
  | own _ _ hΩ _ =>
   obtain ⟨n, xs, how, hxl, hrr⟩ := hr.mem.obj q _ _ hq hΩ
   refine .d _ _ ?_
   rcases how.2 with ⟨rfl, h0⟩ | ⟨g, cap, cur, rfl, _, hg, hnc, _, hcs, hct⟩
   ·have : cells = [] := List.eq_nil_of_length_eq_zero (by rw [← hxl, how.1, h0]; simp)
    subst this; exact .nil _ _ _
   ·have hcell : ∀ (i : Nat), i < cells.length → xs[i]? = some (xs.getD i undef) := fun i hi => by
     rw [List.getD_eq_getElem?_getD, List.getElem?_eq_getElem (by omega)]; rfl
    refine .ds _ _ _ _ _ _ (fun i => xs.getD i undef) (by rw [← hxl, how.1]) hnc ⟨?_, (Array.getElem?_eq_some_iff.1 hg).1, fun i ob k e1 l e2 => ?_⟩ (fun i hi => ?_) (fun i x hx => ?_)
    ·rcases hr.mem.new q _ _ g hq rfl hΩ rfl with h | h
     ·exact .inr (.inl h)
     ·exact .inr (.inr h)
    ·rcases get_set e1 with ⟨rfl, rfl, _⟩ | ⟨hi, e1⟩
     ·cases l
     ·exact hr.mem.sep q i _ _ _ _ g (Ne.symm hi) hq e1 rfl l hΩ e2 rfl
    ·rw [Nat.zero_add, cell_of_row w g i cur ty (0, 0) hg]
     have hin : i < n * sz := by have := how.1; omega
     have h1 : xs[i]? = cur.toList[i]? := by rw [← hct, List.getElem?_take, if_pos hin]
     have h2 := hcell i hi
     rw [h1] at h2
     simpa using h2
    ·exact (hrr i x _ hx (hcell i (List.getElem?_eq_some_iff.1 hx).1)).mono fun b hb => ⟨hok b hb, rfl⟩
 ·exact ⟨x, hx, fun v h => h⟩
theorem AC.freezeGO {c : Code} (p q i : Nat) {T ty sz : Nat} {pc : List SV} {cells : List D} {e' : List (Nat × SV)} (hm : C.may = C.may) (hp : obs[p]? = some (.fix T pc)) (hi : pc[i]? = some (.own q)) (hq : obs[q]? = some (.grow ty sz cells)) (he : thawE q (.ds sz cells) e = e')
  (h : AC C c ⟨e', (obs.set q .dead).set p (.fix T (pc.set i (.d (.ds sz cells))))⟩ Q) : AC C c ⟨e, obs⟩ Q := fun Ω a w hr => h Ω a w (by subst he; exact hr.freezeGO hm hp hi hq)
/-- Bytes as a string. -/
theorem AOp.bytesStr {t ty el : TypeId} {x : Operand} {xs : List Int} {g : Int → D} (ho : o.op = .convert t ty x) (hd : o.dst = some d) (hn : d < C.n) (hx : opS ⟨e, obs⟩ x = some (.d (.ds 1 (xs.map g)))) (hg : ∀ z, g z = .v (.int .u8 z))
  (hs : C.P.underlying t = some (.slice el)) (he : C.P.underlying el = some (.int .u8)) (hu : C.P.underlying ty = some .string) (h : AO C ops rest ⟨(d, .d (.v (.string (strOfNums xs)))) :: e, obs⟩ Q) : AOp C ops rest o ⟨e, obs⟩ Q :=
 AOp.value hd hn (fun Ω a w hr => by
  refine ⟨.string (strOfNums xs), ?_, .d _ _ (.v _)⟩
  have hv := hr.eval hx
  generalize hev : a.eval x = v at hv
  have run : (convert t ty v).run C.P w = .ok (.string (strOfNums xs)) w := by
   cases hv with
   | d _ _ h =>
    generalize hz : xs.map g = z at h
    cases h with
    | nil _ ao c =>
     have : xs = [] := List.map_eq_nil_iff.1 hz
     subst this
     cases ao with
     | none => rw [run_convert_bytes_nil w t el hs he 0 c ty hu]; rfl
     | some b =>
      rw [run_convert_bytes_string w t ty el (some b) 0 c hs he hu, run_bytesToString w b 0 c [] (by have := run_loadCells_list (P := C.P) w b [] (fun j v hj => by simp at hj); simpa using this)]
      rfl
    | ds _ b off len cap _ vals hl hc hb hcell hrr =>
     subst hz
     have hl' : xs.length = len := by simpa using hl
     refine run_convert_bytes_arg w t el hs he b off len cap xs hl' (fun i hi => ?_) ty hu
     have hxi : xs[i]? = some (xs.getD i 0) := by rw [List.getD_eq_getElem?_getD, List.getElem?_eq_getElem (by omega)]; rfl
     have h1 := hrr i (g (xs.getD i 0)) (by rw [List.getElem?_map, hxi]; rfl)
     rw [hg] at h1
     rw [hcell i (by simpa [hl'] using hi)]
     generalize vals i = y at h1
     cases h1; rfl
  simp only [execOp, ho, hev, Sem.run_bind, Sem.run_pure, Result.andThen_ok, run]) h
end
end Go.Vm
