/- A view of the machine's memory: values as data (what only is read) and objects of the call's own. The core: what it says of a world, and how it is kept. -/
import Derived.Test.YtbgdonedjgkhiaaGlob
import Derived.WalkKit
import Derived.WalkLawsBesides
namespace Go.Vm

/-- Data: what a value reads as, where nothing of it is written any more. Cells of structs in memory lie one behind the other. -/
inductive D where
  | v (x : Value)
  | ds (sz : Nat) (cells : List D)
  | pt (cells : List D)
  | ag (cells : List D)
  | ifc (t : TypeId) (x : D)
  | tu (vs : List D)
  /-- a function with what it has captured -/
  | clo (f : FuncId) (caps : List D)

/-- w at the blocks ok. -/
inductive RepD (w : World) (ok : Nat → Prop) : D → Value → Prop
  | v (x : Value) : RepD w ok (.v x) x
  | nil (sz : Nat) (a : Option Addr) (c : Nat) : RepD w ok (.ds sz []) (.slice a 0 c)
  | ds (sz b off len cap : Nat) (cells : List D) (vals : Nat → Value) (hn : cells.length = len * sz) (hc : len ≤ cap) (hb : ok b)
      (hcell : ∀ i, i < cells.length → w.cell? ⟨b, off + i, none⟩ = some (vals i)) (hr : ∀ (i : Nat) x, cells[i]? = some x → RepD w ok x (vals i)) :
      RepD w ok (.ds sz cells) (.slice (some ⟨b, off, none⟩) len cap)
  | pt (b off : Nat) (cells : List D) (vals : Nat → Value) (hb : ok b)
      (hcell : ∀ i, i < cells.length → w.cell? ⟨b, off + i, none⟩ = some (vals i)) (hr : ∀ (i : Nat) x, cells[i]? = some x → RepD w ok x (vals i)) :
      RepD w ok (.pt cells) (.pointer (some ⟨b, off, none⟩))
  | ag (cells : List D) (vs : List Value) (hl : vs.length = cells.length) (hr : ∀ (i : Nat) x y, cells[i]? = some x → vs[i]? = some y → RepD w ok x y) :
      RepD w ok (.ag cells) (.agg vs.toArray)
  | ifc (t : TypeId) (x : D) (u : Value) (h : RepD w ok x u) : RepD w ok (.ifc t x) (.iface t u)
  | tu (cells : List D) (vs : List Value) (hl : vs.length = cells.length) (hr : ∀ (i : Nat) x y, cells[i]? = some x → vs[i]? = some y → RepD w ok x y) :
      RepD w ok (.tu cells) (.tuple vs.toArray)
  | clo (f : FuncId) (cells : List D) (vs : List Value) (hl : vs.length = cells.length) (hr : ∀ (i : Nat) x y, cells[i]? = some x → vs[i]? = some y → RepD w ok x y) :
      RepD w ok (.clo f cells) (.func (.func f) #[] vs.toArray)

theorem cell_heap {w w' : World} {b o : Nat} (h : w'.heap[b]? = w.heap[b]?) : w'.cell? ⟨b, o, none⟩ = w.cell? ⟨b, o, none⟩ :=
  World.cell?_of_block (a := ⟨b, o, none⟩) h

theorem RepD.mono {w w' : World} {ok ok' : Nat → Prop} (h : ∀ b, ok b → ok' b ∧ w'.heap[b]? = w.heap[b]?) {x : D} {v : Value} (hr : RepD w ok x v) : RepD w' ok' x v := by
  induction hr with
  | v x => exact .v x
  | nil sz a c => exact .nil sz a c
  | ds sz b off len cap cells vals hn hc hb hcell _ ih =>
    exact .ds sz b off len cap cells vals hn hc (h b hb).1 (fun i hi => by rw [cell_heap (h b hb).2]; exact hcell i hi) ih
  | pt b off cells vals hb hcell _ ih =>
    exact .pt b off cells vals (h b hb).1 (fun i hi => by rw [cell_heap (h b hb).2]; exact hcell i hi) ih
  | ag cells vs hl _ ih => exact .ag cells vs hl ih
  | ifc t x u _ ih => exact .ifc t x u ih
  | tu cells vs hl _ ih => exact .tu cells vs hl ih
  | clo f cells vs hl _ ih => exact .clo f cells vs hl ih

/-- What a slot or an own object's cell holds: data; or what leads to an object of the call's own (o: its number). -/
inductive SV where
  | d (x : D)
  | ptr (o off : Nat)
  | sl (o sz off len cap : Nat)
  | own (o : Nat)
  /-- the first k elements of an own slice -/
  | pre (o k : Nat)
  /-- data, a slice whose capacity is its length -/
  | full (sz : Nat) (cells : List D)
  | ep (cells : List D) (i : Nat)
  | ag (cells : List SV)
  | tu (vs : List SV)
  | ifc (t : TypeId) (x : SV)
  | fv (fn : Fn) (first caps : List SV)
  /-- of this nothing is said -/
  | any

inductive RepS (w : World) (ok : Nat → Prop) (Ω : List Value) : SV → Value → Prop
  | any (v : Value) : RepS w ok Ω .any v
  | d (x : D) (v : Value) (h : RepD w ok x v) : RepS w ok Ω (.d x) v
  | ptr (o off b : Nat) (h : Ω[o]? = some (.pointer (some ⟨b, 0, none⟩))) : RepS w ok Ω (.ptr o off) (.pointer (some ⟨b, off, none⟩))
  | ptrG (o off b len cap : Nat) (h : Ω[o]? = some (.slice (some ⟨b, 0, none⟩) len cap)) : RepS w ok Ω (.ptr o off) (.pointer (some ⟨b, off, none⟩))
  | sl (o sz off len cap b : Nat) (h : Ω[o]? = some (.pointer (some ⟨b, 0, none⟩))) : RepS w ok Ω (.sl o sz off len cap) (.slice (some ⟨b, off, none⟩) len cap)
  | own (o : Nat) (v : Value) (h : Ω[o]? = some v) (h1 : v.oneCell' = true := by first | rfl | assumption) : RepS w ok Ω (.own o) v
  | pre (o k n cap : Nat) (a : Option Addr) (h : Ω[o]? = some (.slice a n cap)) (hk : k ≤ n) : RepS w ok Ω (.pre o k) (.slice a k cap)
  | full (sz : Nat) (cells : List D) (a : Option Addr) (n : Nat) (h : RepD w ok (.ds sz cells) (.slice a n n)) : RepS w ok Ω (.full sz cells) (.slice a n n)
  | ep (b off i : Nat) (cells : List D) (vals : Nat → Value) (hb : ok b)
      (hcell : ∀ j, j < cells.length → w.cell? ⟨b, off + j, none⟩ = some (vals j)) (hr : ∀ (j : Nat) x, cells[j]? = some x → RepD w ok x (vals j)) :
      RepS w ok Ω (.ep cells i) (.pointer (some ⟨b, off + i, none⟩))
  | ag (cells : List SV) (vs : List Value) (hl : vs.length = cells.length) (hr : ∀ (i : Nat) x y, cells[i]? = some x → vs[i]? = some y → RepS w ok Ω x y) :
      RepS w ok Ω (.ag cells) (.agg vs.toArray)
  | tu (cells : List SV) (vs : List Value) (hl : vs.length = cells.length) (hr : ∀ (i : Nat) x y, cells[i]? = some x → vs[i]? = some y → RepS w ok Ω x y) :
      RepS w ok Ω (.tu cells) (.tuple vs.toArray)
  | ifc (t : TypeId) (x : SV) (u : Value) (h : RepS w ok Ω x u) : RepS w ok Ω (.ifc t x) (.iface t u)
  | fv (fn : Fn) (first caps : List SV) (fs cs : List Value) (hf : fs.length = first.length) (hc : cs.length = caps.length)
      (hfr : ∀ (i : Nat) x y, first[i]? = some x → fs[i]? = some y → RepS w ok Ω x y) (hcr : ∀ (i : Nat) x y, caps[i]? = some x → cs[i]? = some y → RepS w ok Ω x y) :
      RepS w ok Ω (.fv fn first caps) (.func fn fs.toArray cs.toArray)

theorem RepS.mono {w w' : World} {ok ok' : Nat → Prop} {Ω Ω' : List Value} (h : ∀ b, ok b → ok' b ∧ w'.heap[b]? = w.heap[b]?) (hΩ : ∀ (o : Nat) v, Ω[o]? = some v → Ω'[o]? = some v)
    {x : SV} {v : Value} (hr : RepS w ok Ω x v) : RepS w' ok' Ω' x v := by
  induction hr with
  | any v => exact .any v
  | d x v hd => exact .d x v (hd.mono h)
  | ptr o off b ho => exact .ptr o off b (hΩ _ _ ho)
  | ptrG o off b len cap ho => exact .ptrG o off b len cap (hΩ _ _ ho)
  | sl o sz off len cap b ho => exact .sl o sz off len cap b (hΩ _ _ ho)
  | own o v ho h1 => exact .own o v (hΩ _ _ ho) h1
  | pre o k n cap a ho hk => exact .pre o k n cap a (hΩ _ _ ho) hk
  | full sz cells a n hd => exact .full sz cells a n (hd.mono h)
  | ep b off i cells vals hb hcell hr =>
    exact .ep b off i cells vals (h b hb).1 (fun j hj => by rw [cell_heap (h b hb).2]; exact hcell j hj) (fun j x hj => (hr j x hj).mono h)
  | ag cells vs hl _ ih => exact .ag cells vs hl ih
  | tu cells vs hl _ ih => exact .tu cells vs hl ih
  | ifc t x u _ ih => exact .ifc t x u ih
  | fv fn first caps fs cs hf hc _ _ ih1 ih2 => exact .fv fn first caps fs cs hf hc ih1 ih2

def get : List (Nat × SV) → Nat → Option SV
  | [], _ => none
  | (k, x) :: r, t => if k = t then some x else get r t
theorem get_mem {e : List (Nat × SV)} {t : Nat} {x : SV} (h : get e t = some x) : (t, x) ∈ e := by
  induction e with
  | nil => cases h
  | cons p r ih =>
    obtain ⟨k, y⟩ := p
    simp only [get] at h
    split at h
    · rename_i e; subst e; cases h; exact .head _
    · exact .tail _ (ih h)

/-- An object: a block of cells; a slice that is appended to; one of which nothing is said any more; the slots of a function that has called and waits (its slots' values). -/
inductive Ob where
  | fix (ty : TypeId) (cells : List SV)
  | grow (ty : TypeId) (sz : Nat) (cells : List D)
  | dead
  | frame (vs : Array Value) (env : List (Nat × SV))

def Ob.live : Ob → Bool
  | .dead => false
  | _ => true

def blk : Value → Option Nat
  | .pointer (some a) => some a.block
  | .slice (some a) _ _ => some a.block
  | _ => none

def ObOK (w : World) (ok : Nat → Prop) (Ω : List Value) (h : Value) : Ob → Prop
  | .fix ty cells => ∃ (b : Nat) (vs : List Value), h = .pointer (some ⟨b, 0, none⟩) ∧ w.heap[b]? = some (.cells vs.toArray ty (0, 0)) ∧ vs.length = cells.length ∧
      (∀ (i : Nat) x y, cells[i]? = some x → vs[i]? = some y → RepS w ok Ω x y) ∧ ∀ y, y ∈ vs → y.oneCell' = true
  | .grow ty sz cells => ∃ (n : Nat) (xs : List Value), w.ownsRow 0 ty sz h n xs ∧ xs.length = cells.length ∧ (∀ (i : Nat) x y, cells[i]? = some x → xs[i]? = some y → RepD w ok x y)
  | .dead => True
  | .frame vs env => blk h = none ∧ ∀ t x, get env t = some x → ∃ v, vs[t]? = some v ∧ RepS w ok Ω x v

structure Ctx where
  P : Program
  W : World
  /-- old blocks that may be read -/
  ok : Nat → Prop
  /-- old blocks that may be written -/
  may : List Nat
  /-- slots -/
  n : Nat
  /-- what is deferred -/
  dfs : List Deferred := []

/-- The blocks that hold no object of the call's own. -/
def okB (C : Ctx) (obs : List Ob) (Ω : List Value) (w : World) (b : Nat) : Prop :=
  (C.ok b ∨ C.W.heap.size ≤ b) ∧ b < w.heap.size ∧ ∀ (o : Nat) ob h, obs[o]? = some ob → ob.live = true → Ω[o]? = some h → blk h ≠ some b

structure St where
  env : List (Nat × SV)
  obs : List Ob

def put (e : List (Nat × SV)) (t : Nat) (x : SV) : List (Nat × SV) := (t, x) :: e

theorem get_put (e : List (Nat × SV)) (t u : Nat) (x : SV) : get (put e t x) u = if t = u then some x else get e u := rfl

/-- The package variables hold what is said of them. -/
def HoldsG (W : World) : Prop := (∀ p, p ∈ Globs → p.1 % 1048576 < W.heap.size ∧ W.cell? ⟨p.1 % 1048576, p.1 / 1048576, none⟩ = some p.2) ∧ (∀ p, p ∈ GlobsE → p < W.heap.size ∧ ∃ t u, W.cell? ⟨p, 0, none⟩ = some (.iface t u)) ∧
  ∀ p, p ∈ GlobsP → p < W.heap.size ∧ ∃ t a, W.cell? ⟨p, 0, none⟩ = some (.iface t (.pointer (some a))) ∧ ErrT t
structure Fr (C : Ctx) (w : World) : Prop where
  os : w.os = C.W.os
  tape : w.tape = C.W.tape
  output : w.output = C.W.output
  size : C.W.heap.size ≤ w.heap.size
  block : ∀ b, b < C.W.heap.size → b ∉ C.may → w.heap[b]? = C.W.heap[b]?
  glob : HoldsG C.W

structure Mem (C : Ctx) (obs : List Ob) (Ω : List Value) (w : World) : Prop where
  len : obs.length = Ω.length
  obj : ∀ (o : Nat) ob h, obs[o]? = some ob → Ω[o]? = some h → ObOK w (okB C obs Ω w) Ω h ob
  sep : ∀ (i j : Nat) a b h k x, i ≠ j → obs[i]? = some a → obs[j]? = some b → a.live = true → b.live = true → Ω[i]? = some h → Ω[j]? = some k → blk h = some x → blk k ≠ some x
  new : ∀ (o : Nat) ob h b, obs[o]? = some ob → ob.live = true → Ω[o]? = some h → blk h = some b → C.W.heap.size ≤ b ∨ b ∈ C.may
  fr : Fr C w

structure Rel (C : Ctx) (s : St) (Ω : List Value) (a : Act) (w : World) : Prop where
  defers : a.defers = C.dfs
  size : a.tmps.size = C.n
  env : ∀ t x, get s.env t = some x → ∃ v, a.tmps[t]? = some v ∧ RepS w (okB C s.obs Ω w) Ω x v
  mem : Mem C s.obs Ω w

theorem ObOK.lt {w : World} {ok : Nat → Prop} {Ω : List Value} {h : Value} {ob : Ob} (H : ObOK w ok Ω h ob) (hl : ob.live = true) {b : Nat} (hb : blk h = some b) : b < w.heap.size := by
  cases ob with
  | dead => cases hl
  | frame vs env => rw [H.1] at hb; cases hb
  | fix ty cells =>
    obtain ⟨b', vs, rfl, hw, _⟩ := H
    cases hb
    exact (Array.getElem?_eq_some_iff.1 hw).1
  | grow ty sz cells =>
    obtain ⟨n, xs, ho, _⟩ := H
    have : Value.ownBlock h = some b := by
      rcases ho.2 with ⟨rfl, _⟩ | ⟨g, cap, cur, rfl, _⟩
      · cases hb
      · exact hb
    exact (ho.lt b this).2

theorem ObOK.mono {w w' : World} {ok ok' : Nat → Prop} {Ω Ω' : List Value} {h : Value} {ob : Ob} (H : ObOK w ok Ω h ob) (hok : ∀ b, ok b → ok' b ∧ w'.heap[b]? = w.heap[b]?)
    (hΩ : ∀ (o : Nat) v, Ω[o]? = some v → Ω'[o]? = some v) (hb : ∀ b, blk h = some b → ob.live = true → w'.heap[b]? = w.heap[b]?) : ObOK w' ok' Ω' h ob := by
  cases ob with
  | dead => trivial
  | frame vs env => exact ⟨H.1, fun t x hx => let ⟨v, hv, hr⟩ := H.2 t x hx; ⟨v, hv, hr.mono hok hΩ⟩⟩
  | fix ty cells =>
    obtain ⟨b', vs, rfl, hw, hl, hr, h1⟩ := H
    exact ⟨b', vs, rfl, (hb b' rfl rfl).trans hw, hl, fun i x y hx hy => (hr i x y hx hy).mono hok hΩ, h1⟩
  | grow ty sz cells =>
    obtain ⟨n, xs, ho, hl, hr⟩ := H
    refine ⟨n, xs, ⟨ho.1, ?_⟩, hl, fun i x y hx hy => (hr i x y hx hy).mono hok⟩
    rcases ho.2 with hn | ⟨g, cap, cur, rfl, h0, hg, rest⟩
    · exact .inl hn
    · exact .inr ⟨g, cap, cur, rfl, h0, (hb g rfl rfl).trans hg, rest⟩

/-! ### How the memory turns -/

theorem Act.put_get {a : Act} {d : Nat} {v : Value} (hd : d < a.tmps.size) (t : Nat) : (a.put (some d) v).tmps[t]? = if d = t then some v else a.tmps[t]? := by
  simp only [Act.put, Array.getElem?_setIfInBounds]
  split
  · rename_i h; subst h; simp
  · rfl

theorem Rel.put {C : Ctx} {s : St} {Ω : List Value} {a : Act} {w : World} (h : Rel C s Ω a w) {d : Nat} (hd : d < C.n) {x : SV} {v : Value} (hr : RepS w (okB C s.obs Ω w) Ω x v) :
    Rel C ⟨put s.env d x, s.obs⟩ Ω (a.put (some d) v) w := by
  refine ⟨h.defers, by simp only [Act.put, Array.size_setIfInBounds]; exact h.size, fun t y hy => ?_, h.mem⟩
  rw [Act.put_get (by rw [h.size]; exact hd)]
  dsimp only at hy
  rw [get_put] at hy
  split
  · rename_i e; subst e; rw [if_pos rfl] at hy; cases hy; exact ⟨v, rfl, hr⟩
  · rename_i e; rw [if_neg e] at hy; exact h.env t y hy

theorem Rel.putNone {C : Ctx} {s : St} {Ω : List Value} {a : Act} {w : World} (h : Rel C s Ω a w) (v : Value) : Rel C s Ω (a.put none v) w := h

theorem okB_heap {C : Ctx} {obs : List Ob} {Ω : List Value} {w w' : World} (h : w'.heap = w.heap) : okB C obs Ω w' = okB C obs Ω w := by
  funext b; unfold okB; rw [h]

/-- A step that leaves the blocks alone. -/
theorem Mem.heap {C : Ctx} {obs : List Ob} {Ω : List Value} {w w' : World} (h : Mem C obs Ω w) (hh : w'.heap = w.heap) (ho : w'.os = w.os) (ht : w'.tape = w.tape) (hp : w'.output = w.output) : Mem C obs Ω w' := by
  refine ⟨h.len, fun o ob k h1 h2 => ?_, h.sep, h.new, ⟨ho.trans h.fr.os, ht.trans h.fr.tape, hp.trans h.fr.output, by rw [hh]; exact h.fr.size, fun b h1 h2 => by rw [hh]; exact h.fr.block b h1 h2, h.fr.glob⟩⟩
  rw [okB_heap hh]
  exact (h.obj o ob k h1 h2).mono (fun b hb => ⟨hb, by rw [hh]⟩) (fun _ _ e => e) (fun b _ _ => by rw [hh])

theorem Rel.heap {C : Ctx} {s : St} {Ω : List Value} {a : Act} {w w' : World} (h : Rel C s Ω a w) (hh : w'.heap = w.heap) (ho : w'.os = w.os) (ht : w'.tape = w.tape) (hp : w'.output = w.output) : Rel C s Ω a w' := by
  refine ⟨h.defers, h.size, fun t x hx => ?_, h.mem.heap hh ho ht hp⟩
  obtain ⟨v, hv, hr⟩ := h.env t x hx
  exact ⟨v, hv, by rw [okB_heap hh]; exact hr.mono (fun b hb => ⟨hb, by rw [hh]⟩) (fun _ _ e => e)⟩

theorem list_get_append {α : Type} {l : List α} {x : α} {i : Nat} {y : α} (h : (l ++ [x])[i]? = some y) : l[i]? = some y ∨ (i = l.length ∧ y = x) := by
  rw [List.getElem?_append] at h
  split at h
  · exact .inl h
  · rename_i hi
    right
    have : i - l.length = 0 := by
      rcases Nat.eq_zero_or_pos (i - l.length) with h0 | h0
      · exact h0
      · rw [List.getElem?_eq_none (by simp; omega)] at h; cases h
    rw [this] at h
    simp at h
    exact ⟨by omega, h.symm⟩

theorem get_left {α : Type} {l r : List α} {i : Nat} {y : α} (h : l[i]? = some y) : (l ++ r)[i]? = some y := by
  rw [List.getElem?_append_left (List.getElem?_eq_some_iff.1 h).1]; exact h

/-- A new block that is an object of the call's own (or says nothing). -/
theorem okB_alloc {C : Ctx} {obs : List Ob} {Ω : List Value} {w : World} (hlen : obs.length = Ω.length) {ob : Ob} {hd : Value} {o : Obj} (hb : ∀ b, blk hd = some b → b = w.heap.size) (b : Nat) (h : okB C obs Ω w b) :
    okB C (obs ++ [ob]) (Ω ++ [hd]) (w.alloc o) b ∧ (w.alloc o).heap[b]? = w.heap[b]? := by
  refine ⟨⟨h.1, ?_, fun o' ob' h' h1 h2 h3 => ?_⟩, heap_alloc_old w _ h.2.1⟩
  · have := h.2.1; show b < (w.heap.push o).size; simp; omega
  · rcases list_get_append h1 with h1 | ⟨e1, e2⟩
    · rcases list_get_append h3 with h3 | ⟨e3, e4⟩
      · exact h.2.2 o' ob' h' h1 h2 h3
      · have := (List.getElem?_eq_some_iff.1 h1).1; omega
    · rcases list_get_append h3 with h3 | ⟨e3, e4⟩
      · have := (List.getElem?_eq_some_iff.1 h3).1; omega
      · subst e4; intro e; have := hb b e; have := h.2.1; omega

theorem Mem.alloc {C : Ctx} {obs : List Ob} {Ω : List Value} {w : World} (h : Mem C obs Ω w) (ty : TypeId) (cells : List SV) (vs : List Value) (hl : vs.length = cells.length)
    (hr : ∀ (i : Nat) x y, cells[i]? = some x → vs[i]? = some y → RepS w (okB C obs Ω w) Ω x y) (h1 : ∀ y, y ∈ vs → y.oneCell' = true) :
    Mem C (obs ++ [.fix ty cells]) (Ω ++ [.pointer (some ⟨w.heap.size, 0, none⟩)]) (w.alloc (.cells vs.toArray ty)) := by
  have hok : ∀ b, okB C obs Ω w b → okB C (obs ++ [.fix ty cells]) (Ω ++ [.pointer (some ⟨w.heap.size, 0, none⟩)]) (w.alloc (.cells vs.toArray ty)) b ∧ (w.alloc (.cells vs.toArray ty)).heap[b]? = w.heap[b]? :=
    fun b hb => okB_alloc h.len (fun b hb => by cases hb; rfl) b hb
  have hΩ : ∀ (o : Nat) v, Ω[o]? = some v → (Ω ++ [.pointer (some ⟨w.heap.size, 0, none⟩)])[o]? = some v := fun o v e => get_left e
  refine ⟨by simp [h.len], fun o ob k e1 e2 => ?_, fun i j a b p q x hij e1 e2 l1 l2 e3 e4 hp => ?_, fun o ob p b e1 l1 e2 hp => ?_, ?_⟩
  · rcases list_get_append e1 with e1 | ⟨i1, rfl⟩
    · rcases list_get_append e2 with e2 | ⟨i2, _⟩
      · refine (h.obj o ob k e1 e2).mono hok hΩ fun b hb hv => heap_alloc_old w _ ((h.obj o ob k e1 e2).lt hv hb)
      · have := (List.getElem?_eq_some_iff.1 e1).1; have := h.len; omega
    · rcases list_get_append e2 with e2 | ⟨i2, rfl⟩
      · have := (List.getElem?_eq_some_iff.1 e2).1; have := h.len; omega
      · exact ⟨w.heap.size, vs, rfl, heap_alloc_new w _, hl, fun i x y hx hy => (hr i x y hx hy).mono hok hΩ, h1⟩
  · have hlen := h.len
    rcases list_get_append e1 with e1 | ⟨i1, f1⟩ <;> rcases list_get_append e2 with e2 | ⟨i2, f2⟩
    · have z1 := (List.getElem?_eq_some_iff.1 e1).1
      have z2 := (List.getElem?_eq_some_iff.1 e2).1
      rcases list_get_append e3 with e3 | ⟨i3, f3⟩
      · rcases list_get_append e4 with e4 | ⟨i4, f4⟩
        · exact h.sep i j a b p q x hij e1 e2 l1 l2 e3 e4 hp
        · omega
      · omega
    · have z1 := (List.getElem?_eq_some_iff.1 e1).1
      rcases list_get_append e3 with e3 | ⟨i3, f3⟩
      · rcases list_get_append e4 with e4 | ⟨i4, f4⟩
        · have z4 := (List.getElem?_eq_some_iff.1 e4).1; omega
        · subst f4; intro hq; have e : some w.heap.size = some x := hq; injection e with e; have := (h.obj i a p e1 e3).lt l1 hp; omega
      · omega
    · have z2 := (List.getElem?_eq_some_iff.1 e2).1
      rcases list_get_append e3 with e3 | ⟨i3, f3⟩
      · have z3 := (List.getElem?_eq_some_iff.1 e3).1; omega
      · rcases list_get_append e4 with e4 | ⟨i4, f4⟩
        · subst f3; intro hq; have e : some w.heap.size = some x := hp; injection e with e; have := (h.obj j b q e2 e4).lt l2 hq; omega
        · omega
    · omega
  · rcases list_get_append e1 with e1 | ⟨i1, rfl⟩ <;> rcases list_get_append e2 with e2 | ⟨i2, rfl⟩
    · exact h.new o ob p b e1 l1 e2 hp
    · have := (List.getElem?_eq_some_iff.1 e1).1; have := h.len; omega
    · have := (List.getElem?_eq_some_iff.1 e2).1; have := h.len; omega
    · cases hp; exact .inl h.fr.size
  · exact ⟨h.fr.os, h.fr.tape, h.fr.output, by have := h.fr.size; show _ ≤ (w.heap.push _).size; simp; omega, fun b e1 e2 => (heap_alloc_old w _ (Nat.lt_of_lt_of_le e1 h.fr.size)).trans (h.fr.block b e1 e2), h.fr.glob⟩

/-- A new object, led to by slot d. -/
theorem Rel.alloc {C : Ctx} {s : St} {Ω : List Value} {a : Act} {w : World} (h : Rel C s Ω a w) (ty : TypeId) (cells : List SV) (vs : List Value) (hl : vs.length = cells.length)
    (hr : ∀ (i : Nat) x y, cells[i]? = some x → vs[i]? = some y → RepS w (okB C s.obs Ω w) Ω x y) (h1 : ∀ y, y ∈ vs → y.oneCell' = true) :
    Rel C ⟨s.env, s.obs ++ [.fix ty cells]⟩ (Ω ++ [.pointer (some ⟨w.heap.size, 0, none⟩)]) a (w.alloc (.cells vs.toArray ty)) := by
  refine ⟨h.defers, h.size, fun t x hx => ?_, h.mem.alloc ty cells vs hl hr h1⟩
  obtain ⟨v, hv, hrv⟩ := h.env t x hx
  exact ⟨v, hv, hrv.mono (fun b hb => okB_alloc h.mem.len (fun b hb => by cases hb; rfl) b hb) (fun o v e => get_left e)⟩

theorem get_set {α : Type} {l : List α} {o i : Nat} {x y : α} (h : (l.set o x)[i]? = some y) : (i = o ∧ y = x ∧ o < l.length) ∨ (i ≠ o ∧ l[i]? = some y) := by
  rw [List.getElem?_set] at h
  split at h
  · rename_i e
    split at h
    · left; cases h; exact ⟨e.symm, rfl, by assumption⟩
    · cases h
  · rename_i e; exact .inr ⟨fun e2 => e e2.symm, h⟩

theorem okB_set {C : Ctx} {obs : List Ob} {Ω : List Value} {w w' : World} {o : Nat} {old new : Ob} {b : Nat} (ho : obs[o]? = some old) (hl : old.live = true ∨ new.live = false) (hs : w.heap.size ≤ w'.heap.size)
    (h : okB C obs Ω w b) : okB C (obs.set o new) Ω w' b := by
  refine ⟨h.1, Nat.lt_of_lt_of_le h.2.1 hs, fun i ob k e1 l e2 => ?_⟩
  rcases get_set e1 with ⟨rfl, rfl, _⟩ | ⟨_, e1⟩
  · rcases hl with hl | hl
    · exact h.2.2 i old k ho hl e2
    · rw [l] at hl; cases hl
  · exact h.2.2 i ob k e1 l e2

/-- An own block is written. -/
theorem Mem.set {C : Ctx} {obs : List Ob} {Ω : List Value} {w : World} (h : Mem C obs Ω w) {o b : Nat} {ty : TypeId} {cells cells' : List SV} {old : List Value} (ho : obs[o]? = some (.fix ty cells))
    (hΩ : Ω[o]? = some (.pointer (some ⟨b, 0, none⟩))) (hw : w.heap[b]? = some (.cells old.toArray ty (0, 0))) (vs : List Value) (hl : vs.length = cells'.length)
    (hr : ∀ (i : Nat) x y, cells'[i]? = some x → vs[i]? = some y → RepS w (okB C obs Ω w) Ω x y) (h1 : ∀ y, y ∈ vs → y.oneCell' = true) :
    Mem C (obs.set o (.fix ty cells')) Ω (w.setRow b vs.toArray) ∧ (∀ k, okB C obs Ω w k → okB C (obs.set o (.fix ty cells')) Ω (w.setRow b vs.toArray) k ∧ (w.setRow b vs.toArray).heap[k]? = w.heap[k]?) := by
  have hok : ∀ k, okB C obs Ω w k → okB C (obs.set o (.fix ty cells')) Ω (w.setRow b vs.toArray) k ∧ (w.setRow b vs.toArray).heap[k]? = w.heap[k]? := by
    intro k hk
    refine ⟨okB_set ho (.inl rfl) (by simp) hk, setRow_other w b k _ fun e => ?_⟩
    subst e
    exact hk.2.2 o _ _ ho rfl hΩ rfl
  refine ⟨⟨by simp [h.len], fun i ob k e1 e2 => ?_, fun i j a c p q x hij e1 e2 l1 l2 e3 e4 hp => ?_, fun i ob p x e1 l1 e2 hp => ?_, ?_⟩, hok⟩
  · rcases get_set e1 with ⟨rfl, rfl, _⟩ | ⟨hi, e1⟩
    · rw [hΩ] at e2; cases e2
      exact ⟨b, vs, rfl, setRow_heap w b _ _ ty _ hw, hl, fun i x y hx hy => (hr i x y hx hy).mono hok (fun _ _ e => e), h1⟩
    · refine (h.obj i ob k e1 e2).mono hok (fun _ _ e => e) fun c hc hv => setRow_other w b c _ fun e => ?_
      subst e
      exact h.sep o i _ _ _ _ _ (Ne.symm hi) ho e1 rfl hv hΩ e2 rfl hc
  · rcases get_set e1 with ⟨f1, f2, _⟩ | ⟨hi, f1⟩ <;> rcases get_set e2 with ⟨g1, g2, _⟩ | ⟨hj, g1⟩
    · exact (hij (f1.trans g1.symm)).elim
    · subst f1; exact h.sep i j _ _ p q x hij ho g1 rfl l2 e3 e4 hp
    · subst g1; exact h.sep i j _ _ p q x hij f1 ho l1 rfl e3 e4 hp
    · exact h.sep i j a c p q x hij f1 g1 l1 l2 e3 e4 hp
  · rcases get_set e1 with ⟨rfl, rfl, _⟩ | ⟨hi, e1⟩
    · exact h.new i _ p x ho rfl e2 hp
    · exact h.new i ob p x e1 l1 e2 hp
  · refine ⟨h.fr.os, h.fr.tape, h.fr.output, by simp; exact h.fr.size, fun c e1 e2 => ?_, h.fr.glob⟩
    rw [setRow_other w b c _ fun e => ?_]
    · exact h.fr.block c e1 e2
    · subst e
      rcases h.new o _ _ c ho rfl hΩ rfl with hn | hn
      · omega
      · exact e2 hn

/-- Of an object nothing is said any more. -/
theorem Mem.kill {C : Ctx} {obs : List Ob} {Ω : List Value} {w : World} (h : Mem C obs Ω w) (o : Nat) : Mem C (obs.set o .dead) Ω w ∧ ∀ k, okB C obs Ω w k → okB C (obs.set o .dead) Ω w k := by
  have hok : ∀ k, okB C obs Ω w k → okB C (obs.set o .dead) Ω w k := by
    intro k hk
    refine ⟨hk.1, hk.2.1, fun i ob p e1 l e2 => ?_⟩
    rcases get_set e1 with ⟨rfl, rfl, _⟩ | ⟨_, e1⟩
    · cases l
    · exact hk.2.2 i ob p e1 l e2
  refine ⟨⟨by simp [h.len], fun i ob k e1 e2 => ?_, fun i j a c p q x hij e1 e2 l1 l2 e3 e4 hp => ?_, fun i ob p x e1 l1 e2 hp => ?_, h.fr⟩, hok⟩
  · rcases get_set e1 with ⟨rfl, rfl, _⟩ | ⟨hi, e1⟩
    · trivial
    · exact (h.obj i ob k e1 e2).mono (fun b hb => ⟨hok b hb, rfl⟩) (fun _ _ e => e) (fun _ _ _ => rfl)
  · rcases get_set e1 with ⟨rfl, rfl, _⟩ | ⟨hi, e1⟩
    · cases l1
    · rcases get_set e2 with ⟨rfl, rfl, _⟩ | ⟨hj, e2⟩
      · cases l2
      · exact h.sep i j a c p q x hij e1 e2 l1 l2 e3 e4 hp
  · rcases get_set e1 with ⟨rfl, rfl, _⟩ | ⟨hi, e1⟩
    · cases l1
    · exact h.new i ob p x e1 l1 e2 hp

/- The first m objects alone; they name none of the others. -/
mutual
def SV.under (m : Nat) : SV → Bool
  | .d _ => true
  | .ptr o _ => decide (o < m)
  | .sl o _ _ _ _ => decide (o < m)
  | .own o => decide (o < m)
  | .pre o _ => decide (o < m)
  | .full _ _ => true
  | .ep _ _ => true
  | .any => true
  | .ag l => SV.underL m l
  | .tu l => SV.underL m l
  | .ifc _ x => SV.under m x
  | .fv _ a b => SV.underL m a && SV.underL m b
termination_by structural x => x
def SV.underL (m : Nat) : List SV → Bool
  | [] => true
  | x :: r => SV.under m x && SV.underL m r
termination_by structural x => x
end
theorem SV.underL_get {m : Nat} : ∀ {l : List SV}, SV.underL m l = true → ∀ {i : Nat} {x : SV}, l[i]? = some x → SV.under m x = true
  | [], _, i, x, hx => by simp at hx
  | y :: r, h, i, x, hx => by
    simp only [SV.underL, Bool.and_eq_true] at h
    cases i with
    | zero => simp at hx; subst hx; exact h.1
    | succ i => exact SV.underL_get h.2 (by simpa using hx)
def Ob.under (m : Nat) : Ob → Bool
  | .fix _ cells => cells.all (SV.under m)
  | .grow _ _ _ => true
  | .dead => true
  | .frame _ env => env.all fun p => p.2.under m

theorem RepS.take {w : World} {ok ok' : Nat → Prop} {Ω : List Value} {m : Nat} (h : ∀ b, ok b → ok' b) {x : SV} {v : Value} (hb : x.under m = true) (hr : RepS w ok Ω x v) : RepS w ok' (Ω.take m) x v := by
  have ht : ∀ {o : Nat} {v : Value}, o < m → Ω[o]? = some v → (Ω.take m)[o]? = some v := fun ho e => by rw [List.getElem?_take, if_pos ho]; exact e
  induction hr with
  | any v => exact .any v
  | d x v hd => exact .d x v (hd.mono fun b hb => ⟨h b hb, rfl⟩)
  | ptr o off b ho => exact .ptr o off b (ht (of_decide_eq_true hb) ho)
  | ptrG o off b len cap ho => exact .ptrG o off b len cap (ht (of_decide_eq_true hb) ho)
  | sl o sz off len cap b ho => exact .sl o sz off len cap b (ht (of_decide_eq_true hb) ho)
  | own o v ho h1 => exact .own o v (ht (of_decide_eq_true hb) ho) h1
  | pre o k n cap a ho hk => exact .pre o k n cap a (ht (of_decide_eq_true hb) ho) hk
  | full sz cells a n hd => exact .full sz cells a n (hd.mono fun b hb => ⟨h b hb, rfl⟩)
  | ep b off i cells vals hb2 hcell hr => exact .ep b off i cells vals (h b hb2) hcell (fun j x hj => (hr j x hj).mono fun b hb => ⟨h b hb, rfl⟩)
  | ag cells vs hl _ ih => exact .ag cells vs hl fun i x y hx hy => ih i x y hx hy (SV.underL_get hb hx)
  | tu cells vs hl _ ih => exact .tu cells vs hl fun i x y hx hy => ih i x y hx hy (SV.underL_get hb hx)
  | ifc t x u _ ih => exact .ifc t x u (ih hb)
  | fv fn first caps fs cs hf hc _ _ ih1 ih2 =>
    have hb2 : SV.underL m first = true ∧ SV.underL m caps = true := by simpa only [SV.under, Bool.and_eq_true] using hb
    exact .fv fn first caps fs cs hf hc (fun i x y hx hy => ih1 i x y hx hy (SV.underL_get hb2.1 hx)) (fun i x y hx hy => ih2 i x y hx hy (SV.underL_get hb2.2 hx))

theorem Mem.take {C : Ctx} {obs : List Ob} {Ω : List Value} {w : World} (h : Mem C obs Ω w) (m : Nat) (hb : (obs.take m).all (Ob.under m) = true) :
    Mem C (obs.take m) (Ω.take m) w ∧ ∀ k, okB C obs Ω w k → okB C (obs.take m) (Ω.take m) w k := by
  have g1 : ∀ {i : Nat} {ob : Ob}, (obs.take m)[i]? = some ob → i < m ∧ obs[i]? = some ob := fun {i ob} e => by
    rw [List.getElem?_take] at e; split at e
    · exact ⟨by assumption, e⟩
    · cases e
  have g2 : ∀ {i : Nat} {v : Value}, (Ω.take m)[i]? = some v → Ω[i]? = some v := fun {i ob} e => by
    rw [List.getElem?_take] at e; split at e
    · exact e
    · cases e
  have hok : ∀ k, okB C obs Ω w k → okB C (obs.take m) (Ω.take m) w k := fun k hk => ⟨hk.1, hk.2.1, fun i ob p e1 l e2 => hk.2.2 i ob p (g1 e1).2 l (g2 e2)⟩
  refine ⟨⟨by simp [h.len], fun i ob k e1 e2 => ?_, fun i j a c p q x hij e1 e2 l1 l2 e3 e4 hp => h.sep i j a c p q x hij (g1 e1).2 (g1 e2).2 l1 l2 (g2 e3) (g2 e4) hp, fun i ob p x e1 l1 e2 hp => h.new i ob p x (g1 e1).2 l1 (g2 e2) hp, h.fr⟩, hok⟩
  have H := h.obj i ob k (g1 e1).2 (g2 e2)
  have hbel : ob.under m = true := List.all_eq_true.1 hb ob (List.mem_of_getElem? e1)
  cases ob with
  | dead => trivial
  | frame vs env => exact ⟨H.1, fun t x hx => let ⟨v, hv, hr⟩ := H.2 t x hx; ⟨v, hv, hr.take hok (List.all_eq_true.1 (show env.all (fun p => p.2.under m) = true from hbel) (t, x) (get_mem hx))⟩⟩
  | grow ty sz cells =>
    obtain ⟨n, xs, ho, hl, hr⟩ := H
    exact ⟨n, xs, ho, hl, fun i x y hx hy => (hr i x y hx hy).mono fun b hb => ⟨hok b hb, rfl⟩⟩
  | fix ty cells =>
    obtain ⟨b, vs, rfl, hw, hl, hr, h1⟩ := H
    exact ⟨b, vs, rfl, hw, hl, fun i x y hx hy => (hr i x y hx hy).take hok (List.all_eq_true.1 (show cells.all (SV.under m) = true from hbel) x (List.mem_of_getElem? hx)), h1⟩

/-- Slots and objects are forgotten: ks: the slots that are kept; m: as many objects. -/
def keep : List Nat → List (Nat × SV) → Option (List (Nat × SV))
  | [], _ => some []
  | k :: ks, e => match get e k with
    | some x => match keep ks e with
      | some r => some ((k, x) :: r)
      | none => none
    | none => none
def keepOK (m : Nat) (e : List (Nat × SV)) (obs : List Ob) : Bool := e.all (fun p => p.2.under m) && obs.all (Ob.under m)

theorem keep_get {ks : List Nat} {e r : List (Nat × SV)} (h : keep ks e = some r) {t : Nat} {x : SV} (hx : get r t = some x) : get e t = some x := by
  induction ks generalizing r with
  | nil => cases h; cases hx
  | cons k ks ih =>
    simp only [keep] at h
    split at h
    · rename_i y hy
      split at h
      · rename_i q hq
        cases h
        simp only [get] at hx
        split at hx
        · rename_i e; subst e; cases hx; exact hy
        · exact ih hq hx
      · cases h
    · cases h

theorem Rel.keep {C : Ctx} {s : St} {Ω : List Value} {a : Act} {w : World} (h : Rel C s Ω a w) {ks : List Nat} {m : Nat} {r : List (Nat × SV)} (hk : keep ks s.env = some r) (hb : keepOK m r (s.obs.take m) = true) :
    Rel C ⟨r, s.obs.take m⟩ (Ω.take m) a w := by
  unfold keepOK at hb
  rw [Bool.and_eq_true] at hb
  have hm := h.mem.take m hb.2
  refine ⟨h.defers, h.size, fun t x hx => ?_, hm.1⟩
  obtain ⟨v, hv, hr⟩ := h.env t x (keep_get hk hx)
  exact ⟨v, hv, hr.take hm.2 (List.all_eq_true.1 hb.1 (t, x) (get_mem hx))⟩

end Go.Vm
