/- The framework by which a function is walked through: what this claim needs of it. -/
import Derived.WalkKit
import Derived.WalkLawsBesides
import Derived.Maps.AppendAt
import Ieee.Arith
import Derived.ProofKit
import Derived.Carry
import Derived.OpenShut
import Derived.ChangeOld
import Derived.Below
import Derived.StillTail
import Derived.Laws.StructEq
import Derived.BigFrame
import Derived.ChangeKeysEq
import Derived.Laws.NewFold
import Derived.Recover
import Derived.Deep.Draws
import Derived.Laws.MakeOwn
import Derived.Laws.OwnMore
import Derived.Laws.Slices
import Derived.Laws.Cover3
import Derived.Laws.CopyRow
import Derived.Laws.IdiomCopy
import Derived.WideLaws
import Derived.Lib.LaidU8
import Derived.LaidHandle
import Derived.MakeChecks
import Derived.Lay
import Derived.LaidLaws
import Derived.Laws.FloatBits
/- The package variables that the walks read, by number (of an array's element: the number and 1048576 times its place), with what they hold. -/
namespace Go.Vm
def Globs : List (Nat × Value) := []
/-- Package variables that hold an error. -/
def GlobsE : List Nat := []
/-- Package variables that hold an error that is a pointer. -/
def GlobsP : List Nat := []
/-- Package variables that hold some float. -/
def GlobsF : List Nat := [1]
/-- A type of pointers, which can be compared. -/
def cmpP (P : Program) (u : TypeId) : Bool := match P.info? u, P.underlying u with
 | some i, some (.pointer el) => i.comparable && (P.info? el).isSome
 | _, _ => false
/-- What is known of such an error's type. -/
def ErrT (t : TypeId) : Prop := True -- T
end Go.Vm

/- A view of the machine's memory: values as data (what only is read) and objects of the call's own. The core: what it says of a world, and how it is kept. -/
namespace Go.Vm

/-- Data: what a value reads as, where nothing of it is written any more. Cells of structs in memory lie one behind the other. -/
inductive D where
 | v (x : Value)
 | ds (sz : Nat) (cells : List D)
 | pt (cells : List D)
 | ag (cells : List D)
 | ifc (t : TypeId) (x : D)
 | tu (vs : List D)
 /-- a function with what it has captured -/
 | clo (f : FuncId) (caps : List D)

/-- w at the blocks ok. -/
inductive RepD (w : World) (ok : Nat → Prop) : D → Value → Prop
 | v (x : Value) : RepD w ok (.v x) x
 | nil (sz : Nat) (a : Option Addr) (c : Nat) : RepD w ok (.ds sz []) (.slice a 0 c)
 | ds (sz b off len cap : Nat) (cells : List D) (vals : Nat → Value) (hn : cells.length = len * sz) (hc : len ≤ cap) (hb : ok b)
   (hcell : ∀ i, i < cells.length → w.cell? ⟨b, off + i, none⟩ = some (vals i)) (hr : ∀ (i : Nat) x, cells[i]? = some x → RepD w ok x (vals i)) :
   RepD w ok (.ds sz cells) (.slice (some ⟨b, off, none⟩) len cap)
 | pt (b off : Nat) (cells : List D) (vals : Nat → Value) (hb : ok b)
   (hcell : ∀ i, i < cells.length → w.cell? ⟨b, off + i, none⟩ = some (vals i)) (hr : ∀ (i : Nat) x, cells[i]? = some x → RepD w ok x (vals i)) :
   RepD w ok (.pt cells) (.pointer (some ⟨b, off, none⟩))
 | ag (cells : List D) (vs : List Value) (hl : vs.length = cells.length) (hr : ∀ (i : Nat) x y, cells[i]? = some x → vs[i]? = some y → RepD w ok x y) :
   RepD w ok (.ag cells) (.agg vs.toArray)
 | ifc (t : TypeId) (x : D) (u : Value) (h : RepD w ok x u) : RepD w ok (.ifc t x) (.iface t u)
 | tu (cells : List D) (vs : List Value) (hl : vs.length = cells.length) (hr : ∀ (i : Nat) x y, cells[i]? = some x → vs[i]? = some y → RepD w ok x y) :
   RepD w ok (.tu cells) (.tuple vs.toArray)
 | clo (f : FuncId) (cells : List D) (vs : List Value) (hl : vs.length = cells.length) (hr : ∀ (i : Nat) x y, cells[i]? = some x → vs[i]? = some y → RepD w ok x y) :
   RepD w ok (.clo f cells) (.func (.func f) #[] vs.toArray)

theorem cell_heap {w w' : World} {b o : Nat} (h : w'.heap[b]? = w.heap[b]?) : w'.cell? ⟨b, o, none⟩ = w.cell? ⟨b, o, none⟩ :=
 World.cell?_of_block (a := ⟨b, o, none⟩) h

theorem RepD.mono {w w' : World} {ok ok' : Nat → Prop} (h : ∀ b, ok b → ok' b ∧ w'.heap[b]? = w.heap[b]?) {x : D} {v : Value} (hr : RepD w ok x v) : RepD w' ok' x v := by
 induction hr with
 | v x => exact .v x
 | nil sz a c => exact .nil sz a c
 | ds sz b off len cap cells vals hn hc hb hcell _ ih =>
  exact .ds sz b off len cap cells vals hn hc (h b hb).1 (fun i hi => by rw [cell_heap (h b hb).2]; exact hcell i hi) ih
 | pt b off cells vals hb hcell _ ih =>
  exact .pt b off cells vals (h b hb).1 (fun i hi => by rw [cell_heap (h b hb).2]; exact hcell i hi) ih
 | ag cells vs hl _ ih => exact .ag cells vs hl ih
 | ifc t x u _ ih => exact .ifc t x u ih
 | tu cells vs hl _ ih => exact .tu cells vs hl ih
 | clo f cells vs hl _ ih => exact .clo f cells vs hl ih

/-- What a slot or an own object's cell holds: data; or what leads to an object of the call's own (o: its number). -/
inductive SV where
 | d (x : D)
 | ptr (o off : Nat)
 | sl (o sz off len cap : Nat)
 | own (o : Nat)
 /-- the first k elements of an own slice -/
 | pre (o k : Nat)
 /-- data, a slice whose capacity is its length -/
 | full (sz : Nat) (cells : List D)
 | ep (cells : List D) (i : Nat)
 | ag (cells : List SV)
 | tu (vs : List SV)
 | ifc (t : TypeId) (x : SV)
 | fv (fn : Fn) (first caps : List SV)
 /-- of this nothing is said -/
 | any

inductive RepS (w : World) (ok : Nat → Prop) (Ω : List Value) : SV → Value → Prop
 | any (v : Value) : RepS w ok Ω .any v
 | d (x : D) (v : Value) (h : RepD w ok x v) : RepS w ok Ω (.d x) v
 | ptr (o off b : Nat) (h : Ω[o]? = some (.pointer (some ⟨b, 0, none⟩))) : RepS w ok Ω (.ptr o off) (.pointer (some ⟨b, off, none⟩))
 | ptrG (o off b len cap : Nat) (h : Ω[o]? = some (.slice (some ⟨b, 0, none⟩) len cap)) : RepS w ok Ω (.ptr o off) (.pointer (some ⟨b, off, none⟩))
 | sl (o sz off len cap b : Nat) (h : Ω[o]? = some (.pointer (some ⟨b, 0, none⟩))) : RepS w ok Ω (.sl o sz off len cap) (.slice (some ⟨b, off, none⟩) len cap)
 | own (o : Nat) (v : Value) (h : Ω[o]? = some v) (h1 : v.oneCell' = true := by first | rfl | assumption) : RepS w ok Ω (.own o) v
 | pre (o k n cap : Nat) (a : Option Addr) (h : Ω[o]? = some (.slice a n cap)) (hk : k ≤ n) : RepS w ok Ω (.pre o k) (.slice a k cap)
 | full (sz : Nat) (cells : List D) (a : Option Addr) (n : Nat) (h : RepD w ok (.ds sz cells) (.slice a n n)) : RepS w ok Ω (.full sz cells) (.slice a n n)
 | ep (b off i : Nat) (cells : List D) (vals : Nat → Value) (hb : ok b)
   (hcell : ∀ j, j < cells.length → w.cell? ⟨b, off + j, none⟩ = some (vals j)) (hr : ∀ (j : Nat) x, cells[j]? = some x → RepD w ok x (vals j)) :
   RepS w ok Ω (.ep cells i) (.pointer (some ⟨b, off + i, none⟩))
 | ag (cells : List SV) (vs : List Value) (hl : vs.length = cells.length) (hr : ∀ (i : Nat) x y, cells[i]? = some x → vs[i]? = some y → RepS w ok Ω x y) :
   RepS w ok Ω (.ag cells) (.agg vs.toArray)
 | tu (cells : List SV) (vs : List Value) (hl : vs.length = cells.length) (hr : ∀ (i : Nat) x y, cells[i]? = some x → vs[i]? = some y → RepS w ok Ω x y) :
   RepS w ok Ω (.tu cells) (.tuple vs.toArray)
 | ifc (t : TypeId) (x : SV) (u : Value) (h : RepS w ok Ω x u) : RepS w ok Ω (.ifc t x) (.iface t u)
 | fv (fn : Fn) (first caps : List SV) (fs cs : List Value) (hf : fs.length = first.length) (hc : cs.length = caps.length)
   (hfr : ∀ (i : Nat) x y, first[i]? = some x → fs[i]? = some y → RepS w ok Ω x y) (hcr : ∀ (i : Nat) x y, caps[i]? = some x → cs[i]? = some y → RepS w ok Ω x y) :
   RepS w ok Ω (.fv fn first caps) (.func fn fs.toArray cs.toArray)

theorem RepS.mono {w w' : World} {ok ok' : Nat → Prop} {Ω Ω' : List Value} (h : ∀ b, ok b → ok' b ∧ w'.heap[b]? = w.heap[b]?) (hΩ : ∀ (o : Nat) v, Ω[o]? = some v → Ω'[o]? = some v)
  {x : SV} {v : Value} (hr : RepS w ok Ω x v) : RepS w' ok' Ω' x v := by
 induction hr with
 | any v => exact .any v
 | d x v hd => exact .d x v (hd.mono h)
 | ptr o off b ho => exact .ptr o off b (hΩ _ _ ho)
 | ptrG o off b len cap ho => exact .ptrG o off b len cap (hΩ _ _ ho)
 | sl o sz off len cap b ho => exact .sl o sz off len cap b (hΩ _ _ ho)
 | own o v ho h1 => exact .own o v (hΩ _ _ ho) h1
 | pre o k n cap a ho hk => exact .pre o k n cap a (hΩ _ _ ho) hk
 | full sz cells a n hd => exact .full sz cells a n (hd.mono h)
 | ep b off i cells vals hb hcell hr =>
  exact .ep b off i cells vals (h b hb).1 (fun j hj => by rw [cell_heap (h b hb).2]; exact hcell j hj) (fun j x hj => (hr j x hj).mono h)
 | ag cells vs hl _ ih => exact .ag cells vs hl ih
 | tu cells vs hl _ ih => exact .tu cells vs hl ih
 | ifc t x u _ ih => exact .ifc t x u ih
 | fv fn first caps fs cs hf hc _ _ ih1 ih2 => exact .fv fn first caps fs cs hf hc ih1 ih2

def get : List (Nat × SV) → Nat → Option SV
 | [], _ => none
 | (k, x) :: r, t => if k = t then some x else get r t
theorem get_mem {e : List (Nat × SV)} {t : Nat} {x : SV} (h : get e t = some x) : (t, x) ∈ e := by
 induction e with
 | nil => cases h
 | cons p r ih =>
  obtain ⟨k, y⟩ := p
  simp only [get] at h
  split at h
  ·rename_i e; subst e; cases h; exact .head _
  ·exact .tail _ (ih h)

/-- An object: a block of cells; a slice that is appended to; one of which nothing is said any more; the slots of a function that has called and waits (its slots' values). -/
inductive Ob where
 | fix (ty : TypeId) (cells : List SV)
 | grow (ty : TypeId) (sz : Nat) (cells : List D)
 | dead
 | frame (vs : Array Value) (env : List (Nat × SV))

def Ob.live : Ob → Bool
 | .dead => false
 | _ => true

def blk : Value → Option Nat
 | .pointer (some a) => some a.block
 | .slice (some a) _ _ => some a.block
 | _ => none

def ObOK (w : World) (ok : Nat → Prop) (Ω : List Value) (h : Value) : Ob → Prop
 | .fix ty cells => ∃ (b : Nat) (vs : List Value), h = .pointer (some ⟨b, 0, none⟩) ∧ w.heap[b]? = some (.cells vs.toArray ty (0, 0)) ∧ vs.length = cells.length ∧
   (∀ (i : Nat) x y, cells[i]? = some x → vs[i]? = some y → RepS w ok Ω x y) ∧ ∀ y, y ∈ vs → y.oneCell' = true
 | .grow ty sz cells => ∃ (n : Nat) (xs : List Value), w.ownsRow 0 ty sz h n xs ∧ xs.length = cells.length ∧ (∀ (i : Nat) x y, cells[i]? = some x → xs[i]? = some y → RepD w ok x y)
 | .dead => True
 | .frame vs env => blk h = none ∧ ∀ t x, get env t = some x → ∃ v, vs[t]? = some v ∧ RepS w ok Ω x v

structure Ctx where
 P : Program
 W : World
 /-- old blocks that may be read -/
 ok : Nat → Prop
 /-- old blocks that may be written -/
 may : List Nat
 /-- slots -/
 n : Nat
 /-- what is deferred -/
 dfs : List Deferred := []

/-- The blocks that hold no object of the call's own. -/
def okB (C : Ctx) (obs : List Ob) (Ω : List Value) (w : World) (b : Nat) : Prop :=
 (C.ok b ∨ C.W.heap.size ≤ b ∨ b ∈ C.may) ∧ b < w.heap.size ∧ ∀ (o : Nat) ob h, obs[o]? = some ob → ob.live = true → Ω[o]? = some h → blk h ≠ some b

structure St where
 env : List (Nat × SV)
 obs : List Ob

def put (e : List (Nat × SV)) (t : Nat) (x : SV) : List (Nat × SV) := (t, x) :: e

theorem get_put (e : List (Nat × SV)) (t u : Nat) (x : SV) : get (put e t x) u = if t = u then some x else get e u := rfl

/-- The package variables hold what is said of them. -/
def HoldsG (W : World) : Prop := (∀ p, p ∈ Globs → p.1 % 1048576 < W.heap.size ∧ W.cell? ⟨p.1 % 1048576, p.1 / 1048576, none⟩ = some p.2) ∧ (∀ p, p ∈ GlobsE → p < W.heap.size ∧ ∃ t u, W.cell? ⟨p, 0, none⟩ = some (.iface t u)) ∧
 (∀ p, p ∈ GlobsP → p < W.heap.size ∧ ∃ t a, W.cell? ⟨p, 0, none⟩ = some (.iface t (.pointer (some a))) ∧ ErrT t) ∧ ∀ p, p ∈ GlobsF → p < W.heap.size ∧ ∃ x, W.cell? ⟨p, 0, none⟩ = some (.float .f64 x)
/-- A block of a package variable that is told of. -/
def globB (b : Nat) : Prop := (∃ p, p ∈ Globs ∧ p.1 % 1048576 = b) ∨ b ∈ GlobsE ∨ b ∈ GlobsP ∨ b ∈ GlobsF
structure Fr (C : Ctx) (w : World) : Prop where
 os : w.os = C.W.os
 tape : w.tape = C.W.tape
 output : w.output = C.W.output
 size : C.W.heap.size ≤ w.heap.size
 block : ∀ b, b < C.W.heap.size → b ∉ C.may → w.heap[b]? = C.W.heap[b]?
 glob : HoldsG C.W
 gmay : ∀ b, b ∈ C.may → ¬ globB b

structure Mem (C : Ctx) (obs : List Ob) (Ω : List Value) (w : World) : Prop where
 len : obs.length = Ω.length
 obj : ∀ (o : Nat) ob h, obs[o]? = some ob → Ω[o]? = some h → ObOK w (okB C obs Ω w) Ω h ob
 sep : ∀ (i j : Nat) a b h k x, i ≠ j → obs[i]? = some a → obs[j]? = some b → a.live = true → b.live = true → Ω[i]? = some h → Ω[j]? = some k → blk h = some x → blk k ≠ some x
 new : ∀ (o : Nat) ob h b, obs[o]? = some ob → ob.live = true → Ω[o]? = some h → blk h = some b → C.W.heap.size ≤ b ∨ b ∈ C.may
 fr : Fr C w

structure Rel (C : Ctx) (s : St) (Ω : List Value) (a : Act) (w : World) : Prop where
 defers : a.defers = C.dfs
 size : a.tmps.size = C.n
 env : ∀ t x, get s.env t = some x → ∃ v, a.tmps[t]? = some v ∧ RepS w (okB C s.obs Ω w) Ω x v
 mem : Mem C s.obs Ω w

theorem ObOK.lt {w : World} {ok : Nat → Prop} {Ω : List Value} {h : Value} {ob : Ob} (H : ObOK w ok Ω h ob) (hl : ob.live = true) {b : Nat} (hb : blk h = some b) : b < w.heap.size := by
 cases ob with
 | dead => cases hl
 | frame vs env => rw [H.1] at hb; cases hb
 | fix ty cells =>
  obtain ⟨b', vs, rfl, hw, _⟩ := H
  cases hb
  exact (Array.getElem?_eq_some_iff.1 hw).1
 | grow ty sz cells =>
  obtain ⟨n, xs, ho, _⟩ := H
  have : Value.ownBlock h = some b := by
   rcases ho.2 with ⟨rfl, _⟩ | ⟨g, cap, cur, rfl, _⟩
   ·cases hb
   ·exact hb
  exact (ho.lt b this).2

theorem ObOK.mono {w w' : World} {ok ok' : Nat → Prop} {Ω Ω' : List Value} {h : Value} {ob : Ob} (H : ObOK w ok Ω h ob) (hok : ∀ b, ok b → ok' b ∧ w'.heap[b]? = w.heap[b]?)
  (hΩ : ∀ (o : Nat) v, Ω[o]? = some v → Ω'[o]? = some v) (hb : ∀ b, blk h = some b → ob.live = true → w'.heap[b]? = w.heap[b]?) : ObOK w' ok' Ω' h ob := by
 cases ob with
 | dead => trivial
 | frame vs env => exact ⟨H.1, fun t x hx => let ⟨v, hv, hr⟩ := H.2 t x hx; ⟨v, hv, hr.mono hok hΩ⟩⟩
 | fix ty cells =>
  obtain ⟨b', vs, rfl, hw, hl, hr, h1⟩ := H
  exact ⟨b', vs, rfl, (hb b' rfl rfl).trans hw, hl, fun i x y hx hy => (hr i x y hx hy).mono hok hΩ, h1⟩
 | grow ty sz cells =>
  obtain ⟨n, xs, ho, hl, hr⟩ := H
  refine ⟨n, xs, ⟨ho.1, ?_⟩, hl, fun i x y hx hy => (hr i x y hx hy).mono hok⟩
  rcases ho.2 with hn | ⟨g, cap, cur, rfl, h0, hg, rest⟩
  ·exact .inl hn
  ·exact .inr ⟨g, cap, cur, rfl, h0, (hb g rfl rfl).trans hg, rest⟩

/-! ### How the memory turns -/

theorem Act.put_get {a : Act} {d : Nat} {v : Value} (hd : d < a.tmps.size) (t : Nat) : (a.put (some d) v).tmps[t]? = if d = t then some v else a.tmps[t]? := by
 simp only [Act.put, Array.getElem?_setIfInBounds]
 split
 ·rename_i h; subst h; simp
 ·rfl

theorem Rel.put {C : Ctx} {s : St} {Ω : List Value} {a : Act} {w : World} (h : Rel C s Ω a w) {d : Nat} (hd : d < C.n) {x : SV} {v : Value} (hr : RepS w (okB C s.obs Ω w) Ω x v) :
  Rel C ⟨put s.env d x, s.obs⟩ Ω (a.put (some d) v) w := by
 refine ⟨h.defers, by simp only [Act.put, Array.size_setIfInBounds]; exact h.size, fun t y hy => ?_, h.mem⟩
 rw [Act.put_get (by rw [h.size]; exact hd)]
 dsimp only at hy
 rw [get_put] at hy
 split
 ·rename_i e; subst e; rw [if_pos rfl] at hy; cases hy; exact ⟨v, rfl, hr⟩
 ·rename_i e; rw [if_neg e] at hy; exact h.env t y hy

theorem Rel.putNone {C : Ctx} {s : St} {Ω : List Value} {a : Act} {w : World} (h : Rel C s Ω a w) (v : Value) : Rel C s Ω (a.put none v) w := h

theorem okB_heap {C : Ctx} {obs : List Ob} {Ω : List Value} {w w' : World} (h : w'.heap = w.heap) : okB C obs Ω w' = okB C obs Ω w := by
 funext b; unfold okB; rw [h]

/-- A step that leaves the blocks alone. -/
theorem Mem.heap {C : Ctx} {obs : List Ob} {Ω : List Value} {w w' : World} (h : Mem C obs Ω w) (hh : w'.heap = w.heap) (ho : w'.os = w.os) (ht : w'.tape = w.tape) (hp : w'.output = w.output) : Mem C obs Ω w' := by
 refine ⟨h.len, fun o ob k h1 h2 => ?_, h.sep, h.new, ⟨ho.trans h.fr.os, ht.trans h.fr.tape, hp.trans h.fr.output, by rw [hh]; exact h.fr.size, fun b h1 h2 => by rw [hh]; exact h.fr.block b h1 h2, h.fr.glob, h.fr.gmay⟩⟩
 rw [okB_heap hh]
 exact (h.obj o ob k h1 h2).mono (fun b hb => ⟨hb, by rw [hh]⟩) (fun _ _ e => e) (fun b _ _ => by rw [hh])

theorem Rel.heap {C : Ctx} {s : St} {Ω : List Value} {a : Act} {w w' : World} (h : Rel C s Ω a w) (hh : w'.heap = w.heap) (ho : w'.os = w.os) (ht : w'.tape = w.tape) (hp : w'.output = w.output) : Rel C s Ω a w' := by
 refine ⟨h.defers, h.size, fun t x hx => ?_, h.mem.heap hh ho ht hp⟩
 obtain ⟨v, hv, hr⟩ := h.env t x hx
 exact ⟨v, hv, by rw [okB_heap hh]; exact hr.mono (fun b hb => ⟨hb, by rw [hh]⟩) (fun _ _ e => e)⟩

theorem list_get_append {α : Type} {l : List α} {x : α} {i : Nat} {y : α} (h : (l ++ [x])[i]? = some y) : l[i]? = some y ∨ (i = l.length ∧ y = x) := by
 rw [List.getElem?_append] at h
 split at h
 ·exact .inl h
 ·rename_i hi
  right
  have : i - l.length = 0 := by
   rcases Nat.eq_zero_or_pos (i - l.length) with h0 | h0
   ·exact h0
   ·rw [List.getElem?_eq_none (by simp; omega)] at h; cases h
  rw [this] at h
  simp at h
  exact ⟨by omega, h.symm⟩

theorem get_left {α : Type} {l r : List α} {i : Nat} {y : α} (h : l[i]? = some y) : (l ++ r)[i]? = some y := by
 rw [List.getElem?_append_left (List.getElem?_eq_some_iff.1 h).1]; exact h

/-- A new block that is an object of the call's own (or says nothing). -/
theorem okB_alloc {C : Ctx} {obs : List Ob} {Ω : List Value} {w : World} (hlen : obs.length = Ω.length) {ob : Ob} {hd : Value} {o : Obj} (hb : ∀ b, blk hd = some b → b = w.heap.size) (b : Nat) (h : okB C obs Ω w b) :
  okB C (obs ++ [ob]) (Ω ++ [hd]) (w.alloc o) b ∧ (w.alloc o).heap[b]? = w.heap[b]? := by
 refine ⟨⟨h.1, ?_, fun o' ob' h' h1 h2 h3 => ?_⟩, heap_alloc_old w _ h.2.1⟩
 ·have := h.2.1; show b < (w.heap.push o).size; simp; omega
 ·rcases list_get_append h1 with h1 | ⟨e1, e2⟩
  ·rcases list_get_append h3 with h3 | ⟨e3, e4⟩
   ·exact h.2.2 o' ob' h' h1 h2 h3
   ·have := (List.getElem?_eq_some_iff.1 h1).1; omega
  ·rcases list_get_append h3 with h3 | ⟨e3, e4⟩
   ·have := (List.getElem?_eq_some_iff.1 h3).1; omega
   ·subst e4; intro e; have := hb b e; have := h.2.1; omega

theorem Mem.alloc {C : Ctx} {obs : List Ob} {Ω : List Value} {w : World} (h : Mem C obs Ω w) (ty : TypeId) (cells : List SV) (vs : List Value) (hl : vs.length = cells.length)
  (hr : ∀ (i : Nat) x y, cells[i]? = some x → vs[i]? = some y → RepS w (okB C obs Ω w) Ω x y) (h1 : ∀ y, y ∈ vs → y.oneCell' = true) :
  Mem C (obs ++ [.fix ty cells]) (Ω ++ [.pointer (some ⟨w.heap.size, 0, none⟩)]) (w.alloc (.cells vs.toArray ty)) := by
 have hok : ∀ b, okB C obs Ω w b → okB C (obs ++ [.fix ty cells]) (Ω ++ [.pointer (some ⟨w.heap.size, 0, none⟩)]) (w.alloc (.cells vs.toArray ty)) b ∧ (w.alloc (.cells vs.toArray ty)).heap[b]? = w.heap[b]? :=
  fun b hb => okB_alloc h.len (fun b hb => by cases hb; rfl) b hb
 have hΩ : ∀ (o : Nat) v, Ω[o]? = some v → (Ω ++ [.pointer (some ⟨w.heap.size, 0, none⟩)])[o]? = some v := fun o v e => get_left e
 refine ⟨by simp [h.len], fun o ob k e1 e2 => ?_, fun i j a b p q x hij e1 e2 l1 l2 e3 e4 hp => ?_, fun o ob p b e1 l1 e2 hp => ?_, ?_⟩
 ·rcases list_get_append e1 with e1 | ⟨i1, rfl⟩
  ·rcases list_get_append e2 with e2 | ⟨i2, _⟩
   ·refine (h.obj o ob k e1 e2).mono hok hΩ fun b hb hv => heap_alloc_old w _ ((h.obj o ob k e1 e2).lt hv hb)
   ·have := (List.getElem?_eq_some_iff.1 e1).1; have := h.len; omega
  ·rcases list_get_append e2 with e2 | ⟨i2, rfl⟩
   ·have := (List.getElem?_eq_some_iff.1 e2).1; have := h.len; omega
   ·exact ⟨w.heap.size, vs, rfl, heap_alloc_new w _, hl, fun i x y hx hy => (hr i x y hx hy).mono hok hΩ, h1⟩
 ·have hlen := h.len
  rcases list_get_append e1 with e1 | ⟨i1, f1⟩ <;> rcases list_get_append e2 with e2 | ⟨i2, f2⟩
  ·have z1 := (List.getElem?_eq_some_iff.1 e1).1
   have z2 := (List.getElem?_eq_some_iff.1 e2).1
   rcases list_get_append e3 with e3 | ⟨i3, f3⟩
   ·rcases list_get_append e4 with e4 | ⟨i4, f4⟩
    ·exact h.sep i j a b p q x hij e1 e2 l1 l2 e3 e4 hp
    ·omega
   ·omega
  ·have z1 := (List.getElem?_eq_some_iff.1 e1).1
   rcases list_get_append e3 with e3 | ⟨i3, f3⟩
   ·rcases list_get_append e4 with e4 | ⟨i4, f4⟩
    ·have z4 := (List.getElem?_eq_some_iff.1 e4).1; omega
    ·subst f4; intro hq; have e : some w.heap.size = some x := hq; injection e with e; have := (h.obj i a p e1 e3).lt l1 hp; omega
   ·omega
  ·have z2 := (List.getElem?_eq_some_iff.1 e2).1
   rcases list_get_append e3 with e3 | ⟨i3, f3⟩
   ·have z3 := (List.getElem?_eq_some_iff.1 e3).1; omega
   ·rcases list_get_append e4 with e4 | ⟨i4, f4⟩
    ·subst f3; intro hq; have e : some w.heap.size = some x := hp; injection e with e; have := (h.obj j b q e2 e4).lt l2 hq; omega
    ·omega
  ·omega
 ·rcases list_get_append e1 with e1 | ⟨i1, rfl⟩ <;> rcases list_get_append e2 with e2 | ⟨i2, rfl⟩
  ·exact h.new o ob p b e1 l1 e2 hp
  ·have := (List.getElem?_eq_some_iff.1 e1).1; have := h.len; omega
  ·have := (List.getElem?_eq_some_iff.1 e2).1; have := h.len; omega
  ·cases hp; exact .inl h.fr.size
 ·exact ⟨h.fr.os, h.fr.tape, h.fr.output, by have := h.fr.size; show _ ≤ (w.heap.push _).size; simp; omega, fun b e1 e2 => (heap_alloc_old w _ (Nat.lt_of_lt_of_le e1 h.fr.size)).trans (h.fr.block b e1 e2), h.fr.glob, h.fr.gmay⟩

/-- A new object, led to by slot d. -/
theorem Rel.alloc {C : Ctx} {s : St} {Ω : List Value} {a : Act} {w : World} (h : Rel C s Ω a w) (ty : TypeId) (cells : List SV) (vs : List Value) (hl : vs.length = cells.length)
  (hr : ∀ (i : Nat) x y, cells[i]? = some x → vs[i]? = some y → RepS w (okB C s.obs Ω w) Ω x y) (h1 : ∀ y, y ∈ vs → y.oneCell' = true) :
  Rel C ⟨s.env, s.obs ++ [.fix ty cells]⟩ (Ω ++ [.pointer (some ⟨w.heap.size, 0, none⟩)]) a (w.alloc (.cells vs.toArray ty)) := by
 refine ⟨h.defers, h.size, fun t x hx => ?_, h.mem.alloc ty cells vs hl hr h1⟩
 obtain ⟨v, hv, hrv⟩ := h.env t x hx
 exact ⟨v, hv, hrv.mono (fun b hb => okB_alloc h.mem.len (fun b hb => by cases hb; rfl) b hb) (fun o v e => get_left e)⟩

theorem get_set {α : Type} {l : List α} {o i : Nat} {x y : α} (h : (l.set o x)[i]? = some y) : (i = o ∧ y = x ∧ o < l.length) ∨ (i ≠ o ∧ l[i]? = some y) := by
 rw [List.getElem?_set] at h
 split at h
 ·rename_i e
  split at h
  ·left; cases h; exact ⟨e.symm, rfl, by assumption⟩
  ·cases h
 ·rename_i e; exact .inr ⟨fun e2 => e e2.symm, h⟩

theorem okB_set {C : Ctx} {obs : List Ob} {Ω : List Value} {w w' : World} {o : Nat} {old new : Ob} {b : Nat} (ho : obs[o]? = some old) (hl : old.live = true ∨ new.live = false) (hs : w.heap.size ≤ w'.heap.size)
  (h : okB C obs Ω w b) : okB C (obs.set o new) Ω w' b := by
 refine ⟨h.1, Nat.lt_of_lt_of_le h.2.1 hs, fun i ob k e1 l e2 => ?_⟩
 rcases get_set e1 with ⟨rfl, rfl, _⟩ | ⟨_, e1⟩
 ·rcases hl with hl | hl
  ·exact h.2.2 i old k ho hl e2
  ·rw [l] at hl; cases hl
 ·exact h.2.2 i ob k e1 l e2

/-- An own block is written. -/
theorem Mem.set {C : Ctx} {obs : List Ob} {Ω : List Value} {w : World} (h : Mem C obs Ω w) {o b : Nat} {ty : TypeId} {cells cells' : List SV} {old : List Value} (ho : obs[o]? = some (.fix ty cells))
  (hΩ : Ω[o]? = some (.pointer (some ⟨b, 0, none⟩))) (hw : w.heap[b]? = some (.cells old.toArray ty (0, 0))) (vs : List Value) (hl : vs.length = cells'.length)
  (hr : ∀ (i : Nat) x y, cells'[i]? = some x → vs[i]? = some y → RepS w (okB C obs Ω w) Ω x y) (h1 : ∀ y, y ∈ vs → y.oneCell' = true) :
  Mem C (obs.set o (.fix ty cells')) Ω (w.setRow b vs.toArray) ∧ (∀ k, okB C obs Ω w k → okB C (obs.set o (.fix ty cells')) Ω (w.setRow b vs.toArray) k ∧ (w.setRow b vs.toArray).heap[k]? = w.heap[k]?) := by
 have hok : ∀ k, okB C obs Ω w k → okB C (obs.set o (.fix ty cells')) Ω (w.setRow b vs.toArray) k ∧ (w.setRow b vs.toArray).heap[k]? = w.heap[k]? := by
  intro k hk
  refine ⟨okB_set ho (.inl rfl) (by simp) hk, setRow_other w b k _ fun e => ?_⟩
  subst e
  exact hk.2.2 o _ _ ho rfl hΩ rfl
 refine ⟨⟨by simp [h.len], fun i ob k e1 e2 => ?_, fun i j a c p q x hij e1 e2 l1 l2 e3 e4 hp => ?_, fun i ob p x e1 l1 e2 hp => ?_, ?_⟩, hok⟩
 ·rcases get_set e1 with ⟨rfl, rfl, _⟩ | ⟨hi, e1⟩
  ·rw [hΩ] at e2; cases e2
   exact ⟨b, vs, rfl, setRow_heap w b _ _ ty _ hw, hl, fun i x y hx hy => (hr i x y hx hy).mono hok (fun _ _ e => e), h1⟩
  ·refine (h.obj i ob k e1 e2).mono hok (fun _ _ e => e) fun c hc hv => setRow_other w b c _ fun e => ?_
   subst e
   exact h.sep o i _ _ _ _ _ (Ne.symm hi) ho e1 rfl hv hΩ e2 rfl hc
 ·rcases get_set e1 with ⟨f1, f2, _⟩ | ⟨hi, f1⟩ <;> rcases get_set e2 with ⟨g1, g2, _⟩ | ⟨hj, g1⟩
  ·exact (hij (f1.trans g1.symm)).elim
  ·subst f1; exact h.sep i j _ _ p q x hij ho g1 rfl l2 e3 e4 hp
  ·subst g1; exact h.sep i j _ _ p q x hij f1 ho l1 rfl e3 e4 hp
  ·exact h.sep i j a c p q x hij f1 g1 l1 l2 e3 e4 hp
 ·rcases get_set e1 with ⟨rfl, rfl, _⟩ | ⟨hi, e1⟩
  ·exact h.new i _ p x ho rfl e2 hp
  ·exact h.new i ob p x e1 l1 e2 hp
 ·refine ⟨h.fr.os, h.fr.tape, h.fr.output, by simp; exact h.fr.size, fun c e1 e2 => ?_, h.fr.glob, h.fr.gmay⟩
  rw [setRow_other w b c _ fun e => ?_]
  ·exact h.fr.block c e1 e2
  ·subst e
   rcases h.new o _ _ c ho rfl hΩ rfl with hn | hn
   ·omega
   ·exact e2 hn

/-- Of an object nothing is said any more. -/
theorem Mem.kill {C : Ctx} {obs : List Ob} {Ω : List Value} {w : World} (h : Mem C obs Ω w) (o : Nat) : Mem C (obs.set o .dead) Ω w ∧ ∀ k, okB C obs Ω w k → okB C (obs.set o .dead) Ω w k := by
 have hok : ∀ k, okB C obs Ω w k → okB C (obs.set o .dead) Ω w k := by
  intro k hk
  refine ⟨hk.1, hk.2.1, fun i ob p e1 l e2 => ?_⟩
  rcases get_set e1 with ⟨rfl, rfl, _⟩ | ⟨_, e1⟩
  ·cases l
  ·exact hk.2.2 i ob p e1 l e2
 refine ⟨⟨by simp [h.len], fun i ob k e1 e2 => ?_, fun i j a c p q x hij e1 e2 l1 l2 e3 e4 hp => ?_, fun i ob p x e1 l1 e2 hp => ?_, h.fr⟩, hok⟩
 ·rcases get_set e1 with ⟨rfl, rfl, _⟩ | ⟨hi, e1⟩
  ·trivial
  ·exact (h.obj i ob k e1 e2).mono (fun b hb => ⟨hok b hb, rfl⟩) (fun _ _ e => e) (fun _ _ _ => rfl)
 ·rcases get_set e1 with ⟨rfl, rfl, _⟩ | ⟨hi, e1⟩
  ·cases l1
  ·rcases get_set e2 with ⟨rfl, rfl, _⟩ | ⟨hj, e2⟩
   ·cases l2
   ·exact h.sep i j a c p q x hij e1 e2 l1 l2 e3 e4 hp
 ·rcases get_set e1 with ⟨rfl, rfl, _⟩ | ⟨hi, e1⟩
  ·cases l1
  ·exact h.new i ob p x e1 l1 e2 hp

/- The first m objects alone; they name none of the others. -/
mutual
def SV.under (m : Nat) : SV → Bool
 | .d _ => true
 | .ptr o _ => decide (o < m)
 | .sl o _ _ _ _ => decide (o < m)
 | .own o => decide (o < m)
 | .pre o _ => decide (o < m)
 | .full _ _ => true
 | .ep _ _ => true
 | .any => true
 | .ag l => SV.underL m l
 | .tu l => SV.underL m l
 | .ifc _ x => SV.under m x
 | .fv _ a b => SV.underL m a && SV.underL m b
termination_by structural x => x
def SV.underL (m : Nat) : List SV → Bool
 | [] => true
 | x :: r => SV.under m x && SV.underL m r
termination_by structural x => x
end
theorem SV.underL_get {m : Nat} : ∀ {l : List SV}, SV.underL m l = true → ∀ {i : Nat} {x : SV}, l[i]? = some x → SV.under m x = true
 | [], _, i, x, hx => by simp at hx
 | y :: r, h, i, x, hx => by
  simp only [SV.underL, Bool.and_eq_true] at h
  cases i with
  | zero => simp at hx; subst hx; exact h.1
  | succ i => exact SV.underL_get h.2 (by simpa using hx)
def Ob.under (m : Nat) : Ob → Bool
 | .fix _ cells => cells.all (SV.under m)
 | .grow _ _ _ => true
 | .dead => true
 | .frame _ env => env.all fun p => p.2.under m

theorem RepS.take {w : World} {ok ok' : Nat → Prop} {Ω : List Value} {m : Nat} (h : ∀ b, ok b → ok' b) {x : SV} {v : Value} (hb : x.under m = true) (hr : RepS w ok Ω x v) : RepS w ok' (Ω.take m) x v := by
 have ht : ∀ {o : Nat} {v : Value}, o < m → Ω[o]? = some v → (Ω.take m)[o]? = some v := fun ho e => by rw [List.getElem?_take, if_pos ho]; exact e
 induction hr with
 | any v => exact .any v
 | d x v hd => exact .d x v (hd.mono fun b hb => ⟨h b hb, rfl⟩)
 | ptr o off b ho => exact .ptr o off b (ht (of_decide_eq_true hb) ho)
 | ptrG o off b len cap ho => exact .ptrG o off b len cap (ht (of_decide_eq_true hb) ho)
 | sl o sz off len cap b ho => exact .sl o sz off len cap b (ht (of_decide_eq_true hb) ho)
 | own o v ho h1 => exact .own o v (ht (of_decide_eq_true hb) ho) h1
 | pre o k n cap a ho hk => exact .pre o k n cap a (ht (of_decide_eq_true hb) ho) hk
 | full sz cells a n hd => exact .full sz cells a n (hd.mono fun b hb => ⟨h b hb, rfl⟩)
 | ep b off i cells vals hb2 hcell hr => exact .ep b off i cells vals (h b hb2) hcell (fun j x hj => (hr j x hj).mono fun b hb => ⟨h b hb, rfl⟩)
 | ag cells vs hl _ ih => exact .ag cells vs hl fun i x y hx hy => ih i x y hx hy (SV.underL_get hb hx)
 | tu cells vs hl _ ih => exact .tu cells vs hl fun i x y hx hy => ih i x y hx hy (SV.underL_get hb hx)
 | ifc t x u _ ih => exact .ifc t x u (ih hb)
 | fv fn first caps fs cs hf hc _ _ ih1 ih2 =>
  have hb2 : SV.underL m first = true ∧ SV.underL m caps = true := by simpa only [SV.under, Bool.and_eq_true] using hb
  exact .fv fn first caps fs cs hf hc (fun i x y hx hy => ih1 i x y hx hy (SV.underL_get hb2.1 hx)) (fun i x y hx hy => ih2 i x y hx hy (SV.underL_get hb2.2 hx))

theorem Mem.take {C : Ctx} {obs : List Ob} {Ω : List Value} {w : World} (h : Mem C obs Ω w) (m : Nat) (hb : (obs.take m).all (Ob.under m) = true) :
  Mem C (obs.take m) (Ω.take m) w ∧ ∀ k, okB C obs Ω w k → okB C (obs.take m) (Ω.take m) w k := by
 have g1 : ∀ {i : Nat} {ob : Ob}, (obs.take m)[i]? = some ob → i < m ∧ obs[i]? = some ob := fun {i ob} e => by
  rw [List.getElem?_take] at e; split at e
  ·exact ⟨by assumption, e⟩
  ·cases e
 have g2 : ∀ {i : Nat} {v : Value}, (Ω.take m)[i]? = some v → Ω[i]? = some v := fun {i ob} e => by
  rw [List.getElem?_take] at e; split at e
  ·exact e
  ·cases e
 have hok : ∀ k, okB C obs Ω w k → okB C (obs.take m) (Ω.take m) w k := fun k hk => ⟨hk.1, hk.2.1, fun i ob p e1 l e2 => hk.2.2 i ob p (g1 e1).2 l (g2 e2)⟩
 refine ⟨⟨by simp [h.len], fun i ob k e1 e2 => ?_, fun i j a c p q x hij e1 e2 l1 l2 e3 e4 hp => h.sep i j a c p q x hij (g1 e1).2 (g1 e2).2 l1 l2 (g2 e3) (g2 e4) hp, fun i ob p x e1 l1 e2 hp => h.new i ob p x (g1 e1).2 l1 (g2 e2) hp, h.fr⟩, hok⟩
 have H := h.obj i ob k (g1 e1).2 (g2 e2)
 have hbel : ob.under m = true := List.all_eq_true.1 hb ob (List.mem_of_getElem? e1)
 cases ob with
 | dead => trivial
 | frame vs env => exact ⟨H.1, fun t x hx => let ⟨v, hv, hr⟩ := H.2 t x hx; ⟨v, hv, hr.take hok (List.all_eq_true.1 (show env.all (fun p => p.2.under m) = true from hbel) (t, x) (get_mem hx))⟩⟩
 | grow ty sz cells =>
  obtain ⟨n, xs, ho, hl, hr⟩ := H
  exact ⟨n, xs, ho, hl, fun i x y hx hy => (hr i x y hx hy).mono fun b hb => ⟨hok b hb, rfl⟩⟩
 | fix ty cells =>
  obtain ⟨b, vs, rfl, hw, hl, hr, h1⟩ := H
  exact ⟨b, vs, rfl, hw, hl, fun i x y hx hy => (hr i x y hx hy).take hok (List.all_eq_true.1 (show cells.all (SV.under m) = true from hbel) x (List.mem_of_getElem? hx)), h1⟩

/-- Slots and objects are forgotten: ks: the slots that are kept; m: as many objects. -/
def keep : List Nat → List (Nat × SV) → Option (List (Nat × SV))
 | [], _ => some []
 | k :: ks, e => match get e k with
  | some x => match keep ks e with
   | some r => some ((k, x) :: r)
   | none => none
  | none => none
def keepOK (m : Nat) (e : List (Nat × SV)) (obs : List Ob) : Bool := e.all (fun p => p.2.under m) && obs.all (Ob.under m)

theorem keep_get {ks : List Nat} {e r : List (Nat × SV)} (h : keep ks e = some r) {t : Nat} {x : SV} (hx : get r t = some x) : get e t = some x := by
 induction ks generalizing r with
 | nil => cases h; cases hx
 | cons k ks ih =>
  simp only [keep] at h
  split at h
  ·rename_i y hy
   split at h
   ·rename_i q hq
    cases h
    simp only [get] at hx
    split at hx
    ·rename_i e; subst e; cases hx; exact hy
    ·exact ih hq hx
   ·cases h
  ·cases h

theorem Rel.keep {C : Ctx} {s : St} {Ω : List Value} {a : Act} {w : World} (h : Rel C s Ω a w) {ks : List Nat} {m : Nat} {r : List (Nat × SV)} (hk : keep ks s.env = some r) (hb : keepOK m r (s.obs.take m) = true) :
  Rel C ⟨r, s.obs.take m⟩ (Ω.take m) a w := by
 unfold keepOK at hb
 rw [Bool.and_eq_true] at hb
 have hm := h.mem.take m hb.2
 refine ⟨h.defers, h.size, fun t x hx => ?_, hm.1⟩
 obtain ⟨v, hv, hr⟩ := h.env t x (keep_get hk hx)
 exact ⟨v, hv, hr.take hm.2 (List.all_eq_true.1 hb.1 (t, x) (get_mem hx))⟩

end Go.Vm

/- The rules by which a function's code is gone through, over the view of the memory. -/
namespace Go.Vm
set_option linter.unusedVariables false

def Lift (C : Ctx) (Q : Exit → St → Prop) : Exit → Act → World → Prop := fun e a w => ∃ s Ω, Rel C s Ω a w ∧ Q e s

/-- The code c, begun at s, ends as Q says. -/
def AC (C : Ctx) (c : Code) (s : St) (Q : Exit → St → Prop) : Prop := ∀ Ω a w, Rel C s Ω a w → c.wp C.P (Lift C Q) a w
/-- The operations l of a region. -/
def AO (C : Ctx) (ops : Array Oper) (l : List Oper) (s : St) (Q : Exit → St → Prop) : Prop := ∀ Ω a w, Rel C s Ω a w → wpList C.P ops (Lift C Q) l a w

def SeqQ (C : Ctx) (y : Code) (Q : Exit → St → Prop) : Exit → St → Prop
 | .normal, s => AC C y s Q
 | e, s => Q e s
def BlkQ (id : Nat) (Q : Exit → St → Prop) : Exit → St → Prop
 | .exit id', s => if id' = id then Q .normal s else Q (.exit id') s
 | e, s => Q e s
def LoopQ (ks : List Nat) (m : Nat) (Head : St → Prop) (Q : Exit → St → Prop) : Exit → St → Prop
 | .normal, s => ∃ r, keep ks s.env = some r ∧ keepOK m r (s.obs.take m) = true ∧ Head ⟨r, s.obs.take m⟩
 | e, s => Q e s

section
variable {C : Ctx} {s : St} {Q : Exit → St → Prop}

theorem AC.seq {x y : Code} (h : AC C x s (SeqQ C y Q)) : AC C (.seq x y) s Q := fun Ω a w hr =>
 wp_seq (wp_mono (h Ω a w hr) fun e a w ⟨s, Ω, hr, hq⟩ => by
  cases e with
  | normal => exact hq Ω a w hr
  | _ => exact ⟨s, Ω, hr, hq⟩)
theorem AC.skip (h : Q .normal s) : AC C .skip s Q := fun Ω _ _ hr => wp_skip ⟨s, Ω, hr, h⟩
theorem AC.ret (h : Q .ret s) : AC C .ret s Q := fun Ω _ _ hr => wp_ret ⟨s, Ω, hr, h⟩
theorem AC.exit {id : Nat} (h : Q (.exit id) s) : AC C (.exit id) s Q := fun Ω _ _ hr => wp_exit ⟨s, Ω, hr, h⟩
theorem AC.block {id : Nat} {c : Code} (h : AC C c s (BlkQ id Q)) : AC C (.block id c) s Q := fun Ω a w hr =>
 wp_block (wp_mono (h Ω a w hr) fun e a w ⟨s, Ω, hr, hq⟩ => by
  cases e with
  | exit id' =>
   simp only [BlkQ] at hq
   simp only [Exit.inBlock]
   split
   ·rename_i e; rw [if_pos e] at hq; exact ⟨s, Ω, hr, hq⟩
   ·rename_i e; rw [if_neg e] at hq; exact ⟨s, Ω, hr, hq⟩
  | _ => exact ⟨s, Ω, hr, hq⟩)
theorem AC.region {id : Nat} {l : List Oper} (h : AO C l.toArray l s Q) : AC C (.region id l.toArray false) s Q := fun Ω a w hr => wp_region_lit (h Ω a w hr)
theorem AO.nil {ops : Array Oper} (h : Q .normal s) : AO C ops [] s Q := fun Ω _ _ hr => wpList_nil ⟨s, Ω, hr, h⟩

/-- What an operand stands for. -/
def opS (s : St) : Operand → Option SV
 | .tmp t => get s.env t
 | .const v => some (.d (.v v))
 | .global g => some (.d (.v (.pointer (some ⟨g, 0, none⟩))))
 | .func f => some (.d (.v (.func (.func f) #[] #[])))

theorem Rel.eval {Ω : List Value} {a : Act} {w : World} (h : Rel C s Ω a w) {x : Operand} {sv : SV} (hx : opS s x = some sv) : RepS w (okB C s.obs Ω w) Ω sv (a.eval x) := by
 cases x with
 | tmp t =>
  obtain ⟨v, hv, hr⟩ := h.env t sv hx
  have : a.eval (.tmp t) = v := by simp [Act.eval, Array.getD_eq_getD_getElem?, hv]
  rw [this]; exact hr
 | const v => cases hx; exact .d _ _ (.v v)
 | global g => cases hx; exact .d _ _ (.v _)
 | func f => cases hx; exact .d _ _ (.v _)

theorem RepS.val {w : World} {ok : Nat → Prop} {Ω : List Value} {x v : Value} (h : RepS w ok Ω (.d (.v x)) v) : v = x := by
 cases h with | d _ _ h => cases h; rfl

theorem Rel.evalV {Ω : List Value} {a : Act} {w : World} (h : Rel C s Ω a w) {x : Operand} {v : Value} (hx : opS s x = some (.d (.v v))) : a.eval x = v := (h.eval hx).val

theorem AC.cond {c : Operand} {x y : Code} {b : Bool} (hc : opS s c = some (.d (.v (.bool b)))) (ht : b = true → AC C x s Q) (hf : b = false → AC C y s Q) : AC C (.cond c x y) s Q :=
 fun Ω a w hr => wp_cond_split (hr.evalV hc) (fun e => ht e Ω a w hr) (fun e => hf e Ω a w hr)

theorem AC.condT {c : Operand} {x y : Code} {b : Bool} (hc : opS s c = some (.d (.v (.bool b)))) (hb : b = true) (h : AC C x s Q) : AC C (.cond c x y) s Q :=
 fun Ω a w hr => by subst hb; exact wp_cond_true (hr.evalV hc) (h Ω a w hr)
theorem AC.condF {c : Operand} {x y : Code} {b : Bool} (hc : opS s c = some (.d (.v (.bool b)))) (hb : b = false) (h : AC C y s Q) : AC C (.cond c x y) s Q :=
 fun Ω a w hr => by subst hb; exact wp_cond_false (hr.evalV hc) (h Ω a w hr)

/-- A loop over states st g. -/
theorem AC.loop {G : Type} (ks : List Nat) (m : Nat) (st : G → St) (inv : G → Prop) (μ : G → Nat) (g0 : G) {c : Code} {r0 : List (Nat × SV)}
  (hk : keep ks s.env = some r0) (hb : keepOK m r0 (s.obs.take m) = true) (h0 : (⟨r0, s.obs.take m⟩ : St) = st g0) (hi : inv g0)
  (round : ∀ g, inv g → AC C c (st g) (LoopQ ks m (fun s' => ∃ g', s' = st g' ∧ inv g' ∧ μ g' < μ g) Q)) : AC C (.loop c) s Q := by
 have key : ∀ n g, μ g = n → inv g → ∀ Ω a w, Rel C (st g) Ω a w → ∀ b k cs,
   ∃ e a' w', Lift C Q e a' w' ∧ Arrives C.P (lone (b.at a (.code c :: .inLoop c :: k)) cs w) b k cs e a' w' := by
  intro n
  induction n using Nat.strongRecOn with
  | _ n ih =>
   intro g hn hg Ω a w hr b k cs
   obtain ⟨e, a₁, w₁, ⟨s₁, Ω₁, hr₁, hq⟩, harr⟩ := round g hg Ω a w hr b (.inLoop c :: k) cs
   cases e with
   | normal =>
    obtain ⟨r, hkr, hbr, g', he, hg', hlt⟩ := hq
    have hr₂ := hr₁.keep hkr hbr
    rw [he] at hr₂
    obtain ⟨e₂, a₂, w₂, hq₂, harr₂⟩ := ih (μ g') (hn ▸ hlt) g' rfl hg' _ _ _ hr₂ b k cs
    exact ⟨e₂, a₂, w₂, hq₂, .of_steps (Steps.trans harr (.one step_inLoop)) harr₂⟩
   | exit id => exact ⟨_, a₁, w₁, ⟨s₁, Ω₁, hr₁, hq⟩, .pass (x := .inLoop c) rfl (fun _ _ => .inl (by simp)) harr⟩
   | goto l => exact ⟨_, a₁, w₁, ⟨s₁, Ω₁, hr₁, hq⟩, .pass (x := .inLoop c) rfl (fun _ _ => .inl (by simp)) harr⟩
   | ret => exact ⟨_, a₁, w₁, ⟨s₁, Ω₁, hr₁, hq⟩, .pass (x := .inLoop c) rfl (fun _ _ => .inl (by simp)) harr⟩
   | panic ch => exact ⟨_, a₁, w₁, ⟨s₁, Ω₁, hr₁, hq⟩, .pass (x := .inLoop c) rfl (fun _ _ => .inl (by simp)) harr⟩
   | outgrown => exact ⟨_, a₁, w₁, ⟨s₁, Ω₁, hr₁, hq⟩, .pass (x := .inLoop c) rfl (fun _ _ => .inl (by simp)) harr⟩
 intro Ω a w hr b k cs
 have hr0 := hr.keep hk hb
 rw [h0] at hr0
 obtain ⟨e, a', w', hq, harr⟩ := key _ g0 rfl hi _ a w hr0 b k cs
 exact ⟨e, a', w', hq, .of_steps (.one step_loop) harr⟩

/-- A loop: cenv: what stays; venv: what turns. -/
def LoopV {G : Type} (ksC ksV : List Nat) (m : Nat) (cenv : List (Nat × SV)) (venv : G → List (Nat × SV)) (ob : G → List Ob) (inv : G → Prop) (μ : G → Nat) (n : Nat) (Q : Exit → St → Prop) : Exit → St → Prop
 | .normal, s => Vm.keep ksC s.env = some cenv ∧ ∃ g', Vm.keep ksV s.env = some (venv g') ∧ s.obs.take m = ob g' ∧ keepOK m (cenv ++ venv g') (ob g') = true ∧ inv g' ∧ μ g' < n
 | e, s => Q e s
/-- Slots are forgotten ahead of a piece of code. -/
theorem AC.keep (ks : List Nat) (m : Nat) {c : Code} {r : List (Nat × SV)} (hk : Vm.keep ks s.env = some r) (hb : keepOK m r (s.obs.take m) = true) (h : AC C c ⟨r, s.obs.take m⟩ Q) : AC C c s Q :=
 fun Ω a w hr => h _ a w (hr.keep hk hb)

/-! ### Operations -/
variable {ops : Array Oper} {rest : List Oper} {o : Oper}

/-- One operation, ahead of the others. -/
def AOp (C : Ctx) (ops : Array Oper) (rest : List Oper) (o : Oper) (s : St) (Q : Exit → St → Prop) : Prop :=
 ∀ Ω a w, Rel C s Ω a w → o.wp C.P a w (wpList C.P ops (Lift C Q) rest) (Lift C Q)

theorem AO.op (hg : o.guard = none) (h : AOp C ops rest o s Q) : AO C ops (o :: rest) s Q := fun Ω a w hr => by
 unfold wpList
 rw [if_pos (by simp [Region.wanted, hg])]
 exact .inl (h Ω a w hr)

theorem wanted_eq {a : Act} {j : Nat} {want b : Bool} (hg : o.guard = some (j, want)) {dj : Nat} (hj : ((ops[j]?).bind (·.dst)) = some dj) (hv : a.tmps[dj]? = some (.bool b)) :
  Region.wanted o (yielded ops a.tmps) = (b == want) := by
 unfold Region.wanted
 rw [hg]
 simp only [yielded, hj, Option.bind_some, hv]
 cases b <;> cases want <;> rfl

/-- A guarded operation: done, or passed over. -/
theorem AO.guard {e : List (Nat × SV)} {obs : List Ob} {j dj d : Nat} {want b : Bool} (hg : o.guard = some (j, want)) (hj : ((ops[j]?).bind (·.dst)) = some dj) (hd : o.dst = some d) (hn : d < C.n)
  (hx : get e dj = some (.d (.v (.bool b)))) (hyes : b = want → AOp C ops rest o ⟨e, obs⟩ Q) (hno : b = (!want) → AO C ops rest ⟨(d, .d (.v undef)) :: e, obs⟩ Q) : AO C ops (o :: rest) ⟨e, obs⟩ Q := fun Ω a w hr => by
 obtain ⟨v, hv, hrep⟩ := hr.env dj _ hx
 have hvb := hrep.val
 subst hvb
 unfold wpList
 rw [wanted_eq hg hj hv]
 by_cases hb : b = want
 ·rw [if_pos (by simp [hb])]
  exact .inl (hyes hb Ω a w hr)
 ·rw [if_neg (by simp [hb]), hd]
  exact hno (by cases b <;> cases want <;> simp_all) Ω _ w (hr.put hn (.d _ _ (.v _)))
/-- An operation that gives a value (the memory may turn). -/
theorem AOp.step {e e1 : List (Nat × SV)} {obs obs1 : List Ob} {d : Nat} {x : SV} (hd : o.dst = some d) (hn : d < C.n)
  (hv : ∀ Ω a w, Rel C ⟨e, obs⟩ Ω a w → ∃ v w' Ω', (execOp a.eval o).run C.P w = .ok (.value v) w' ∧ Rel C ⟨e1, obs1⟩ Ω' a w' ∧ RepS w' (okB C obs1 Ω' w') Ω' x v)
  (h : AO C ops rest ⟨(d, x) :: e1, obs1⟩ Q) : AOp C ops rest o ⟨e, obs⟩ Q := fun Ω a w hr => by
 obtain ⟨v, w', Ω', hrun, hr', hrep⟩ := hv Ω a w hr
 unfold Oper.wp
 rw [hrun, Oper.upon_value, hd]
 exact h Ω' _ w' (hr'.put hn hrep)
theorem AOp.skip {e e1 : List (Nat × SV)} {obs obs1 : List Ob} (hd : o.dst = none)
  (hv : ∀ Ω a w, Rel C ⟨e, obs⟩ Ω a w → ∃ w' Ω', (execOp a.eval o).run C.P w = .ok .skip w' ∧ Rel C ⟨e1, obs1⟩ Ω' a w')
  (h : AO C ops rest ⟨e1, obs1⟩ Q) : AOp C ops rest o ⟨e, obs⟩ Q := fun Ω a w hr => by
 obtain ⟨w', Ω', hrun, hr'⟩ := hv Ω a w hr
 unfold Oper.wp
 rw [hrun, Oper.upon_skip, hd]
 exact h Ω' _ w' hr'
theorem AOp.value {e : List (Nat × SV)} {obs : List Ob} {d : Nat} {x : SV} (hd : o.dst = some d) (hn : d < C.n)
  (hv : ∀ Ω a w, Rel C ⟨e, obs⟩ Ω a w → ∃ v, (execOp a.eval o).run C.P w = .ok (.value v) w ∧ RepS w (okB C obs Ω w) Ω x v)
  (h : AO C ops rest ⟨(d, x) :: e, obs⟩ Q) : AOp C ops rest o ⟨e, obs⟩ Q :=
 AOp.step hd hn (fun Ω a w hr => let ⟨v, h1, h2⟩ := hv Ω a w hr; ⟨v, w, Ω, h1, hr, h2⟩) h

variable {e : List (Nat × SV)} {obs : List Ob} {d : Nat}

theorem AOp.move {x : Operand} {sv : SV} (ho : o.op = .move x) (hd : o.dst = some d) (hn : d < C.n) (hx : opS ⟨e, obs⟩ x = some sv) (h : AO C ops rest ⟨(d, sv) :: e, obs⟩ Q) : AOp C ops rest o ⟨e, obs⟩ Q :=
 AOp.value hd hn (fun _ a w hr => ⟨a.eval x, by simp only [execOp, ho]; rfl, hr.eval hx⟩) h
theorem AOp.assign {x : Operand} {sv : SV} (ho : o.op = .assign x) (hd : o.dst = some d) (hn : d < C.n) (hx : opS ⟨e, obs⟩ x = some sv) (h : AO C ops rest ⟨(d, sv) :: e, obs⟩ Q) : AOp C ops rest o ⟨e, obs⟩ Q :=
 AOp.value hd hn (fun _ a w hr => ⟨a.eval x, by simp only [execOp, ho]; rfl, hr.eval hx⟩) h

/-- Small numbers are compared by looking. -/
theorem ltb {a b : Nat} (h : Nat.blt a b = true) : a < b := by simpa [Nat.blt_eq] using h
theorem leb {a b : Nat} (h : Nat.ble a b = true) : a ≤ b := Nat.le_of_ble_eq_true h

theorem AO.guardY {j dj : Nat} {want b : Bool} (hg : o.guard = some (j, want)) (hj : ((ops[j]?).bind (·.dst)) = some dj)
  (hx : get e dj = some (.d (.v (.bool b)))) (hb : b = want) (hyes : AOp C ops rest o ⟨e, obs⟩ Q) : AO C ops (o :: rest) ⟨e, obs⟩ Q := fun Ω a w hr => by
 obtain ⟨v, hv, hrep⟩ := hr.env dj _ hx
 have hvb := hrep.val
 subst hvb
 unfold wpList
 rw [wanted_eq hg hj hv, if_pos (by simp [hb])]
 exact .inl (hyes Ω a w hr)
theorem AO.guardN {j dj : Nat} {want b : Bool} (hg : o.guard = some (j, want)) (hj : ((ops[j]?).bind (·.dst)) = some dj) (hd : o.dst = some d) (hn : d < C.n)
  (hx : get e dj = some (.d (.v (.bool b)))) (hb : b = (!want)) (hno : AO C ops rest ⟨(d, .d (.v undef)) :: e, obs⟩ Q) : AO C ops (o :: rest) ⟨e, obs⟩ Q := fun Ω a w hr => by
 obtain ⟨v, hv, hrep⟩ := hr.env dj _ hx
 have hvb := hrep.val
 subst hvb
 unfold wpList
 rw [wanted_eq hg hj hv, if_neg (by simp [hb]), hd]
 exact hno Ω _ w (hr.put hn (.d _ _ (.v _)))
/-- A guard looks at what was itself passed over. -/
theorem AO.guardU {j dj : Nat} {want : Bool} (hg : o.guard = some (j, want)) (hj : ((ops[j]?).bind (·.dst)) = some dj) (hd : o.dst = some d) (hn : d < C.n)
  (hx : get e dj = some (.d (.v undef))) (hno : AO C ops rest ⟨(d, .d (.v undef)) :: e, obs⟩ Q) : AO C ops (o :: rest) ⟨e, obs⟩ Q := fun Ω a w hr => by
 obtain ⟨v, hv, hrep⟩ := hr.env dj _ hx
 have hvb := hrep.val
 subst hvb
 have hw : Region.wanted o (yielded ops a.tmps) = false := by
  unfold Region.wanted
  rw [hg]
  simp [yielded, hj, hv, undef]
 unfold wpList
 rw [if_neg (by rw [hw]; simp), hd]
 exact hno Ω _ w (hr.put hn (.d _ _ (.v _)))
theorem AOp.pick {c x y : Operand} {sv : SV} {b : Bool} (ho : o.op = .pick c x y) (hd : o.dst = some d) (hn : d < C.n) (hc : opS ⟨e, obs⟩ c = some (.d (.v (.bool b)))) (hb : b = true) (hx : opS ⟨e, obs⟩ x = some sv)
  (h : AO C ops rest ⟨(d, sv) :: e, obs⟩ Q) : AOp C ops rest o ⟨e, obs⟩ Q :=
 AOp.value hd hn (fun _ a w hr => ⟨a.eval x, by subst hb; simp only [execOp, ho, hr.evalV hc]; rfl, hr.eval hx⟩) h
theorem AOp.pickN {c x y : Operand} {sv : SV} {b : Bool} (ho : o.op = .pick c x y) (hd : o.dst = some d) (hn : d < C.n) (hc : opS ⟨e, obs⟩ c = some (.d (.v (.bool b)))) (hb : b = false) (hx : opS ⟨e, obs⟩ y = some sv)
  (h : AO C ops rest ⟨(d, sv) :: e, obs⟩ Q) : AOp C ops rest o ⟨e, obs⟩ Q :=
 AOp.value hd hn (fun _ a w hr => ⟨a.eval y, by subst hb; simp only [execOp, ho, hr.evalV hc]; rfl, hr.eval hx⟩) h
/-- x op y on plain values. -/
theorem AOp.bin {b : BinOp} {t ty : TypeId} {x y : Operand} {u v r : Value} (ho : o.op = .binOp b t x y ty) (hd : o.dst = some d) (hn : d < C.n)
  (hx : opS ⟨e, obs⟩ x = some (.d (.v u))) (hy : opS ⟨e, obs⟩ y = some (.d (.v v))) (hg : eqGuard b t x y u v = pure ()) (hrun : ∀ w, (binOp b t u v).run C.P w = .ok r w)
  (h : AO C ops rest ⟨(d, .d (.v r)) :: e, obs⟩ Q) : AOp C ops rest o ⟨e, obs⟩ Q :=
 AOp.value hd hn (fun _ a w hr => ⟨r, by
  simp only [execOp, ho, hr.evalV hx, hr.evalV hy, hg, Sem.run_bind, Sem.run_pure, Result.andThen_ok, hrun w], .d _ _ (.v _)⟩) h
theorem AOp.un {b : UnOp} {t : TypeId} {x : Operand} {u r : Value} (ho : o.op = .unOp b t x) (hd : o.dst = some d) (hn : d < C.n)
  (hx : opS ⟨e, obs⟩ x = some (.d (.v u))) (hrun : ∀ w, (Op.unary b u).run C.P w = .ok r w)
  (h : AO C ops rest ⟨(d, .d (.v r)) :: e, obs⟩ Q) : AOp C ops rest o ⟨e, obs⟩ Q :=
 AOp.value hd hn (fun _ a w hr => ⟨r, by
  simp only [execOp, ho, hr.evalV hx, Sem.run_bind, Sem.run_pure, Result.andThen_ok, hrun w], .d _ _ (.v _)⟩) h
theorem AOp.conv {t ty : TypeId} {x : Operand} {u r : Value} (ho : o.op = .convert t ty x) (hd : o.dst = some d) (hn : d < C.n)
  (hx : opS ⟨e, obs⟩ x = some (.d (.v u))) (hrun : ∀ w, (convert t ty u).run C.P w = .ok r w)
  (h : AO C ops rest ⟨(d, .d (.v r)) :: e, obs⟩ Q) : AOp C ops rest o ⟨e, obs⟩ Q :=
 AOp.value hd hn (fun _ a w hr => ⟨r, by
  simp only [execOp, ho, hr.evalV hx, Sem.run_bind, Sem.run_pure, Result.andThen_ok, hrun w], .d _ _ (.v _)⟩) h

end
end Go.Vm

/- Operations on memory, over the view. -/
namespace Go.Vm
set_option linter.unusedVariables false

def D.one : D → Bool
 | .v x => x.oneCell'
 | .ag _ => false
 | .tu _ => false
 | _ => true
def SV.one : SV → Bool
 | .d x => x.one
 | .ag _ => false
 | .tu _ => false
 | .any => false
 | _ => true

theorem RepD.one {w : World} {ok : Nat → Prop} {x : D} {v : Value} (h : RepD w ok x v) (h1 : x.one = true) : v.oneCell' = true := by
 cases h with
 | v x => exact h1
 | nil => rfl
 | ds => rfl
 | pt => rfl
 | ag => cases h1
 | ifc => rfl
 | clo => rfl
 | tu => cases h1
theorem RepS.one {w : World} {ok : Nat → Prop} {Ω : List Value} {x : SV} {v : Value} (h : RepS w ok Ω x v) (h1 : x.one = true) (hw : ∀ o, x = .own o → v.oneCell' = true) : v.oneCell' = true := by
 cases h with
 | any => cases h1
 | d x v hd => exact hd.one h1
 | own o v _ h1 => exact h1
 | pre => rfl
 | full => rfl
 | ptr => rfl
 | ptrG => rfl
 | sl => rfl
 | ep => rfl
 | ag => cases h1
 | tu => cases h1
 | ifc => rfl
 | fv => rfl

/-- The cells of a value in memory. -/
def cellsS : SV → List SV
 | .ag l => l
 | .d (.ag l) => l.map .d
 | .d (.v (.agg a)) => a.toList.map fun u => .d (.v u)
 | x => [x]
/-- No own slice among them: its header is one cell all the same, but that is known of its object alone. -/
def SV.plain (x : SV) : Bool := x.one

theorem RepS.plain {w : World} {ok : Nat → Prop} {Ω : List Value} {x : SV} {v : Value} (h : RepS w ok Ω x v) (h1 : x.plain = true) : v.oneCell' = true :=
 h.one h1 (fun o e => by subst e; cases h with | own _ _ _ h2 => exact h2)

theorem RepS.cells {w : World} {ok : Nat → Prop} {Ω : List Value} {x : SV} {v : Value} (h : RepS w ok Ω x v) (h1 : (cellsS x).all SV.plain = true) :
  ∃ vs : List Value, v.cells = vs.toArray ∧ vs.length = (cellsS x).length ∧ (∀ (i : Nat) p q, (cellsS x)[i]? = some p → vs[i]? = some q → RepS w ok Ω p q) ∧ ∀ y, y ∈ vs → y.oneCell' = true := by
 have fin : ∀ vs : List Value, vs.length = (cellsS x).length → (∀ (i : Nat) p q, (cellsS x)[i]? = some p → vs[i]? = some q → RepS w ok Ω p q) → ∀ y, y ∈ vs → y.oneCell' = true := by
  intro vs hl hr y hy
  obtain ⟨i, hi⟩ := List.getElem?_of_mem hy
  have hlt := (List.getElem?_eq_some_iff.1 hi).1
  have hx : (cellsS x)[i]? = some (cellsS x)[i] := List.getElem?_eq_getElem (by omega)
  exact (hr i _ _ hx hi).plain (List.all_eq_true.1 h1 _ (List.mem_of_getElem? hx))
 have single : ∀ u, cellsS x = [x] → v = u → u.oneCell' = true → ∃ vs : List Value, v.cells = vs.toArray ∧ vs.length = (cellsS x).length ∧ (∀ (i : Nat) p q, (cellsS x)[i]? = some p → vs[i]? = some q → RepS w ok Ω p q) ∧ ∀ y, y ∈ vs → y.oneCell' = true := by
  intro u hc hu ho
  subst hu
  refine ⟨[v], (by cases v <;> first | rfl | (cases ho)), (by rw [hc]; rfl), fun i p q hp hq => ?_, fun y hy => (by rw [List.mem_singleton.1 hy]; exact ho)⟩
  rw [hc] at hp
  cases i with
  | zero => cases hp; cases hq; exact h
  | succ i => cases hp
 have h0 := h
 cases h with
 | ag cells vs hl hr => exact ⟨vs, rfl, hl, hr, fin vs hl hr⟩
 | d x v hd =>
  have hd0 := hd
  cases hd with
  | ag cells vs hl hr =>
   have hr' : ∀ (i : Nat) p q, (cellsS (.d (.ag cells)))[i]? = some p → vs[i]? = some q → RepS w ok Ω p q := by
    intro i p q hp hq
    simp only [cellsS, List.getElem?_map, Option.map_eq_some_iff] at hp
    obtain ⟨z, hz, rfl⟩ := hp
    exact .d _ _ (hr i z q hz hq)
   exact ⟨vs, rfl, by simp [cellsS, hl], hr', fin vs (by simp [cellsS, hl]) hr'⟩
  | v =>
   cases v with
   | agg a =>
    have hr' : ∀ (i : Nat) p q, (cellsS (.d (.v (.agg a))))[i]? = some p → a.toList[i]? = some q → RepS w ok Ω p q := by
     intro i p q hp hq
     simp only [cellsS, List.getElem?_map, Option.map_eq_some_iff] at hp
     obtain ⟨z, hz, rfl⟩ := hp
     rw [hz] at hq; cases hq
     exact .d _ _ (.v _)
    exact ⟨a.toList, by simp [Value.cells], by simp [cellsS], hr', fin _ (by simp [cellsS]) hr'⟩
   | _ => exact single _ rfl rfl (h0.plain (by simpa [cellsS] using h1))
  | _ => exact single _ rfl rfl (h0.plain (by simpa [cellsS] using h1))
 | _ => exact single _ rfl rfl (h0.plain (by simpa [cellsS] using h1))

section
variable {C : Ctx} {Q : Exit → St → Prop} {ops : Array Oper} {rest : List Oper} {o : Oper} {e : List (Nat × SV)} {obs : List Ob} {d : Nat}

theorem AOp.box {t : TypeId} {x : Operand} {sv : SV} (ho : o.op = .box t x) (hd : o.dst = some d) (hn : d < C.n) (hx : opS ⟨e, obs⟩ x = some sv) (h1 : (cellsS sv).all SV.plain = true)
  (h : AO C ops rest ⟨(d, .ptr obs.length 0) :: e, obs ++ [.fix t (cellsS sv)]⟩ Q) : AOp C ops rest o ⟨e, obs⟩ Q := by
 refine AOp.step hd hn (fun Ω a w hr => ?_) h
 obtain ⟨vs, hc, hl, hrv, hone⟩ := (hr.eval hx).cells h1
 refine ⟨.pointer (some ⟨w.heap.size, 0, none⟩), _, _, ?_, hr.alloc t (cellsS sv) vs hl hrv hone, .ptr _ _ _ ?_⟩
 ·simp only [execOp, ho, Instr.box, newVar, newRow, hc, Sem.run_bind, Sem.run_pure, Result.andThen_ok, run_newObj]; rfl
 ·have := hr.mem.len
  dsimp only at this
  rw [this, List.getElem?_append_right (Nat.le_refl _)]; simp

/-- A type's zero value. -/
def zcells (z : Value) : List SV := z.cells.toList.map fun u => .d (.v u)
theorem run_zero {P : Program} {t : TypeId} {z : Value} (hz : (P.info? t).map (·.zero) = some (some z)) (w : World) : (zeroValue t).run P w = .ok z w := by
 cases hq : P.info? t with
 | none => rw [hq] at hz; cases hz
 | some i =>
  rw [hq] at hz
  have : i.zero = some z := by simpa using hz
  simp [zeroValue, typeInfo, hq, this]
theorem AOp.alloc {t : TypeId} {z : Value} (ho : o.op = .alloc t) (hd : o.dst = some d) (hn : d < C.n) (hz : (C.P.info? t).map (·.zero) = some (some z)) (h1 : z.cells.toList.all (·.oneCell') = true)
  (h : AO C ops rest ⟨(d, .ptr obs.length 0) :: e, obs ++ [.fix t (zcells z)]⟩ Q) : AOp C ops rest o ⟨e, obs⟩ Q := by
 refine AOp.step hd hn (fun Ω a w hr => ?_) h
 refine ⟨.pointer (some ⟨w.heap.size, 0, none⟩), _, _, ?_, hr.alloc t (zcells z) z.cells.toList (by simp [zcells]) (fun i p q hp hq => ?_) (fun y hy => List.all_eq_true.1 h1 y hy), .ptr _ _ _ ?_⟩
 ·simp only [execOp, ho, Instr.alloc, run_zero hz, newVar, newRow, Sem.run_bind, Sem.run_pure, Result.andThen_ok, run_newObj, Array.toArray_toList]; rfl
 ·simp only [zcells, List.getElem?_map, Option.map_eq_some_iff] at hp
  obtain ⟨u, hu, rfl⟩ := hp
  rw [hu] at hq; cases hq
  exact .d _ _ (.v _)
 ·have := hr.mem.len
  dsimp only at this
  rw [this, List.getElem?_append_right (Nat.le_refl _)]; simp

/-- A struct's field, by its address. -/
theorem run_fieldAt {P : Program} {t : TypeId} {fs : Array Field} {f : Field} {i : Nat} {a : Addr} (hu : P.underlying t = some (.struct fs)) (hf : fs[i]? = some f) (hs : (P.info? f.type).map (fun i => i.size == 0) = some false) (w : World) :
  (Instr.fieldAt t (.pointer (some a)) i).run P w = .ok (.pointer (some (a.add f.offset))) w := by
 cases hq : P.info? f.type with
 | none => rw [hq] at hs; cases hs
 | some j =>
  rw [hq] at hs
  have hs : ¬ j.size = 0 := by simpa using hs
  simp [Instr.fieldAt, run_underlying hu, hf, Instr.sureAddr, fieldPlace, sizeOf, typeInfo, hq, hs]

theorem Addr.add_of (b o n : Nat) : (⟨b, o, none⟩ : Addr).add n = ⟨b, o + n, none⟩ := Addr.add_lit b o n

/-- How far a field lies behind its struct's beginning. -/
def fieldOff (P : Program) (t : TypeId) (i : Nat) : Option Nat :=
 match P.underlying t with
 | some (.struct fs) => match fs[i]? with
  | some f => match P.info? f.type with
   | some j => if j.size = 0 then none else some f.offset
   | none => none
  | none => none
 | _ => none
theorem run_fieldAt' {P : Program} {t : TypeId} {i k : Nat} {b off : Nat} (hk : fieldOff P t i = some k) (w : World) :
  (Instr.fieldAt t (.pointer (some ⟨b, off, none⟩)) i).run P w = .ok (.pointer (some ⟨b, off + k, none⟩)) w := by
 unfold fieldOff at hk
 split at hk
 ·rename_i fs hu
  split at hk
  ·rename_i f hf
   split at hk
   ·rename_i j hj
    split at hk
    ·cases hk
    ·rename_i hne
     cases hk
     rw [run_fieldAt hu hf (by rw [hj]; simp [hne]), Addr.add_of]
   ·cases hk
  ·cases hk
 ·cases hk
theorem AOp.fieldAddr {t : TypeId} {x : Operand} {i p off k : Nat} (ho : o.op = .fieldAddr t x i) (hd : o.dst = some d) (hn : d < C.n) (hx : opS ⟨e, obs⟩ x = some (.ptr p off)) (hk : fieldOff C.P t i = some k)
  (h : AO C ops rest ⟨(d, .ptr p (off + k)) :: e, obs⟩ Q) : AOp C ops rest o ⟨e, obs⟩ Q :=
 AOp.value hd hn (fun Ω a w hr => by
  have hv := hr.eval hx
  generalize hev : a.eval x = v at hv
  cases hv with
  | ptr _ _ b hb => exact ⟨_, by simp only [execOp, ho, hev, run_fieldAt' hk, Sem.run_bind, Sem.run_pure, Result.andThen_ok], .ptr _ _ _ hb⟩
  | ptrG _ _ b len cap hb => exact ⟨_, by simp only [execOp, ho, hev, run_fieldAt' hk, Sem.run_bind, Sem.run_pure, Result.andThen_ok], .ptrG _ _ _ _ _ hb⟩) h
end
end Go.Vm

/- Reading and writing memory, over the view. -/
namespace Go.Vm
set_option linter.unusedVariables false

def aggT (P : Program) (t : TypeId) : Option Bool :=
 match P.underlying t with
 | some (.struct _) => some true
 | some (.array _ _) => some true
 | some _ => some false
 | none => none
def sizeT (P : Program) (t : TypeId) : Option Nat := (P.info? t).map (·.size)
theorem run_isAgg {P : Program} {t : TypeId} {b : Bool} (h : aggT P t = some b) (w : World) : (isAgg t).run P w = .ok b w := by
 unfold aggT at h
 cases hu : P.underlying t with
 | none => rw [hu] at h; cases h
 | some d =>
  rw [hu] at h
  unfold isAgg
  rw [Sem.run_bind, run_underlying hu w]
  cases d <;> cases h <;> rfl
theorem run_sizeOf {P : Program} {t : TypeId} {n : Nat} (h : sizeT P t = some n) (w : World) : (sizeOf t).run P w = .ok n w := by
 unfold sizeT at h
 cases hq : P.info? t with
 | none => rw [hq] at h; cases h
 | some j => rw [hq] at h; cases h; simp [sizeOf, typeInfo, hq]
theorem run_load1 {P : Program} {t : TypeId} {w : World} {a : Addr} {v : Value} (h : aggT P t = some false) (hc : w.cell? a = some v) : (loadVar t a).run P w = .ok v w := by
 simp [loadVar, run_isAgg h, hc]
theorem run_loadN {P : Program} {t : TypeId} {w : World} {b off n : Nat} {vs : List Value} (h : aggT P t = some true) (hs : sizeT P t = some n) (hl : vs.length = n)
  (hc : ∀ j, j < n → w.cell? ⟨b, off + j, none⟩ = vs[j]?) : (loadVar t ⟨b, off, none⟩).run P w = .ok (.agg vs.toArray) w := by
 subst hl
 have := run_loadCells_list (P := P) w ⟨b, off, none⟩ vs (fun j v hv => by
  rw [Addr.add_of, hc j (List.getElem?_eq_some_iff.1 hv).1]; exact hv)
 simp [loadVar, run_isAgg h, run_sizeOf hs, this]

section
variable {C : Ctx} {Q : Exit → St → Prop} {ops : Array Oper} {rest : List Oper} {o : Oper} {e : List (Nat × SV)} {obs : List Ob} {d : Nat}

/-- The object behind a pointer. -/
theorem Rel.fix {Ω : List Value} {a : Act} {w : World} (hr : Rel C ⟨e, obs⟩ Ω a w) {p off : Nat} {ty : TypeId} {cells : List SV} {v : Value} (hp : obs[p]? = some (.fix ty cells)) (hv : RepS w (okB C obs Ω w) Ω (.ptr p off) v) :
  ∃ b vs, v = .pointer (some ⟨b, off, none⟩) ∧ Ω[p]? = some (.pointer (some ⟨b, 0, none⟩)) ∧ w.heap[b]? = some (.cells (List.toArray vs) ty (0, 0)) ∧ vs.length = cells.length ∧
   (∀ (i : Nat) x y, cells[i]? = some x → vs[i]? = some y → RepS w (okB C obs Ω w) Ω x y) ∧ ∀ y, y ∈ vs → y.oneCell' = true := by
 cases hv with
 | ptr _ _ b hb =>
  obtain ⟨b', vs, he, hw, hl, hrr, h1⟩ := hr.mem.obj p _ _ hp hb
  cases he
  exact ⟨b, vs, rfl, hb, hw, hl, hrr, h1⟩
 | ptrG _ _ b len cap hb =>
  obtain ⟨b', vs, he, _⟩ := hr.mem.obj p _ _ hp hb
  cases he
theorem Rel.growV {Ω : List Value} {a : Act} {w : World} (hr : Rel C ⟨e, obs⟩ Ω a w) {p : Nat} {ty : TypeId} {sz : Nat} {cells : List D} {v : Value} (hp : obs[p]? = some (.grow ty sz cells)) (hv : RepS w (okB C obs Ω w) Ω (.own p) v) :
  ∃ n xs, Ω[p]? = some v ∧ w.ownsRow 0 ty sz v n xs ∧ xs.length = cells.length ∧ (∀ (i : Nat) x y, cells[i]? = some x → xs[i]? = some y → RepD w (okB C obs Ω w) x y) := by
 cases hv with
 | own _ _ hb _ =>
  obtain ⟨n, xs, ho, hl, hrr⟩ := hr.mem.obj p _ _ hp hb
  exact ⟨n, xs, hb, ho, hl, hrr⟩

theorem AOp.load1 {t : TypeId} {x : Operand} {p off : Nat} {ty : TypeId} {cells : List SV} {sv : SV} (ho : o.op = .load t x) (hd : o.dst = some d) (hn : d < C.n) (hx : opS ⟨e, obs⟩ x = some (.ptr p off))
  (ht : aggT C.P t = some false) (hp : obs[p]? = some (.fix ty cells)) (hc : cells[off]? = some sv) (h : AO C ops rest ⟨(d, sv) :: e, obs⟩ Q) : AOp C ops rest o ⟨e, obs⟩ Q :=
 AOp.value hd hn (fun Ω a w hr => by
  obtain ⟨b, vs, hev, hΩ, hw, hl, hrr, h1⟩ := hr.fix hp (hr.eval hx)
  have hlt := (List.getElem?_eq_some_iff.1 hc).1
  have hv : vs[off]? = some vs[off] := List.getElem?_eq_getElem (by omega)
  refine ⟨vs[off], ?_, hrr off _ _ hc hv⟩
  have hcell : w.cell? ⟨b, off, none⟩ = some vs[off] := by rw [cell_of_row w b off _ ty (0, 0) hw]; simp
  simp only [execOp, ho, hev, Instr.loadAt, Instr.sureAddr, Sem.run_bind, Sem.run_pure, Result.andThen_ok, run_load1 ht hcell]) h
theorem AOp.loadN {t : TypeId} {x : Operand} {p off n : Nat} {ty : TypeId} {cells : List SV} (ho : o.op = .load t x) (hd : o.dst = some d) (hn : d < C.n) (hx : opS ⟨e, obs⟩ x = some (.ptr p off))
  (ht : aggT C.P t = some true) (hs : sizeT C.P t = some n) (hp : obs[p]? = some (.fix ty cells)) (hc : off + n ≤ cells.length) {ys : List SV} (hy : (cells.drop off).take n = ys) (h : AO C ops rest ⟨(d, .ag ys) :: e, obs⟩ Q) : AOp C ops rest o ⟨e, obs⟩ Q :=
 AOp.value hd hn (fun Ω a w hr => by
  subst hy
  obtain ⟨b, vs, hev, hΩ, hw, hl, hrr, h1⟩ := hr.fix hp (hr.eval hx)
  refine ⟨.agg ((vs.drop off).take n).toArray, ?_, .ag _ _ (by simp; omega) fun i x y hx hy => ?_⟩
  ·have := run_loadN (P := C.P) (w := w) (b := b) (off := off) (vs := (vs.drop off).take n) ht hs (by simp; omega) (fun j hj => by
    rw [cell_of_row w b (off + j) _ ty (0, 0) hw, List.getElem?_take, if_pos hj, List.getElem?_drop]; simp)
   simp only [execOp, ho, hev, Instr.loadAt, Instr.sureAddr, Sem.run_bind, Sem.run_pure, Result.andThen_ok, this]
  ·rw [List.getElem?_take] at hx hy
   split at hx
   ·rename_i hi
    rw [if_pos hi] at hy
    rw [List.getElem?_drop] at hx hy
    exact hrr _ _ _ hx hy
   ·cases hx) h
/-- Reading what only is read. -/
theorem AOp.loadEp {t : TypeId} {x : Operand} {cells : List D} {i : Nat} {y : D} (ho : o.op = .load t x) (hd : o.dst = some d) (hn : d < C.n) (hx : opS ⟨e, obs⟩ x = some (.ep cells i))
  (ht : aggT C.P t = some false) (hc : cells[i]? = some y) (h : AO C ops rest ⟨(d, .d y) :: e, obs⟩ Q) : AOp C ops rest o ⟨e, obs⟩ Q :=
 AOp.value hd hn (fun Ω a w hr => by
  have hv := hr.eval hx
  generalize hev : a.eval x = v at hv
  cases hv with
  | ep b off _ _ vals hb hcell hrr =>
   refine ⟨vals i, ?_, .d _ _ (hrr i y hc)⟩
   simp only [execOp, ho, hev, Instr.loadAt, Instr.sureAddr, Sem.run_bind, Sem.run_pure, Result.andThen_ok, run_load1 ht (hcell i (List.getElem?_eq_some_iff.1 hc).1)]) h
theorem AOp.loadEpN {t : TypeId} {x : Operand} {cells : List D} {i n : Nat} (ho : o.op = .load t x) (hd : o.dst = some d) (hn : d < C.n) (hx : opS ⟨e, obs⟩ x = some (.ep cells i))
  (ht : aggT C.P t = some true) (hs : sizeT C.P t = some n) (hc : i + n ≤ cells.length) {ys : List D} (hy : (cells.drop i).take n = ys) (h : AO C ops rest ⟨(d, .d (.ag ys)) :: e, obs⟩ Q) : AOp C ops rest o ⟨e, obs⟩ Q :=
 AOp.value hd hn (fun Ω a w hr => by
  subst hy
  have hv := hr.eval hx
  generalize hev : a.eval x = v at hv
  cases hv with
  | ep b off _ _ vals hb hcell hrr =>
   have hl : ((List.range n).map fun j => vals (i + j)).length = n := by simp
   refine ⟨.agg ((List.range n).map fun j => vals (i + j)).toArray, ?_, .d _ _ (.ag _ _ (by simp; omega) fun j p q hp hq => ?_)⟩
   ·have := run_loadN (P := C.P) (w := w) (b := b) (off := off + i) (vs := (List.range n).map fun j => vals (i + j)) ht hs hl (fun j hj => by
     rw [Nat.add_assoc, hcell (i + j) (by omega)]; simp [hj])
    simp only [execOp, ho, hev, Instr.loadAt, Instr.sureAddr, Sem.run_bind, Sem.run_pure, Result.andThen_ok, this]
   ·rw [List.getElem?_take] at hp
    split at hp
    ·rename_i hi
     rw [List.getElem?_drop] at hp
     simp [hi] at hq
     subst hq
     exact hrr _ _ hp
    ·cases hp) h

/-- Writing into an own object. -/
theorem AOp.store {t : TypeId} {x y : Operand} {p off n : Nat} {ty : TypeId} {cells : List SV} {sv : SV} (ho : o.op = .store t x y) (hd : o.dst = none) (hx : opS ⟨e, obs⟩ x = some (.ptr p off)) (hy : opS ⟨e, obs⟩ y = some sv)
  (hs : sizeT C.P t = some n) (h1 : (cellsS sv).all SV.plain = true) (hl : (cellsS sv).length = n) (hp : obs[p]? = some (.fix ty cells)) (hc : off + n ≤ cells.length)
  (h : AO C ops rest ⟨e, obs.set p (.fix ty (cells.take off ++ cellsS sv ++ cells.drop (off + n)))⟩ Q) : AOp C ops rest o ⟨e, obs⟩ Q := by
 refine AOp.skip hd (fun Ω a w hr => ?_) h
 obtain ⟨b, vs, hev, hΩ, hw, hvl, hrr, hone⟩ := hr.fix hp (hr.eval hx)
 obtain ⟨us, huc, hul, hur, huone⟩ := (hr.eval hy).cells h1
 have hst := run_storeCells_at C.P b off ty us 0 vs.toArray w hw (by simp; omega) huone
 simp only [Nat.add_zero] at hst
 have key := hr.mem.set hp hΩ hw (vs.take off ++ us ++ vs.drop (off + us.length)) (cells' := cells.take off ++ cellsS sv ++ cells.drop (off + n)) (by simp; omega)
  (fun i x y hx hy => by
   have la : (cells.take off).length = off := by simp; omega
   have lb : (vs.take off).length = off := by simp; omega
   rw [List.append_assoc, List.getElem?_append] at hx hy
   rw [la] at hx
   rw [lb] at hy
   split at hx
   ·rename_i hi
    rw [if_pos hi] at hy
    rw [List.getElem?_take, if_pos hi] at hx hy
    exact hrr i x y hx hy
   ·rename_i hi
    rw [if_neg hi] at hy
    rw [List.getElem?_append] at hx hy
    split at hx
    ·rename_i hj
     rw [if_pos (by omega)] at hy
     exact hur _ x y hx hy
    ·rename_i hj
     rw [if_neg (by omega)] at hy
     rw [List.getElem?_drop] at hx hy
     rw [hul, hl] at hy
     rw [hl] at hx
     exact hrr _ x y hx hy)
  (fun y hy => by
   rcases List.mem_append.1 hy with hy | hy
   ·rcases List.mem_append.1 hy with hy | hy
    ·exact hone y (List.mem_of_mem_take hy)
    ·exact huone y hy
   ·exact hone y (List.mem_of_mem_drop hy))
 have hrel : Rel C ⟨e, obs.set p (.fix ty (cells.take off ++ cellsS sv ++ cells.drop (off + n)))⟩ Ω a (w.setRow b (vs.take off ++ us ++ vs.drop (off + us.length)).toArray) :=
  ⟨hr.defers, hr.size, fun t x hx => let ⟨v, hv, hr'⟩ := hr.env t x hx; ⟨v, hv, hr'.mono key.2 (fun _ _ e => e)⟩, key.1⟩
 refine ⟨_, Ω, ?_, hrel⟩
 have hsz : (a.eval y).cells.size = n := by rw [huc]; simp; omega
 have huc' : (a.eval y).cells.toList = us := by rw [huc]
 simp only [execOp, ho, hev, Instr.storeAt, Instr.sureAddr, storeVar, Sem.run_bind, Sem.run_pure, Result.andThen_ok, run_sizeOf hs, hsz, ne_eq, not_true_eq_false, if_false, huc', hst, Sem.run_ite]
end
end Go.Vm

/- Slices, struct values, appending, over the view. -/
namespace Go.Vm
set_option linter.unusedVariables false

/-- A slice type's element: its number, its cells. -/
def elemT (P : Program) (t : TypeId) : Option (TypeId × Nat) :=
 match P.underlying t with
 | some (.slice e) => (sizeT P e).map fun n => (e, n)
 | _ => none
theorem elemT_spec {P : Program} {t el n : Nat} (h : elemT P t = some (el, n)) : P.underlying t = some (.slice el) ∧ sizeT P el = some n := by
 unfold elemT at h
 split at h
 ·rename_i e hu
  cases hs : sizeT P e with
  | none => rw [hs] at h; cases h
  | some k => rw [hs] at h; cases h; exact ⟨hu, hs⟩
 ·cases h

section
variable {C : Ctx} {Q : Exit → St → Prop} {ops : Array Oper} {rest : List Oper} {o : Oper} {e : List (Nat × SV)} {obs : List Ob} {d : Nat}

theorem run_indexSlice {P : Program} {t el sz : TypeId} (h : elemT P t = some (el, sz)) (k : IntKind) (i : Int) (b off len cap : Nat) (h0 : 0 ≤ i) (h1 : i < len) (w : World) :
  (Instr.indexAt t (.slice (some ⟨b, off, none⟩) len cap) (.int k i)).run P w = .ok (.pointer (some ⟨b, off + i.toNat * sz, none⟩)) w := by
 obtain ⟨hu, hs⟩ := elemT_spec h
 simp only [Instr.indexAt, asIntOf, Sem.run_bind, Sem.run_pure, Result.andThen_ok, run_underlying hu, h0, h1, and_self, if_true, run_sizeOf hs, Addr.add_of, Sem.run_ite]

theorem AOp.indexDs {t el sz : TypeId} {x ix : Operand} {k : IntKind} {i : Int} {cells : List D} (ho : o.op = .indexAddr t x ix) (hd : o.dst = some d) (hn : d < C.n) (hx : opS ⟨e, obs⟩ x = some (.d (.ds sz cells)))
  (hi : opS ⟨e, obs⟩ ix = some (.d (.v (.int k i)))) (ht : elemT C.P t = some (el, sz)) (hs : 0 < sz) (h0 : 0 ≤ i) (h1 : i.toNat * sz < cells.length)
  (h : AO C ops rest ⟨(d, .ep cells (i.toNat * sz)) :: e, obs⟩ Q) : AOp C ops rest o ⟨e, obs⟩ Q :=
 AOp.value hd hn (fun Ω a w hr => by
  have hv := hr.eval hx
  have hi := hr.evalV hi
  generalize hev : a.eval x = v at hv
  cases hv with
  | d _ _ hv =>
   cases hv with
   | nil => simp at h1
   | ds _ b off len cap _ vals hl hc hb hcell hrr =>
    have hlt : i < len := by
     rw [hl] at h1
     have := Nat.lt_of_mul_lt_mul_right h1
     omega
    refine ⟨_, ?_, .ep b off (i.toNat * sz) cells vals hb hcell hrr⟩
    simp only [execOp, ho, hev, hi, run_indexSlice ht k i b off len cap h0 hlt, Sem.run_bind, Sem.run_pure, Result.andThen_ok]) h
theorem AOp.indexSl {t el sz : TypeId} {x ix : Operand} {k : IntKind} {i : Int} {p off len cap : Nat} (ho : o.op = .indexAddr t x ix) (hd : o.dst = some d) (hn : d < C.n) (hx : opS ⟨e, obs⟩ x = some (.sl p sz off len cap))
  (hi : opS ⟨e, obs⟩ ix = some (.d (.v (.int k i)))) (ht : elemT C.P t = some (el, sz)) (h0 : 0 ≤ i) (h1 : i < len)
  (h : AO C ops rest ⟨(d, .ptr p (off + i.toNat * sz)) :: e, obs⟩ Q) : AOp C ops rest o ⟨e, obs⟩ Q :=
 AOp.value hd hn (fun Ω a w hr => by
  have hv := hr.eval hx
  have hi := hr.evalV hi
  generalize hev : a.eval x = v at hv
  cases hv with
  | sl _ _ _ _ _ b hb =>
   refine ⟨_, ?_, .ptr p (off + i.toNat * sz) b hb⟩
   simp only [execOp, ho, hev, hi, run_indexSlice ht k i b off len cap h0 h1, Sem.run_bind, Sem.run_pure, Result.andThen_ok]) h

theorem run_lenSlice {P : Program} {t el sz ty : TypeId} (h : elemT P t = some (el, sz)) (a : Option Addr) (n c : Nat) (w : World) :
  (Builtin.len_ #[t] ty #[.slice a n c]).run P w = .ok (.int .i64 n) w := by
 obtain ⟨hu, hs⟩ := elemT_spec h
 simp [Builtin.len_, run_underlying hu, goInt]

theorem AOp.lenDs {t el sz : TypeId} {x : Operand} {n : Nat} {cells : List D} (ho : o.op = .call { callee := .builtin .len, args := #[x], argTypes := #[t] }) (hd : o.dst = some d) (hn : d < C.n)
  (hx : opS ⟨e, obs⟩ x = some (.d (.ds sz cells))) (ht : elemT C.P t = some (el, sz)) (hs : 0 < sz) (hl : cells.length = n * sz)
  (h : AO C ops rest ⟨(d, .d (.v (.int .i64 n))) :: e, obs⟩ Q) : AOp C ops rest o ⟨e, obs⟩ Q :=
 AOp.value hd hn (fun Ω a w hr => by
  have hv := hr.eval hx
  generalize hev : a.eval x = v at hv
  cases hv with
  | d _ _ hv =>
   refine ⟨.int .i64 n, ?_, .d _ _ (.v _)⟩
   cases hv with
   | nil _ a c =>
    have : n = 0 := by
     rcases Nat.eq_zero_or_pos n with h0 | h0
     ·exact h0
     ·have := Nat.mul_pos h0 hs; simp at hl; omega
    subst this
    simp [execOp, ho, hev, resolve, invoke, builtin, run_lenSlice ht]
   | ds _ b off len cap _ vals hl2 hc hb hcell hrr =>
    have : len = n := Nat.eq_of_mul_eq_mul_right hs (by rw [← hl2, hl])
    subst this
    simp [execOp, ho, hev, resolve, invoke, builtin, run_lenSlice ht]) h
theorem AOp.extract {x : Operand} {i : Nat} {vs : List SV} {sv : SV} (ho : o.op = .extract x i) (hd : o.dst = some d) (hn : d < C.n) (hx : opS ⟨e, obs⟩ x = some (.tu vs)) (hi : vs[i]? = some sv)
  (h : AO C ops rest ⟨(d, sv) :: e, obs⟩ Q) : AOp C ops rest o ⟨e, obs⟩ Q :=
 AOp.value hd hn (fun Ω a w hr => by
  have hv := hr.eval hx
  generalize hev : a.eval x = v at hv
  cases hv with
  | tu _ us hl hrr =>
   have hlt := (List.getElem?_eq_some_iff.1 hi).1
   have hu : us[i]? = some us[i] := List.getElem?_eq_getElem (by omega)
   exact ⟨us[i], by simp [execOp, ho, hev, Instr.extract, hu], hrr i _ _ hi hu⟩) h
theorem AOp.extractD {x : Operand} {i : Nat} {vs : List D} {y : D} (ho : o.op = .extract x i) (hd : o.dst = some d) (hn : d < C.n) (hx : opS ⟨e, obs⟩ x = some (.d (.tu vs))) (hi : vs[i]? = some y)
  (h : AO C ops rest ⟨(d, .d y) :: e, obs⟩ Q) : AOp C ops rest o ⟨e, obs⟩ Q :=
 AOp.value hd hn (fun Ω a w hr => by
  have hv := hr.eval hx
  generalize hev : a.eval x = v at hv
  cases hv with
  | d _ _ hv =>
   cases hv with
   | tu _ us hl hrr =>
    have hlt := (List.getElem?_eq_some_iff.1 hi).1
    have hu : us[i]? = some us[i] := List.getElem?_eq_getElem (by omega)
    exact ⟨us[i], by simp [execOp, ho, hev, Instr.extract, hu], .d _ _ (hrr i _ _ hi hu)⟩) h
end
end Go.Vm

/- Functions: what a call gives, over the view. -/
namespace Go.Vm
set_option linter.unusedVariables false

def mapO {α β : Type} (f : α → Option β) : List α → Option (List β)
 | [] => some []
 | x :: r => match f x with
  | some y => match mapO f r with
   | some t => some (y :: t)
   | none => none
  | none => none
theorem mapO_get {α β : Type} {f : α → Option β} : ∀ {l : List α} {r : List β}, mapO f l = some r → r.length = l.length ∧ ∀ (i : Nat) x y, l[i]? = some x → r[i]? = some y → f x = some y := by
 intro l
 induction l with
 | nil => intro r h; cases h; exact ⟨rfl, fun i x y hx => by simp at hx⟩
 | cons a l ih =>
  intro r h
  simp only [mapO] at h
  split at h
  ·rename_i y hy
   split at h
   ·rename_i t ht
    cases h
    obtain ⟨hl, hi⟩ := ih ht
    refine ⟨by simp [hl], fun i p q hp hq => ?_⟩
    cases i with
    | zero => simp at hp hq; subst hp; subst hq; exact hy
    | succ i => simp at hp hq; exact hi i p q hp hq
   ·cases h
  ·cases h

/-- What is held as data, if nothing of it is written any more. -/
def viewS : Nat → List Ob → SV → Option D
 | 0, _, _ => none
 | n + 1, obs, x => match x with
  | .d y => some y
  | .ptr p off => match obs[p]? with
   | some (.fix ty cells) => (mapO (viewS n obs) (cells.drop off)).map .pt
   | _ => none
  | .own p => match obs[p]? with
   | some (.grow ty sz cells) => some (.ds sz cells)
   | _ => none
  | .sl p sz off len cap => match obs[p]? with
   | some (.fix ty cells) => if off + len * sz ≤ cells.length ∧ len ≤ cap then (mapO (viewS n obs) ((cells.drop off).take (len * sz))).map (.ds sz) else none
   | _ => none
  | .ep cells i => some (.pt (cells.drop i))
  | .ag l => (mapO (viewS n obs) l).map .ag
  | .tu l => (mapO (viewS n obs) l).map .tu
  | .ifc t x => (viewS n obs x).map (.ifc t)
  | .fv (.func f) [] l => (mapO (viewS n obs) l).map (.clo f)
  | .fv _ _ _ => none
  | .pre _ _ => none
  | .full sz cells => some (.ds sz cells)
  | .any => none

def okV (C : Ctx) (w : World) (b : Nat) : Prop := (C.ok b ∨ C.W.heap.size ≤ b ∨ b ∈ C.may) ∧ b < w.heap.size

theorem RepD.noMay {P : Program} {W w : World} {ok : Nat → Prop} {n : Nat} {df : List Deferred} {r : D} {v : Value} (h : RepD w (okV ⟨P, W, ok, [], n, df⟩ w) r v) : RepD w (fun b => (ok b ∨ W.heap.size ≤ b) ∧ b < w.heap.size) r v :=
 h.mono fun b hb => ⟨⟨hb.1.elim .inl (fun h => h.elim .inr (fun h => by cases h)), hb.2⟩, rfl⟩
theorem viewS_rep {C : Ctx} {obs : List Ob} {Ω : List Value} {w : World} (hm : Mem C obs Ω w) (hmay : C.may = C.may) : ∀ (n : Nat) {x : SV} {v : Value} {y : D}, viewS n obs x = some y → RepS w (okB C obs Ω w) Ω x v → RepD w (okV C w) y v := by
 have hok : ∀ b, okB C obs Ω w b → okV C w b := fun b h => ⟨h.1, h.2.1⟩
 have hnew : ∀ {p : Nat} {ob : Ob} {h : Value} {b : Nat}, obs[p]? = some ob → ob.live = true → Ω[p]? = some h → blk h = some b → okV C w b := fun {p ob h b} e1 l e2 hb => by
  refine ⟨.inr ?_, (hm.obj p ob h e1 e2).lt l hb⟩
  rcases hm.new p ob h b e1 l e2 hb with h | h
  ·exact .inl h
  ·exact .inr h
 intro n
 induction n with
 | zero => intro x v y h; cases h
 | succ n ih =>
  intro x v y h hr
  cases hr with
  | any => cases h
  | pre => cases h
  | full sz cells a n hd => cases h; exact hd.mono fun b hb => ⟨hok b hb, rfl⟩
  | d x v hd => cases h; exact hd.mono fun b hb => ⟨hok b hb, rfl⟩
  | ptr p off b hb =>
   simp only [viewS] at h
   split at h
   ·rename_i ty cells hp
    obtain ⟨ys, hy, rfl⟩ := Option.map_eq_some_iff.1 h
    obtain ⟨hl, hi⟩ := mapO_get hy
    obtain ⟨b', vs, he, hw, hvl, hrr, h1⟩ := hm.obj p _ _ hp hb
    cases he
    refine .pt b off ys (fun i => (vs.drop off).getD i undef) (hnew hp rfl hb rfl) (fun i hi' => ?_) (fun i z hz => ?_)
    ·have hlt : off + i < vs.length := by simp at hl; omega
     rw [cell_of_row w b (off + i) _ ty (0, 0) hw]; simp [hlt]
    ·have hlt := (List.getElem?_eq_some_iff.1 hz).1
     have hlt2 : off + i < cells.length := by simp at hl; omega
     have hc : (cells.drop off)[i]? = some cells[off + i] := by rw [List.getElem?_drop]; exact List.getElem?_eq_getElem hlt2
     have hv : vs[off + i]? = some vs[off + i] := List.getElem?_eq_getElem (by omega)
     have e : (vs.drop off).getD i undef = vs[off + i] := by simp [hv]
     rw [e]
     exact ih (hi i _ _ hc hz) (hrr (off + i) _ _ (List.getElem?_eq_getElem hlt2) hv)
   ·cases h
  | ptrG p off b len cap hb =>
   simp only [viewS] at h
   split at h
   ·rename_i ty cells hp
    obtain ⟨b', vs, he, _⟩ := hm.obj p _ _ hp hb
    cases he
   ·cases h
  | sl p sz off len cap b hb =>
   simp only [viewS] at h
   split at h
   ·rename_i ty cells hp
    split at h
    ·rename_i hle
     obtain ⟨ys, hy, rfl⟩ := Option.map_eq_some_iff.1 h
     obtain ⟨hl, hi⟩ := mapO_get hy
     obtain ⟨b', vs, he, hw, hvl, hrr, h1⟩ := hm.obj p _ _ hp hb
     cases he
     have hyl : ys.length = len * sz := by rw [hl]; simp; omega
     refine .ds sz b off len cap ys (fun i => (vs.drop off).getD i undef) hyl hle.2 (hnew hp rfl hb rfl) (fun i hi' => ?_) (fun i z hz => ?_)
     ·have hlt : off + i < vs.length := by omega
      rw [cell_of_row w b (off + i) _ ty (0, 0) hw]; simp [hlt]
     ·have hlt := (List.getElem?_eq_some_iff.1 hz).1
      have hlt2 : off + i < cells.length := by omega
      have hc : ((cells.drop off).take (len * sz))[i]? = some cells[off + i] := by rw [List.getElem?_take, if_pos (by omega), List.getElem?_drop]; exact List.getElem?_eq_getElem hlt2
      have hv : vs[off + i]? = some vs[off + i] := List.getElem?_eq_getElem (by omega)
      have e : (vs.drop off).getD i undef = vs[off + i] := by simp [hv]
      rw [e]
      exact ih (hi i _ _ hc hz) (hrr (off + i) _ _ (List.getElem?_eq_getElem hlt2) hv)
    ·cases h
   ·cases h
  | own p v hb hb1 =>
   simp only [viewS] at h
   split at h
   ·rename_i ty sz cells hp
    cases h
    obtain ⟨m, xs, how, hxl, hrr⟩ := hm.obj p _ _ hp hb
    rcases how.2 with ⟨rfl, h0⟩ | ⟨g, cap, cur, rfl, hbg, hg, hnc, hcm, hcs, htake⟩
    ·have : cells = [] := by
      have h2 := how.1; subst h0; rw [Nat.zero_mul] at h2
      exact List.eq_nil_of_length_eq_zero (by omega)
     subst this
     exact .nil sz none 0
    ·refine .ds sz g 0 m cap cells (fun i => xs.getD i undef) (by rw [← hxl, how.1]) hnc (hnew hp rfl hb rfl) (fun i hi => ?_) (fun i z hz => ?_)
     ·have hlt : i < xs.length := by omega
      have hx : xs[i]? = some xs[i] := List.getElem?_eq_getElem hlt
      have := how.cells (g := g) rfl i _ hx
      rw [Addr.add_of] at this
      rw [this]; simp [hx]
     ·have hlt := (List.getElem?_eq_some_iff.1 hz).1
      have hx : xs[i]? = some xs[i] := List.getElem?_eq_getElem (by omega)
      have e : xs.getD i undef = xs[i] := by simp [hx]
      rw [e]
      exact (hrr i _ _ hz hx).mono fun b hb => ⟨hok b hb, rfl⟩
   ·cases h
  | ep b off i cells vals hb hc hrr =>
   cases h
   refine .pt b (off + i) _ (fun j => vals (i + j)) (hok b hb) (fun j hj => ?_) (fun j z hz => ?_)
   ·rw [Nat.add_assoc]; exact hc (i + j) (by simp at hj; omega)
   ·rw [List.getElem?_drop] at hz; exact (hrr _ _ hz).mono fun b hb => ⟨hok b hb, rfl⟩
  | ag cells vs hl hrr =>
   simp only [viewS] at h
   obtain ⟨ys, hy, rfl⟩ := Option.map_eq_some_iff.1 h
   obtain ⟨hl2, hi⟩ := mapO_get hy
   refine .ag ys vs (by omega) fun i p q hp hq => ?_
   have hlt := (List.getElem?_eq_some_iff.1 hp).1
   have hc : cells[i]? = some cells[i] := List.getElem?_eq_getElem (by omega)
   exact ih (hi i _ _ hc hp) (hrr i _ _ hc hq)
  | tu cells vs hl hrr =>
   simp only [viewS] at h
   obtain ⟨ys, hy, rfl⟩ := Option.map_eq_some_iff.1 h
   obtain ⟨hl2, hi⟩ := mapO_get hy
   refine .tu ys vs (by omega) fun i p q hp hq => ?_
   have hlt := (List.getElem?_eq_some_iff.1 hp).1
   have hc : cells[i]? = some cells[i] := List.getElem?_eq_getElem (by omega)
   exact ih (hi i _ _ hc hp) (hrr i _ _ hc hq)
  | ifc t x u hx =>
   simp only [viewS] at h
   obtain ⟨z, hz, rfl⟩ := Option.map_eq_some_iff.1 h
   exact .ifc t z u (ih hz hx)
  | fv fn first caps fs cs hf hc h1 h2 =>
   cases fn <;> first | (cases h; done) | skip
   cases first with
   | cons _ _ => cases h
   | nil =>
    have hfs : fs = [] := List.length_eq_zero_iff.1 (by simpa using hf)
    subst hfs
    simp only [viewS] at h
    obtain ⟨ys, hy, rfl⟩ := Option.map_eq_some_iff.1 h
    obtain ⟨hl2, hi⟩ := mapO_get hy
    refine .clo _ ys cs (by omega) fun i p q hp hq => ?_
    have hlt := (List.getElem?_eq_some_iff.1 hp).1
    have hc : caps[i]? = some caps[i] := List.getElem?_eq_getElem (by omega)
    exact ih (hi i _ _ hc hp) (h2 i _ _ hc hq)

/-- The call goes into the function's body. -/
def enters (P : Program) (f : FuncId) : Bool :=
 match P.funcs[f]? with
 | some fn => !(fn.name == "runtime.NumGoroutine") && fn.body.isSome
 | none => false
theorem run_enters {P : Program} {f : FuncId} (h : enters P f = true) (args : Array Value) (w : World) : (callFunc f args).run P w = .ok (.enter f args) w := by
 unfold enters at h
 split at h
 ·rename_i fn hf
  rw [Bool.and_eq_true] at h
  have h1 : (fn.name == "runtime.NumGoroutine") = false := by simpa using h.1
  have h2 : fn.body.isNone = false := by cases hb : fn.body with | none => rw [hb] at h; cases h.2 | some c => rfl
  simp only [callFunc, Sem.run_bind, run_program, Result.andThen_ok, hf, h1, h2, Bool.false_eq_true, if_false, Sem.run_pure]
 ·cases h

/-- Function f, called with data args, gives some r with R r; nothing that was there has turned; r leads to what args lead to, or to what is new. -/
def FnD (P : Program) (f : FuncId) (args : List D) (R : D → Prop) : Prop :=
 enters P f = true ∧ ∀ (W : World) (ok : Nat → Prop) (vs : List Value), HoldsG W → (∀ b, ok b → b < W.heap.size) → vs.length = args.length →
  (∀ (i : Nat) x v, args[i]? = some x → vs[i]? = some v → RepD W ok x v) →
  Calls P f vs.toArray W fun e w' => ∃ v r, e = .returned v ∧ R r ∧ RowKit.Below W.heap.size W w' ∧ RepD w' (fun b => (ok b ∨ W.heap.size ≤ b) ∧ b < w'.heap.size) r v

theorem FnD.mono {P : Program} {f : FuncId} {args : List D} {R R' : D → Prop} (h : FnD P f args R) (hr : ∀ r, R r → R' r) : FnD P f args R' :=
 ⟨h.1, fun W ok vs h0 h1 h2 h3 => (h.2 W ok vs h0 h1 h2 h3).mono fun e w' ⟨v, r, he, hR, hb, hd⟩ => ⟨v, r, he, hr r hR, hb, hd⟩⟩

theorem Mem.below {C : Ctx} {obs : List Ob} {Ω : List Value} {w w' : World} (h : Mem C obs Ω w) (hb : RowKit.Below w.heap.size w w') :
  Mem C obs Ω w' ∧ ∀ b, okB C obs Ω w b → okB C obs Ω w' b ∧ w'.heap[b]? = w.heap[b]? := by
 have hok : ∀ b, okB C obs Ω w b → okB C obs Ω w' b ∧ w'.heap[b]? = w.heap[b]? := fun b hk => ⟨⟨hk.1, Nat.lt_of_lt_of_le hk.2.1 hb.size, hk.2.2⟩, hb.block b hk.2.1⟩
 refine ⟨⟨h.len, fun o ob k e1 e2 => ?_, h.sep, h.new, ⟨hb.os.trans h.fr.os, hb.tape.trans h.fr.tape, hb.output.trans h.fr.output, Nat.le_trans h.fr.size hb.size, fun b e1 e2 => ?_, h.fr.glob, h.fr.gmay⟩⟩, hok⟩
 ·exact (h.obj o ob k e1 e2).mono hok (fun _ _ e => e) fun b hbk hl => hb.block b ((h.obj o ob k e1 e2).lt hl hbk)
 ·rw [hb.block b (Nat.lt_of_lt_of_le e1 h.fr.size)]; exact h.fr.block b e1 e2

/-- The package variables still hold it. -/
theorem Fr.holds {C : Ctx} {w : World} (h : Fr C w) (hm : C.may = C.may) : HoldsG w := ⟨fun p hp => by
 obtain ⟨h1, h2⟩ := h.glob.1 p hp
 exact ⟨Nat.lt_of_lt_of_le h1 h.size, by rw [← h2]; exact cell_heap (h.block _ h1 (fun hb => h.gmay _ hb (.inl ⟨p, hp, rfl⟩)))⟩, fun p hp => by
 obtain ⟨h1, t, u, h2⟩ := h.glob.2.1 p hp
 exact ⟨Nat.lt_of_lt_of_le h1 h.size, t, u, by rw [← h2]; exact cell_heap (h.block _ h1 (fun hb => h.gmay _ hb (.inr (.inl hp))))⟩, fun p hp => by
 obtain ⟨h1, t, a, h2, h3⟩ := h.glob.2.2.1 p hp
 exact ⟨Nat.lt_of_lt_of_le h1 h.size, t, a, by rw [← h2]; exact cell_heap (h.block _ h1 (fun hb => h.gmay _ hb (.inr (.inr (.inl hp))))), h3⟩, fun p hp => by
 obtain ⟨h1, x, h2⟩ := h.glob.2.2.2 p hp
 exact ⟨Nat.lt_of_lt_of_le h1 h.size, x, by rw [← h2]; exact cell_heap (h.block _ h1 (fun hb => h.gmay _ hb (.inr (.inr (.inr hp)))))⟩⟩
theorem Rel.below {C : Ctx} {s : St} {Ω : List Value} {a : Act} {w w' : World} (h : Rel C s Ω a w) (hb : RowKit.Below w.heap.size w w') : Rel C s Ω a w' :=
 ⟨h.defers, h.size, fun t x hx => let ⟨v, hv, hr⟩ := h.env t x hx; ⟨v, hv, hr.mono (h.mem.below hb).2 (fun _ _ e => e)⟩, (h.mem.below hb).1⟩

theorem RepD.valv {w : World} {ok : Nat → Prop} {x u : Value} (h : RepD w ok (.v x) u) : u = x := by cases h; rfl
/-- What leads to no object of the call's own. -/
def dataS : Nat → SV → Option D
 | 0, _ => none
 | n + 1, x => match x with
  | .d y => some y
  | .ep cells i => some (.pt (cells.drop i))
  | .ag l => (mapO (dataS n) l).map .ag
  | .tu l => (mapO (dataS n) l).map .tu
  | .ifc t x => (dataS n x).map (.ifc t)
  | .fv (.func f) [] l => (mapO (dataS n) l).map (.clo f)
  | _ => none
theorem dataS_rep {w : World} {ok : Nat → Prop} {Ω : List Value} : ∀ (n : Nat) {x : SV} {v : Value} {y : D}, dataS n x = some y → RepS w ok Ω x v → RepD w ok y v := by
 intro n
 induction n with
 | zero => intro x v y h; cases h
 | succ n ih =>
  intro x v y h hr
  cases hr with
  | d x v hd => cases h; exact hd
  | ep b off i cells vals hb hc hrr =>
   cases h
   refine .pt b (off + i) _ (fun j => vals (i + j)) hb (fun j hj => ?_) (fun j z hz => ?_)
   ·rw [Nat.add_assoc]; exact hc (i + j) (by simp at hj; omega)
   ·rw [List.getElem?_drop] at hz; exact hrr _ _ hz
  | ag cells vs hl hrr =>
   simp only [dataS] at h
   obtain ⟨ys, hy, rfl⟩ := Option.map_eq_some_iff.1 h
   obtain ⟨hl2, hi⟩ := mapO_get hy
   refine .ag ys vs (by omega) fun i p q hp hq => ?_
   have hlt := (List.getElem?_eq_some_iff.1 hp).1
   have hc : cells[i]? = some cells[i] := List.getElem?_eq_getElem (by omega)
   exact ih (hi i _ _ hc hp) (hrr i _ _ hc hq)
  | tu cells vs hl hrr =>
   simp only [dataS] at h
   obtain ⟨ys, hy, rfl⟩ := Option.map_eq_some_iff.1 h
   obtain ⟨hl2, hi⟩ := mapO_get hy
   refine .tu ys vs (by omega) fun i p q hp hq => ?_
   have hlt := (List.getElem?_eq_some_iff.1 hp).1
   have hc : cells[i]? = some cells[i] := List.getElem?_eq_getElem (by omega)
   exact ih (hi i _ _ hc hp) (hrr i _ _ hc hq)
  | ifc t x u hx =>
   simp only [dataS] at h
   obtain ⟨z, hz, rfl⟩ := Option.map_eq_some_iff.1 h
   exact .ifc t z u (ih hz hx)
  | fv fn first caps fs cs hf hc h1 h2 =>
   cases fn <;> first | (cases h; done) | skip
   cases first with
   | cons _ _ => cases h
   | nil =>
    have hfs : fs = [] := List.length_eq_zero_iff.1 (by simpa using hf)
    subst hfs
    simp only [dataS] at h
    obtain ⟨ys, hy, rfl⟩ := Option.map_eq_some_iff.1 h
    obtain ⟨hl2, hi⟩ := mapO_get hy
    refine .clo _ ys cs (by omega) fun i p q hp hq => ?_
    have hlt := (List.getElem?_eq_some_iff.1 hp).1
    have hc : caps[i]? = some caps[i] := List.getElem?_eq_getElem (by omega)
    exact ih (hi i _ _ hc hp) (h2 i _ _ hc hq)
  | _ => cases h
def argD (s : St) (x : Operand) : Option D := match opS s x with
 | some y => dataS 9 y
 | none => none
def argV (s : St) (x : Operand) : Option D := match opS s x with
 | some y => viewS 9 s.obs y
 | none => none

/-- Numbers and the like: no memory behind it. -/
def D.flat : D → Bool
 | .v _ => true
 | .ag l => l.all fun | .v _ => true | _ => false
 | .tu l => l.all fun | .v _ => true | _ => false
 | _ => false
theorem RepD.flat {w w' : World} {ok ok' : Nat → Prop} {x : D} {v : Value} (h : RepD w ok x v) (hf : x.flat = true) : RepD w' ok' x v := by
 have aux : ∀ {y : D} {u : Value}, (match y with | .v _ => true | _ => false) = true → RepD w ok y u → RepD w' ok' y u := fun {y u} hy hr => by
  cases hr with
  | v => exact .v _
  | _ => cases hy
 cases h with
 | v => exact .v _
 | ag cells vs hl hr => exact .ag cells vs hl fun i x y hx hy => aux (List.all_eq_true.1 hf x (List.mem_of_getElem? hx)) (hr i x y hx hy)
 | tu cells vs hl hr => exact .tu cells vs hl fun i x y hx hy => aux (List.all_eq_true.1 hf x (List.mem_of_getElem? hx)) (hr i x y hx hy)
 | _ => cases hf

section
variable {C : Ctx} {Q : Exit → St → Prop} {ops : Array Oper} {rest : List Oper} {o : Oper} {e : List (Nat × SV)} {obs : List Ob} {d : Nat}

theorem run_call {P : Program} {f : FuncId} {xs : Array Operand} {ts : Array TypeId} (he : enters P f = true) (ho : o.op = .call { callee := .value (.func f), args := xs, argTypes := ts }) (a : Act) (w : World) :
  (execOp a.eval o).run P w = .ok (.enter f (xs.map a.eval)) w := by
 simp only [execOp, ho, resolve, Act.eval, Deferred.ofValue, Sem.run_bind, Sem.run_pure, Result.andThen_ok, invoke, Array.empty_append, Array.append_empty, run_enters he]

/-- A call with data. -/
theorem AOp.callD {f : FuncId} {xs : List Operand} {ts : Array TypeId} {ys : List D} {R : D → Prop} (ho : o.op = .call { callee := .value (.func f), args := xs.toArray, argTypes := ts }) (hd : o.dst = some d) (hn : d < C.n) (hm : C.may = C.may)
  (hx : mapO (argD ⟨e, obs⟩) xs = some ys) (hF : FnD C.P f ys R) (h : ∀ r, R r → AO C ops rest ⟨(d, .d r) :: e, obs⟩ Q) : AOp C ops rest o ⟨e, obs⟩ Q := fun Ω a w hr => by
 obtain ⟨hl, hi⟩ := mapO_get hx
 unfold Oper.wp
 rw [run_call hF.1 ho, Oper.upon_enter, List.map_toArray]
 refine (hF.2 w (okB C obs Ω w) (xs.map a.eval) (hr.mem.fr.holds hm) (fun b hb => hb.2.1) (by simp [hl]) fun i y v hy hv => ?_).mono fun ed w' ⟨v, r, he, hR, hb, hrep⟩ => ?_
 ·simp only [List.getElem?_map, Option.map_eq_some_iff] at hv
  obtain ⟨x, hxi, rfl⟩ := hv
  have := hi i x y hxi hy
  unfold argD at this
  split at this
  ·rename_i z hz
   exact dataS_rep 9 this (hr.eval hz)
  ·cases this
 ·subst he
  rw [hd]
  refine h r hR Ω _ w' ((hr.below hb).put hn (.d _ _ (hrep.mono fun b hk => ⟨?_, rfl⟩)))
  rcases hk.1 with hk1 | hk1
  ·exact ((hr.mem.below hb).2 b hk1).1
  ·refine ⟨.inr (.inl (Nat.le_trans hr.mem.fr.size hk1)), hk.2, fun o' ob k e1 l e2 hbk => ?_⟩
   have := (hr.mem.obj o' ob k e1 e2).lt l hbk
   omega

/-- A function without a Go body. -/
theorem AOp.callX {f : FuncId} {xs : List Operand} {ts : Array TypeId} {r : Value} (vals : List Value) (ho : o.op = .call { callee := .value (.func f), args := xs.toArray, argTypes := ts }) (hd : o.dst = some d) (hn : d < C.n)
  (hx : mapO (argD ⟨e, obs⟩) xs = some (vals.map .v)) (hrun : ∀ w, (callFunc f vals.toArray).run C.P w = .ok (.value r) w) (h : AO C ops rest ⟨(d, .d (.v r)) :: e, obs⟩ Q) : AOp C ops rest o ⟨e, obs⟩ Q :=
 AOp.value hd hn (fun Ω a w hr => by
  obtain ⟨hl, hi⟩ := mapO_get hx
  refine ⟨r, ?_, .d _ _ (.v _)⟩
  have : xs.map a.eval = vals := by
   apply List.ext_getElem?
   intro i
   rw [List.getElem?_map]
   rcases Nat.lt_or_ge i xs.length with hlt | hge
   ·have h1 : xs[i]? = some xs[i] := List.getElem?_eq_getElem hlt
    have h2 : vals[i]? = some (vals[i]'(by simp at hl; omega)) := List.getElem?_eq_getElem _
    have := hi i _ (.v (vals[i]'(by simp at hl; omega))) h1 (by rw [List.getElem?_map, h2]; rfl)
    unfold argD at this
    split at this
    ·rename_i z hz
     rw [h1, h2]
     have hd := dataS_rep 9 this (hr.eval hz)
     exact congrArg some hd.valv
    ·cases this
   ·rw [List.getElem?_eq_none hge, List.getElem?_eq_none (by simp at hl; omega)]; rfl
  simp only [execOp, ho, resolve, Act.eval, Deferred.ofValue, Sem.run_bind, Sem.run_pure, Result.andThen_ok, invoke, Array.empty_append, Array.append_empty, List.map_toArray, this, hrun]) h
end
end Go.Vm

/- A function, from its entry to its results, over the view. -/
namespace Go.Vm
set_option linter.unusedVariables false

def enumD : Nat → List D → List (Nat × SV)
 | _, [] => []
 | i, x :: r => (i, .d x) :: enumD (i + 1) r
theorem enumD_get (l : List D) : ∀ (i t : Nat) (x : SV), get (enumD i l) t = some x → ∃ y, x = .d y ∧ i ≤ t ∧ l[t - i]? = some y := by
 induction l with
 | nil => intro i t x h; cases h
 | cons y l ih =>
  intro i t x h
  simp only [enumD, get] at h
  split at h
  ·rename_i e; subst e; cases h; exact ⟨y, rfl, Nat.le_refl _, by simp⟩
  ·rename_i hne
   obtain ⟨z, hz, hle, hl⟩ := ih (i + 1) t x h
   refine ⟨z, hz, by omega, ?_⟩
   have : t - i = (t - (i + 1)) + 1 := by omega
   rw [this]; simpa using hl

/-- What a result variable holds. -/
def resV (P : Program) (s : St) : ResultVar → Option SV
 | .tmp t => get s.env t
 | .cell t ty => match get s.env t with
  | some (.ptr p off) => match s.obs[p]? with
   | some (.fix _ cells) => match aggT P ty with
    | some false => cells[off]?
    | some true => match sizeT P ty with
     | some n => if off + n ≤ cells.length then some (.ag ((cells.drop off).take n)) else none
     | none => none
    | none => none
   | _ => none
  | _ => none
def resD (P : Program) (s : St) (rs : List ResultVar) : Option D :=
 match mapO (fun r => match resV P s r with | some x => viewS 9 s.obs x | none => none) rs with
 | some [y] => some y
 | some ys => some (.tu ys)
 | none => none

def resSem (tmps : Array Value) : ResultVar → Sem Value
 | .tmp t => pure (tmps.getD t undef)
 | .cell a t => do loadVar t (← asAddr (tmps.getD a undef))
theorem results_eq (fn : Func) (tmps : Array Value) : results fn tmps = (do let vs ← fn.results.mapM (resSem tmps); pure (if h : vs.size = 1 then vs[0] else .tuple vs)) := rfl

theorem resV_rep {C : Ctx} {s : St} {Ω : List Value} {a : Act} {w : World} (hr : Rel C s Ω a w) {r : ResultVar} {x : SV} (h : resV C.P s r = some x) :
  ∃ v, (resSem a.tmps r).run C.P w = .ok v w ∧ RepS w (okB C s.obs Ω w) Ω x v := by
 obtain ⟨e, obs⟩ := s
 cases r with
 | tmp t =>
  obtain ⟨v, hv, hrep⟩ := hr.env t x h
  exact ⟨v, by simp [resSem, hv], hrep⟩
 | cell t ty =>
  simp only [resV] at h
  split at h
  ·rename_i p off hp
   obtain ⟨v, hv, hrep⟩ := hr.env t _ hp
   split at h
   ·rename_i ty' cells ho
    obtain ⟨b, vs, hev, hΩ, hw, hl, hrr, h1⟩ := hr.fix ho hrep
    subst hev
    split at h
    ·rename_i ha
     have hlt := (List.getElem?_eq_some_iff.1 h).1
     have hvv : vs[off]? = some vs[off] := List.getElem?_eq_getElem (by omega)
     refine ⟨vs[off], ?_, hrr off _ _ h hvv⟩
     have hcell : w.cell? ⟨b, off, none⟩ = some vs[off] := by rw [cell_of_row w b off _ ty' (0, 0) hw]; simp
     simp [resSem, hv, asAddr, run_load1 ha hcell]
    ·rename_i ha
     split at h
     ·rename_i n hs
      split at h
      ·rename_i hle
       cases h
       refine ⟨.agg ((vs.drop off).take n).toArray, ?_, .ag _ _ (by simp; omega) fun i x y hx hy => ?_⟩
       ·have := run_loadN (P := C.P) (w := w) (b := b) (off := off) (vs := (vs.drop off).take n) ha hs (by simp; omega) (fun j hj => by
         rw [cell_of_row w b (off + j) _ ty' (0, 0) hw, List.getElem?_take, if_pos hj, List.getElem?_drop]; simp)
        simp [resSem, hv, asAddr, this]
       ·rw [List.getElem?_take] at hx hy
        split at hx
        ·rename_i hi
         rw [if_pos hi] at hy
         rw [List.getElem?_drop] at hx hy
         exact hrr _ _ _ hx hy
        ·cases hx
      ·cases h
     ·cases h
    ·cases h
   ·cases h
  ·cases h

theorem results_rep {C : Ctx} {s : St} {Ω : List Value} {a : Act} {w : World} (hm : C.may = C.may) (hr : Rel C s Ω a w) {fn : Func} {y : D} (h : resD C.P s fn.results.toList = some y) :
  ∃ v, (results fn a.tmps).run C.P w = .ok v w ∧ RepD w (okV C w) y v := by
 have key : ∀ (l : List ResultVar) (ys : List D), mapO (fun r => match resV C.P s r with | some x => viewS 9 s.obs x | none => none) l = some ys →
   ∃ vs : List Value, (l.mapM (resSem a.tmps)).run C.P w = .ok vs w ∧ vs.length = ys.length ∧
    ∀ (i : Nat) p q, ys[i]? = some p → vs[i]? = some q → RepD w (okV C w) p q := by
  intro l
  induction l with
  | nil => intro ys h; cases h; exact ⟨[], rfl, rfl, fun i p q hp => by simp at hp⟩
  | cons r l ih =>
   intro ys h
   simp only [mapO] at h
   split at h
   ·rename_i y hy
    split at h
    ·rename_i t ht
     cases h
     obtain ⟨vs, hrun, hl, hrr⟩ := ih t ht
     split at hy
     ·rename_i x hx
      obtain ⟨v, hv, hrep⟩ := resV_rep hr hx
      refine ⟨v :: vs, ?_, by simp [hl], fun i p q hp hq => ?_⟩
      ·simp [List.mapM_cons, hv, hrun]
      ·cases i with
       | zero => simp at hp hq; subst hp; subst hq; exact viewS_rep hr.mem hm 9 hy hrep
       | succ i => simp at hp hq; exact hrr i p q hp hq
     ·cases hy
    ·cases h
   ·cases h
 unfold resD at h
 split at h
 ·rename_i y' hys
  cases h
  obtain ⟨vs, hrun, hl, hrr⟩ := key _ _ hys
  match vs, hl with
  | [v], _ =>
   refine ⟨v, ?_, hrr 0 _ _ rfl rfl⟩
   rw [results_eq]
   rw [← Array.toArray_toList (xs := fn.results), List.mapM_toArray]
   simp [hrun]
 ·rename_i ys hne hys
  cases h
  obtain ⟨vs, hrun, hl, hrr⟩ := key _ _ hys
  refine ⟨.tuple vs.toArray, ?_, .tu ys vs hl hrr⟩
  have h1 : ¬ vs.length = 1 := fun e => by
   rw [hl] at e
   match ys, e with
   | [y], _ => exact hne y rfl
  rw [results_eq]
  rw [← Array.toArray_toList (xs := fn.results), List.mapM_toArray]
  simp [hrun, h1]
 ·cases h

def RetQ (P : Program) (rs : List ResultVar) (R : D → Prop) : Exit → St → Prop
 | .normal, s => ∃ r, resD P s rs = some r ∧ R r
 | .ret, s => ∃ r, resD P s rs = some r ∧ R r
 | _, _ => False

theorem retq {P : Program} {s : St} {rs : List ResultVar} {R : D → Prop} {r : D} (h : resD P s rs = some r) (hR : R r) : RetQ P rs R .ret s := ⟨r, h, hR⟩
theorem FnD.of {P : Program} {f : FuncId} {fn : Func} {c : Code} {args : List D} {R : D → Prop} {n : Nat} {rs : List ResultVar} (he : enters P f = true) (hf : P.funcs[f]? = some fn) (hb : fn.body = some c) (hnt : fn.ntmps = n) (hrs : fn.results = rs.toArray) (hn : args.length ≤ n)
  (h : ∀ (W : World) (ok : Nat → Prop), AC ⟨P, W, ok, [], n, []⟩ c ⟨enumD 0 args, []⟩ (RetQ P rs R)) : FnD P f args R := by
 subst hnt
 have hrl : fn.results.toList = rs := by rw [hrs]
 subst hrl
 refine ⟨he, fun W ok vs hG hok hl hrep => calls_of_wp hf hb ?_⟩
 have hrel : Rel ⟨P, W, ok, [], fn.ntmps, []⟩ ⟨enumD 0 args, []⟩ [] { tmps := vs.toArray ++ Array.replicate (fn.ntmps - vs.toArray.size) undef, defers := [] } W := by
  refine ⟨rfl, by simp; omega, fun t x hx => ?_, ⟨rfl, fun o ob h e1 => by simp at e1, fun i j a b p q x _ e1 => by simp at e1, fun o ob p b e1 => by simp at e1, ⟨rfl, rfl, rfl, Nat.le_refl _, fun _ _ _ => rfl, hG, fun b h => by cases h⟩⟩⟩
  obtain ⟨y, rfl, _, hy⟩ := enumD_get args 0 t x hx
  rw [Nat.sub_zero] at hy
  have hlt := (List.getElem?_eq_some_iff.1 hy).1
  have hv : vs[t]? = some vs[t] := List.getElem?_eq_getElem (by omega)
  refine ⟨vs[t], ?_, .d _ _ ((hrep t _ _ hy hv).mono fun b hb => ⟨⟨.inl hb, hok b hb, fun o ob h e1 => by simp at e1⟩, rfl⟩)⟩
  rw [Array.getElem?_append_left (by simp; omega)]
  simp
 refine wp_mono (h W ok _ _ W hrel) fun ed a w ⟨s, Ω, hr, hq⟩ => ?_
 have fin : (∃ r, resD P s fn.results.toList = some r ∧ R r) → a.defers = [] ∧ ∃ v, (results fn a.tmps).run P w = .ok v w ∧
   ∃ v_1 r, Ending.returned v = Ending.returned v_1 ∧ R r ∧ RowKit.Below W.heap.size W w ∧ RepD w (fun b => (ok b ∨ W.heap.size ≤ b) ∧ b < w.heap.size) r v_1 := by
  intro ⟨r, hres, hR⟩
  obtain ⟨v, hv, hrep⟩ := results_rep rfl hr hres
  exact ⟨hr.defers, v, hv, v, r, rfl, hR, ⟨hr.mem.fr.os, hr.mem.fr.tape, hr.mem.fr.output, hr.mem.fr.size, fun b hb => hr.mem.fr.block b hb (by simp)⟩, hrep.noMay⟩
 cases ed with
 | normal => exact fin hq
 | ret => exact fin hq
 | _ => exact hq.elim
end Go.Vm

/- Struct values, slice literals, appending, over the view. -/
namespace Go.Vm
set_option linter.unusedVariables false

theorem foldl_set (vs : List Value) : ∀ (k off : Nat) (cells : Array Value), off + k + vs.length ≤ cells.size →
  ((vs.zipIdx k).foldl (fun cs (c, j) => cs.setIfInBounds (off + j) c) cells).toList = cells.toList.take (off + k) ++ vs ++ cells.toList.drop (off + k + vs.length) := by
 induction vs with
 | nil => intro k off cells h; simp
 | cons v vs ih =>
  intro k off cells h
  simp only [List.zipIdx_cons, List.foldl_cons]
  rw [ih (k + 1) off _ (by simp at h ⊢; omega)]
  simp only [Array.toList_setIfInBounds]
  have hlt : off + k < cells.toList.length := by simp at h ⊢; omega
  apply List.ext_getElem?
  intro i
  simp only [List.getElem?_append, List.length_append, List.length_take, List.length_set, List.getElem?_take, List.getElem?_set, List.getElem?_drop, List.length_cons]
  have e1 : min (off + (k + 1)) cells.toList.length = off + k + 1 := by omega
  have e2 : min (off + k) cells.toList.length = off + k := by omega
  rw [e1, e2]
  rcases Nat.lt_trichotomy i (off + k) with hi | hi | hi
  ·have c1 : i < off + k + 1 + vs.length := by omega
   have c2 : i < off + k + (vs.length + 1) := by omega
   have c3 : i < off + k + 1 := by omega
   have c4 : i < off + (k + 1) := by omega
   have c5 : ¬ off + k = i := by omega
   simp [c1, c2, c3, c4, c5, hi]
  ·subst hi
   have c1 : off + k < off + k + 1 + vs.length := by omega
   have c2 : off + k < off + k + (vs.length + 1) := by omega
   have c4 : off + k < off + (k + 1) := by omega
   simp [c1, c2, c4]
   simpa using hlt
  ·have c3 : ¬ i < off + k + 1 := by omega
   have c6 : ¬ i < off + k := by omega
   have c5 : ¬ off + k = i := by omega
   by_cases c1 : i < off + k + 1 + vs.length
   ·have c2 : i < off + k + (vs.length + 1) := by omega
    simp only [c1, c2, c3, c6, if_true, if_false]
    have : i - (off + k) = (i - (off + k + 1)) + 1 := by omega
    rw [this, List.getElem?_cons_succ]
   ·have c2 : ¬ i < off + k + (vs.length + 1) := by omega
    simp only [c1, c2, c3, c6, if_false]
    have c7 : ¬ off + k = off + (k + 1) + vs.length + (i - (off + k + 1 + vs.length)) := by omega
    rw [if_neg c7]
    congr 1
    omega

/-- The cells of a struct or array, its parts laid in. -/
def fillS (place : Nat → Option (Nat × Nat)) : List SV → List (Nat × SV) → Option (List SV)
 | cells, [] => some cells
 | cells, (i, x) :: r => match place i with
  | none => none
  | some (off, size) => if (cellsS x).length = size ∧ off + size ≤ cells.length ∧ (cellsS x).all SV.plain = true then fillS place (cells.take off ++ cellsS x ++ cells.drop (off + size)) r else none

theorem fillS_rep {w : World} {ok : Nat → Prop} {Ω : List Value} {place : Nat → Option (Nat × Nat)} : ∀ (parts : List (Nat × SV)) (us : List (Nat × Value)) (cells r : List SV) (vs : Array Value),
  fillS place cells parts = some r → us.length = parts.length → (∀ (i : Nat) p q, parts[i]? = some p → us[i]? = some q → q.1 = p.1 ∧ RepS w ok Ω p.2 q.2) →
  vs.size = cells.length → (∀ (i : Nat) p q, cells[i]? = some p → vs.toList[i]? = some q → RepS w ok Ω p q) → (∀ y, y ∈ vs.toList → y.oneCell' = true) →
  ∃ vs' : Array Value, Instr.fill place vs us = some vs' ∧ vs'.size = r.length ∧ (∀ (i : Nat) p q, r[i]? = some p → vs'.toList[i]? = some q → RepS w ok Ω p q) ∧ ∀ y, y ∈ vs'.toList → y.oneCell' = true := by
 intro parts
 induction parts with
 | nil =>
  intro us cells r vs h hl hp hs hr h1
  cases us with
  | nil => cases h; exact ⟨vs, rfl, hs, hr, h1⟩
  | cons => cases hl
 | cons p parts ih =>
  intro us cells r vs h hl hp hs hr h1
  obtain ⟨i, x⟩ := p
  cases us with
  | nil => cases hl
  | cons q us =>
   obtain ⟨i', v⟩ := q
   have h0 := hp 0 _ _ rfl rfl
   dsimp only at h0
   obtain ⟨rfl, hrep⟩ := h0
   simp only [fillS] at h
   split at h
   ·cases h
   ·rename_i off size hpl
    split at h
    ·rename_i hc
     obtain ⟨hsz, hle, hpl1⟩ := hc
     obtain ⟨ws, hwc, hwl, hwr, hw1⟩ := hrep.cells hpl1
     have hvs : v.cells.size = size := by rw [hwc]; simp; omega
     have hfold := foldl_set ws 0 off vs (by omega)
     simp only [Nat.add_zero] at hfold
     have hfill : Instr.fill place vs ((i', v) :: us) = Instr.fill place (vs.toList.take off ++ ws ++ vs.toList.drop (off + ws.length)).toArray us := by
      simp only [Instr.fill, hpl, hvs, ne_eq, not_true_eq_false]
      rw [if_neg (by simp; omega)]
      congr 1
      rw [← hfold, hwc]
      simp
     rw [hfill]
     refine ih us _ r _ h (by simpa using hl) (fun j p q hp' hq' => hp (j + 1) p q (by simpa using hp') (by simpa using hq')) (by simp; omega) (fun j p q hp' hq' => ?_) (fun y hy => ?_)
     ·have la : (cells.take off).length = off := by simp; omega
      have lb : (vs.toList.take off).length = off := by simp; omega
      simp only [] at hq'
      rw [List.append_assoc, List.getElem?_append] at hp' hq'
      rw [la] at hp'
      rw [lb] at hq'
      split at hp'
      ·rename_i hj
       rw [if_pos hj] at hq'
       rw [List.getElem?_take, if_pos hj] at hp' hq'
       exact hr j p q hp' hq'
      ·rename_i hj
       rw [if_neg hj] at hq'
       rw [List.getElem?_append] at hp' hq'
       split at hp'
       ·rename_i hk
        rw [if_pos (by omega)] at hq'
        exact hwr _ p q hp' hq'
       ·rename_i hk
        rw [if_neg (by omega)] at hq'
        rw [List.getElem?_drop] at hp' hq'
        rw [hwl, hsz] at hq'
        rw [hsz] at hp'
        exact hr _ p q hp' hq'
     ·simp only [] at hy
      rcases List.mem_append.1 hy with hy | hy
      ·rcases List.mem_append.1 hy with hy | hy
       ·exact h1 y (List.mem_of_mem_take hy)
       ·exact hw1 y hy
      ·exact h1 y (List.mem_of_mem_drop hy)
    ·cases h

/-- Where the parts of a struct or array lie. -/
def placesT (P : Program) (t : TypeId) : Option (Nat → Option (Nat × Nat)) :=
 match P.underlying t with
 | some (.struct fields) => match mapO (fun f => (sizeT P f.type).map fun n => (f.offset, n)) fields.toList with
  | some ps => some fun i => ps[i]?
  | none => none
 | some (.array _ el) => (sizeT P el).map fun n => fun i => some (i * n, n)
 | _ => none

def placeSem (f : Field) : Sem (Nat × Nat) := do pure (f.offset, ← sizeOf f.type)
theorem run_places {P : Program} : ∀ (fs : List Field) {ps : List (Nat × Nat)}, mapO (fun f => (sizeT P f.type).map fun n => (f.offset, n)) fs = some ps → ∀ w, (fs.mapM placeSem).run P w = .ok ps w := by
 intro fs
 induction fs with
 | nil => intro ps h w; cases h; rfl
 | cons f fs ih =>
  intro ps h w
  simp only [mapO] at h
  split at h
  ·rename_i y hy
   split at h
   ·rename_i t ht
    cases h
    obtain ⟨n, hn, rfl⟩ := Option.map_eq_some_iff.1 hy
    have h1 : (placeSem f).run P w = .ok (f.offset, n) w := by simp [placeSem, run_sizeOf hn]
    simp [List.mapM_cons, h1, ih ht w]
   ·cases h
  ·cases h

def partS (s : St) (p : Nat × Operand) : Option (Nat × SV) := (opS s p.2).map fun x => (p.1, x)

section
variable {C : Ctx} {Q : Exit → St → Prop} {ops : Array Oper} {rest : List Oper} {o : Oper} {e : List (Nat × SV)} {obs : List Ob} {d : Nat}

theorem Rel.parts {Ω : List Value} {a : Act} {w : World} (hr : Rel C ⟨e, obs⟩ Ω a w) {parts : List (Nat × Operand)} {ps : List (Nat × SV)} (h : mapO (partS ⟨e, obs⟩) parts = some ps) :
  (parts.map fun (i, x) => (i, a.eval x)).length = ps.length ∧ ∀ (i : Nat) p q, ps[i]? = some p → (parts.map fun (i, x) => (i, a.eval x))[i]? = some q → q.1 = p.1 ∧ RepS w (okB C obs Ω w) Ω p.2 q.2 := by
 obtain ⟨hl, hi⟩ := mapO_get h
 refine ⟨by simp [hl], fun i p q hp hq => ?_⟩
 simp only [List.getElem?_map, Option.map_eq_some_iff] at hq
 obtain ⟨x, hx, rfl⟩ := hq
 have := hi i x p hx hp
 obtain ⟨z, hz, rfl⟩ := Option.map_eq_some_iff.1 this
 exact ⟨rfl, hr.eval hz⟩

theorem AOp.build {t : TypeId} {parts : List (Nat × Operand)} {ps : List (Nat × SV)} {z : Value} {pl : Nat → Option (Nat × Nat)} {r : List SV} (ho : o.op = .build t parts.toArray) (hd : o.dst = some d) (hn : d < C.n)
  (hz : (C.P.info? t).map (·.zero) = some (some z)) (h1 : z.cells.toList.all (·.oneCell') = true) (hpl : placesT C.P t = some pl) (hx : mapO (partS ⟨e, obs⟩) parts = some ps) (hf : fillS pl (zcells z) ps = some r)
  (h : AO C ops rest ⟨(d, .ag r) :: e, obs⟩ Q) : AOp C ops rest o ⟨e, obs⟩ Q :=
 AOp.value hd hn (fun Ω a w hr => by
  obtain ⟨hl, hp⟩ := hr.parts hx
  obtain ⟨vs, hfill, hvl, hvr, hv1⟩ := fillS_rep ps _ (zcells z) r z.cells hf hl hp (by simp [zcells]) (fun i p q hp hq => by
   simp only [zcells, List.getElem?_map, Option.map_eq_some_iff] at hp
   obtain ⟨u, hu, rfl⟩ := hp
   rw [hu] at hq; cases hq
   exact .d _ _ (.v _)) (fun y hy => List.all_eq_true.1 h1 y hy)
  refine ⟨.agg vs, ?_, by have := RepS.ag (w := w) (ok := okB C obs Ω w) (Ω := Ω) r vs.toList (by simpa using hvl) hvr; simpa using this⟩
  unfold placesT at hpl
  split at hpl
  ·rename_i fields hu
   split at hpl
   ·rename_i pp hpp
    cases hpl
    have hm := run_places fields.toList hpp w
    have e1 : fields = fields.toList.toArray := by simp
    simp only [execOp, ho, Instr.build, Sem.run_bind, run_zero hz, Result.andThen_ok, run_underlying hu, List.map_toArray]
    have e2 : (fields.mapM (fun f => do pure (f.offset, ← sizeOf f.type) : Field → Sem (Nat × Nat))) = fields.mapM placeSem := rfl
    rw [e2, e1, List.mapM_toArray]
    simp [hm, hfill]
   ·cases hpl
  ·rename_i m el hu
   obtain ⟨n, hn2, rfl⟩ := Option.map_eq_some_iff.1 hpl
   simp only [execOp, ho, Instr.build, Sem.run_bind, run_zero hz, Result.andThen_ok, run_underlying hu, List.map_toArray, run_sizeOf hn2]
   simp [hfill]
  ·cases hpl) h

theorem AOp.buildSlice {t el sz len : Nat} {parts : List (Nat × Operand)} {ps : List (Nat × SV)} {z : Value} {r : List SV} (ho : o.op = .buildSlice t len parts.toArray) (hd : o.dst = some d) (hn : d < C.n)
  (ht : elemT C.P t = some (el, sz)) (hz : (C.P.info? el).map (·.zero) = some (some z)) (h1 : z.cells.toList.all (·.oneCell') = true) (hb : len * sz ≤ 16777216) (hzs : z.cells.size = sz)
  (hx : mapO (partS ⟨e, obs⟩) parts = some ps) (hf : fillS (fun i => some (i * sz, sz)) ((List.range (len * sz)).map fun i => .d (.v (z.cells.toList.getD (i % sz) undef))) ps = some r)
  (h : AO C ops rest ⟨(d, .sl obs.length sz 0 len len) :: e, obs ++ [.fix el r]⟩ Q) : AOp C ops rest o ⟨e, obs⟩ Q := by
 refine AOp.step hd hn (fun Ω a w hr => ?_) h
 obtain ⟨hu, hs⟩ := elemT_spec ht
 obtain ⟨hl, hp⟩ := hr.parts hx
 have hzlt : ∀ (i : Nat), i < len * sz → i % sz < z.cells.size := fun i hi => by
  rw [hzs]
  exact Nat.mod_lt _ (Nat.pos_of_ne_zero fun h0 => by subst h0; simp at hi)
 have hget : ∀ (i : Nat), i < len * sz → z.cells[i % z.cells.size]! = z.cells.toList.getD (i % sz) undef ∧ z.cells[i % z.cells.size]! ∈ z.cells.toList := fun i hi => by
  have hlt := hzlt i hi
  have hlt2 : i % z.cells.size < z.cells.size := by rw [hzs] at hlt ⊢; exact hlt
  rw [getElem!_pos z.cells _ hlt2]
  refine ⟨?_, by simp⟩
  have : z.cells.toList[i % sz]? = some z.cells[i % z.cells.size] := by simp [hzs]
  rw [List.getD_eq_getElem?_getD, this]; rfl
 obtain ⟨vs, hfill, hvl, hvr, hv1⟩ := fillS_rep ps _ _ r ((Array.range (len * sz)).map fun i => z.cells[i % z.cells.size]!) hf hl hp (by simp) (fun i p q hp hq => by
  have hi : i < len * sz := by have := (List.getElem?_eq_some_iff.1 hp).1; simpa using this
  have e1 : ((List.range (len * sz)).map fun i => (SV.d (.v (z.cells.toList.getD (i % sz) undef))))[i]? = some (.d (.v (z.cells.toList.getD (i % sz) undef))) := by simp [hi]
  rw [e1] at hp; cases hp
  have e2 : ((Array.range (len * sz)).map fun i => z.cells[i % z.cells.size]!).toList[i]? = some (z.cells[i % z.cells.size]!) := by simp [hi]
  rw [e2] at hq; cases hq
  rw [(hget i hi).1]
  exact .d _ _ (.v _)) (fun y hy => by
   simp only [Array.toList_map, Array.toList_range, List.mem_map, List.mem_range] at hy
   obtain ⟨i, hi, rfl⟩ := hy
   exact List.all_eq_true.1 h1 _ (hget i hi).2)
 have hal := hr.alloc el r vs.toList (by simpa using hvl) hvr hv1
 refine ⟨.slice (some ⟨w.heap.size, 0, none⟩) len len, _, _, ?_, hal, .sl _ _ _ _ _ _ ?_⟩
 ·simp only [execOp, ho, Instr.buildSlice, Sem.run_bind, run_underlying hu, Result.andThen_ok, run_sizeOf hs, List.map_toArray, Sem.run_ite]
  rw [if_neg (by omega)]
  by_cases h0 : len * sz = 0
  ·simp only [h0, if_true, Sem.run_pure, Result.andThen_ok]
   have e0 : ((Array.range 0).map fun i => (#[] : Array Value)[i % (#[] : Array Value).size]!) = #[] := by simp
   rw [h0] at hfill
   have e1 : ((Array.range 0).map fun i => z.cells[i % z.cells.size]!) = #[] := by simp
   rw [e1] at hfill
   rw [e0, hfill]
   simp [newRow]
  ·simp only [h0, if_false, run_zero hz, Sem.run_pure, Sem.run_bind, Result.andThen_ok, hfill, newRow, run_newObj]
   simp
 ·have := hr.mem.len
  dsimp only at this
  rw [this, List.getElem?_append_right (Nat.le_refl _)]; simp
end
end Go.Vm

/- Floating numbers of 64 bits as rational numbers: what a word stands for, and how sums, products, quotients and roots are rounded. -/
namespace Flt
open Ieee

def sg (s : Bool) (q : Rat) : Rat := if s then -q else q
/-- The value of a finite word. -/
def dval : Datum → Option Rat
 | .number s m e => some (sg s ((m : Rat) * (2 : Rat) ^ e))
 | _ => none
def V (b : Nat) : Option Rat := dval (double.read b)

theorem two_ne : (2 : Rat) ≠ 0 := by decide
theorem zpow_add (a b : Int) : (2 : Rat) ^ (a + b) = 2 ^ a * 2 ^ b := Rat.zpow_add two_ne a b
theorem zpow_nat (n : Nat) : (2 : Rat) ^ ((n : Nat) : Int) = ((2 ^ n : Nat) : Rat) := by
 rw [Rat.zpow_natCast]; exact (Rat.natCast_pow 2 n).symm
theorem zpow_pos (a : Int) : (0 : Rat) < 2 ^ a := Rat.zpow_pos (by decide)

theorem double_sw : double.signWeight = 9223372036854775808 := by decide
theorem double_bn : double.binade = 4503599627370496 := by decide
theorem double_ir : double.infRung = 9218868437227405312 := by decide
theorem double_lp : double.leastPlace = -1074 := by decide
theorem double_fb : double.fractionBits = 52 := by decide

theorem word_div (s : Bool) (r : Nat) (h : r < 9223372036854775808) : (double.word s r / double.signWeight % 2 == 1) = s := by
 unfold Format.word
 rw [double_sw]
 cases s <;> simp <;> omega
theorem word_mod (s : Bool) (r : Nat) (h : r < 9223372036854775808) : double.word s r % double.signWeight = r := by
 unfold Format.word
 rw [double_sw]
 cases s <;> simp <;> omega

/-- What a word with a rung below infinity reads as. -/
theorem read_word (s : Bool) (r : Nat) (h : r < 9218868437227405312) :
  double.read (double.word s r) = if r < 4503599627370496 then .number s r (-1074)
   else .number s (4503599627370496 + r % 4503599627370496) (-1074 + (r / 4503599627370496 - 1 : Nat)) := by
 unfold Format.read
 simp only [word_div s r (by omega), word_mod s r (by omega), double_bn, double_ir, double_lp]
 rw [if_pos h]

theorem pow_one' : (2 : Rat) ^ (1 : Int) = 2 := by decide
theorem two53 (q : Rat) : ((4503599627370496 : Nat) : Rat) * (q * 2) = ((9007199254740992 : Nat) : Rat) * q := by
 have e4 : ((4503599627370496 : Nat) : Rat) = 4503599627370496 := by norm_cast
 have e5 : ((9007199254740992 : Nat) : Rat) = 9007199254740992 := by norm_cast
 rw [e4, e5]; grind

theorem val_rung (s : Bool) (E k : Nat) (hk : k ≤ 9007199254740992) (h : E = 0 ∨ 4503599627370496 ≤ k) (hf : E * 4503599627370496 + k < 9218868437227405312) :
  V (double.word s (E * 4503599627370496 + k)) = some (sg s ((k : Rat) * (2 : Rat) ^ ((E : Int) - 1074))) := by
 unfold V
 rw [read_word s _ hf]
 by_cases h1 : k < 4503599627370496
 ·have hE : E = 0 := by omega
  subst hE
  rw [if_pos (by omega)]
  have e1 : ((0 : Nat) : Int) - 1074 = -1074 := by omega
  have e2 : 0 * 4503599627370496 + k = k := by omega
  rw [e1, e2]; rfl
 ·rw [if_neg (by omega)]
  by_cases h2 : k = 9007199254740992
  ·have e1 : (E * 4503599627370496 + k) % 4503599627370496 = 0 := by omega
   have e2 : (E * 4503599627370496 + k) / 4503599627370496 - 1 = E + 1 := by omega
   have e3 : ((-1074 : Int) + ((E + 1 : Nat) : Int)) = ((E : Int) - 1074) + 1 := by omega
   have e7 : ∀ z : Int, dval (Datum.number s (4503599627370496 + 0) z) = some (sg s (((4503599627370496 : Nat) : Rat) * (2 : Rat) ^ z)) := fun z => rfl
   rw [e1, e2, e3, e7, zpow_add, pow_one', two53, h2]
  ·have e1 : (E * 4503599627370496 + k) % 4503599627370496 = k - 4503599627370496 := by omega
   have e2 : (E * 4503599627370496 + k) / 4503599627370496 - 1 = E := by omega
   have e3 : 4503599627370496 + (k - 4503599627370496) = k := by omega
   have e4 : ((-1074 : Int) + (E : Int)) = (E : Int) - 1074 := by omega
   rw [e1, e2, e3, e4]; rfl

/-- Rounding to the nearest: within half a unit. -/
theorem cut_near (neg : Bool) (n d : Nat) : 2 * (Toward.even.cut neg n d * 2 ^ d) ≤ 2 * n + 2 ^ d ∧ 2 * n ≤ 2 * (Toward.even.cut neg n d * 2 ^ d) + 2 ^ d := by
 unfold Toward.cut
 by_cases hd : d ≤ n.log2 + 2
 ·rw [Nat.min_eq_left hd, Nat.one_shiftLeft]
  have hg : 0 < 2 ^ d := Nat.two_pow_pos d
  have hn := Nat.div_add_mod n (2 ^ d)
  have hr := Nat.mod_lt n hg
  dsimp only
  generalize hp : 2 ^ d * (n / 2 ^ d) = p at *
  rw [Nat.add_mul, Nat.mul_comm (n / 2 ^ d), hp]
  generalize n % 2 ^ d = r at *
  generalize 2 ^ d = g at *
  cases hb : (decide (g < 2 * r) || (g == 2 * r && n / g % 2 == 1))
  ·simp only [Bool.or_eq_false_iff, decide_eq_false_iff_not] at hb
   simp only [Bool.toNat_false]; omega
  ·simp only [Bool.or_eq_true, Bool.and_eq_true, decide_eq_true_eq, beq_iff_eq] at hb
   simp only [Bool.toNat_true]; omega
 ·rw [Nat.min_eq_right (by omega), Nat.one_shiftLeft]
  have h1 : n < 2 ^ (n.log2 + 1) := Nat.lt_log2_self
  have h2 : 2 ^ (n.log2 + 2) = 2 * 2 ^ (n.log2 + 1) := by rw [Nat.pow_succ 2 (n.log2 + 1)]; omega
  have h3 : 2 ^ (n.log2 + 2) ≤ 2 ^ d := Nat.pow_le_pow_right (by omega) (by omega)
  dsimp only
  have e1 : n / 2 ^ (n.log2 + 2) = 0 := Nat.div_eq_of_lt (by omega)
  have e2 : n % 2 ^ (n.log2 + 2) = n := Nat.mod_eq_of_lt (by omega)
  rw [e1, e2]
  have e3 : (decide (2 ^ (n.log2 + 2) < 2 * n) || (2 ^ (n.log2 + 2) == 2 * n && 0 % 2 == 1)) = false := by
   simp; omega
  rw [e3]
  simp only [Bool.toNat_false]; omega

theorem cut_exact (neg : Bool) (n d k : Nat) (h : n = k * 2 ^ d) : Toward.even.cut neg n d = k := by
 have h1 := (cut_near neg n d).1
 have h2 := (cut_near neg n d).2
 have hg : 0 < 2 ^ d := Nat.two_pow_pos d
 generalize Toward.even.cut neg n d = c at *
 subst h
 generalize 2 ^ d = g at *
 rcases Nat.lt_trichotomy c k with h | h | h
 ·have := Nat.mul_le_mul_right g (show c + 1 ≤ k from h)
  rw [Nat.add_mul] at this; omega
 ·exact h
 ·have := Nat.mul_le_mul_right g (show k + 1 ≤ c from h)
  rw [Nat.add_mul] at this; omega

theorem kept_bounds (s : Bool) (mag : Nat) (place last : Int) (hm : mag ≠ 0) (hl : last = max (place + mag.log2 - 52) (-1074)) :
  Toward.even.cut s (mag <<< (place - last).toNat) (last - place).toNat ≤ 9007199254740992 ∧
  (last = -1074 ∨ 4503599627370496 ≤ Toward.even.cut s (mag <<< (place - last).toNat) (last - place).toNat) := by
 have lo := Nat.log2_self_le hm
 have hi : mag < 2 ^ (mag.log2 + 1) := Nat.lt_log2_self
 rw [Nat.shiftLeft_eq]
 by_cases hc : last ≤ place
 ·have hd : (last - place).toNat = 0 := by omega
  rw [hd, cut_exact s _ 0 _ (by rw [Nat.pow_zero, Nat.mul_one])]
  generalize ha : (place - last).toNat = a
  have h1 : mag * 2 ^ a < 2 ^ (mag.log2 + 1) * 2 ^ a := Nat.mul_lt_mul_of_pos_right hi (Nat.two_pow_pos a)
  have h2 : 2 ^ mag.log2 * 2 ^ a ≤ mag * 2 ^ a := Nat.mul_le_mul_right _ lo
  rw [← Nat.pow_add] at h1 h2
  have h3 : 2 ^ (mag.log2 + 1 + a) ≤ 2 ^ 53 := Nat.pow_le_pow_right (by omega) (by omega)
  refine ⟨by omega, ?_⟩
  by_cases hE : last = -1074
  ·exact .inl hE
  ·right
   have h4 : mag.log2 + a = 52 := by omega
   rw [h4] at h2
   omega
 ·have ha : (place - last).toNat = 0 := by omega
  rw [ha, Nat.pow_zero, Nat.mul_one]
  generalize hd : (last - place).toNat = d
  have c := cut_near s mag d
  generalize Toward.even.cut s mag d = k at *
  have hg : 0 < 2 ^ d := Nat.two_pow_pos d
  have h1 : 2 ^ (mag.log2 + 1) ≤ 2 ^ (53 + d) := Nat.pow_le_pow_right (by omega) (by omega)
  rw [Nat.pow_add 2 53 d] at h1
  constructor
  ·apply Nat.le_of_not_lt
   intro hk
   have := Nat.mul_le_mul_right (2 ^ d) (show 9007199254740992 + 1 ≤ k from hk)
   rw [Nat.add_mul] at this
   omega
  ·by_cases hE : last = -1074
   ·exact .inl hE
   ·right
    have h4 : mag.log2 = 52 + d := by omega
    rw [h4, Nat.pow_add] at lo
    apply Nat.le_of_not_lt
    intro hk
    have := Nat.mul_le_mul_right (2 ^ d) (show k + 1 ≤ 4503599627370496 from hk)
    rw [Nat.add_mul] at this
    omega

theorem nat_mul_cast (a b : Nat) : ((a * b : Nat) : Rat) = (a : Rat) * (b : Rat) := Rat.natCast_mul a b

theorem rat_scale {x y c : Rat} (hc : 0 < c) (h : x ≤ y) : x * c ≤ y * c := Rat.mul_le_mul_of_nonneg_right h (Rat.le_of_lt hc)

/-- Rounding to the nearest word. -/
theorem nearest_near (s : Bool) (mag : Nat) (place last : Int) (hm : mag ≠ 0) (hl : last = max (place + mag.log2 - 52) (-1074)) (ho : place + mag.log2 ≤ 1022) :
  ∃ k : Nat, V (double.nearest s mag place) = some (sg s ((k : Rat) * 2 ^ last)) ∧ k ≤ 9007199254740992 ∧
   2 * ((k : Rat) * 2 ^ last) ≤ 2 * ((mag : Rat) * 2 ^ place) + 2 ^ last ∧ 2 * ((mag : Rat) * 2 ^ place) ≤ 2 * ((k : Rat) * 2 ^ last) + 2 ^ last := by
 have kb := kept_bounds s mag place last hm hl
 have c := cut_near s (mag <<< (place - last).toNat) (last - place).toNat
 have hn : double.nearest s mag place = double.word s (min ((last + 1074).toNat * 4503599627370496 + Toward.even.cut s (mag <<< (place - last).toNat) (last - place).toNat) 9218868437227405312) := by
  unfold Format.nearest
  rw [if_neg hm, double_fb, double_lp, double_bn, double_ir]
  have e : max (place + (mag.log2 : Int) - ((52 : Nat) : Int)) (-1074) = last := hl.symm
  rw [e]
  have e2 : last - -1074 = last + 1074 := by omega
  dsimp only
  rw [e2]
 generalize Toward.even.cut s (mag <<< (place - last).toNat) (last - place).toNat = k at *
 have hlast : last ≤ 970 := by omega
 rw [Nat.min_eq_left (by omega)] at hn
 refine ⟨k, ?_, kb.1, ?_⟩
 ·rw [hn, val_rung s _ k kb.1 (by omega) (by omega)]
  have e : (((last + 1074).toNat : Nat) : Int) - 1074 = last := by omega
  rw [e]
 ·rw [Nat.shiftLeft_eq] at c
  have hp := zpow_pos (min place last)
  obtain ⟨c1, c2⟩ := c
  have d1 : (2 : Rat) * ((k : Rat) * ((2 ^ (last - place).toNat : Nat) : Rat)) ≤ 2 * ((mag : Rat) * ((2 ^ (place - last).toNat : Nat) : Rat)) + ((2 ^ (last - place).toNat : Nat) : Rat) := by exact_mod_cast c1
  have d2 : (2 : Rat) * ((mag : Rat) * ((2 ^ (place - last).toNat : Nat) : Rat)) ≤ 2 * ((k : Rat) * ((2 ^ (last - place).toNat : Nat) : Rat)) + ((2 ^ (last - place).toNat : Nat) : Rat) := by exact_mod_cast c2
  rw [← zpow_nat, ← zpow_nat] at d1 d2
  have e1 : (2 : Rat) ^ (((last - place).toNat : Nat) : Int) * 2 ^ (min place last) = 2 ^ last := by rw [← zpow_add]; congr 1; omega
  have e2 : (2 : Rat) ^ (((place - last).toNat : Nat) : Int) * 2 ^ (min place last) = 2 ^ place := by rw [← zpow_add]; congr 1; omega
  have f1 := rat_scale hp d1
  have f2 := rat_scale hp d2
  generalize (2 : Rat) ^ (((last - place).toNat : Nat) : Int) = x at *
  generalize (2 : Rat) ^ (((place - last).toNat : Nat) : Int) = y at *
  generalize (2 : Rat) ^ (min place last) = z at *
  rw [← e1, ← e2]
  constructor <;> grind

def ab (q : Rat) : Rat := if q < 0 then -q else q
theorem ab_sg (s : Bool) {m : Rat} (h : 0 ≤ m) : ab (sg s m) = m := by unfold ab sg; cases s <;> simp <;> grind

/-- r is q, rounded. -/
structure Rnd (r q : Rat) : Prop where
 lo : r - q ≤ ab q * 2 ^ (-53 : Int) + 2 ^ (-1075 : Int)
 hi : q - r ≤ ab q * 2 ^ (-53 : Int) + 2 ^ (-1075 : Int)
 exact : ∀ n E : Int, n.natAbs ≤ 9007199254740992 → -1074 ≤ E → q = (n : Rat) * 2 ^ E → r = q

theorem half (a : Int) : (2 : Rat) ^ a = 2 * 2 ^ (a - 1) := by
 have e : a = 1 + (a - 1) := by omega
 have h : (2 : Rat) ^ a = 2 ^ (1 + (a - 1)) := congrArg (fun z : Int => (2 : Rat) ^ z) e
 rw [h, zpow_add, pow_one']

theorem nat_of_int {n : Int} {E : Int} {s : Bool} {m : Rat} (hm : 0 ≤ m) (h : sg s m = (n : Rat) * 2 ^ E) : m = (n.natAbs : Rat) * 2 ^ E := by
 have hp := zpow_pos E
 have hc : ((n.natAbs : Nat) : Rat) = (n : Rat) ∨ ((n.natAbs : Nat) : Rat) = -(n : Rat) := by
  rcases Int.natAbs_eq n with h | h
  ·left; rw [← Rat.intCast_natCast, ← h]
  ·right
   have : (n : Rat) = ((-(n.natAbs : Int) : Int) : Rat) := congrArg _ h
   rw [this, Rat.intCast_neg, Rat.intCast_natCast]; grind
 have hn : (0 : Rat) ≤ (n.natAbs : Rat) := Rat.natCast_nonneg
 have hq : (0 : Rat) ≤ (n.natAbs : Rat) * 2 ^ E := Rat.mul_nonneg hn (Rat.le_of_lt hp)
 unfold sg at h
 cases s <;> simp at h <;> rcases hc with hc | hc <;> rw [hc] at hq ⊢ <;> grind

theorem nearest_rnd (s : Bool) (mag : Nat) (place : Int) (ho : mag ≠ 0 → place + mag.log2 ≤ 1022) :
  ∃ r, V (double.nearest s mag place) = some r ∧ Rnd r (sg s ((mag : Rat) * 2 ^ place)) := by
 by_cases hm : mag = 0
 ·subst hm
  refine ⟨0, ?_, ?_⟩
  ·have h : double.nearest s 0 place = double.word s (0 * 4503599627370496 + 0) := by unfold Format.nearest; rw [if_pos rfl]
   rw [h, val_rung s 0 0 (by omega) (.inl rfl) (by omega)]
   have e : ((0 : Nat) : Rat) = 0 := rfl
   rw [e, Rat.zero_mul]; cases s <;> rfl
  ·have e : sg s (((0 : Nat) : Rat) * 2 ^ place) = 0 := by
    have e : ((0 : Nat) : Rat) = 0 := rfl
    rw [e, Rat.zero_mul]; cases s <;> rfl
   rw [e]
   have h1 := zpow_pos (-1075)
   have h2 : ab 0 = 0 := by unfold ab; split <;> grind
   exact ⟨by rw [h2]; grind, by rw [h2]; grind, fun _ _ _ _ _ => rfl⟩
 ·obtain ⟨k, hV, hk, n1, n2⟩ := nearest_near s mag place _ hm rfl (ho hm)
  generalize hl : max (place + (mag.log2 : Int) - 52) (-1074) = last at *
  refine ⟨_, hV, ?_⟩
  have hmp : (0 : Rat) ≤ (mag : Rat) * 2 ^ place := Rat.mul_nonneg Rat.natCast_nonneg (Rat.le_of_lt (zpow_pos place))
  -- 2^last is at most m 2^-52 + 2^-1074
  have hlo : (2 : Rat) ^ (place + mag.log2) ≤ (mag : Rat) * 2 ^ place := by
   rw [zpow_add, zpow_nat, Rat.mul_comm]
   exact rat_scale (zpow_pos place) (by exact_mod_cast Nat.log2_self_le hm)
  have hu : (2 : Rat) ^ last ≤ ((mag : Rat) * 2 ^ place) * 2 ^ (-52 : Int) + 2 ^ (-1074 : Int) := by
   have p1 := zpow_pos (-1074)
   have p2 := zpow_pos (-52)
   have p3 := Rat.mul_nonneg hmp (Rat.le_of_lt p2)
   rcases Int.le_total (-1074) (place + mag.log2 - 52) with h | h
   ·have e : last = (place + mag.log2) + (-52) := by omega
    rw [e, zpow_add]
    have := rat_scale p2 hlo
    grind
   ·have e : last = -1074 := by omega
    rw [e]; grind
  have h52 := half (-52)
  have h1074 := half (-1074)
  have e53 : (-52 : Int) - 1 = -53 := by omega
  have e1075 : (-1074 : Int) - 1 = -1075 := by omega
  rw [e53] at h52
  rw [e1075] at h1074
  rw [h52, h1074] at hu
  refine ⟨?_, ?_, ?_⟩
  ·rw [ab_sg s hmp]
   generalize (2 : Rat) ^ (-53 : Int) = a at *
   generalize (2 : Rat) ^ (-1075 : Int) = b at *
   generalize (mag : Rat) * 2 ^ place = m at *
   generalize (k : Rat) * 2 ^ last = t at *
   unfold sg; cases s <;> simp <;> grind
  ·rw [ab_sg s hmp]
   generalize (2 : Rat) ^ (-53 : Int) = a at *
   generalize (2 : Rat) ^ (-1075 : Int) = b at *
   generalize (mag : Rat) * 2 ^ place = m at *
   generalize (k : Rat) * 2 ^ last = t at *
   unfold sg; cases s <;> simp <;> grind
  ·intro n E hn hE hq
   congr 1
   have hmn := nat_of_int hmp hq
   -- m = j * 2^last for a whole j
   have main : ∀ (j : Nat) (F : Int), j < 9007199254740992 → -1074 ≤ F → (mag : Rat) * 2 ^ place = (j : Rat) * 2 ^ F → (k : Rat) * 2 ^ last = (mag : Rat) * 2 ^ place := by
    intro j F hj hF hjF
    have hle : last ≤ F := by
     apply Int.not_lt.1
     intro hlt
     have e : place + (mag.log2 : Int) = last + 52 := by omega
     rw [e, hjF] at hlo
     have e2 : last + 52 = (last - F - 1).toNat + (53 + F) := by omega
     rw [e2, zpow_add, zpow_add, zpow_nat] at hlo
     have h1 : (1 : Rat) ≤ ((2 ^ (last - F - 1).toNat : Nat) : Rat) := by exact_mod_cast Nat.one_le_two_pow
     have h2 := zpow_pos F
     have h3 : (2 : Rat) ^ (53 : Int) = 9007199254740992 := by decide
     rw [h3] at hlo
     have h4 : ((j : Nat) : Rat) + 1 ≤ 9007199254740992 := by exact_mod_cast hj
     have h5 := rat_scale h2 h4
     have h6 : (0 : Rat) < 9007199254740992 * 2 ^ F := Rat.mul_pos (by decide) h2
     have h7 := rat_scale h6 h1
     generalize ((2 ^ (last - F - 1).toNat : Nat) : Rat) = a at *
     generalize (2 : Rat) ^ F = b at *
     grind
    have e2 : F = (F - last).toNat + last := by omega
    rw [e2, zpow_add, zpow_nat] at hjF
    rw [hjF] at n1 n2 ⊢
    have hp := zpow_pos last
    have hz : k = j * 2 ^ (F - last).toNat := by
     have g1 : ((2 : Rat) * k) * 2 ^ last ≤ (2 * ((j * 2 ^ (F - last).toNat : Nat) : Rat) + 1) * 2 ^ last := by
      rw [nat_mul_cast]; grind
     have g2 : (2 * ((j * 2 ^ (F - last).toNat : Nat) : Rat)) * 2 ^ last ≤ ((2 : Rat) * k + 1) * 2 ^ last := by
      rw [nat_mul_cast]; grind
     have g1' := Rat.le_of_mul_le_mul_right g1 hp
     have g2' := Rat.le_of_mul_le_mul_right g2 hp
     have i1 : 2 * k ≤ 2 * (j * 2 ^ (F - last).toNat) + 1 := by exact_mod_cast g1'
     have i2 : 2 * (j * 2 ^ (F - last).toNat) ≤ 2 * k + 1 := by exact_mod_cast g2'
     omega
    rw [hz, nat_mul_cast, Rat.mul_assoc]
   by_cases hc : n.natAbs = 9007199254740992
   ·refine main 4503599627370496 (E + 1) (by omega) (by omega) ?_
    rw [hmn, hc, zpow_add, pow_one', two53]
   ·exact main _ E (by omega) hE hmn

theorem zpow_le {a b : Int} (h : a ≤ b) : (2 : Rat) ^ a ≤ 2 ^ b := by
 have e : b = (b - a).toNat + a := by omega
 rw [e, zpow_add, zpow_nat]
 have h1 : (1 : Rat) ≤ ((2 ^ (b - a).toNat : Nat) : Rat) := by exact_mod_cast Nat.one_le_two_pow
 have h2 := rat_scale (zpow_pos a) h1
 grind
theorem zpow_lt_iff {a b : Int} (h : (2 : Rat) ^ a < 2 ^ b) : a < b := by
 apply Int.not_le.1
 intro hc
 have := zpow_le hc
 grind

theorem write_rnd (s : Bool) (mag : Nat) (place : Int) (h : (mag : Rat) * 2 ^ place < 2 ^ (1023 : Int)) :
  ∃ r, V (double.write (.number s mag place)) = some r ∧ Rnd r (sg s ((mag : Rat) * 2 ^ place)) := by
 refine nearest_rnd s mag place fun hm => ?_
 have hlo : (2 : Rat) ^ (place + mag.log2) ≤ (mag : Rat) * 2 ^ place := by
  rw [zpow_add, zpow_nat, Rat.mul_comm]
  exact rat_scale (zpow_pos place) (by exact_mod_cast Nat.log2_self_le hm)
 have := zpow_lt_iff (a := place + mag.log2) (b := 1023) (by grind)
 omega

theorem shl_val (m k : Nat) (b : Int) : ((m <<< k : Nat) : Rat) * 2 ^ b = (m : Rat) * 2 ^ (b + k) := by
 rw [Nat.shiftLeft_eq, nat_mul_cast, zpow_add, zpow_nat]; grind

theorem signed_val (s : Bool) (m k : Nat) (b : Int) : ((signed s m k : Int) : Rat) * 2 ^ b = sg s ((m : Rat) * 2 ^ (b + k)) := by
 rw [← shl_val]
 unfold signed sg
 cases s
 ·simp only [Bool.false_eq_true, if_false]; rw [Rat.intCast_natCast]
 ·simp only [if_true]; rw [Rat.intCast_neg, Rat.intCast_natCast]; grind

theorem natAbs_val (t : Int) : (t.natAbs : Rat) = if t < 0 then -(t : Rat) else (t : Rat) := by
 split
 ·have h : (t.natAbs : Int) = -t := by omega
  have := congrArg (fun z : Int => (z : Rat)) h
  rw [Rat.intCast_natCast, Rat.intCast_neg] at this; exact this
 ·have h : (t.natAbs : Int) = t := by omega
  have := congrArg (fun z : Int => (z : Rat)) h
  rw [Rat.intCast_natCast] at this; exact this

theorem sum_val {x y : Datum} {p q : Rat} (hx : dval x = some p) (hy : dval y = some q) :
  ∃ s m e, x.sum y = some (.number s m e) ∧ sg s ((m : Rat) * 2 ^ e) = p + q := by
 cases x with
 | number s m i =>
  cases y with
  | number t n j =>
   refine ⟨_, _, _, rfl, ?_⟩
   simp only [dval, Option.some.injEq] at hx hy
   subst hx; subst hy
   have h1 := signed_val s m (i - min i j).toNat (min i j)
   have h2 := signed_val t n (j - min i j).toNat (min i j)
   have e1 : min i j + ((i - min i j).toNat : Int) = i := by omega
   have e2 : min i j + ((j - min i j).toNat : Int) = j := by omega
   rw [e1] at h1
   rw [e2] at h2
   rw [← h1, ← h2]
   generalize signed s m (i - min i j).toNat = a
   generalize signed t n (j - min i j).toNat = b
   have e3 : (a : Rat) * 2 ^ (min i j) + (b : Rat) * 2 ^ (min i j) = ((a + b : Int) : Rat) * 2 ^ (min i j) := by rw [Rat.intCast_add]; grind
   rw [e3]
   generalize a + b = c
   rw [natAbs_val]
   have hz : ((0 : Int) : Rat) = 0 := rfl
   by_cases h0 : c = 0
   ·subst h0
    rw [if_pos rfl, if_neg (by omega), hz, Rat.zero_mul]
    cases (s && t) <;> rfl
   ·rw [if_neg h0]
    by_cases hn : c < 0
    ·simp only [hn, if_true, decide_true, sg]; grind
    ·simp only [hn, if_false, decide_false, sg]; grind
  | _ => cases hy
 | _ => cases hx

theorem opp_val {x : Datum} {p : Rat} (hx : dval x = some p) : dval x.opposite = some (-p) := by
 cases x with
 | number s m i =>
  simp only [dval, Option.some.injEq] at hx
  subst hx
  simp only [Datum.opposite, dval]
  cases s <;> simp [sg]
 | _ => cases hx

theorem product_val {x y : Datum} {p q : Rat} (hx : dval x = some p) (hy : dval y = some q) :
  ∃ s m e, x.product y = some (.number s m e) ∧ sg s ((m : Rat) * 2 ^ e) = p * q := by
 cases x with
 | number s m i =>
  cases y with
  | number t n j =>
   refine ⟨_, _, _, rfl, ?_⟩
   simp only [dval, Option.some.injEq] at hx hy
   subst hx; subst hy
   rw [nat_mul_cast, zpow_add]
   cases s <;> cases t <;> simp [sg] <;> grind
  | _ => cases hy
 | _ => cases hx

theorem ab_lt {q c : Rat} (h : ab q < c) : -c < q ∧ q < c := by unfold ab at h; split at h <;> grind
theorem sg_lt {s : Bool} {m c q : Rat} (h : sg s m = q) (hq : ab q < c) : m < c := by
 have := ab_lt hq
 subst h
 unfold sg at this; cases s <;> simp at this <;> grind

/-- x + y, x - y, x * y of finite words: rounded. -/
theorem add_rnd {x y : Nat} {p q : Rat} (hx : V x = some p) (hy : V y = some q) (h : ab (p + q) < 2 ^ (1023 : Int)) :
  ∃ z r, double.add x y = some z ∧ V z = some r ∧ Rnd r (p + q) := by
 obtain ⟨s, m, e, hs, hv⟩ := sum_val hx hy
 obtain ⟨r, hr, hR⟩ := write_rnd s m e (sg_lt hv h)
 rw [hv] at hR
 exact ⟨_, r, by unfold Format.add; rw [hs]; rfl, hr, hR⟩
theorem sub_rnd {x y : Nat} {p q : Rat} (hx : V x = some p) (hy : V y = some q) (h : ab (p - q) < 2 ^ (1023 : Int)) :
  ∃ z r, double.sub x y = some z ∧ V z = some r ∧ Rnd r (p - q) := by
 have e0 : p - q = p + -q := by grind
 rw [e0] at h ⊢
 obtain ⟨s, m, e, hs, hv⟩ := sum_val hx (opp_val hy)
 obtain ⟨r, hr, hR⟩ := write_rnd s m e (sg_lt hv h)
 rw [hv] at hR
 exact ⟨_, r, by unfold Format.sub; rw [hs]; rfl, hr, hR⟩
theorem mul_rnd {x y : Nat} {p q : Rat} (hx : V x = some p) (hy : V y = some q) (h : ab (p * q) < 2 ^ (1023 : Int)) :
  ∃ z r, double.mul x y = some z ∧ V z = some r ∧ Rnd r (p * q) := by
 obtain ⟨s, m, e, hs, hv⟩ := product_val hx hy
 obtain ⟨r, hr, hR⟩ := write_rnd s m e (sg_lt hv h)
 rw [hv] at hR
 exact ⟨_, r, by unfold Format.mul; rw [hs]; rfl, hr, hR⟩

theorem compare_scale (a b : Int) {c : Rat} (hc : 0 < c) : compare a b = if (a : Rat) * c < (b : Rat) * c then .lt else if (a : Rat) * c = (b : Rat) * c then .eq else .gt := by
 rcases Int.lt_trichotomy a b with h | h | h
 ·have h1 : (a : Rat) < (b : Rat) := by exact_mod_cast h
  have h2 := Rat.mul_lt_mul_of_pos_right h1 hc
  rw [if_pos h2]; exact Int.compare_eq_lt.2 h
 ·subst h
  rw [if_neg (Rat.lt_irrefl), if_pos rfl]; exact Int.compare_eq_eq.2 rfl
 ·have h1 : (b : Rat) < (a : Rat) := by exact_mod_cast h
  have h2 := Rat.mul_lt_mul_of_pos_right h1 hc
  rw [if_neg (by grind), if_neg (by grind)]; exact Int.compare_eq_gt.2 h

/-- How two finite words stand to each other. -/
theorem order_val {x y : Nat} {p q : Rat} (hx : V x = some p) (hy : V y = some q) :
  double.order x y = some (if p < q then .lt else if p = q then .eq else .gt) := by
 unfold Format.order
 unfold V at hx hy
 generalize double.read x = a at *
 generalize double.read y = b at *
 cases a with
 | number s m i =>
  cases b with
  | number t n j =>
   simp only [dval, Option.some.injEq] at hx hy
   have h1 := signed_val s m (i - min i j).toNat (min i j)
   have h2 := signed_val t n (j - min i j).toNat (min i j)
   have e1 : min i j + ((i - min i j).toNat : Int) = i := by omega
   have e2 : min i j + ((j - min i j).toNat : Int) = j := by omega
   rw [e1] at h1
   rw [e2] at h2
   simp only [Datum.order]
   rw [compare_scale _ _ (zpow_pos (min i j)), h1, h2, hx, hy]
  | _ => cases hy
 | _ => cases hx

theorem order_eq {x y : Nat} {p q : Rat} (hx : V x = some p) (hy : V y = some q) : (double.order x y == some .eq) = decide (p = q) := by
 rw [order_val hx hy]
 by_cases h : p < q
 ·rw [if_pos h, decide_eq_false (by grind)]; rfl
 ·rw [if_neg h]
  by_cases h2 : p = q
  ·rw [if_pos h2, decide_eq_true h2]; rfl
  ·rw [if_neg h2, decide_eq_false h2]; rfl
theorem order_lt {x y : Nat} {p q : Rat} (hx : V x = some p) (hy : V y = some q) : (double.order x y == some .lt) = decide (p < q) := by
 rw [order_val hx hy]
 by_cases h : p < q
 ·rw [if_pos h, decide_eq_true h]; rfl
 ·rw [if_neg h, decide_eq_false h]
  by_cases h2 : p = q
  ·rw [if_pos h2]; rfl
  ·rw [if_neg h2]; rfl
theorem order_gt {x y : Nat} {p q : Rat} (hx : V x = some p) (hy : V y = some q) : (double.order x y == some .gt) = decide (q < p) := by
 rw [order_val hx hy]
 by_cases h : p < q
 ·rw [if_pos h, decide_eq_false (by grind)]; rfl
 ·rw [if_neg h]
  by_cases h2 : p = q
  ·rw [if_pos h2, decide_eq_false (by grind)]; rfl
  ·rw [if_neg h2, decide_eq_true (by grind)]; rfl

end Flt

/- Operations on numbers and truth values, over the view. -/
namespace Go.Vm
set_option linter.unusedVariables false

abbrev di (k : IntKind) (n : Int) : D := .v (.int k n)
abbrev dint (n : Int) : D := .v (.int .i64 n)
abbrev dfl (x : Nat) : D := .v (.float .f64 x)
abbrev dbool (b : Bool) : D := .v (.bool b)
abbrev dstr (s : ByteArray) : D := .v (.string s)

def lo (k : IntKind) : Int := match k with | .i8 => -128 | .i16 => -32768 | .i32 => -2147483648 | .i64 => -9223372036854775808 | _ => 0
def hi (k : IntKind) : Int := match k with | .i8 => 127 | .i16 => 32767 | .i32 => 2147483647 | .i64 => 9223372036854775807 | .u8 => 255 | .u16 => 65535 | .u32 => 4294967295 | .u64 => 18446744073709551615

theorem wrap_in (k : IntKind) (n : Int) (h1 : lo k ≤ n) (h2 : n ≤ hi k) : k.wrap n = n := by
 cases k <;> simp only [lo, hi] at h1 h2 <;> simp only [IntKind.wrap, IntKind.bits, IntKind.signed, Bool.true_and, Bool.false_and] <;> simp <;> omega

/-- Comparisons of floating numbers. -/
def fgt (x y : Nat) : Bool := Ieee.double.order x y == some .gt
def flt (x y : Nat) : Bool := Ieee.double.order x y == some .lt
def fge (x y : Nat) : Bool := Ieee.double.order x y == some .gt || Ieee.double.order x y == some .eq
def fle (x y : Nat) : Bool := Ieee.double.order x y == some .lt || Ieee.double.order x y == some .eq
def feq (x y : Nat) : Bool := Ieee.double.order x y == some .eq
def fneg (x : Nat) : Nat := Op.negFloat .f64 x
def ofInt (n : Int) : Nat := FloatKind.f64.nearest n

section
variable {C : Ctx} {Q : Exit → St → Prop} {ops : Array Oper} {rest : List Oper} {o : Oper} {e : List (Nat × SV)} {obs : List Ob} {d : Nat}
variable {t ty : TypeId} {x y : Operand}

theorem AOp.iadd {k : IntKind} {a b z : Int} (ho : o.op = .binOp .add t x y ty) (hd : o.dst = some d) (hn : d < C.n) (hx : opS ⟨e, obs⟩ x = some (.d (di k a))) (hy : opS ⟨e, obs⟩ y = some (.d (di k b)))
  (hz : a + b = z) (h1 : lo k ≤ z) (h2 : z ≤ hi k) (h : AO C ops rest ⟨(d, .d (di k z)) :: e, obs⟩ Q) : AOp C ops rest o ⟨e, obs⟩ Q :=
 AOp.bin ho hd hn hx hy rfl (fun w => by subst hz; simp [binOp, Op.intArith, wrap_in k _ h1 h2]) h
theorem AOp.isub {k : IntKind} {a b z : Int} (ho : o.op = .binOp .sub t x y ty) (hd : o.dst = some d) (hn : d < C.n) (hx : opS ⟨e, obs⟩ x = some (.d (di k a))) (hy : opS ⟨e, obs⟩ y = some (.d (di k b)))
  (hz : a - b = z) (h1 : lo k ≤ z) (h2 : z ≤ hi k) (h : AO C ops rest ⟨(d, .d (di k z)) :: e, obs⟩ Q) : AOp C ops rest o ⟨e, obs⟩ Q :=
 AOp.bin ho hd hn hx hy rfl (fun w => by subst hz; simp [binOp, Op.intArith, wrap_in k _ h1 h2]) h
theorem AOp.imul {k : IntKind} {a b z : Int} (ho : o.op = .binOp .mul t x y ty) (hd : o.dst = some d) (hn : d < C.n) (hx : opS ⟨e, obs⟩ x = some (.d (di k a))) (hy : opS ⟨e, obs⟩ y = some (.d (di k b)))
  (hz : a * b = z) (h1 : lo k ≤ z) (h2 : z ≤ hi k) (h : AO C ops rest ⟨(d, .d (di k z)) :: e, obs⟩ Q) : AOp C ops rest o ⟨e, obs⟩ Q :=
 AOp.bin ho hd hn hx hy rfl (fun w => by subst hz; simp [binOp, Op.intArith, wrap_in k _ h1 h2]) h
theorem AOp.iquo {k : IntKind} {a b z : Int} (ho : o.op = .binOp .quo t x y ty) (hd : o.dst = some d) (hn : d < C.n) (hx : opS ⟨e, obs⟩ x = some (.d (di k a))) (hy : opS ⟨e, obs⟩ y = some (.d (di k b)))
  (hb : b ≠ 0) (hz : a.tdiv b = z) (h1 : lo k ≤ z) (h2 : z ≤ hi k) (h : AO C ops rest ⟨(d, .d (di k z)) :: e, obs⟩ Q) : AOp C ops rest o ⟨e, obs⟩ Q :=
 AOp.bin ho hd hn hx hy rfl (fun w => by subst hz; simp [binOp, Op.intDiv, hb, wrap_in k _ h1 h2]) h
theorem AOp.irem {k : IntKind} {a b z : Int} (ho : o.op = .binOp .rem t x y ty) (hd : o.dst = some d) (hn : d < C.n) (hx : opS ⟨e, obs⟩ x = some (.d (di k a))) (hy : opS ⟨e, obs⟩ y = some (.d (di k b)))
  (hb : b ≠ 0) (hz : a.tmod b = z) (h : AO C ops rest ⟨(d, .d (di k z)) :: e, obs⟩ Q) : AOp C ops rest o ⟨e, obs⟩ Q :=
 AOp.bin ho hd hn hx hy rfl (fun w => by subst hz; simp [binOp, Op.intDiv, hb]) h
theorem AOp.ilss {k : IntKind} {a b : Int} (ho : o.op = .binOp .lss t x y ty) (hd : o.dst = some d) (hn : d < C.n) (hx : opS ⟨e, obs⟩ x = some (.d (di k a))) (hy : opS ⟨e, obs⟩ y = some (.d (di k b)))
  (h : AO C ops rest ⟨(d, .d (dbool (decide (a < b)))) :: e, obs⟩ Q) : AOp C ops rest o ⟨e, obs⟩ Q :=
 AOp.bin ho hd hn hx hy rfl (fun w => by simp [binOp, Op.intCmp]) h
theorem AOp.ileq {k : IntKind} {a b : Int} (ho : o.op = .binOp .leq t x y ty) (hd : o.dst = some d) (hn : d < C.n) (hx : opS ⟨e, obs⟩ x = some (.d (di k a))) (hy : opS ⟨e, obs⟩ y = some (.d (di k b)))
  (h : AO C ops rest ⟨(d, .d (dbool (decide (a ≤ b)))) :: e, obs⟩ Q) : AOp C ops rest o ⟨e, obs⟩ Q :=
 AOp.bin ho hd hn hx hy rfl (fun w => by simp [binOp, Op.intCmp]) h
theorem AOp.igtr {k : IntKind} {a b : Int} (ho : o.op = .binOp .gtr t x y ty) (hd : o.dst = some d) (hn : d < C.n) (hx : opS ⟨e, obs⟩ x = some (.d (di k a))) (hy : opS ⟨e, obs⟩ y = some (.d (di k b)))
  (h : AO C ops rest ⟨(d, .d (dbool (decide (b < a)))) :: e, obs⟩ Q) : AOp C ops rest o ⟨e, obs⟩ Q :=
 AOp.bin ho hd hn hx hy rfl (fun w => by simp [binOp, Op.intCmp]) h
theorem AOp.igeq {k : IntKind} {a b : Int} (ho : o.op = .binOp .geq t x y ty) (hd : o.dst = some d) (hn : d < C.n) (hx : opS ⟨e, obs⟩ x = some (.d (di k a))) (hy : opS ⟨e, obs⟩ y = some (.d (di k b)))
  (h : AO C ops rest ⟨(d, .d (dbool (decide (b ≤ a)))) :: e, obs⟩ Q) : AOp C ops rest o ⟨e, obs⟩ Q :=
 AOp.bin ho hd hn hx hy rfl (fun w => by simp [binOp, Op.intCmp]) h
theorem AOp.ieql {k : IntKind} {a b : Int} (ho : o.op = .binOp .eql t x y ty) (hd : o.dst = some d) (hn : d < C.n) (hx : opS ⟨e, obs⟩ x = some (.d (di k a))) (hy : opS ⟨e, obs⟩ y = some (.d (di k b)))
  (h : AO C ops rest ⟨(d, .d (dbool (decide (a = b)))) :: e, obs⟩ Q) : AOp C ops rest o ⟨e, obs⟩ Q :=
 AOp.bin ho hd hn hx hy rfl (fun w => by simp [binOp, Op.intCmp]; rfl) h
theorem AOp.ineq {k : IntKind} {a b : Int} (ho : o.op = .binOp .neq t x y ty) (hd : o.dst = some d) (hn : d < C.n) (hx : opS ⟨e, obs⟩ x = some (.d (di k a))) (hy : opS ⟨e, obs⟩ y = some (.d (di k b)))
  (h : AO C ops rest ⟨(d, .d (dbool (!decide (a = b)))) :: e, obs⟩ Q) : AOp C ops rest o ⟨e, obs⟩ Q :=
 AOp.bin ho hd hn hx hy rfl (fun w => by simp [binOp, Op.intCmp]; rfl) h
theorem run_beq {P : Program} {t : TypeId} (h : P.underlying t = some .bool) (a b : Bool) (w : World) : (Op.equal t (.bool a) (.bool b)).run P w = .ok (a == b) w :=
 run_equalIn_bool' w 9999 t a b h
theorem AOp.beql {a b : Bool} (hu : C.P.underlying t = some .bool) (ho : o.op = .binOp .eql t x y ty) (hd : o.dst = some d) (hn : d < C.n) (hx : opS ⟨e, obs⟩ x = some (.d (dbool a))) (hy : opS ⟨e, obs⟩ y = some (.d (dbool b)))
  (h : AO C ops rest ⟨(d, .d (dbool (a == b))) :: e, obs⟩ Q) : AOp C ops rest o ⟨e, obs⟩ Q :=
 AOp.bin ho hd hn hx hy rfl (fun w => by simp [binOp, run_beq hu]) h
theorem AOp.bneq {a b : Bool} (hu : C.P.underlying t = some .bool) (ho : o.op = .binOp .neq t x y ty) (hd : o.dst = some d) (hn : d < C.n) (hx : opS ⟨e, obs⟩ x = some (.d (dbool a))) (hy : opS ⟨e, obs⟩ y = some (.d (dbool b)))
  (h : AO C ops rest ⟨(d, .d (dbool (!(a == b)))) :: e, obs⟩ Q) : AOp C ops rest o ⟨e, obs⟩ Q :=
 AOp.bin ho hd hn hx hy rfl (fun w => by simp [binOp, run_beq hu]) h
theorem AOp.bnot {a : Bool} (ho : o.op = .unOp .not t x) (hd : o.dst = some d) (hn : d < C.n) (hx : opS ⟨e, obs⟩ x = some (.d (dbool a)))
  (h : AO C ops rest ⟨(d, .d (dbool (!a))) :: e, obs⟩ Q) : AOp C ops rest o ⟨e, obs⟩ Q := AOp.un ho hd hn hx (fun w => rfl) h
theorem AOp.ineg {k : IntKind} {a z : Int} (ho : o.op = .unOp .neg t x) (hd : o.dst = some d) (hn : d < C.n) (hx : opS ⟨e, obs⟩ x = some (.d (di k a))) (hz : -a = z) (h1 : lo k ≤ z) (h2 : z ≤ hi k)
  (h : AO C ops rest ⟨(d, .d (di k z)) :: e, obs⟩ Q) : AOp C ops rest o ⟨e, obs⟩ Q :=
 AOp.un ho hd hn hx (fun w => by
  have : 0 - a = z := by omega
  simp [Op.unary, Op.intArith, this, wrap_in k _ h1 h2]) h

theorem AOp.flss {a b : Nat} (ho : o.op = .binOp .lss t x y ty) (hd : o.dst = some d) (hn : d < C.n) (hx : opS ⟨e, obs⟩ x = some (.d (dfl a))) (hy : opS ⟨e, obs⟩ y = some (.d (dfl b)))
  (h : AO C ops rest ⟨(d, .d (dbool (flt a b))) :: e, obs⟩ Q) : AOp C ops rest o ⟨e, obs⟩ Q := AOp.bin ho hd hn hx hy rfl (fun w => by rw [binOp_float_cmp_lss]; rfl) h
theorem AOp.fleq {a b : Nat} (ho : o.op = .binOp .leq t x y ty) (hd : o.dst = some d) (hn : d < C.n) (hx : opS ⟨e, obs⟩ x = some (.d (dfl a))) (hy : opS ⟨e, obs⟩ y = some (.d (dfl b)))
  (h : AO C ops rest ⟨(d, .d (dbool (fle a b))) :: e, obs⟩ Q) : AOp C ops rest o ⟨e, obs⟩ Q := AOp.bin ho hd hn hx hy rfl (fun w => by rw [binOp_float_cmp_leq]; rfl) h
theorem AOp.fgtr {a b : Nat} (ho : o.op = .binOp .gtr t x y ty) (hd : o.dst = some d) (hn : d < C.n) (hx : opS ⟨e, obs⟩ x = some (.d (dfl a))) (hy : opS ⟨e, obs⟩ y = some (.d (dfl b)))
  (h : AO C ops rest ⟨(d, .d (dbool (fgt a b))) :: e, obs⟩ Q) : AOp C ops rest o ⟨e, obs⟩ Q := AOp.bin ho hd hn hx hy rfl (fun w => by rw [binOp_float_cmp_gtr]; rfl) h
theorem AOp.fgeq {a b : Nat} (ho : o.op = .binOp .geq t x y ty) (hd : o.dst = some d) (hn : d < C.n) (hx : opS ⟨e, obs⟩ x = some (.d (dfl a))) (hy : opS ⟨e, obs⟩ y = some (.d (dfl b)))
  (h : AO C ops rest ⟨(d, .d (dbool (fge a b))) :: e, obs⟩ Q) : AOp C ops rest o ⟨e, obs⟩ Q := AOp.bin ho hd hn hx hy rfl (fun w => by rw [binOp_float_cmp_geq]; rfl) h
theorem AOp.feql {a b : Nat} (ho : o.op = .binOp .eql t x y ty) (hd : o.dst = some d) (hn : d < C.n) (hx : opS ⟨e, obs⟩ x = some (.d (dfl a))) (hy : opS ⟨e, obs⟩ y = some (.d (dfl b)))
  (h : AO C ops rest ⟨(d, .d (dbool (feq a b))) :: e, obs⟩ Q) : AOp C ops rest o ⟨e, obs⟩ Q := AOp.bin ho hd hn hx hy rfl (fun w => by rw [binOp_float_cmp_eql]; rfl) h
theorem AOp.fneq {a b : Nat} (ho : o.op = .binOp .neq t x y ty) (hd : o.dst = some d) (hn : d < C.n) (hx : opS ⟨e, obs⟩ x = some (.d (dfl a))) (hy : opS ⟨e, obs⟩ y = some (.d (dfl b)))
  (h : AO C ops rest ⟨(d, .d (dbool (!feq a b))) :: e, obs⟩ Q) : AOp C ops rest o ⟨e, obs⟩ Q := AOp.bin ho hd hn hx hy rfl (fun w => by rw [binOp_float_cmp_neq]; rfl) h
theorem AOp.fneg {a : Nat} (ho : o.op = .unOp .neg t x) (hd : o.dst = some d) (hn : d < C.n) (hx : opS ⟨e, obs⟩ x = some (.d (dfl a)))
  (h : AO C ops rest ⟨(d, .d (dfl (fneg a))) :: e, obs⟩ Q) : AOp C ops rest o ⟨e, obs⟩ Q := AOp.un ho hd hn hx (fun w => rfl) h
theorem AOp.farith {a b r : Nat} {op : BinOp} (ho : o.op = .binOp op t x y ty) (hd : o.dst = some d) (hn : d < C.n) (hx : opS ⟨e, obs⟩ x = some (.d (dfl a))) (hy : opS ⟨e, obs⟩ y = some (.d (dfl b)))
  (hr : floatBits op .f64 a b = some r) (h : AO C ops rest ⟨(d, .d (dfl r)) :: e, obs⟩ Q) : AOp C ops rest o ⟨e, obs⟩ Q :=
 AOp.bin ho hd hn hx hy (by cases op <;> rfl) (fun w => run_float_arith w op t .f64 a b r hr) h

/-- int to float64 and back; between whole numbers. -/
def undK (P : Program) (t : TypeId) : Option TypeDesc := P.underlying t
theorem AOp.i2i {s : TypeId} {q k : IntKind} {n z : Int} {u : TypeDesc} (ho : o.op = .convert s t x) (hd : o.dst = some d) (hn : d < C.n) (hx : opS ⟨e, obs⟩ x = some (.d (di q n))) (hs : C.P.underlying s = some u) (ht : C.P.underlying t = some (.int k))
  (hz : k.wrap n = z) (h : AO C ops rest ⟨(d, .d (di k z)) :: e, obs⟩ Q) : AOp C ops rest o ⟨e, obs⟩ Q :=
 AOp.conv ho hd hn hx (fun w => by subst hz; cases u <;> simp [convert, run_underlying hs, run_underlying ht, Conv.intToInt]) h
end
end Go.Vm

/- What an argument that can be read is, as data of the view; and a law's row out of what its function gives. -/
namespace Go.Vm
set_option linter.unusedVariables false

theorem optMapM {α β : Type} {f : α → Option β} : ∀ {l : List α} {r : List β}, l.mapM f = some r → r.length = l.length ∧ ∀ (i : Nat) x y, l[i]? = some x → r[i]? = some y → f x = some y := by
 intro l
 induction l with
 | nil => intro r h; cases h; exact ⟨rfl, fun i x y hx => by simp at hx⟩
 | cons a l ih =>
  intro r h
  rw [List.mapM_cons] at h
  cases hy : f a with
  | none => rw [hy] at h; cases h
  | some y =>
   rw [hy] at h
   cases ht : l.mapM f with
   | none => rw [ht] at h; cases h
   | some t =>
    rw [ht] at h
    cases h
    obtain ⟨hl, hi⟩ := ih ht
    refine ⟨by simp [hl], fun i p q hp hq => ?_⟩
    cases i with
    | zero => simp at hp hq; subst hp; subst hq; exact hy
    | succ i => simp at hp hq; exact hi i p q hp hq

/-- The fields lie one behind the other. -/
def tiles (P : Program) : Nat → List Field → Nat → Bool
 | off, [], n => off == n
 | off, f :: fs, n => f.offset == off && tiles P (off + P.cellsOf f.type) fs n
/-- Types that are read here: numbers, truth values, strings, slices and structs of such. -/
def goodT (P : Program) : Nat → TypeId → Bool
 | 0, _ => true
 | n + 1, t => match P.underlying t with
  | some .bool | some (.int _) | some (.float _) | some .string => true
  | some (.slice e) => decide (0 < P.cellsOf e) && goodT P n e
  | some (.struct fs) => tiles P 0 fs.toList (P.cellsOf t) && fs.toList.all fun f => goodT P n f.type
  | some (.array m e) => m * P.cellsOf e == P.cellsOf t && goodT P n e
  | _ => false

mutual
def Shape (P : Program) : Nat → TypeId → List D → Prop
 | 0, _, _ => False
 | n + 1, t, xs => match P.underlying t with
  | some .bool => ∃ b, xs = [dbool b]
  | some (.int k) => ∃ m, xs = [di k m] ∧ lo k ≤ m ∧ m ≤ hi k
  | some (.float k) => ∃ b, xs = [.v (.float k b)] ∧ (Lit.float k b).wf = true
  | some .string => ∃ s, xs = [dstr s] ∧ s.size ≤ maxLen
  | some (.slice e) => ∃ rows : List (List D), xs = [.ds (P.cellsOf e) rows.flatten] ∧ rows.length ≤ maxLen ∧ ∀ r, r ∈ rows → Shape P n e r ∧ r.length = P.cellsOf e
  | some (.struct fs) => ShapeL P n (fs.toList.map (·.type)) xs
  | some (.array m e) => ∃ rows : List (List D), xs = rows.flatten ∧ rows.length = m ∧ ∀ r, r ∈ rows → Shape P n e r ∧ r.length = P.cellsOf e
  | _ => False
def ShapeL (P : Program) : Nat → List TypeId → List D → Prop
 | _, [], xs => xs = []
 | n, t :: ts, xs => ∃ a b, xs = a ++ b ∧ Shape P n t a ∧ a.length = P.cellsOf t ∧ ShapeL P n ts b
end

theorem flatten_get {α : Type} {n : Nat} : ∀ {rows : List (List α)}, (∀ r, r ∈ rows → r.length = n) → ∀ (i : Nat) x, rows.flatten[i]? = some x → ∃ r, rows[i / n]? = some r ∧ r[i % n]? = some x := by
 intro rows
 induction rows with
 | nil => intro _ i x h; simp at h
 | cons r rows ih =>
  intro h i x hx
  have hr : r.length = n := h r (by simp)
  rw [List.flatten_cons, List.getElem?_append] at hx
  split at hx
  ·rename_i hlt
   have h1 : i / n = 0 := Nat.div_eq_of_lt (by omega)
   have h2 : i % n = i := Nat.mod_eq_of_lt (by omega)
   exact ⟨r, by rw [h1]; rfl, by rw [h2]; exact hx⟩
  ·rename_i hge
   have hn : 0 < n := by
    rcases Nat.eq_zero_or_pos n with h0 | h0
    ·subst h0
     exfalso
     have : rows.flatten = [] := List.flatten_eq_nil_iff.2 fun s hs => List.eq_nil_of_length_eq_zero (h s (by simp [hs]))
     rw [this] at hx; simp at hx
    ·exact h0
   obtain ⟨s, hs, hx2⟩ := ih (fun r hr => h r (by simp [hr])) (i - r.length) x hx
   rw [hr] at hs hx2
   have e1 : i / n = (i - n) / n + 1 := by
    rw [← Nat.add_div_right _ hn]; congr 1; omega
   have e2 : i % n = (i - n) % n := by
    rw [← Nat.add_mod_right (i - n) n]; congr 1; omega
   exact ⟨s, by rw [e1]; simpa using hs, by rw [e2]; exact hx2⟩

theorem flatten_len {α : Type} {n : Nat} : ∀ {rows : List (List α)}, (∀ r, r ∈ rows → r.length = n) → rows.flatten.length = rows.length * n := by
 intro rows
 induction rows with
 | nil => intro _; simp
 | cons r rows ih =>
  intro h
  rw [List.flatten_cons, List.length_append, h r (by simp), ih (fun r hr => h r (by simp [hr])), List.length_cons, Nat.add_mul]; omega

theorem list_choose {α β : Type} {p : α → β → Prop} : ∀ (l : List α), (∀ x, x ∈ l → ∃ y, p x y) → ∃ r : List β, r.length = l.length ∧ ∀ (i : Nat) x y, l[i]? = some x → r[i]? = some y → p x y := by
 intro l
 induction l with
 | nil => intro _; exact ⟨[], rfl, fun i x y h => by simp at h⟩
 | cons a l ih =>
  intro h
  obtain ⟨y, hy⟩ := h a (by simp)
  obtain ⟨r, hl, hr⟩ := ih (fun x hx => h x (by simp [hx]))
  refine ⟨y :: r, by simp [hl], fun i x z hx hz => ?_⟩
  cases i with
  | zero => simp at hx hz; subst hx; subst hz; exact hy
  | succ i => simp at hx hz; exact hr i x z hx hz

theorem cells?_spec {w : World} {base : Nat} {a : Addr} {n : Nat} {l : List Value} (h : w.cells? base a n = some l) : l.length = n ∧ ∀ (j : Nat), j < n → w.cell? (a.add j) = l[j]? := by
 unfold World.cells? at h
 split at h
 ·obtain ⟨hl, hi⟩ := optMapM h
  refine ⟨by simpa using hl, fun j hj => ?_⟩
  have hlt : j < l.length := by simp at hl; omega
  have := hi j j l[j] (by simp [hj]) (List.getElem?_eq_getElem hlt)
  rw [this, List.getElem?_eq_getElem hlt]
 ·cases h

theorem cell_block {w : World} {a : Addr} {v : Value} (h : w.cell? a = some v) : a.block < w.heap.size := by
 unfold World.cell? at h
 split at h
 ·rename_i hb; exact (Array.getElem?_eq_some_iff.1 hb).1
 ·cases h
theorem cell_spot {w : World} {a : Addr} {v : Value} (h : w.cell? a = some v) : a.spot = none := by
 unfold World.cell? at h
 split at h
 ·split at h
  ·cases h
  ·rename_i hs; cases hs2 : a.spot with
   | none => rfl
   | some s => rw [hs2] at hs; simp at hs
 ·cases h

/-- Cells that are read one by one. -/
def RepC (W : World) (xs : List D) (cs : List Value) : Prop := xs.length = cs.length ∧ ∀ (i : Nat) x y, xs[i]? = some x → cs[i]? = some y → RepD W (fun b => b < W.heap.size) x y

theorem RepC.append {W : World} {a b : List D} {c d : List Value} (h1 : RepC W a c) (h2 : RepC W b d) : RepC W (a ++ b) (c ++ d) := by
 refine ⟨by simp [h1.1, h2.1], fun i x y hx hy => ?_⟩
 rw [List.getElem?_append] at hx hy
 rw [h1.1] at hx
 split at hx
 ·rename_i h; rw [if_pos h] at hy; exact h1.2 i x y hx hy
 ·rename_i h; rw [if_neg h] at hy; exact h2.2 _ x y hx hy

variable {H : Type} {enc : TypeId × Value → H} {P : Program} {W : World}

theorem trod_float {k : FloatKind} {fuel : Nat} {t : TypeId} {cs : List Value} {x : DataW H × List MemPlace} (ht : P.underlying t = some (.float k)) (h : DataW.trod enc P W 0 (fun _ => true) true fuel t cs = some x) :
  ∃ b, cs = [.float k b] ∧ (Lit.float k b).wf = true := by
 cases fuel with
 | zero => simp [DataW.trod] at h
 | succ m =>
  unfold DataW.trod at h
  rw [ht] at h
  split at h <;> simp_all

theorem wf_bounds {k : IntKind} {n : Int} (h : (Lit.int k n).wf = true) : lo k ≤ n ∧ n ≤ hi k := by
 cases k <;> simp [Lit.wf, IntKind.min, IntKind.max, IntKind.signed, IntKind.bits] at h <;> simp only [lo, hi] <;> omega

/-- Fields that lie one behind the other, read one by one. -/
theorem fields_shape {n : Nat} : ∀ (fs : List Field) (off tot : Nat) (cs : List Value), tiles P off fs tot = true → cs.length + off = tot →
  (∀ f, f ∈ fs → ∃ xs, RepC W xs ((cs.drop (f.offset - off)).take (P.cellsOf f.type)) ∧ Shape P n f.type xs) → ∃ xs, RepC W xs cs ∧ ShapeL P n (fs.map (·.type)) xs := by
 intro fs
 induction fs with
 | nil =>
  intro off tot cs ht hl _
  simp [tiles] at ht
  have : cs = [] := List.eq_nil_of_length_eq_zero (by omega)
  subst this
  exact ⟨[], ⟨rfl, fun i x y hx => by simp at hx⟩, by simp [ShapeL]⟩
 | cons f fs ih =>
  intro off tot cs ht hl hf
  simp only [tiles, Bool.and_eq_true, beq_iff_eq] at ht
  obtain ⟨h1, h2⟩ := ht
  have hle : off + P.cellsOf f.type ≤ tot := by
   have : ∀ (fs : List Field) (a : Nat), tiles P a fs tot = true → a ≤ tot := by
    intro fs
    induction fs with
    | nil => intro a h; simp [tiles] at h; omega
    | cons g gs ihg => intro a h; simp only [tiles, Bool.and_eq_true, beq_iff_eq] at h; have := ihg _ h.2; omega
   exact this fs _ h2
  obtain ⟨xs, hx, hsh⟩ := hf f (by simp)
  rw [h1, Nat.sub_self, List.drop_zero] at hx
  obtain ⟨ys, hy, hsy⟩ := ih (off + P.cellsOf f.type) tot (cs.drop (P.cellsOf f.type)) h2 (by simp; omega) (fun g hg => by
   obtain ⟨zs, hz, hsz⟩ := hf g (by simp [hg])
   refine ⟨zs, ?_, hsz⟩
   have hge : ∀ (fs : List Field) (a : Nat), tiles P a fs tot = true → ∀ g, g ∈ fs → a ≤ g.offset := by
    intro fs
    induction fs with
    | nil => intro a _ g hg; simp at hg
    | cons g gs ihg =>
     intro a h k hk
     simp only [tiles, Bool.and_eq_true, beq_iff_eq] at h
     rcases List.mem_cons.1 hk with rfl | hk
     ·omega
     ·have := ihg _ h.2 k hk; omega
   have := hge fs _ h2 g hg
   rw [List.drop_drop]
   have e : P.cellsOf f.type + (g.offset - (off + P.cellsOf f.type)) = g.offset - off := by omega
   rw [e]; exact hz)
  refine ⟨xs ++ ys, ?_, ?_⟩
  ·have := hx.append hy
   rw [List.take_append_drop] at this
   exact this
  ·simp only [List.map_cons, ShapeL]
   exact ⟨xs, ys, rfl, hsh, by rw [hx.1]; simp; omega, hsy⟩

theorem trod_shape : ∀ (n : Nat) (t : TypeId) (cs : List Value) (d : DataW H × List MemPlace), goodT P n t = true → DataW.trod enc P W 0 (fun _ => true) true n t cs = some d →
  ∃ xs, RepC W xs cs ∧ Shape P n t xs := by
 intro n
 induction n with
 | zero => intro t cs d _ h; cases h
 | succ n ih =>
  intro t cs d hg h
  have single : ∀ (x : D) (v : Value), RepD W (fun b => b < W.heap.size) x v → RepC W [x] [v] := fun x v hr => ⟨rfl, fun i p q hp hq => by
   cases i with
   | zero => cases hp; cases hq; exact hr
   | succ i => simp at hp⟩
  cases hu : P.underlying t with
  | none => simp [goodT, hu] at hg
  | some u =>
   cases u with
   | bool =>
    obtain ⟨b, rfl, _⟩ := DataW.trod_bool hu h
    exact ⟨_, single _ _ (.v _), by simp only [Shape, hu]; exact ⟨b, rfl⟩⟩
   | int k =>
    obtain ⟨m, rfl, _, hw⟩ := DataW.trod_int hu h
    exact ⟨_, single _ _ (.v _), by simp only [Shape, hu]; exact ⟨m, rfl, wf_bounds hw⟩⟩
   | float k =>
    obtain ⟨b, rfl, hw⟩ := trod_float hu h
    exact ⟨_, single _ _ (.v _), by simp only [Shape, hu]; exact ⟨b, rfl, hw⟩⟩
   | string =>
    obtain ⟨s, rfl, _, hw⟩ := DataW.trod_string hu h
    exact ⟨_, single _ _ (.v _), by simp only [Shape, hu]; exact ⟨s, rfl, hw⟩⟩
   | struct fs =>
    simp only [goodT, hu, Bool.and_eq_true] at hg
    obtain ⟨xs, m, he, _, hl, hxl, hf⟩ := DataW.trod_struct hu h
    cases he
    obtain ⟨ys, hy, hsy⟩ := fields_shape (W := W) (n := n) fs.toList 0 (P.cellsOf t) cs hg.1 (by omega) (fun f hf' => by
     obtain ⟨i, hi⟩ := List.getElem?_of_mem hf'
     have hi' : fs[i]? = some f := by simpa using hi
     have hlt : i < fs.size := (Array.getElem?_eq_some_iff.1 hi').1
     have := hf i f hi'
     rw [List.getElem?_eq_getElem (by omega)] at this
     rw [Nat.sub_zero]
     exact ih _ _ _ (List.all_eq_true.1 hg.2 f hf') this)
    exact ⟨ys, hy, by simp only [Shape, hu]; exact hsy⟩
   | slice e =>
    simp only [goodT, hu, Bool.and_eq_true, decide_eq_true_eq] at hg
    rcases DataW.trod_slice hu h with ⟨rfl, _⟩ | ⟨a, len, cap, elems, rest, m, he, rfl, _, hb, hlc, hcm, hel, hf, _⟩
    ·refine ⟨_, single (.ds (P.cellsOf e) []) _ (.nil _ _ _), ?_⟩
     simp only [Shape, hu]
     exact ⟨[], rfl, by simp, fun r hr => by simp at hr⟩
    ·cases he
     obtain ⟨rows, hrl, hrr⟩ := list_choose (p := fun (i : Nat) (r : List D) => ∃ l, W.cells? 0 (a.add (i * P.cellsOf e)) (P.cellsOf e) = some l ∧ RepC W r l ∧ Shape P n e r) (List.range len) (fun i hi => by
      have hlt : i < len := by simpa using hi
      have := hf i hlt
      rw [List.getElem?_eq_getElem (by omega)] at this
      rw [Option.bind_eq_some_iff] at this
      obtain ⟨l, h1, h2⟩ := this
      obtain ⟨r, h3, h4⟩ := ih _ _ _ hg.2 h2
      exact ⟨r, l, h1, h3, h4⟩)
     simp at hrl
     have hrow : ∀ (i : Nat), i < len → ∃ r l, rows[i]? = some r ∧ W.cells? 0 (a.add (i * P.cellsOf e)) (P.cellsOf e) = some l ∧ RepC W r l ∧ Shape P n e r := fun i hi => by
      have h1 : rows[i]? = some rows[i] := List.getElem?_eq_getElem (by omega)
      obtain ⟨l, h2⟩ := hrr i i _ (by simp [hi]) h1
      exact ⟨_, l, h1, h2⟩
     have hall : ∀ r, r ∈ rows → Shape P n e r ∧ r.length = P.cellsOf e := fun r hr => by
      obtain ⟨i, hi⟩ := List.getElem?_of_mem hr
      have hlt := (List.getElem?_eq_some_iff.1 hi).1
      obtain ⟨r', l, h1, h2, h3, h4⟩ := hrow i (by omega)
      rw [hi] at h1; cases h1
      exact ⟨h4, by rw [h3.1]; exact (cells?_spec h2).1⟩
     refine ⟨[.ds (P.cellsOf e) rows.flatten], single _ _ ?_, by simp only [Shape, hu]; exact ⟨rows, rfl, by omega, hall⟩⟩
     rcases Nat.eq_zero_or_pos len with h0 | hpos
     ·have : rows = [] := List.eq_nil_of_length_eq_zero (by omega)
      subst this; subst h0
      exact .nil _ _ _
     ·-- the address
      obtain ⟨r0, l0, _, hc0, _, _⟩ := hrow 0 hpos
      rw [Nat.zero_mul, show a.add 0 = a from by simp [Addr.add]] at hc0
      have hc00 := (cells?_spec hc0).2 0 hg.1
      rw [show a.add 0 = a from by simp [Addr.add]] at hc00
      rw [List.getElem?_eq_getElem (by rw [(cells?_spec hc0).1]; exact hg.1)] at hc00
      have hspot := cell_spot hc00
      have hblk := cell_block hc00
      have ha : a = ⟨a.block, a.off, none⟩ := by cases a; simp_all
      have hcell : ∀ (i : Nat), i < len * P.cellsOf e → ∃ r l x, rows[i / P.cellsOf e]? = some r ∧ RepC W r l ∧ rows.flatten[i]? = some x ∧ r[i % P.cellsOf e]? = some x ∧ W.cell? ⟨a.block, a.off + i, none⟩ = l[i % P.cellsOf e]? := fun i hi => by
       have hlt : i < rows.flatten.length := by rw [flatten_len fun r hr => (hall r hr).2, hrl]; exact hi
       have hx : rows.flatten[i]? = some rows.flatten[i] := List.getElem?_eq_getElem hlt
       obtain ⟨r, h1, h2⟩ := flatten_get (fun r hr => (hall r hr).2) i _ hx
       have hq : i / P.cellsOf e < len := by rw [Nat.div_lt_iff_lt_mul hg.1]; exact hi
       obtain ⟨r', l, h3, h4, h5, _⟩ := hrow _ hq
       rw [h1] at h3; cases h3
       refine ⟨r, l, _, h1, h5, hx, h2, ?_⟩
       rw [← (cells?_spec h4).2 _ (Nat.mod_lt _ hg.1), ha, Addr.add_of, Addr.add_of]
       have : a.off + i / P.cellsOf e * P.cellsOf e + i % P.cellsOf e = a.off + i := by rw [Nat.add_assoc, Nat.div_add_mod' i (P.cellsOf e)]
       rw [this]
      rw [ha]
      refine .ds _ _ _ _ _ _ (fun i => (W.cell? ⟨a.block, a.off + i, none⟩).getD undef) (by rw [flatten_len fun r hr => (hall r hr).2, hrl]) hlc hblk (fun i hi => ?_) (fun i x hx => ?_)
      ·rw [flatten_len fun r hr => (hall r hr).2, hrl] at hi
       obtain ⟨r, l, x, _, hrep, _, hx, hc⟩ := hcell i hi
       have hlt := (List.getElem?_eq_some_iff.1 hx).1
       rw [hc, List.getElem?_eq_getElem (by rw [← hrep.1]; exact hlt)]; rfl
      ·have hi := (List.getElem?_eq_some_iff.1 hx).1
       rw [flatten_len fun r hr => (hall r hr).2, hrl] at hi
       obtain ⟨r, l, x', _, hrep, hx', hxr, hc⟩ := hcell i hi
       rw [hx] at hx'; cases hx'
       have hlt := (List.getElem?_eq_some_iff.1 hxr).1
       have hlv : l[i % P.cellsOf e]? = some (l[i % P.cellsOf e]'(by rw [← hrep.1]; exact hlt)) := List.getElem?_eq_getElem _
       rw [hc, hlv]
       exact hrep.2 _ _ _ hxr hlv
   | array m e =>
    simp only [goodT, hu, Bool.and_eq_true, beq_iff_eq] at hg
    obtain ⟨xs, k, he, _, hl, hxl, hf⟩ := DataW.trod_array hu h
    cases he
    obtain ⟨rows, hrl, hrr⟩ := list_choose (p := fun (i : Nat) (r : List D) => RepC W r ((cs.drop (i * P.cellsOf e)).take (P.cellsOf e)) ∧ Shape P n e r) (List.range m) (fun i hi => by
     have hlt : i < m := by simpa using hi
     have := hf i hlt
     rw [List.getElem?_eq_getElem (by omega)] at this
     exact ih _ _ _ hg.2 this)
    simp at hrl
    have hrow : ∀ (i : Nat), i < m → ∃ r, rows[i]? = some r ∧ RepC W r ((cs.drop (i * P.cellsOf e)).take (P.cellsOf e)) ∧ Shape P n e r := fun i hi => by
     have h1 : rows[i]? = some rows[i] := List.getElem?_eq_getElem (by omega)
     exact ⟨_, h1, hrr i i _ (by simp [hi]) h1⟩
    have hall : ∀ r, r ∈ rows → Shape P n e r ∧ r.length = P.cellsOf e := fun r hr => by
     obtain ⟨i, hi⟩ := List.getElem?_of_mem hr
     have hlt := (List.getElem?_eq_some_iff.1 hi).1
     obtain ⟨r', h1, h3, h4⟩ := hrow i (by omega)
     rw [hi] at h1; cases h1
     refine ⟨h4, ?_⟩
     rw [h3.1]; simp
     have : (i + 1) * P.cellsOf e ≤ m * P.cellsOf e := Nat.mul_le_mul_right _ (by omega)
     rw [Nat.add_mul] at this
     omega
    have hfl : rows.flatten.length = cs.length := by rw [flatten_len fun r hr => (hall r hr).2, hrl, hl]; exact hg.1
    refine ⟨rows.flatten, ⟨hfl, fun i x y hx hy => ?_⟩, by simp only [Shape, hu]; exact ⟨rows, rfl, hrl, hall⟩⟩
    obtain ⟨r, h1, h2⟩ := flatten_get (fun r hr => (hall r hr).2) i _ hx
    have hlt := (List.getElem?_eq_some_iff.1 h1).1
    obtain ⟨r', h3, h4, _⟩ := hrow (i / P.cellsOf e) (by omega)
    rw [h1] at h3; cases h3
    refine h4.2 _ x y h2 ?_
    have hlt2 := (List.getElem?_eq_some_iff.1 h2).1
    rw [(hall r (List.mem_of_getElem? h1)).2] at hlt2
    rw [List.getElem?_take, if_pos hlt2, List.getElem?_drop, Nat.div_add_mod' i (P.cellsOf e)]
    exact hy
   | _ => simp [goodT, hu] at hg

/-- 'goodT', with an end. -/
def goodS (P : Program) : Nat → TypeId → Bool
 | 0, _ => false
 | n + 1, t => match P.underlying t with
  | some .bool | some (.int _) | some (.float _) | some .string => true
  | some (.slice e) => decide (0 < P.cellsOf e) && goodS P n e
  | some (.struct fs) => tiles P 0 fs.toList (P.cellsOf t) && fs.toList.all fun f => goodS P n f.type
  | some (.array m e) => m * P.cellsOf e == P.cellsOf t && goodS P n e
  | _ => false

theorem goodS_T : ∀ (k n : Nat) (t : TypeId), goodS P k t = true → goodT P n t = true := by
 intro k
 induction k with
 | zero => intro n t h; cases h
 | succ k ih =>
  intro n t h
  cases n with
  | zero => rfl
  | succ n =>
   unfold goodS at h
   unfold goodT
   cases hu : P.underlying t with
   | none => simp [hu] at h
   | some u =>
    cases u with
    | bool => rfl
    | int _ => rfl
    | float _ => rfl
    | string => rfl
    | slice e =>
     simp only [hu, Bool.and_eq_true] at h ⊢
     exact ⟨h.1, ih _ _ h.2⟩
    | struct fs =>
     simp only [hu, Bool.and_eq_true] at h ⊢
     exact ⟨h.1, List.all_eq_true.2 fun f hf => ih _ _ (List.all_eq_true.1 h.2 f hf)⟩
    | array m e =>
     simp only [hu, Bool.and_eq_true] at h ⊢
     exact ⟨h.1, ih _ _ h.2⟩
    | _ => simp [hu] at h

theorem arg_struct {k base : Nat} {t : TypeId} {v : Value} {d : DataW H} {p : List MemPlace} {fs : Array Field} (ht : P.underlying t = some (.struct fs)) (hg : goodS P k t = true) (hval : Value.okWide P W .any base t v)
  (h : DataW.Trod enc P W 0 (fun _ => true) true t v d p) : ∃ n xs, RepD W (fun b => b < W.heap.size) (.ag xs) v ∧ Shape P n t xs := by
 obtain ⟨cs, rfl, _⟩ := WideShapes.okWide_struct ht hval
 obtain ⟨n, hn⟩ := h
 obtain ⟨xs, hr, hs⟩ := trod_shape n t _ _ (goodS_T k n t hg) hn
 refine ⟨n, xs, ?_, hs⟩
 have := RepD.ag xs (cs.toList) (w := W) (ok := fun b => b < W.heap.size) (by rw [hr.1]; rfl) (fun i x y hx hy => hr.2 i x y hx hy)
 simpa using this

def scalarT (P : Program) (t : TypeId) : Bool := match P.underlying t with
 | some .bool | some (.int _) | some (.float _) | some .string | some (.slice _) => true
 | _ => false

theorem shape_float {n : Nat} {t : TypeId} {k : FloatKind} {xs : List D} (hu : P.underlying t = some (.float k)) (h : Shape P n t xs) : ∃ b, xs = [.v (.float k b)] ∧ (Lit.float k b).wf = true := by
 cases n with
 | zero => simp only [Shape] at h
 | succ n => simp only [Shape, hu] at h; exact h
theorem shape_struct {n : Nat} {t : TypeId} {fs : List Field} {xs : List D} (hu : P.underlying t = some (.struct fs.toArray)) (h : Shape P n t xs) : ∃ m, ShapeL P m (fs.map (·.type)) xs := by
 cases n with
 | zero => simp only [Shape] at h
 | succ n => simp only [Shape, hu] at h; exact ⟨n, h⟩
theorem shapeL_cons {n : Nat} {t : TypeId} {ts : List TypeId} {xs : List D} (h : ShapeL P n (t :: ts) xs) : ∃ a b, xs = a ++ b ∧ Shape P n t a ∧ ShapeL P n ts b := by
 simp only [ShapeL] at h
 obtain ⟨a, b, h1, h2, _, h3⟩ := h
 exact ⟨a, b, h1, h2, h3⟩
theorem shapeL_nil {n : Nat} {xs : List D} (h : ShapeL P n [] xs) : xs = [] := by
 simpa only [ShapeL] using h
/-- A law's function, over what its caller laid: it answers true, and what was there stays. -/
theorem FnD.law {f : FuncId} {xs : List D} {vs : List Value} (h : FnD P f xs (fun r => r = dbool true)) (hG : HoldsG W) (hl : vs.length = xs.length)
  (hr : ∀ (i : Nat) x v, xs[i]? = some x → vs[i]? = some v → RepD W (fun b => b < W.heap.size) x v) :
  Calls P f vs.toArray W fun e w' => e = .returned (.bool true) ∧ RowKit.Below W.heap.size W w' :=
 (h.2 W _ vs hG (fun _ hb => hb) hl hr).mono fun e w' ⟨v, r, he, hR, hb, hd⟩ => by
  subst hR
  cases hd
  exact ⟨he, hb⟩
theorem rep_nil : ∀ (i : Nat) (x : D) (v : Value), ([] : List D)[i]? = some x → ([] : List Value)[i]? = some v → RepD W (fun b => b < W.heap.size) x v := fun i x v h => by simp at h
theorem rep_cons {y : D} {ys : List D} {u : Value} {us : List Value} (h : RepD W (fun b => b < W.heap.size) y u) (hs : ∀ (i : Nat) (x : D) (v : Value), ys[i]? = some x → us[i]? = some v → RepD W (fun b => b < W.heap.size) x v) :
  ∀ (i : Nat) (x : D) (v : Value), (y :: ys)[i]? = some x → (u :: us)[i]? = some v → RepD W (fun b => b < W.heap.size) x v := fun i x v hx hv => by
 cases i with
 | zero => cases hx; cases hv; exact h
 | succ i => exact hs i x v hx hv
end Go.Vm

/- Whole numbers among the floating ones: what is whole and in range, conversions both ways. -/
namespace Flt
open Go Ieee Go.Vm

/-- x is the whole number n. -/
def I (x : Nat) (n : Int) : Prop := V x = some (n : Rat)

theorem zpow_zero' : (2 : Rat) ^ (0 : Int) = 1 := by decide
theorem ab_int_lt {n : Int} (h : n.natAbs ≤ 9007199254740992) : ab (n : Rat) < 2 ^ (1023 : Int) := by
 have h1 : ab (n : Rat) ≤ 9007199254740992 := by
  have g1 : n ≤ 9007199254740992 := by omega
  have g2 : -9007199254740992 ≤ n := by omega
  have c1 : ((9007199254740992 : Int) : Rat) = 9007199254740992 := rfl
  have c2 : ((-9007199254740992 : Int) : Rat) = -9007199254740992 := by rw [Rat.intCast_neg, c1]
  have g1' : (n : Rat) ≤ 9007199254740992 := by rw [← c1]; exact Rat.intCast_le_intCast.2 g1
  have g2' : (-9007199254740992 : Rat) ≤ (n : Rat) := by rw [← c2]; exact Rat.intCast_le_intCast.2 g2
  unfold ab; split <;> grind
 have h2 : (2 : Rat) ^ (53 : Int) ≤ 2 ^ (1023 : Int) := zpow_le (by omega)
 have h4 : (2 : Rat) ^ (53 : Int) < 2 ^ (1023 : Int) := by
  have : (2 : Rat) ^ (54 : Int) ≤ 2 ^ (1023 : Int) := zpow_le (by omega)
  have e : (2 : Rat) ^ (54 : Int) = 18014398509481984 := by decide
  have e3 : (2 : Rat) ^ (53 : Int) = 9007199254740992 := by decide
  grind
 have e3 : (2 : Rat) ^ (53 : Int) = 9007199254740992 := by decide
 grind
theorem Rnd.int {r : Rat} {n : Int} (h : Rnd r (n : Rat)) (hn : n.natAbs ≤ 9007199254740992) : r = (n : Rat) :=
 h.exact n 0 hn (by omega) (by rw [zpow_zero']; grind)

theorem add_int {x y : Nat} {m n : Int} (hx : I x m) (hy : I y n) (h : (m + n).natAbs ≤ 9007199254740992) : ∃ z, floatBits .add .f64 x y = some z ∧ I z (m + n) := by
 have e : (m : Rat) + (n : Rat) = ((m + n : Int) : Rat) := (Rat.intCast_add m n).symm
 obtain ⟨z, r, hz, hr, hR⟩ := add_rnd hx hy (by rw [e]; exact ab_int_lt h)
 rw [e] at hR
 exact ⟨z, hz, by rw [I, hr, hR.int h]⟩
theorem sub_int {x y : Nat} {m n : Int} (hx : I x m) (hy : I y n) (h : (m - n).natAbs ≤ 9007199254740992) : ∃ z, floatBits .sub .f64 x y = some z ∧ I z (m - n) := by
 have e : (m : Rat) - (n : Rat) = ((m - n : Int) : Rat) := (Rat.intCast_sub m n).symm
 obtain ⟨z, r, hz, hr, hR⟩ := sub_rnd hx hy (by rw [e]; exact ab_int_lt h)
 rw [e] at hR
 exact ⟨z, hz, by rw [I, hr, hR.int h]⟩
theorem mul_int {x y : Nat} {m n : Int} (hx : I x m) (hy : I y n) (h : (m * n).natAbs ≤ 9007199254740992) : ∃ z, floatBits .mul .f64 x y = some z ∧ I z (m * n) := by
 have e : (m : Rat) * (n : Rat) = ((m * n : Int) : Rat) := (Rat.intCast_mul m n).symm
 obtain ⟨z, r, hz, hr, hR⟩ := mul_rnd hx hy (by rw [e]; exact ab_int_lt h)
 rw [e] at hR
 exact ⟨z, hz, by rw [I, hr, hR.int h]⟩

theorem sg_natAbs (n : Int) : sg (decide (n < 0)) ((n.natAbs : Rat) * 2 ^ (0 : Int)) = (n : Rat) := by
 rw [zpow_zero', natAbs_val]
 by_cases h : n < 0
 ·simp only [h, decide_true, sg, if_true]; grind
 ·simp only [h, decide_false, sg, if_false]; simp
theorem ofInt_int {n : Int} (h : n.natAbs ≤ 9007199254740992) : I (ofInt n) n := by
 have hm := sg_natAbs n
 have hlt := sg_lt hm (ab_int_lt h)
 obtain ⟨r, hr, hR⟩ := write_rnd (decide (n < 0)) n.natAbs 0 hlt
 rw [hm] at hR
 have e : ofInt n = double.write (.number (decide (n < 0)) n.natAbs 0) := rfl
 rw [I, e, hr, hR.int h]

theorem feq_int {x y : Nat} {m n : Int} (hx : I x m) (hy : I y n) : feq x y = decide (m = n) := by
 unfold feq
 rw [order_eq hx hy]
 congr 1
 exact propext ⟨fun h => by exact_mod_cast h, fun h => by rw [h]⟩
theorem flt_int {x y : Nat} {m n : Int} (hx : I x m) (hy : I y n) : Vm.flt x y = decide (m < n) := by
 unfold Vm.flt
 rw [order_lt hx hy]
 congr 1
 exact propext ⟨fun h => by exact_mod_cast h, fun h => by exact_mod_cast h⟩
theorem fgt_int {x y : Nat} {m n : Int} (hx : I x m) (hy : I y n) : fgt x y = decide (n < m) := by
 unfold fgt
 rw [order_gt hx hy]
 congr 1
 exact propext ⟨fun h => by exact_mod_cast h, fun h => by exact_mod_cast h⟩
theorem fle_int {x y : Nat} {m n : Int} (hx : I x m) (hy : I y n) : fle x y = decide (m ≤ n) := by
 unfold fle
 have h1 := flt_int hx hy
 have h2 := feq_int hx hy
 unfold Vm.flt at h1
 unfold feq at h2
 rw [h1, h2, ← Bool.decide_or]
 congr 1
 exact propext (by omega)
theorem fge_int {x y : Nat} {m n : Int} (hx : I x m) (hy : I y n) : fge x y = decide (n ≤ m) := by
 unfold fge
 have h1 := fgt_int hx hy
 have h2 := feq_int hx hy
 unfold fgt at h1
 unfold feq at h2
 rw [h1, h2, ← Bool.decide_or]
 congr 1
 exact propext (by omega)

/-! ### Cutting towards zero -/
theorem cut_zero (s : Bool) (n d : Nat) : Toward.zero.cut s n d = n / 2 ^ d := by
 unfold Toward.cut
 dsimp only
 rw [Nat.one_shiftLeft]
 by_cases hd : d ≤ n.log2 + 2
 ·rw [Nat.min_eq_left hd]; rfl
 ·rw [Nat.min_eq_right (by omega)]
  have h1 : n < 2 ^ (n.log2 + 1) := Nat.lt_log2_self
  have h2 : 2 ^ (n.log2 + 1) ≤ 2 ^ (n.log2 + 2) := Nat.pow_le_pow_right (by omega) (by omega)
  have h3 : 2 ^ (n.log2 + 2) ≤ 2 ^ d := Nat.pow_le_pow_right (by omega) (by omega)
  rw [Nat.div_eq_of_lt (by omega), Nat.div_eq_of_lt (by omega)]; rfl

theorem trunc_le (m : Nat) (i : Int) : (((m <<< i.toNat) / 2 ^ (-i).toNat : Nat) : Rat) ≤ (m : Rat) * 2 ^ i := by
 have h := Nat.div_mul_le_self (m <<< i.toNat) (2 ^ (-i).toNat)
 rw [Nat.shiftLeft_eq] at h ⊢
 generalize hq : m * 2 ^ i.toNat / 2 ^ (-i).toNat = q at *
 have h' : (q : Rat) * ((2 ^ (-i).toNat : Nat) : Rat) ≤ (m : Rat) * ((2 ^ i.toNat : Nat) : Rat) := by exact_mod_cast h
 rw [← zpow_nat, ← zpow_nat] at h'
 have e1 : (2 : Rat) ^ (((-i).toNat : Nat) : Int) * 2 ^ (min i 0) = 1 := by
  rw [← zpow_add]; have : (((-i).toNat : Nat) : Int) + min i 0 = 0 := by omega
  rw [this, zpow_zero']
 have e2 : (2 : Rat) ^ ((i.toNat : Nat) : Int) * 2 ^ (min i 0) = 2 ^ i := by rw [← zpow_add]; congr 1; omega
 have f := rat_scale (zpow_pos (min i 0)) h'
 generalize (2 : Rat) ^ (((-i).toNat : Nat) : Int) = a at *
 generalize (2 : Rat) ^ ((i.toNat : Nat) : Int) = b at *
 generalize (2 : Rat) ^ (min i 0) = c at *
 have g : (q : Rat) = (q : Rat) * a * c := by rw [Rat.mul_assoc, e1, Rat.mul_one]
 rw [← e2, g, ← Rat.mul_assoc]
 exact f
end Flt

/- What the test of whole numbers in a range tells. -/
namespace Flt
open Go Ieee Go.Vm

def truncD (x : Nat) : Nat := FloatKind.f64.encode ((FloatKind.f64.decode x).integral .zero)
/-- a number is whole and from -m to m -/
def inR (m x : Nat) : Bool := fge x (fneg m) && fle x m
def okF (m x : Nat) : Bool := inR m x && feq x (truncD x)

theorem V_num {x : Nat} {q : Rat} (h : V x = some q) : ∃ s m i, double.read x = .number s m i ∧ sg s ((m : Rat) * 2 ^ i) = q := by
 unfold V at h
 generalize double.read x = d at *
 cases d with
 | number s m i => exact ⟨s, m, i, rfl, by simpa [dval] using h⟩
 | _ => cases h

theorem fle_val {x y : Nat} {p q : Rat} (hx : V x = some p) (hy : V y = some q) : fle x y = decide (p ≤ q) := by
 unfold fle
 rw [order_lt hx hy, order_eq hx hy, ← Bool.decide_or]
 congr 1
 exact propext (by grind)
theorem fge_val {x y : Nat} {p q : Rat} (hx : V x = some p) (hy : V y = some q) : fge x y = decide (q ≤ p) := by
 unfold fge
 rw [order_gt hx hy, order_eq hx hy, ← Bool.decide_or]
 congr 1
 exact propext (by grind)
theorem feq_val {x y : Nat} {p q : Rat} (hx : V x = some p) (hy : V y = some q) : feq x y = decide (p = q) := order_eq hx hy

theorem fin_of {x a b : Nat} {p q : Rat} (ha : V a = some p) (hb : V b = some q) (h1 : fge x a = true) (h2 : fle x b = true) : ∃ r, V x = some r := by
 obtain ⟨s, m, i, hra, _⟩ := V_num ha
 obtain ⟨t, n, j, hrb, _⟩ := V_num hb
 unfold fge Format.order at h1
 unfold fle Format.order at h2
 unfold V
 rw [hra] at h1
 rw [hrb] at h2
 generalize double.read x = d at *
 cases d with
 | number u k l => exact ⟨_, rfl⟩
 | infinity u => cases u <;> simp [Datum.order] at h1 h2
 | nan u k => simp [Datum.order] at h1

theorem okF_int {K x : Nat} {k : Int} (hk : I K k) (hk0 : 0 ≤ k) (hk1 : k ≤ 4503599627370496) (hn : I (fneg K) (-k)) (h : okF K x = true) : ∃ n, I x n ∧ -k ≤ n ∧ n ≤ k := by
 unfold okF inR at h
 simp only [Bool.and_eq_true] at h
 obtain ⟨⟨h1, h2⟩, h3⟩ := h
 obtain ⟨r, hr⟩ := fin_of hn hk h1 h2
 rw [fge_val hr hn, decide_eq_true_eq] at h1
 rw [fle_val hr hk, decide_eq_true_eq] at h2
 obtain ⟨s, m, i, hrd, hv⟩ := V_num hr
 have hp : (0 : Rat) ≤ (m : Rat) * 2 ^ i := Rat.mul_nonneg Rat.natCast_nonneg (Rat.le_of_lt (zpow_pos i))
 have ht := trunc_le m i
 have e : truncD x = double.write (.number s ((m <<< i.toNat) / 2 ^ (-i).toNat) 0) := by
  show double.write ((double.read x).integral .zero) = _
  rw [hrd]
  simp only [Datum.integral, cut_zero]
 generalize hT : (m <<< i.toNat) / 2 ^ (-i).toNat = T at *
 have hmk : (m : Rat) * 2 ^ i ≤ (k : Rat) := by
  rw [Rat.intCast_neg] at h1
  unfold sg at hv
  cases s <;> simp at hv <;> grind
 have hTk : (T : Int) ≤ k := by
  have : ((T : Int) : Rat) ≤ (k : Rat) := by rw [Rat.intCast_natCast]; grind
  exact Rat.intCast_le_intCast.1 this
 have hm : sg s ((T : Rat) * 2 ^ (0 : Int)) = ((if s then -(T : Int) else (T : Int) : Int) : Rat) := by
  rw [zpow_zero', Rat.mul_one]
  cases s
  ·simp [sg, Rat.intCast_natCast]
  ·simp [sg, Rat.intCast_neg, Rat.intCast_natCast]
 have hb : (if s then -(T : Int) else (T : Int) : Int).natAbs ≤ 9007199254740992 := by split <;> omega
 obtain ⟨r2, hr2, hR⟩ := write_rnd s T 0 (sg_lt hm (ab_int_lt hb))
 rw [hm] at hR
 have hr3 := hR.int hb
 rw [← e] at hr2
 rw [feq_val hr hr2, decide_eq_true_eq, hr3] at h3
 refine ⟨_, by rw [I, hr, h3], ?_⟩
 split <;> omega
abbrev K20 : Nat := 4697254411347427328
end Flt

/- Regions that draw their order, over the view: one walk in the order of the text serves every order. -/
namespace Go.Vm
set_option linter.unusedVariables false

theorem wp_monoQ {P : Program} {o : Oper} {a : Act} {w : World} {K K' : Act → World → Prop} {Q Q' : Exit → Act → World → Prop} (h : ∀ a w, K a w → K' a w) (hq : ∀ e a w, e ≠ .normal → Q e a w → Q' e a w)
  (hh : o.wp P a w K Q) : o.wp P a w K' Q' := by
 unfold Oper.wp at *
 generalize (execOp a.eval o).run P w = r at *
 cases r with
 | ok n w' =>
  cases n <;> simp only [Oper.upon] at hh ⊢ <;>
   first
    | exact h _ _ hh
    | exact Calls.mono hh (fun e w'' he => by cases e <;> first | exact h _ _ he | exact hq _ _ _ (by simp) he | exact (let ⟨a, w, h⟩ := he; ⟨a, w, hq _ _ _ (by simp) h⟩))
    | exact Rows.mono hh (fun _ _ he => h _ _ he)
 | halt x w' => cases x <;> simp only [Oper.upon] at hh ⊢ <;> first | exact hq _ _ _ (by simp) hh | exact hh

abbrev Env := Nat → Option SV
def upd (e : Env) (d : Option Nat) (x : SV) : Env := match d with
 | some d => fun t => if d = t then some x else e t
 | none => e
theorem upd_ne {e : Env} {d : Option Nat} {x : SV} {t : Nat} (h : ∀ k, d = some k → k ≠ t) : upd e d x t = e t := by
 cases d with
 | none => rfl
 | some d => simp only [upd, if_neg (h d rfl)]
theorem upd_comm {e : Env} {d k : Option Nat} {x y : SV} (h : ∀ i, d = some i → k ≠ some i) : upd (upd e d x) k y = upd (upd e k y) d x := by
 cases d with
 | none => rfl
 | some d =>
  cases k with
  | none => rfl
  | some k =>
   have hne : d ≠ k := fun e => h d rfl (by rw [e])
   funext t
   simp only [upd]
   by_cases h1 : d = t <;> by_cases h2 : k = t <;> simp_all
theorem get_upd (l : List (Nat × SV)) (d : Nat) (x : SV) : get ((d, x) :: l) = upd (get l) (some d) x := by
 funext t; rfl

/-- The state's entries are told by 'get' alone. -/
theorem Rel.congr {C : Ctx} {e e' : List (Nat × SV)} {obs : List Ob} {Ω : List Value} {a : Act} {w : World} (h : Rel C ⟨e, obs⟩ Ω a w) (hg : ∀ t x, get e' t = some x → get e t = some x) : Rel C ⟨e', obs⟩ Ω a w :=
 ⟨h.defers, h.size, fun t x hx => h.env t x (hg t x hx), h.mem⟩

section
variable {C : Ctx} {ops : Array Oper} {obs : List Ob} {md : Region.Mode}

/-- Is it carried out? -/
def wantE (ops : Array Oper) (o : Oper) (e : Env) : Option Bool := match o.guard with
 | none => some true
 | some (g, want) => match (ops[g]?).bind (·.dst) with
  | some dj => match e dj with
   | some (.d (.v (.bool b))) => some (b == want)
   | some (.d (.v (.tuple _))) => some false
   | _ => none
  | none => none
theorem wantE_wanted {o : Oper} {l : List (Nat × SV)} {b : Bool} (h : wantE ops o (get l) = some b) {Ω : List Value} {a : Act} {w : World} (hr : Rel C ⟨l, obs⟩ Ω a w) : Region.wanted o (yielded ops a.tmps) = b := by
 unfold wantE at h
 split at h
 ·rename_i hg; cases h; simp [Region.wanted, hg]
 ·rename_i g want hg
  split at h
  ·rename_i dj hj
   split at h
   ·rename_i c hc
    obtain ⟨v, hv, hrep⟩ := hr.env dj _ hc
    have hvb := hrep.val
    subst hvb
    cases h
    exact wanted_eq hg hj hv
   ·rename_i c hc
    obtain ⟨v, hv, hrep⟩ := hr.env dj _ hc
    have hvb := hrep.val
    subst hvb
    cases h
    unfold Region.wanted
    rw [hg]
    simp [yielded, hj, hv]
   ·cases h
  ·cases h
theorem wantE_congr {o : Oper} {e e' : Env} (h : ∀ t, t ∈ o.looksAt ops → e' t = e t) : wantE ops o e' = wantE ops o e := by
 unfold wantE
 cases hg : o.guard with
 | none => rfl
 | some p =>
  obtain ⟨g, want⟩ := p
  simp only
  cases hj : (ops[g]?).bind (·.dst) with
  | none => rfl
  | some dj =>
   simp only
   rw [h dj (by unfold Oper.looksAt; rw [hg]; simp only [hj]; simp)]

/-- In every state that tells the same of what o looks at, o gives x, and turns nothing else of the view. -/
def VQ (C : Ctx) (ops : Array Oper) (obs : List Ob) (o : Oper) (x : SV) (e : Env) : Prop :=
 ∀ (l : List (Nat × SV)), (∀ t, t ∈ o.looksAt ops → get l t = e t) → ∀ Ω a w, Rel C ⟨l, obs⟩ Ω a w →
  o.wp C.P a w (fun a' w' => ∃ (l' : List (Nat × SV)) (Ω' : List Value), get l' = upd (get l) o.dst x ∧ Rel C ⟨l', obs⟩ Ω' a' w') (fun _ _ _ => False)
def YV (C : Ctx) (ops : Array Oper) (obs : List Ob) (o : Oper) (x : SV) (e : Env) : Prop :=
 (wantE ops o e = some true ∧ VQ C ops obs o x e) ∨ (wantE ops o e = some false ∧ x = .d (.v undef) ∧ ∀ d, o.dst = some d → d < C.n)
theorem YV.congr {o : Oper} {x : SV} {e e' : Env} (h : YV C ops obs o x e) (he : ∀ t, t ∈ o.looksAt ops → e' t = e t) : YV C ops obs o x e' := by
 unfold YV at *
 rw [wantE_congr he]
 exact h.imp (fun ⟨h1, h2⟩ => ⟨h1, fun l hl => h2 l fun t ht => (hl t ht).trans (he t ht)⟩) id

def vOp (C : Ctx) (ops : Array Oper) (obs : List Ob) (i : Nat) (K : Env → Prop) (e : Env) : Prop := match ops[i]? with
 | none => K e
 | some o => ∃ x, YV C ops obs o x e ∧ K (upd e o.dst x)
theorem vOp_mono {i : Nat} {K K' : Env → Prop} {e : Env} (h : ∀ e, K e → K' e) (hh : vOp C ops obs i K e) : vOp C ops obs i K' e := by
 unfold vOp at *
 split
 ·rename_i ho; simp only [ho] at hh; exact h _ hh
 ·rename_i o ho; simp only [ho] at hh; exact let ⟨x, h1, h2⟩ := hh; ⟨x, h1, h _ h2⟩
theorem YV.vOp {i : Nat} {o : Oper} {x : SV} {e : Env} (hi : ops[i]? = some o) (hy : YV C ops obs o x e) {K : Env → Prop} (h : K (upd e o.dst x)) : vOp C ops obs i K e := by
 unfold Vm.vOp
 simp only [hi]
 exact ⟨x, hy, h⟩
theorem vOp_put {j : Nat} {oi oj : Oper} {x : SV} (hj : ops[j]? = some oj) (hap : oi.apart ops oj = true) {K : Env → Prop} {e : Env}
  (hy : YV C ops obs oi x e) (h : vOp C ops obs j K (upd e oi.dst x)) : vOp C ops obs j (fun e' => YV C ops obs oi x e' ∧ K (upd e' oi.dst x)) e := by
 obtain ⟨h1, h2, h3⟩ := Oper.apart_spec hap
 unfold vOp at *
 simp only [hj] at *
 obtain ⟨y, hyj, hK⟩ := h
 refine ⟨y, hyj.congr fun t ht => (upd_ne fun k hk e => h1 k hk (e ▸ ht)).symm, hy.congr fun t ht => upd_ne fun k hk e => h3 k hk (e ▸ ht), ?_⟩
 rwa [upd_comm (fun i hi => fun hk => h2 i hi hk)] at hK

theorem wpOp_of_vOp {i : Nat} {K : Env → Prop} {K' : Act → World → Prop} {Q' : Exit → Act → World → Prop} {l : List (Nat × SV)}
  (h : ∀ (l' : List (Nat × SV)), K (get l') → ∀ Ω a w, Rel C ⟨l', obs⟩ Ω a w → K' a w) (hh : vOp C ops obs i K (get l)) {Ω : List Value} {a : Act} {w : World} (hr : Rel C ⟨l, obs⟩ Ω a w) : wpOp C.P ops Q' i K' a w := by
 unfold vOp at hh
 unfold wpOp
 split
 ·rename_i ho; simp only [ho] at hh; exact h l hh Ω a w hr
 ·rename_i o ho
  simp only [ho] at hh
  obtain ⟨x, hy, hK⟩ := hh
  rcases hy with ⟨h1, h2⟩ | ⟨h1, rfl, h2⟩
  ·rw [if_pos (by rw [wantE_wanted h1 hr])]
   refine .inl (wp_monoQ (fun a' w' ⟨l', Ω', hg, hr'⟩ => h l' (by rw [hg]; exact hK) Ω' a' w' hr') (fun _ _ _ _ h => h.elim) (h2 l (fun _ _ => rfl) Ω a w hr))
  ·rw [if_neg (by rw [wantE_wanted h1 hr]; simp)]
   cases hd : o.dst with
   | none => rw [hd] at hK; exact h l hK Ω _ w (hr.putNone undef)
   | some d =>
    rw [hd] at hK
    exact h ((d, .d (.v undef)) :: l) (by rw [get_upd]; exact hK) Ω _ w (hr.put (h2 d hd) (.d _ _ (.v _)))

def wpAnyV (C : Ctx) (md : Region.Mode) (ops : Array Oper) (obs : List Ob) (n : Nat) (L : Array Bool → Env → Prop) : Nat → Array Bool → Env → Prop
 | 0, listed, e => L listed e
 | f + 1, listed, e => Region.ready md ops listed ≠ [] ∧ ∀ i ∈ Region.ready md ops listed, i < n ∧ vOp C ops obs i (wpAnyV C md ops obs n L f (listed.setIfInBounds i true)) e

theorem wpAny_of_V {n g : Nat} {L : Array Bool → Env → Prop} {Q' : Exit → Act → World → Prop} (hL : ∀ listed (l : List (Nat × SV)), L listed (get l) → ∀ Ω a w, Rel C ⟨l, obs⟩ Ω a w → wpAny C.P md ops Q' g listed a w) :
  ∀ (f : Nat) (listed : Array Bool) (l : List (Nat × SV)), wpAnyV C md ops obs n L f listed (get l) → ∀ Ω a w, Rel C ⟨l, obs⟩ Ω a w → wpAny C.P md ops Q' (f + g) listed a w
 | 0, listed, l, h, Ω, a, w, hr => by rw [Nat.zero_add]; exact hL _ _ h Ω a w hr
 | f + 1, listed, l, h, Ω, a, w, hr => by
  rw [show f + 1 + g = (f + g) + 1 by omega]
  exact ⟨fun h0 => absurd h0 h.1, fun i hi => wpOp_of_vOp (fun l' h' Ω a w hr => wpAny_of_V hL f _ l' h' Ω a w hr) (h.2 i hi).2 hr⟩

/-- While one of the first n is not yet listed, none of the others is ready. -/
def HeadFirst (md : Region.Mode) (ops : Array Oper) (n : Nat) : Prop := ∀ listed, HeadInv md ops n listed → ∀ i, i < n → listed.getD i true = false → ∀ j ∈ Region.ready md ops listed, j < n

theorem wpAnyV_first {n i : Nat} {oi : Oper} {v : SV} {L : Array Bool → Env → Prop} (hi : ops[i]? = some oi) (hF : HeadFirst md ops n) (hin : i < n)
  (hdone : ∀ listed a, L listed a → ∀ j ∈ Region.ready md ops listed, n ≤ j) :
  ∀ (f : Nat) (listed : Array Bool) (a : Env), HeadInv md ops n listed →
   (∀ j oj, ops[j]? = some oj → j ≠ i → listed.getD j true = false → (∀ e ∈ oj.after, Region.binds md e = true → e.on ≠ i) → oi.apart ops oj = true) →
   i ∈ Region.ready md ops listed → YV C ops obs oi v a →
   wpAnyV C md ops obs n L f (listed.setIfInBounds i true) (upd a oi.dst v) → wpAnyV C md ops obs n L (f + 1) listed a := by
 intro f
 induction f with
 | zero =>
  intro listed a inv _ hr hy H
  have hun := (mem_ready.1 hr).1
  refine ⟨fun h => (by rw [h] at hr; cases hr), fun j hj => ?_⟩
  have hjn : j < n := hF listed inv i hin hun j hj
  refine ⟨hjn, ?_⟩
  by_cases hji : j = i
  ·subst hji; exact hy.vOp hi H
  ·have := hdone _ _ H j (ready_mono hj hji)
   omega
 | succ f ih =>
  intro listed a inv hfree hr hy H
  have hun := (mem_ready.1 hr).1
  refine ⟨fun h => (by rw [h] at hr; cases hr), fun j hj => ?_⟩
  have hjn : j < n := hF listed inv i hin hun j hj
  refine ⟨hjn, ?_⟩
  by_cases hji : j = i
  ·subst hji; exact hy.vOp hi H
  ·have h1 := (H.2 j (ready_mono hj hji)).2
   obtain ⟨hjun, oj, hoj, hall⟩ := mem_ready.1 hj
   have hnot : ∀ e ∈ oj.after, Region.binds md e = true → e.on ≠ i := fun e he hb heq => by
    have h1 := hall e he hb
    rw [heq, getD_both hun] at h1
    cases h1
   have h2 := vOp_put hoj (hfree j oj hoj hji hjun hnot) hy h1
   have hfree' : ∀ k ok, ops[k]? = some ok → k ≠ i → (listed.setIfInBounds j true).getD k true = false →
     (∀ e ∈ ok.after, Region.binds md e = true → e.on ≠ i) → oi.apart ops ok = true := fun k ok hk hki hun hno => by
    refine hfree k ok hk hki ?_ hno
    by_cases hjk : j = k
    ·subst hjk; exact hjun
    ·rw [getD_set_ne true hjk] at hun; exact hun
   refine vOp_mono (fun a' h3 => ih (listed.setIfInBounds j true) a' (inv.set hj hjn) hfree' (ready_mono hr (Ne.symm hji)) h3.1 ?_) h2
   rw [Array.setIfInBounds_comm _ _ hji]
   exact h3.2

/-- The walk of the first n, in the order of the text. -/
def AD (C : Ctx) (ops : Array Oper) : List Oper → St → (St → Prop) → Prop
 | [], s, K => K s
 | o :: rest, s, K => ∃ x l', YV C ops s.obs o x (get s.env) ∧ get l' = upd (get s.env) o.dst x ∧ AD C ops rest ⟨l', s.obs⟩ K

theorem wpAnyV_lex {n g : Nat} {K : St → Prop} (hF : HeadFirst md ops n) :
  ∀ (l : List Oper) (k : Nat) (listed : Array Bool) (e : List (Nat × SV)), (∀ j, j < l.length → l[j]? = ops[k + j]?) → k + l.length = n → HeadInv md ops n listed →
  Region.lexHead md ops g l.length k listed = true → AD C ops l ⟨e, obs⟩ K →
  wpAnyV C md ops obs n (fun listed' a' => Region.seqB md ops g n listed' = true ∧ ∃ l', a' = get l' ∧ K ⟨l', obs⟩) l.length listed (get e)
 | [], k, listed, e, _, hk, _, hB, h => by
  have : k = n := by simpa using hk
  subst this
  exact ⟨by simpa [Region.lexHead] using hB, e, rfl, h⟩
 | o :: l, k, listed, e, hl, hk, inv, hB, h => by
  have h0 : ops[k]? = some o := by simpa using (hl 0 (by simp)).symm
  simp only [List.length_cons, Region.lexHead, Bool.and_eq_true] at hB
  obtain ⟨⟨hr, hf⟩, hB'⟩ := hB
  have hkn : k < n := by simp only [List.length_cons] at hk; omega
  have hr' : k ∈ Region.ready md ops listed := by simpa using hr
  obtain ⟨x, l', hy, hg, hK⟩ := h
  refine wpAnyV_first h0 hF hkn (fun listed' a' hL => seqB_ready hL.1) l.length listed _ inv (Region.free_spec h0 hf) hr' hy ?_
  rw [← hg]
  exact wpAnyV_lex hF l (k + 1) _ l' (fun j hj => by have := hl (j + 1) (by simp; omega); simpa [Nat.add_assoc, Nat.add_comm 1 j] using this) (by simp only [List.length_cons] at hk; omega) (inv.set hr' hkn) hB' hK

def headFirstB (ops : Array Oper) (n : Nat) : Bool := (n == ops.size) || (decide (n < ops.size) && Region.sinkB .any ops n && Region.chainB .any ops n)
def drawB (ops : Array Oper) (n : Nat) : Bool := decide (n ≤ ops.size) && headFirstB ops n && Region.lexHead .any ops (ops.size - n) n 0 (Array.replicate ops.size false)
theorem headFirst_of {n : Nat} (h : headFirstB ops n = true) : HeadFirst .any ops n := by
 simp only [headFirstB, Bool.or_eq_true, Bool.and_eq_true, beq_iff_eq, decide_eq_true_eq] at h
 intro listed inv i hi hun j hj
 rcases h with rfl | ⟨⟨h1, h2⟩, h3⟩
 ·obtain ⟨_, o, ho, _⟩ := mem_ready.1 hj
  exact (Array.getElem?_eq_some_iff.1 ho).1
 ·rcases Nat.lt_or_ge j n with h | h
  ·exact h
  ·exact absurd hj (tail_waits h2 h3 h1 inv _ i rfl hi hun j h)

theorem Rel.drew {s : St} {Ω : List Value} {a : Act} {w : World} (h : Rel C s Ω a w) : Rel C s Ω a { w with drawn := w.drawn + 1 } := by
 have hb : RowKit.Below w.heap.size w { w with drawn := w.drawn + 1 } := ⟨rfl, rfl, rfl, Nat.le_refl _, fun _ _ => rfl⟩
 obtain ⟨hm, hok⟩ := h.mem.below hb
 exact ⟨h.defers, h.size, fun t x hx => let ⟨v, h1, h2⟩ := h.env t x hx; ⟨v, h1, h2.mono hok fun _ _ e => e⟩, hm⟩

/-- A region that draws its order: the first n as 'AD' says, then the others, one behind the other. -/
theorem AC.draw {id : Nat} {l : List Oper} {s : St} {Q : Exit → St → Prop} (n : Nat) (hm : C.P.follows .mixedOrders = true) (hB : drawB l.toArray n = true)
  (h : AD C l.toArray (l.take n) s (fun s' => AO C l.toArray (l.drop n) s' Q)) : AC C (.region id l.toArray true) s Q := fun Ω a w hr => by
 simp only [drawB, Bool.and_eq_true, decide_eq_true_eq] at hB
 obtain ⟨⟨hn, hf⟩, hlex⟩ := hB
 have hn' : n ≤ l.length := by simpa using hn
 have htl : (l.take n).length = n := by simp; omega
 have hdl : (l.drop n).length = l.toArray.size - n := by simp
 have inv0 : HeadInv .any l.toArray n (Array.replicate l.toArray.size false) :=
  ⟨by simp, fun j oj _ hl => (by rw [getD_replicate_false] at hl; cases hl), fun t _ ht => getD_in (by simpa using ht) (getD_replicate_false _ _)⟩
 have H := wpAnyV_lex (md := .any) (g := l.toArray.size - n) (headFirst_of hf) (l.take n) 0 _ s.env (fun j hj => by
  have hj' : j < n := by rw [htl] at hj; exact hj
  simp [hj']) (by simpa using htl) inv0 (by rw [htl]; exact hlex) h
 refine wp_region_any hm ?_
 have := wpAny_of_V (Q' := Lift C Q) (g := l.toArray.size - n) (fun listed e hL Ω a w hr => by
  obtain ⟨h1, l', he, hK⟩ := hL
  have := wpAny_of_seq (md := .any) (Q' := Lift C Q) (l.drop n) n listed a w (fun j => by simp [List.getElem?_drop]) (by rw [hdl]; exact h1) (hK Ω a w (hr.congr fun t x hx => by rw [he]; exact hx))
  rwa [hdl] at this) _ _ _ H Ω a _ hr.drew
 rw [htl, show n + (l.toArray.size - n) = l.toArray.size by omega] at this
 exact this

end
theorem Rel.freeze {C : Ctx} {s : St} {Ω : List Value} {a : Act} {w : World} (h : Rel C s Ω a w) (ty : TypeId) (cells : List SV) (vs : List Value) (hl : vs.length = cells.length)
  (hr : ∀ (i : Nat) x y, cells[i]? = some x → vs[i]? = some y → RepS w (okB C s.obs Ω w) Ω x y) (h1 : ∀ y, y ∈ vs → y.oneCell' = true) {ys : List D} (hy : mapO (dataS 9) cells = some ys) :
  Rel C s Ω a (w.alloc (.cells vs.toArray ty)) ∧ ys.length = cells.length ∧
   (∀ (i : Nat) x v, ys[i]? = some x → vs[i]? = some v → RepD (w.alloc (.cells vs.toArray ty)) (okB C s.obs Ω (w.alloc (.cells vs.toArray ty))) x v ∧ (w.alloc (.cells vs.toArray ty)).cell? ⟨w.heap.size, i, none⟩ = some v) ∧
   okB C s.obs Ω (w.alloc (.cells vs.toArray ty)) w.heap.size := by
 have hb : RowKit.Below w.heap.size w (w.alloc (.cells vs.toArray ty)) := ⟨rfl, rfl, rfl, by simp, fun k hk => heap_alloc_old w _ hk⟩
 obtain ⟨hyl, hyi⟩ := mapO_get hy
 refine ⟨h.below hb, hyl, fun i x v hx hv => ?_, ⟨.inr (.inl h.mem.fr.size), by simp, fun o ob k e1 l e2 hbk => ?_⟩⟩
 ·have hlt := (List.getElem?_eq_some_iff.1 hx).1
  have hc : cells[i]? = some (cells[i]'(by omega)) := List.getElem?_eq_getElem _
  refine ⟨(dataS_rep 9 (hyi i _ _ hc hx) (hr i _ _ hc hv)).mono fun b hb' => (h.mem.below hb).2 b hb', ?_⟩
  unfold World.cell?
  rw [heap_alloc_new w _]
  simpa using hv
 ·have := (h.mem.obj o ob k e1 e2).lt l hbk
  omega
section
variable {C : Ctx} {Q : Exit → St → Prop} {ops : Array Oper} {rest : List Oper} {o : Oper} {e : List (Nat × SV)} {obs : List Ob} {d : Nat}
theorem fillS_len {f : Nat → Option (Nat × Nat)} : ∀ {ps : List (Nat × SV)} {l r : List SV}, fillS f l ps = some r → r.length = l.length
 | [], l, r, h => by cases h; rfl
 | (i, x) :: ps, l, r, h => by
  simp only [fillS] at h
  split at h
  ·cases h
  ·split at h
   ·rename_i hc
    rw [fillS_len h]
    simp
    omega
   ·cases h
/-- The same; its capacity is its length. -/
theorem AOp.buildSliceF {t el sz len : Nat} {parts : List (Nat × Operand)} {ps : List (Nat × SV)} {z : Value} {r : List SV} {ys : List D} (ho : o.op = .buildSlice t len parts.toArray) (hd : o.dst = some d) (hn : d < C.n)
  (ht : elemT C.P t = some (el, sz)) (hz : (C.P.info? el).map (·.zero) = some (some z)) (h1 : z.cells.toList.all (·.oneCell') = true) (hb : len * sz ≤ 16777216) (hzs : z.cells.size = sz)
  (hx : mapO (partS ⟨e, obs⟩) parts = some ps) (hf : fillS (fun i => some (i * sz, sz)) ((List.range (len * sz)).map fun i => .d (.v (z.cells.toList.getD (i % sz) undef))) ps = some r)
  (hys : mapO (dataS 9) r = some ys) (h : AO C ops rest ⟨(d, .full sz ys) :: e, obs⟩ Q) : AOp C ops rest o ⟨e, obs⟩ Q := by
 refine AOp.step hd hn (fun Ω a w hr => ?_) h
 obtain ⟨hu, hs⟩ := elemT_spec ht
 obtain ⟨hl, hp⟩ := hr.parts hx
 have hzlt : ∀ (i : Nat), i < len * sz → i % sz < z.cells.size := fun i hi => by
  rw [hzs]
  exact Nat.mod_lt _ (Nat.pos_of_ne_zero fun h0 => by subst h0; simp at hi)
 have hget : ∀ (i : Nat), i < len * sz → z.cells[i % z.cells.size]! = z.cells.toList.getD (i % sz) undef ∧ z.cells[i % z.cells.size]! ∈ z.cells.toList := fun i hi => by
  have hlt := hzlt i hi
  have hlt2 : i % z.cells.size < z.cells.size := by rw [hzs] at hlt ⊢; exact hlt
  rw [getElem!_pos z.cells _ hlt2]
  refine ⟨?_, by simp⟩
  have : z.cells.toList[i % sz]? = some z.cells[i % z.cells.size] := by simp [hzs]
  rw [List.getD_eq_getElem?_getD, this]; rfl
 obtain ⟨vs, hfill, hvl, hvr, hv1⟩ := fillS_rep ps _ _ r ((Array.range (len * sz)).map fun i => z.cells[i % z.cells.size]!) hf hl hp (by simp) (fun i p q hp hq => by
  have hi : i < len * sz := by have := (List.getElem?_eq_some_iff.1 hp).1; simpa using this
  have e1 : ((List.range (len * sz)).map fun i => (SV.d (.v (z.cells.toList.getD (i % sz) undef))))[i]? = some (.d (.v (z.cells.toList.getD (i % sz) undef))) := by simp [hi]
  rw [e1] at hp; cases hp
  have e2 : ((Array.range (len * sz)).map fun i => z.cells[i % z.cells.size]!).toList[i]? = some (z.cells[i % z.cells.size]!) := by simp [hi]
  rw [e2] at hq; cases hq
  rw [(hget i hi).1]
  exact .d _ _ (.v _)) (fun y hy => by
   simp only [Array.toList_map, Array.toList_range, List.mem_map, List.mem_range] at hy
   obtain ⟨i, hi, rfl⟩ := hy
   exact List.all_eq_true.1 h1 _ (hget i hi).2)
 obtain ⟨hal, hlen, hfr, hok⟩ := hr.freeze el r vs.toList (by simpa using hvl) hvr hv1 hys
 refine ⟨.slice (some ⟨w.heap.size, 0, none⟩) len len, _, Ω, ?_, hal, .full _ _ _ _ (.ds _ _ _ _ _ _ (fun i => vs.toList.getD i undef) (by rw [hlen, fillS_len hf]; simp) (Nat.le_refl _) hok (fun i hi => ?_) (fun i x hx => ?_))⟩
 ·simp only [execOp, ho, Instr.buildSlice, Sem.run_bind, run_underlying hu, Result.andThen_ok, run_sizeOf hs, List.map_toArray, Sem.run_ite]
  rw [if_neg (by omega)]
  by_cases h0 : len * sz = 0
  ·simp only [h0, if_true, Sem.run_pure, Result.andThen_ok]
   have e0 : ((Array.range 0).map fun i => (#[] : Array Value)[i % (#[] : Array Value).size]!) = #[] := by simp
   rw [h0] at hfill
   have e1 : ((Array.range 0).map fun i => z.cells[i % z.cells.size]!) = #[] := by simp
   rw [e1] at hfill
   rw [e0, hfill]
   simp [newRow]
  ·simp only [h0, if_false, run_zero hz, Sem.run_pure, Sem.run_bind, Result.andThen_ok, hfill, newRow, run_newObj]
   simp
 ·have hi' : i < vs.toList.length := by rw [hlen] at hi; simpa using hvl ▸ hi
  have hv : vs.toList[i]? = some vs.toList[i] := List.getElem?_eq_getElem hi'
  have hy : ys[i]? = some ys[i] := List.getElem?_eq_getElem hi
  rw [Nat.zero_add, (hfr i _ _ hy hv).2]
  rw [List.getD_eq_getElem?_getD, hv]; rfl
 ·have hi := (List.getElem?_eq_some_iff.1 hx).1
  have hi' : i < vs.toList.length := by rw [hlen] at hi; simpa using hvl ▸ hi
  have hv : vs.toList[i]? = some vs.toList[i] := List.getElem?_eq_getElem hi'
  have := (hfr i _ _ hx hv).1
  rw [List.getD_eq_getElem?_getD, hv]; exact this
theorem AOp.buildSliceD {t el sz len : Nat} {parts : List (Nat × Operand)} {ps : List (Nat × SV)} {z : Value} {r : List SV} {ys : List D} (ho : o.op = .buildSlice t len parts.toArray) (hd : o.dst = some d) (hn : d < C.n)
  (ht : elemT C.P t = some (el, sz)) (hz : (C.P.info? el).map (·.zero) = some (some z)) (h1 : z.cells.toList.all (·.oneCell') = true) (hb : len * sz ≤ 16777216) (hzs : z.cells.size = sz)
  (hx : mapO (partS ⟨e, obs⟩) parts = some ps) (hf : fillS (fun i => some (i * sz, sz)) ((List.range (len * sz)).map fun i => .d (.v (z.cells.toList.getD (i % sz) undef))) ps = some r)
  (hys : mapO (dataS 9) r = some ys) (h : AO C ops rest ⟨(d, .d (.ds sz ys)) :: e, obs⟩ Q) : AOp C ops rest o ⟨e, obs⟩ Q := by
 refine AOp.step hd hn (fun Ω a w hr => ?_) h
 obtain ⟨hu, hs⟩ := elemT_spec ht
 obtain ⟨hl, hp⟩ := hr.parts hx
 have hzlt : ∀ (i : Nat), i < len * sz → i % sz < z.cells.size := fun i hi => by
  rw [hzs]
  exact Nat.mod_lt _ (Nat.pos_of_ne_zero fun h0 => by subst h0; simp at hi)
 have hget : ∀ (i : Nat), i < len * sz → z.cells[i % z.cells.size]! = z.cells.toList.getD (i % sz) undef ∧ z.cells[i % z.cells.size]! ∈ z.cells.toList := fun i hi => by
  have hlt := hzlt i hi
  have hlt2 : i % z.cells.size < z.cells.size := by rw [hzs] at hlt ⊢; exact hlt
  rw [getElem!_pos z.cells _ hlt2]
  refine ⟨?_, by simp⟩
  have : z.cells.toList[i % sz]? = some z.cells[i % z.cells.size] := by simp [hzs]
  rw [List.getD_eq_getElem?_getD, this]; rfl
 obtain ⟨vs, hfill, hvl, hvr, hv1⟩ := fillS_rep ps _ _ r ((Array.range (len * sz)).map fun i => z.cells[i % z.cells.size]!) hf hl hp (by simp) (fun i p q hp hq => by
  have hi : i < len * sz := by have := (List.getElem?_eq_some_iff.1 hp).1; simpa using this
  have e1 : ((List.range (len * sz)).map fun i => (SV.d (.v (z.cells.toList.getD (i % sz) undef))))[i]? = some (.d (.v (z.cells.toList.getD (i % sz) undef))) := by simp [hi]
  rw [e1] at hp; cases hp
  have e2 : ((Array.range (len * sz)).map fun i => z.cells[i % z.cells.size]!).toList[i]? = some (z.cells[i % z.cells.size]!) := by simp [hi]
  rw [e2] at hq; cases hq
  rw [(hget i hi).1]
  exact .d _ _ (.v _)) (fun y hy => by
   simp only [Array.toList_map, Array.toList_range, List.mem_map, List.mem_range] at hy
   obtain ⟨i, hi, rfl⟩ := hy
   exact List.all_eq_true.1 h1 _ (hget i hi).2)
 obtain ⟨hal, hlen, hfr, hok⟩ := hr.freeze el r vs.toList (by simpa using hvl) hvr hv1 hys
 refine ⟨.slice (some ⟨w.heap.size, 0, none⟩) len len, _, Ω, ?_, hal, .d _ _ (.ds _ _ _ _ _ _ (fun i => vs.toList.getD i undef) (by rw [hlen, fillS_len hf]; simp) (Nat.le_refl _) hok (fun i hi => ?_) (fun i x hx => ?_))⟩
 ·simp only [execOp, ho, Instr.buildSlice, Sem.run_bind, run_underlying hu, Result.andThen_ok, run_sizeOf hs, List.map_toArray, Sem.run_ite]
  rw [if_neg (by omega)]
  by_cases h0 : len * sz = 0
  ·simp only [h0, if_true, Sem.run_pure, Result.andThen_ok]
   have e0 : ((Array.range 0).map fun i => (#[] : Array Value)[i % (#[] : Array Value).size]!) = #[] := by simp
   rw [h0] at hfill
   have e1 : ((Array.range 0).map fun i => z.cells[i % z.cells.size]!) = #[] := by simp
   rw [e1] at hfill
   rw [e0, hfill]
   simp [newRow]
  ·simp only [h0, if_false, run_zero hz, Sem.run_pure, Sem.run_bind, Result.andThen_ok, hfill, newRow, run_newObj]
   simp
 ·have hi' : i < vs.toList.length := by rw [hlen] at hi; simpa using hvl ▸ hi
  have hv : vs.toList[i]? = some vs.toList[i] := List.getElem?_eq_getElem hi'
  have hy : ys[i]? = some ys[i] := List.getElem?_eq_getElem hi
  rw [Nat.zero_add, (hfr i _ _ hy hv).2]
  rw [List.getD_eq_getElem?_getD, hv]; rfl
 ·have hi := (List.getElem?_eq_some_iff.1 hx).1
  have hi' : i < vs.toList.length := by rw [hlen] at hi; simpa using hvl ▸ hi
  have hv : vs.toList[i]? = some vs.toList[i] := List.getElem?_eq_getElem hi'
  have := (hfr i _ _ hx hv).1
  rw [List.getD_eq_getElem?_getD, hv]; exact this
end
section
variable {C : Ctx} {ops : Array Oper} {obs : List Ob} {md : Region.Mode}
/-- What the slots are that o looks at. -/
def looksB (ops : Array Oper) (o : Oper) (ks : List Nat) : Bool := (o.looksAt ops).all (ks.contains ·) && ks.all ((o.looksAt ops).contains ·)

theorem keep_get' : ∀ {ks : List Nat} {e L : List (Nat × SV)}, keep ks e = some L → ∀ t, (t ∈ ks → get L t = get e t ∧ (get e t).isSome) ∧ (t ∉ ks → get L t = none)
 | [], e, L, h, t => by cases h; exact ⟨fun h => by simp at h, fun _ => rfl⟩
 | k :: ks, e, L, h, t => by
  simp only [keep] at h
  split at h
  ·rename_i x hx
   split at h
   ·rename_i r hr
    cases h
    have ih := keep_get' hr t
    constructor
    ·intro ht
     simp only [get]
     by_cases hk : k = t
     ·subst hk; rw [if_pos rfl, hx]; exact ⟨rfl, rfl⟩
     ·rw [if_neg hk]; exact ih.1 (by simpa [Ne.symm hk] using ht)
    ·intro ht
     simp only [get]
     rw [if_neg (fun e => ht (by simp [e]))]
     exact ih.2 (fun h => ht (by simp [h]))
   ·cases h
  ·cases h
theorem get_append (L e : List (Nat × SV)) (t : Nat) : get (L ++ e) t = match get L t with | some x => some x | none => get e t := by
 induction L with
 | nil => rfl
 | cons p L ih =>
  obtain ⟨k, x⟩ := p
  simp only [List.cons_append, get]
  split
  ·rfl
  ·exact ih

/-- One operation gives x wherever what it looks at is as L says. -/
def Gives (C : Ctx) (ops : Array Oper) (obs : List Ob) (o : Oper) (L : List (Nat × SV)) (d : Nat) (x : SV) : Prop :=
 ∀ (e : List (Nat × SV)) (Q : Exit → St → Prop), AO C ops [] ⟨(d, x) :: (L ++ e), obs⟩ Q → AOp C ops [] o ⟨L ++ e, obs⟩ Q

theorem VQ.of {o : Oper} {ks : List Nat} {e L : List (Nat × SV)} {d : Nat} {x : SV} (hk : keep ks e = some L) (hl : looksB ops o ks = true) (hd : o.dst = some d) (h : Gives C ops obs o L d x) : VQ C ops obs o x (get e) := by
 intro l hg Ω a w hr
 simp only [looksB, Bool.and_eq_true, List.all_eq_true, List.contains_iff_mem] at hl
 have hsame : ∀ t, get (L ++ l) t = get l t := fun t => by
  rw [get_append]
  by_cases ht : t ∈ ks
  ·obtain ⟨h1, h2⟩ := (keep_get' hk t).1 ht
   rw [h1]
   have := hg t (hl.2 t ht)
   rw [this]
   cases get e t <;> rfl
  ·rw [(keep_get' hk t).2 ht]
 have hr' : Rel C ⟨L ++ l, obs⟩ Ω a w := hr.congr fun t y hy => by rw [← hsame t]; exact hy
 have H := h l (fun ed s => ed = .normal ∧ s = ⟨(d, x) :: (L ++ l), obs⟩) (AO.nil ⟨rfl, rfl⟩) Ω a w hr'
 refine wp_monoQ (fun a' w' hq => ?_) (fun ed a' w' hne hq => ?_) H
 ·obtain ⟨s, Ω', hr2, _, hs⟩ := hq
  subst hs
  refine ⟨_, Ω', ?_, hr2⟩
  rw [hd, get_upd]
  congr 1
  funext t; exact hsame t
 ·obtain ⟨s, Ω', _, he, _⟩ := hq
  exact hne he

variable {rest r : List Oper} {o : Oper} {e L : List (Nat × SV)} {d j dj : Nat} {x : SV} {want b : Bool} {K : St → Prop} {Q : Exit → St → Prop}

theorem AD.done {s : St} (h : AO C ops r s Q) : AD C ops [] s (fun s' => AO C ops r s' Q) := h
theorem AD.op (ks : List Nat) (hg : o.guard = none) (hl : looksB ops o ks = true) (hk : keep ks e = some L) (hd : o.dst = some d) (hv : Gives C ops obs o L d x)
  (h : AD C ops rest ⟨(d, x) :: e, obs⟩ K) : AD C ops (o :: rest) ⟨e, obs⟩ K :=
 ⟨x, (d, x) :: e, .inl ⟨by unfold wantE; rw [hg], VQ.of hk hl hd hv⟩, by rw [hd, get_upd], h⟩
theorem AD.opY (ks : List Nat) (hg : o.guard = some (j, want)) (hj : ((ops[j]?).bind (·.dst)) = some dj) (hx : get e dj = some (.d (.v (.bool b)))) (hb : b = want)
  (hl : looksB ops o ks = true) (hk : keep ks e = some L) (hd : o.dst = some d) (hv : Gives C ops obs o L d x)
  (h : AD C ops rest ⟨(d, x) :: e, obs⟩ K) : AD C ops (o :: rest) ⟨e, obs⟩ K :=
 ⟨x, (d, x) :: e, .inl ⟨by unfold wantE; rw [hg]; simp only [hj]; show (match get e dj with | some (.d (.v (.bool b))) => some (b == want) | some (.d (.v (.tuple _))) => some false | _ => none) = _; rw [hx]; simp [hb], VQ.of hk hl hd hv⟩, by rw [hd, get_upd], h⟩
theorem AD.opN (hg : o.guard = some (j, want)) (hj : ((ops[j]?).bind (·.dst)) = some dj) (hd : o.dst = some d) (hn : d < C.n) (hx : get e dj = some (.d (.v (.bool b)))) (hb : b = (!want))
  (h : AD C ops rest ⟨(d, .d (.v undef)) :: e, obs⟩ K) : AD C ops (o :: rest) ⟨e, obs⟩ K :=
 ⟨.d (.v undef), _, .inr ⟨by unfold wantE; rw [hg]; simp only [hj]; show (match get e dj with | some (.d (.v (.bool b))) => some (b == want) | some (.d (.v (.tuple _))) => some false | _ => none) = _; rw [hx]; simp [hb], rfl, fun k hk => by rw [hd] at hk; cases hk; exact hn⟩, by rw [hd, get_upd], h⟩
/-- What a guard looks at is not known: both are gone through. -/
theorem AD.split {l : List Oper} (dj : Nat) (want : Bool) (hx : get e dj = some (.d (.v (.bool b)))) (hyes : b = want → AD C ops l ⟨e, obs⟩ K) (hno : b = (!want) → AD C ops l ⟨e, obs⟩ K) : AD C ops l ⟨e, obs⟩ K := by
 by_cases hb : b = want
 ·exact hyes hb
 ·exact hno (by cases b <;> cases want <;> simp_all)

end
end Go.Vm

/- Struct values are compared field by field; min and max of floats. -/
namespace Go.Vm
set_option linter.unusedVariables false
set_option linter.unusedSimpArgs false

def eq1 (k : TypeDesc) (xs ys : List Value) : Option Bool := match k, xs, ys with
 | .bool, [.bool a], [.bool b] => some (a == b)
 | .int k, [.int j a], [.int l b] => if j = k ∧ l = k then some (decide (a = b)) else none
 | .float .f64, [.float .f64 a], [.float .f64 b] => some (feq a b)
 | _, _, _ => none
def and2 : Option Bool → Option Bool → Option Bool
 | some a, some b => some (a && b)
 | _, _ => none
/-- Are the cells those of equal values of type t? -/
def eqT (P : Program) : Nat → TypeId → List Value → List Value → Option Bool
 | 0, _, _, _ => none
 | n + 1, t, xs, ys => match P.underlying t with
  | some (.struct fs) => if P.stoodInHeld t = true then none else
    fs.toList.foldr (fun f r => if f.name ≠ "_" then
     match sizeT P f.type with
     | some s => and2 (eqT P n f.type ((xs.drop f.offset).take s) ((ys.drop f.offset).take s)) r
     | none => none
    else r) (some true)
  | some (.array len e) => match sizeT P e with
    | some s => (List.range len).foldr (fun i r => and2 (eqT P n e ((xs.drop (i * s)).take s) ((ys.drop (i * s)).take s)) r) (some true)
    | none => none
  | some k => eq1 k xs ys
  | none => none

def valT (P : Program) (t : TypeId) (xs : List Value) : Value := if aggT P t = some true then .agg xs.toArray else xs.getD 0 undef

/-- The cells of a struct of plain values. -/
def plD : D → Option Value
 | .v v => some v
 | _ => none
def plS : SV → Option Value
 | .d (.v v) => some v
 | _ => none
def flatA : SV → Option (List Value)
 | .d (.ag l) => mapO plD l
 | .ag l => mapO plS l
 | _ => none
section
variable {C : Ctx} {Q : Exit → St → Prop} {ops : Array Oper} {rest : List Oper} {o : Oper} {e : List (Nat × SV)} {obs : List Ob} {d : Nat} {t ty : TypeId} {x y : Operand}
/-- min and max of two floats of which neither is no number. -/
def bmin (a b : Nat) : Nat := match FloatKind.f64.format.order a b with
 | some .lt => a
 | some .gt => b
 | _ => if (FloatKind.f64.decode a).neg then a else b
def bmax (a b : Nat) : Nat := match FloatKind.f64.format.order a b with
 | some .lt => b
 | some .gt => a
 | _ => if (FloatKind.f64.decode a).neg then b else a
theorem run_imin {P : Program} {k : IntKind} {a b : Int} (ts : Array TypeId) (t : TypeId) (w : World) :
  (Builtin.min_ ts t #[.int k a, .int k b]).run P w = .ok (.int k (if b < a then b else a)) w := by
 simp [Builtin.min_, Builtin.min2]
theorem AOp.imin {k : IntKind} {a b : Int} {ts : Array TypeId} (ho : o.op = .call { callee := .builtin .min, args := #[x, y], argTypes := ts }) (hd : o.dst = some d) (hn : d < C.n)
  (hx : opS ⟨e, obs⟩ x = some (.d (di k a))) (hy : opS ⟨e, obs⟩ y = some (.d (di k b)))
  (h : AO C ops rest ⟨(d, .d (di k (if b < a then b else a))) :: e, obs⟩ Q) : AOp C ops rest o ⟨e, obs⟩ Q :=
 AOp.value hd hn (fun Ω a' w hr => ⟨_, by simp [execOp, ho, hr.evalV hx, hr.evalV hy, resolve, invoke, builtin, run_imin], .d _ _ (.v _)⟩) h
theorem run_imax {P : Program} {k : IntKind} {a b : Int} (ts : Array TypeId) (t : TypeId) (w : World) :
  (Builtin.max_ ts t #[.int k a, .int k b]).run P w = .ok (.int k (if a < b then b else a)) w := by
 simp [Builtin.max_, Builtin.max2]
theorem AOp.imax {k : IntKind} {a b : Int} {ts : Array TypeId} (ho : o.op = .call { callee := .builtin .max, args := #[x, y], argTypes := ts }) (hd : o.dst = some d) (hn : d < C.n)
  (hx : opS ⟨e, obs⟩ x = some (.d (di k a))) (hy : opS ⟨e, obs⟩ y = some (.d (di k b)))
  (h : AO C ops rest ⟨(d, .d (di k (if a < b then b else a))) :: e, obs⟩ Q) : AOp C ops rest o ⟨e, obs⟩ Q :=
 AOp.value hd hn (fun Ω a' w hr => ⟨_, by simp [execOp, ho, hr.evalV hx, hr.evalV hy, resolve, invoke, builtin, run_imax], .d _ _ (.v _)⟩) h
end
end Go.Vm

/- min and max of floats that are numbers. -/
namespace Flt
open Go Go.Vm Ieee
set_option linter.unusedVariables false
set_option linter.unusedSimpArgs false

def archP (neg : Bool) (win : Ordering) (x y : Nat) : Nat :=
 let a := FloatKind.f64.decode x
 let b := FloatKind.f64.decode y
 if a == .infinity neg || b == .infinity neg then FloatKind.f64.encode (.infinity neg)
 else if a.isNaN || b.isNaN then 0x7FF8000000000001
 else if a.isZero && b.isZero then (if a.neg == neg then x else y)
 else if a.order b == some win then x else y
def amin (x y : Nat) : Nat := archP true .lt x y
def amax (x y : Nat) : Nat := archP false .gt x y
theorem run_archMin (P : Program) (x y : Nat) (w : World) : (Extern.MathDim.pick "math.archMin" true .lt #[.float .f64 x, .float .f64 y]).run P w = .ok (.float .f64 (amin x y)) w := rfl
theorem run_archMax (P : Program) (x y : Nat) (w : World) : (Extern.MathDim.pick "math.archMax" false .gt #[.float .f64 x, .float .f64 y]).run P w = .ok (.float .f64 (amax x y)) w := rfl

theorem ord_some {x y : Nat} {p q : Rat} (hx : V x = some p) (hy : V y = some q) : (FloatKind.f64.format.order x y).isSome = true := by
 show (double.order x y).isSome = true
 rw [order_val hx hy]; rfl
theorem ord_cases {x y : Nat} {p q : Rat} (hx : V x = some p) (hy : V y = some q) :
  (p < q ∧ double.order x y = some .lt) ∨ (p = q ∧ double.order x y = some .eq) ∨ (q < p ∧ double.order x y = some .gt) := by
 have h1 := order_lt hx hy
 have h2 := order_eq hx hy
 have h3 := order_gt hx hy
 have hs := ord_some hx hy
 change (double.order x y).isSome = true at hs
 cases ho : double.order x y with
 | none => rw [ho] at hs; cases hs
 | some r =>
  rw [ho] at h1 h2 h3
  cases r
  ·exact .inl ⟨of_decide_eq_true (h1.symm.trans (by rfl)), rfl⟩
  ·exact .inr (.inl ⟨of_decide_eq_true (h2.symm.trans (by rfl)), rfl⟩)
  ·exact .inr (.inr ⟨of_decide_eq_true (h3.symm.trans (by rfl)), rfl⟩)
def rmin (p q : Rat) : Rat := if p ≤ q then p else q
def rmax (p q : Rat) : Rat := if p ≤ q then q else p
theorem zero_V {x : Nat} {p : Rat} (hx : V x = some p) (h : (double.read x).isZero = true) : p = 0 := by
 obtain ⟨s, m, i, hr, hv⟩ := V_num hx
 rw [hr] at h
 have : m = 0 := by
  cases m with
  | zero => rfl
  | succ m => cases h
 subst this
 rw [← hv]; unfold sg; cases s <;> simp <;> grind
theorem archP_V {neg : Bool} {win : Ordering} {x y : Nat} {p q : Rat} (hx : V x = some p) (hy : V y = some q) :
  archP neg win x y = (if (double.read x).isZero && (double.read y).isZero then (if (double.read x).neg == neg then x else y) else if double.order x y == some win then x else y) := by
 unfold archP
 change (if double.read x == .infinity neg || double.read y == .infinity neg then _ else _) = _
 obtain ⟨s, m, i, hr, hv⟩ := V_num hx
 obtain ⟨s2, m2, i2, hr2, hv2⟩ := V_num hy
 have e1 : (double.read x == .infinity neg) = false := by rw [hr]; rfl
 have e2 : (double.read y == .infinity neg) = false := by rw [hr2]; rfl
 have e3 : (double.read x).isNaN = false := by rw [hr]; rfl
 have e4 : (double.read y).isNaN = false := by rw [hr2]; rfl
 rw [e1, e2]
 simp only [Bool.or_self, Bool.false_eq_true, if_false]
 change (if (double.read x).isNaN || (double.read y).isNaN then _ else _) = _
 rw [e3, e4]
 simp only [Bool.or_self, Bool.false_eq_true, if_false]
 rfl
theorem amin_V {x y : Nat} {p q : Rat} (hx : V x = some p) (hy : V y = some q) : V (amin x y) = some (rmin p q) := by
 unfold amin rmin
 rw [archP_V hx hy]
 split
 ·rename_i h
  simp only [Bool.and_eq_true] at h
  have h1 := zero_V hx h.1
  have h2 := zero_V hy h.2
  subst h1; subst h2; rw [ite_self]; split <;> assumption
 ·rcases ord_cases hx hy with ⟨h, ho⟩ | ⟨h, ho⟩ | ⟨h, ho⟩ <;> rw [ho]
  ·rw [if_pos (by decide), if_pos (by grind)]; exact hx
  ·subst h; rw [if_neg (by decide), ite_self]; exact hy
  ·rw [if_neg (by decide), if_neg (by grind)]; exact hy
theorem amax_V {x y : Nat} {p q : Rat} (hx : V x = some p) (hy : V y = some q) : V (amax x y) = some (rmax p q) := by
 unfold amax rmax
 rw [archP_V hx hy]
 split
 ·rename_i h
  simp only [Bool.and_eq_true] at h
  have h1 := zero_V hx h.1
  have h2 := zero_V hy h.2
  subst h1; subst h2; rw [ite_self]; split <;> assumption
 ·rcases ord_cases hx hy with ⟨h, ho⟩ | ⟨h, ho⟩ | ⟨h, ho⟩ <;> rw [ho]
  ·rw [if_neg (by decide), if_pos (by grind)]; exact hy
  ·subst h; rw [if_neg (by decide), ite_self]; exact hy
  ·rw [if_pos (by decide), if_neg (by grind)]; exact hx
end Flt

/- Numbers n * 2^E among the floating ones. -/
namespace Flt
open Go Go.Vm Ieee
set_option linter.unusedVariables false

/-- x is n * 2^E. -/
def J (E : Int) (x : Nat) (n : Int) : Prop := V x = some ((n : Rat) * 2 ^ E)

theorem I.J {x : Nat} {n : Int} (h : I x n) : J 0 x n := by unfold Flt.J; rw [zpow_zero', Rat.mul_one]; exact h
theorem J.I {x : Nat} {n : Int} (h : J 0 x n) : I x n := by unfold Flt.J at h; rw [zpow_zero', Rat.mul_one] at h; exact h
theorem ab_mul {q c : Rat} (hc : 0 < c) : ab (q * c) = ab q * c := by
 unfold ab
 by_cases h : q < 0
 ·have : q * c < 0 := by
   have := Rat.mul_lt_mul_of_pos_right h hc
   rwa [Rat.zero_mul] at this
  rw [if_pos h, if_pos this]; grind
 ·have : ¬ q * c < 0 := by
   have := Rat.mul_nonneg (Rat.not_lt.1 h) (Rat.le_of_lt hc)
   exact Rat.not_lt.2 this
  rw [if_neg h, if_neg this]
theorem ab_dy {n E : Int} (h : n.natAbs ≤ 9007199254740992) (hE : E ≤ 900) : ab ((n : Rat) * 2 ^ E) < 2 ^ (1023 : Int) := by
 rw [ab_mul (zpow_pos E)]
 have h1 : ab (n : Rat) ≤ 2 ^ (53 : Int) := by
  have g1 : n ≤ 9007199254740992 := by omega
  have g2 : -9007199254740992 ≤ n := by omega
  have c1 : ((9007199254740992 : Int) : Rat) = 9007199254740992 := rfl
  have c2 : ((-9007199254740992 : Int) : Rat) = -9007199254740992 := by rw [Rat.intCast_neg, c1]
  have g1' : (n : Rat) ≤ 9007199254740992 := by rw [← c1]; exact Rat.intCast_le_intCast.2 g1
  have g2' : (-9007199254740992 : Rat) ≤ (n : Rat) := by rw [← c2]; exact Rat.intCast_le_intCast.2 g2
  have e3 : (2 : Rat) ^ (53 : Int) = 9007199254740992 := by decide
  rw [e3]
  unfold ab; split <;> grind
 have h2 := rat_scale (zpow_pos E) h1
 rw [← zpow_add] at h2
 have h3 : (2 : Rat) ^ (53 + E) ≤ 2 ^ (953 : Int) := zpow_le (by omega)
 have h4 : (2 : Rat) ^ (953 : Int) ≤ 2 ^ (1022 : Int) := zpow_le (by omega)
 have h5 := half 1023
 have h6 := zpow_pos 1022
 have e : (1023 : Int) - 1 = 1022 := by omega
 rw [e] at h5
 grind
theorem add_dy {E : Int} {x y : Nat} {m n : Int} (hx : J E x m) (hy : J E y n) (h : (m + n).natAbs ≤ 9007199254740992) (h1 : -1074 ≤ E) (h2 : E ≤ 900) : ∃ z, floatBits .add .f64 x y = some z ∧ J E z (m + n) := by
 have e : (m : Rat) * 2 ^ E + (n : Rat) * 2 ^ E = ((m + n : Int) : Rat) * 2 ^ E := by rw [Rat.intCast_add]; grind
 obtain ⟨z, r, hz, hr, hR⟩ := add_rnd hx hy (by rw [e]; exact ab_dy h h2)
 rw [e] at hR
 exact ⟨z, hz, by rw [J, hr, hR.exact _ E h h1 rfl]⟩
theorem sub_dy {E : Int} {x y : Nat} {m n : Int} (hx : J E x m) (hy : J E y n) (h : (m - n).natAbs ≤ 9007199254740992) (h1 : -1074 ≤ E) (h2 : E ≤ 900) : ∃ z, floatBits .sub .f64 x y = some z ∧ J E z (m - n) := by
 have e : (m : Rat) * 2 ^ E - (n : Rat) * 2 ^ E = ((m - n : Int) : Rat) * 2 ^ E := by rw [Rat.intCast_sub]; grind
 obtain ⟨z, r, hz, hr, hR⟩ := sub_rnd hx hy (by rw [e]; exact ab_dy h h2)
 rw [e] at hR
 exact ⟨z, hz, by rw [J, hr, hR.exact _ E h h1 rfl]⟩
theorem mul_dy {E F : Int} {x y : Nat} {m n : Int} (hx : J E x m) (hy : J F y n) (h : (m * n).natAbs ≤ 9007199254740992) (h1 : -1074 ≤ E + F) (h2 : E + F ≤ 900) : ∃ z, floatBits .mul .f64 x y = some z ∧ J (E + F) z (m * n) := by
 have e : (m : Rat) * 2 ^ E * ((n : Rat) * 2 ^ F) = ((m * n : Int) : Rat) * 2 ^ (E + F) := by rw [Rat.intCast_mul, zpow_add]; grind
 obtain ⟨z, r, hz, hr, hR⟩ := mul_rnd hx hy (by rw [e]; exact ab_dy h h2)
 rw [e] at hR
 exact ⟨z, hz, by rw [J, hr, hR.exact _ (E + F) h h1 rfl]⟩
/-- One place less. -/
theorem J.less {E : Int} {x : Nat} {n : Int} (h : J E x n) : J (E - 1) x (2 * n) := by
 unfold Flt.J at *
 rw [h, half E, Rat.intCast_mul]
 congr 1
 have : ((2 : Int) : Rat) = 2 := rfl
 rw [this]; grind
theorem dy_le {E m n : Int} : ((m : Rat) * 2 ^ E ≤ (n : Rat) * 2 ^ E) ↔ m ≤ n := by
 constructor
 ·intro h
  rcases Int.lt_or_le n m with h1 | h1
  ·have h2 : (n : Rat) < (m : Rat) := by exact_mod_cast h1
   have := Rat.mul_lt_mul_of_pos_right h2 (zpow_pos E)
   grind
  ·exact h1
 ·intro h
  exact rat_scale (zpow_pos E) (by exact_mod_cast h)
def imin (m n : Int) : Int := if m ≤ n then m else n
def imax (m n : Int) : Int := if m ≤ n then n else m
theorem rmin_dy {E m n : Int} : rmin ((m : Rat) * 2 ^ E) ((n : Rat) * 2 ^ E) = ((imin m n : Int) : Rat) * 2 ^ E := by
 unfold rmin imin
 by_cases h : m ≤ n
 ·rw [if_pos (dy_le.2 h), if_pos h]
 ·rw [if_neg (fun h2 => h (dy_le.1 h2)), if_neg h]
theorem rmax_dy {E m n : Int} : rmax ((m : Rat) * 2 ^ E) ((n : Rat) * 2 ^ E) = ((imax m n : Int) : Rat) * 2 ^ E := by
 unfold rmax imax
 by_cases h : m ≤ n
 ·rw [if_pos (dy_le.2 h), if_pos h]
 ·rw [if_neg (fun h2 => h (dy_le.1 h2)), if_neg h]
theorem amin_dy {E : Int} {x y : Nat} {m n : Int} (hx : J E x m) (hy : J E y n) : J E (amin x y) (imin m n) := by rw [J, amin_V hx hy, rmin_dy]
theorem amax_dy {E : Int} {x y : Nat} {m n : Int} (hx : J E x m) (hy : J E y n) : J E (amax x y) (imax m n) := by rw [J, amax_V hx hy, rmax_dy]
abbrev Half : Nat := 4602678819172646912
theorem zero_int : I 0 0 := by
 unfold I V
 have : double.read 0 = .number false 0 (-1074) := by decide +kernel
 rw [this]
 show some (sg false _) = _
 congr 1
 decide +kernel
/-- The sign struck out. -/
def fabs (x : Nat) : Nat := x % 9223372036854775808
theorem sg_ab {s : Bool} {q : Rat} (h : 0 ≤ q) : ab (sg s q) = q := ab_sg s h
theorem fabs_V {x : Nat} {p : Rat} (hx : V x = some p) : V (fabs x) = some (ab p) := by
 unfold V fabs Format.read at *
 rw [double_sw] at *
 simp only [Nat.mod_mod] at *
 have e : (x % 9223372036854775808 / 9223372036854775808 % 2 == 1) = false := by
  have : x % 9223372036854775808 / 9223372036854775808 = 0 := Nat.div_eq_of_lt (Nat.mod_lt _ (by omega))
  rw [this]; rfl
 rw [e]
 have key : ∀ (s : Bool) (m : Nat) (i : Int), dval (.number s m i) = some p → dval (.number false m i) = some (ab p) := fun s m i h => by
  simp only [dval, Option.some.injEq] at h ⊢
  rw [← h, ab_sg s (Rat.mul_nonneg Rat.natCast_nonneg (Rat.le_of_lt (zpow_pos i)))]
  rfl
 generalize (x / 9223372036854775808 % 2 == 1) = s at hx
 split at hx
 ·rename_i h; rw [if_pos h]; exact key _ _ _ hx
 ·rename_i h
  rw [if_neg h]
  split at hx
  ·rename_i h2; rw [if_pos h2]; exact key _ _ _ hx
  ·rename_i h2
   split at hx <;> cases hx
end Flt
namespace Go.Vm
theorem andNot_abs (x : Nat) : bits .andNot .u64 (x : Int) 9223372036854775808 = ((Flt.fabs x : Nat) : Int) := by
 unfold bits Flt.fabs
 have e0 : (BitVec.ofInt IntKind.u64.bits (x : Int) &&& ~~~(BitVec.ofInt IntKind.u64.bits 9223372036854775808)).toNat = x % 9223372036854775808 := by
  have e1 : ~~~(BitVec.ofInt 64 9223372036854775808) = BitVec.ofNat 64 (2 ^ 63 - 1) := by decide
  show (BitVec.ofInt 64 (x : Int) &&& ~~~(BitVec.ofInt 64 9223372036854775808)).toNat = _
  rw [e1, BitVec.toNat_and, BitVec.toNat_ofInt, BitVec.toNat_ofNat]
  have e2 : (2 ^ 63 - 1) % 2 ^ 64 = 2 ^ 63 - 1 := by decide
  rw [e2, Nat.and_two_pow_sub_one_eq_mod]
  have e3 : ((x : Int) % ((2 ^ 64 : Nat) : Int)).toNat = x % 2 ^ 64 := by
   have : ((x : Int) % ((2 ^ 64 : Nat) : Int)) = ((x % 2 ^ 64 : Nat) : Int) := by simp
   rw [this]; rfl
  rw [e3]
  omega
 show IntKind.u64.wrap (((BitVec.ofInt IntKind.u64.bits (x : Int) &&& ~~~(BitVec.ofInt IntKind.u64.bits 9223372036854775808)).toNat : Nat) : Int) = _
 rw [e0]
 exact wrap_in .u64 _ (by simp only [lo]; omega) (by simp only [hi]; have := Nat.mod_lt x (show 0 < 9223372036854775808 by omega); omega)
theorem run_f64bits (P : Program) (x : Nat) (w : World) : (Extern.MathFloatBits.float64bits #[.float .f64 x]).run P w = .ok (.int .u64 x) w := rfl
theorem run_f64frombits (P : Program) (x : Nat) (w : World) : (Extern.MathFloatBits.float64frombits #[.int .u64 (x : Int)]).run P w = .ok (.float .f64 x) w := rfl
section
variable {C : Ctx} {Q : Exit → St → Prop} {ops : Array Oper} {rest : List Oper} {o : Oper} {e : List (Nat × SV)} {obs : List Ob} {d : Nat} {t ty : TypeId} {x y : Operand}
theorem AOp.ibits {op : BinOp} {k : IntKind} {a b z : Int} (hop : op = .and ∨ op = .or ∨ op = .xor ∨ op = .andNot) (ho : o.op = .binOp op t x y ty) (hd : o.dst = some d) (hn : d < C.n) (hx : opS ⟨e, obs⟩ x = some (.d (di k a))) (hy : opS ⟨e, obs⟩ y = some (.d (di k b)))
  (hz : bits op k a b = z) (h : AO C ops rest ⟨(d, .d (di k z)) :: e, obs⟩ Q) : AOp C ops rest o ⟨e, obs⟩ Q :=
 AOp.bin ho hd hn hx hy (by rcases hop with rfl | rfl | rfl | rfl <;> rfl) (fun w => by subst hz; rcases hop with rfl | rfl | rfl | rfl <;> simp [binOp, intBits_and, intBits_or, intBits_xor, intBits_andNot]) h
end
end Go.Vm
namespace Go.Vm
section
variable {C : Ctx} {Q : Exit → St → Prop} {ops : Array Oper} {rest : List Oper} {o : Oper} {e : List (Nat × SV)} {obs : List Ob} {d : Nat} {t ty : TypeId} {x y : Operand}
/-- A value out of what draws. -/
theorem AOp.drawn {R : Value → Prop} (hd : o.dst = some d) (hn : d < C.n)
  (hv : ∀ Ω a w, Rel C ⟨e, obs⟩ Ω a w → ∃ v w', (execOp a.eval o).run C.P w = .ok (.value v) w' ∧ (w' = w ∨ w' = w.drew) ∧ R v)
  (h : ∀ v, R v → AO C ops rest ⟨(d, .d (.v v)) :: e, obs⟩ Q) : AOp C ops rest o ⟨e, obs⟩ Q := fun Ω a w hr => by
 obtain ⟨v, w', hrun, hw, hR⟩ := hv Ω a w hr
 have hr' : Rel C ⟨e, obs⟩ Ω a w' := by rcases hw with rfl | rfl; exact hr; exact hr.drew
 unfold Oper.wp
 rw [hrun, Oper.upon_value, hd]
 exact h v hR Ω _ w' (hr'.put hn (.d _ _ (.v _)))
end
end Go.Vm

/- Functions that defer a closure which recovers: what they give where nothing panics. -/
namespace Go.Vm
set_option linter.unusedVariables false

/-- The deferred call d is one of function g, with n arguments. -/
def IsDef (P : Program) (g n : Nat) (d : Deferred) : Prop :=
 ∃ fv cap args, d.target = .fn fv cap ∧ (∀ w, (invoke d.target d.args).run P w = .ok (.enter g args) w) ∧ args.size = n

/-- The code c, in which function g is deferred. -/
def AW (C : Ctx) (g n : Nat) (c : Code) (s : St) (Q : Exit → St → Prop) : Prop :=
 ∀ Ω a w, Rel C s Ω a w → c.wp C.P (fun e a w => ∃ d, IsDef C.P g n d ∧ Lift { C with dfs := [d] } Q e a w) a w

theorem AW.seq {C : Ctx} {g n : Nat} {x y : Code} {s : St} {Q : Exit → St → Prop} (h : AC C x s (fun e s' => e = .normal ∧ AW C g n y s' Q)) : AW C g n (.seq x y) s Q := fun Ω a w hr =>
 wp_seq (wp_mono (h Ω a w hr) fun e a w ⟨s, Ω, hr, he, hq⟩ => by
  subst he
  exact hq Ω a w hr)
theorem AW.region {C : Ctx} {g n : Nat} {id : Nat} {l : List Oper} {s : St} {y : Code} {Q : Exit → St → Prop} (h : AO C l.toArray l s (fun e s' => e = .normal ∧ AW C g n y s' Q)) : AW C g n (.seq (.region id l.toArray false) y) s Q :=
 AW.seq (AC.region h)

theorem rel_dfs {C : Ctx} {s : St} {Ω : List Value} {a : Act} {w : World} (h : Rel C s Ω a w) (hC : C.dfs = []) (d : Deferred) : Rel { C with dfs := [d] } s Ω { a with defers := d :: a.defers } w :=
 ⟨by show d :: a.defers = [d]; rw [h.defers, hC], h.size, fun t x hx => h.env t x hx, ⟨h.mem.len, h.mem.obj, h.mem.sep, h.mem.new, ⟨h.mem.fr.os, h.mem.fr.tape, h.mem.fr.output, h.mem.fr.size, h.mem.fr.block, h.mem.fr.glob, h.mem.fr.gmay⟩⟩⟩

/-- The closure is made and deferred. -/
theorem AW.defer {C : Ctx} {g id d : Nat} {o1 o2 : Oper} {y : Code} {e : List (Nat × SV)} {obs : List Ob} {Q : Exit → St → Prop} {caps : List Operand} (hC : C.dfs = []) (h1 : o1.op = .makeFunc (.func g) #[] caps.toArray) (hd : o1.dst = some d) (hn : d < C.n) (hg1 : o1.guard = none)
  (h2 : o2.op = .defer { callee := .value (.tmp d), args := #[], argTypes := #[] }) (hd2 : o2.dst = none) (hg2 : o2.guard = none) (he : enters C.P g = true)
  {cs : List SV} (hcs : mapO (opS ⟨e, obs⟩) caps = some cs) (h : ∀ df, AC { C with dfs := [df] } y ⟨(d, .fv (.func g) [] cs) :: e, obs⟩ Q) : AW C g caps.length (.seq (.region id [o1, o2].toArray false) y) ⟨e, obs⟩ Q := by
 intro Ω a w hr
 refine wp_seq (wp_region_lit ?_)
 unfold wpList
 rw [if_pos (by simp [Region.wanted, hg1])]
 refine .inl ?_
 have r1 : (execOp a.eval o1).run C.P w = .ok (.value (.func (.func g) #[] (caps.map a.eval).toArray)) w := by
  simp [execOp, h1, Instr.makeFunc]
 unfold Oper.wp
 rw [r1, Oper.upon_value, hd]
 unfold wpList
 rw [if_pos (by simp [Region.wanted, hg2])]
 refine .inl ?_
 have hv : (a.put (some d) (.func (.func g) #[] (caps.map a.eval).toArray)).eval (.tmp d) = .func (.func g) #[] (caps.map a.eval).toArray := by
  have := Act.put_get (a := a) (d := d) (v := .func (.func g) #[] (caps.map a.eval).toArray) (by rw [hr.size]; exact hn)
  simp [Act.eval, Act.put, Array.getD_eq_getD_getElem?, hr.size, hn]
 have r2 : (execOp (a.put (some d) (.func (.func g) #[] (caps.map a.eval).toArray)).eval o2).run C.P w = .ok (.defer ⟨.fn (.func g) (caps.map a.eval).toArray, #[]⟩) w := by
  simp [execOp, h2, resolve, hv, Deferred.ofValue]
 unfold Oper.wp
 rw [r2]
 simp only [Oper.upon, hd2]
 have hdef : IsDef C.P g caps.length ⟨.fn (.func g) (caps.map a.eval).toArray, #[]⟩ := by
  refine ⟨_, _, (caps.map a.eval).toArray, rfl, fun w => ?_, by simp⟩
  simp only [invoke, Array.empty_append]
  exact run_enters he _ w
 have hcap : RepS w (okB C obs Ω w) Ω (.fv (.func g) [] cs) (.func (.func g) #[] (caps.map a.eval).toArray) := by
  obtain ⟨hl, hi⟩ := mapO_get hcs
  refine .fv _ _ _ [] _ rfl (by simp [hl]) (fun i x y hx => by simp at hx) (fun i x y hx hy => ?_)
  simp only [List.getElem?_map, Option.map_eq_some_iff] at hy
  obtain ⟨z, hz, rfl⟩ := hy
  exact hr.eval (hi i z x hz hx)
 have hr2 := rel_dfs (hr.put hn hcap) hC ⟨.fn (.func g) (caps.map a.eval).toArray, #[]⟩
 have := h ⟨.fn (.func g) (caps.map a.eval).toArray, #[]⟩ Ω _ w hr2
 exact wp_mono this fun e a w hq => ⟨_, hdef, hq⟩

/-- A function that defers a closure; the closure finds nothing to recover. -/
theorem FnD.wrap {P : Program} {f g m : FuncId} {fn : Func} {c : Code} {args : List D} {R : D → Prop} {n : Nat} {rs : List ResultVar}
  (hc : ∀ (av : Array Value) (w : World), av.size = m → CallsD P g av .returning w fun e u' w' => e = .returned (.tuple #[]) ∧ u' = .returning ∧ w' = w)
  (he : enters P f = true) (hf : P.funcs[f]? = some fn) (hb : fn.body = some c) (hnt : fn.ntmps = n) (hrs : fn.results = rs.toArray) (hn : args.length ≤ n)
  (h : ∀ (W : World) (ok : Nat → Prop), AW ⟨P, W, ok, [], n, []⟩ g m c ⟨enumD 0 args, []⟩ (RetQ P rs R)) : FnD P f args R := by
 subst hnt
 have hrl : fn.results.toList = rs := by rw [hrs]
 subst hrl
 refine ⟨he, fun W ok vs hG hok hl hrep => calls_of_wp_defers hf hb ?_⟩
 have hrel : Rel ⟨P, W, ok, [], fn.ntmps, []⟩ ⟨enumD 0 args, []⟩ [] { tmps := vs.toArray ++ Array.replicate (fn.ntmps - vs.toArray.size) undef, defers := [] } W := by
  refine ⟨rfl, by simp; omega, fun t x hx => ?_, ⟨rfl, fun o ob h e1 => by simp at e1, fun i j a b p q x _ e1 => by simp at e1, fun o ob p b e1 => by simp at e1, ⟨rfl, rfl, rfl, Nat.le_refl _, fun _ _ _ => rfl, hG, fun b h => by cases h⟩⟩⟩
  obtain ⟨y, rfl, _, hy⟩ := enumD_get args 0 t x hx
  rw [Nat.sub_zero] at hy
  have hlt := (List.getElem?_eq_some_iff.1 hy).1
  have hv : vs[t]? = some vs[t] := List.getElem?_eq_getElem (by omega)
  refine ⟨vs[t], ?_, .d _ _ ((hrep t _ _ hy hv).mono fun b hb => ⟨⟨.inl hb, hok b hb, fun o ob h e1 => by simp at e1⟩, rfl⟩)⟩
  rw [Array.getElem?_append_left (by simp; omega)]
  simp
 refine wp_mono (h W ok _ _ W hrel) fun ed a w ⟨d, hdef, s, Ω, hr, hq⟩ => ?_
 obtain ⟨fv, cap, av, ht, hinv, hsz⟩ := hdef
 have fin : (∃ r, resD P s fn.results.toList = some r ∧ R r) → Leaves P fn a.tmps (fun e w' => ∃ v r, e = .returned v ∧ R r ∧ RowKit.Below W.heap.size W w' ∧ RepD w' (fun b => (ok b ∨ W.heap.size ≤ b) ∧ b < w'.heap.size) r v) a.defers .returning w := by
  intro ⟨r, hres, hR⟩
  obtain ⟨v, hv, hrep⟩ := results_rep rfl hr hres
  have hd : a.defers = [d] := hr.defers
  rw [hd]
  refine ⟨by simp, fv, cap, g, av, ht, hinv w, (hc av w hsz).mono fun e u' w' ⟨h1, h2, h3⟩ => ?_⟩
  subst h1; subst h2; subst h3
  exact ⟨v, hv, v, r, rfl, hR, ⟨hr.mem.fr.os, hr.mem.fr.tape, hr.mem.fr.output, hr.mem.fr.size, fun b hb => hr.mem.fr.block b hb (by simp)⟩, hrep.noMay⟩
 cases ed with
 | normal => exact fin hq
 | ret => exact fin hq
 | _ => exact hq.elim
end Go.Vm

/- Appending; nil checks; calls of function values. -/
set_option linter.unusedVariables false
set_option linter.unusedSimpArgs false
namespace Go.Vm

/- It does not lead to object p. -/
mutual
def SV.noO (p : Nat) : SV → Bool
 | .d _ => true
 | .any => true
 | .ptr o _ => o != p
 | .sl o _ _ _ _ => o != p
 | .own o => o != p
 | .pre o _ => o != p
 | .full _ _ => true
 | .ep _ _ => true
 | .ag l => SV.noOL p l
 | .tu l => SV.noOL p l
 | .ifc _ x => SV.noO p x
 | .fv _ a b => SV.noOL p a && SV.noOL p b
termination_by structural x => x
def SV.noOL (p : Nat) : List SV → Bool
 | [] => true
 | x :: r => SV.noO p x && SV.noOL p r
termination_by structural x => x
end
theorem SV.noOL_get {p : Nat} : ∀ {l : List SV}, SV.noOL p l = true → ∀ {i : Nat} {x : SV}, l[i]? = some x → SV.noO p x = true
 | [], _, i, x, hx => by simp at hx
 | y :: r, h, i, x, hx => by
  simp only [SV.noOL, Bool.and_eq_true] at h
  cases i with
  | zero => simp at hx; subst hx; exact h.1
  | succ i => exact SV.noOL_get h.2 (by simpa using hx)
def Ob.noO (p : Nat) : Ob → Bool
 | .fix _ cells => cells.all (SV.noO p)
 | .frame _ env => env.all fun q => q.2.noO p
 | _ => true
/-- The slots that do not lead to object p. -/
def dropO (p : Nat) : List Nat → List (Nat × SV) → List (Nat × SV)
 | _, [] => []
 | seen, (k, x) :: r => if seen.contains k then dropO p seen r else if x.noO p then (k, x) :: dropO p (k :: seen) r else dropO p (k :: seen) r
theorem dropO_get {p : Nat} : ∀ {e : List (Nat × SV)} {seen : List Nat} {t : Nat} {x : SV}, get (dropO p seen e) t = some x → t ∉ seen ∧ get e t = some x ∧ x.noO p = true
 | [], _, _, _, h => by cases h
 | (k, y) :: r, seen, t, x, h => by
  simp only [dropO] at h
  split at h
  ·rename_i hk
   obtain ⟨h1, h2, h3⟩ := dropO_get h
   refine ⟨h1, ?_, h3⟩
   simp only [get]
   rw [if_neg (fun e => h1 (by subst e; simpa using hk))]
   exact h2
  ·rename_i hk
   split at h
   ·rename_i hy
    simp only [get] at h ⊢
    split at h
    ·rename_i e; subst e; cases h
     exact ⟨by simpa using hk, by rw [if_pos rfl], hy⟩
    ·rename_i e
     obtain ⟨h1, h2, h3⟩ := dropO_get h
     exact ⟨fun hm => h1 (by simp [hm]), by rw [if_neg e]; exact h2, h3⟩
   ·obtain ⟨h1, h2, h3⟩ := dropO_get h
    refine ⟨fun hm => h1 (by simp [hm]), ?_, h3⟩
    simp only [get]
    rw [if_neg (fun e => h1 (by simp [e]))]
    exact h2

theorem RepS.noO {w w' : World} {ok ok' : Nat → Prop} {Ω : List Value} {p : Nat} {u : Value} (h : ∀ b, ok b → ok' b ∧ w'.heap[b]? = w.heap[b]?) {x : SV} {v : Value} (hx : x.noO p = true) (hr : RepS w ok Ω x v) : RepS w' ok' (Ω.set p u) x v := by
 have ht : ∀ {o : Nat} {v : Value}, (o != p) = true → Ω[o]? = some v → (Ω.set p u)[o]? = some v := fun ho e => by
  rw [List.getElem?_set_ne (by simpa using Ne.symm (by simpa using ho))]; exact e
 induction hr with
 | any v => exact .any v
 | d x v hd => exact .d x v (hd.mono h)
 | ptr o off b ho => exact .ptr o off b (ht hx ho)
 | ptrG o off b len cap ho => exact .ptrG o off b len cap (ht hx ho)
 | sl o sz off len cap b ho => exact .sl o sz off len cap b (ht hx ho)
 | own o v ho h1 => exact .own o v (ht hx ho) h1
 | pre o k n cap a ho hk => exact .pre o k n cap a (ht hx ho) hk
 | full sz cells a n hd => exact .full sz cells a n (hd.mono h)
 | ep b off i cells vals hb2 hcell hr => exact .ep b off i cells vals (h b hb2).1 (fun j hj => by rw [cell_heap (h b hb2).2]; exact hcell j hj) (fun j x hj => (hr j x hj).mono h)
 | ag cells vs hl _ ih => exact .ag cells vs hl fun i x y h1 h2 => ih i x y h1 h2 (SV.noOL_get hx h1)
 | tu cells vs hl _ ih => exact .tu cells vs hl fun i x y h1 h2 => ih i x y h1 h2 (SV.noOL_get hx h1)
 | ifc t x u _ ih => exact .ifc t x u (ih hx)
 | fv fn first caps fs cs hf hc _ _ ih1 ih2 =>
  have hb2 : SV.noOL p first = true ∧ SV.noOL p caps = true := by simpa only [SV.noO, Bool.and_eq_true] using hx
  exact .fv fn first caps fs cs hf hc (fun i x y h1 h2 => ih1 i x y h1 h2 (SV.noOL_get hb2.1 h1)) (fun i x y h1 h2 => ih2 i x y h1 h2 (SV.noOL_get hb2.2 h1))

/-- A slice of the call's own has grown. -/
theorem Mem.grow {C : Ctx} {obs : List Ob} {Ω : List Value} {w w' : World} (h : Mem C obs Ω w) {p sz n : Nat} {ty : TypeId} {cells cells' : List D} {v v' : Value} {xs : List Value} (ho : obs[p]? = some (.grow ty sz cells))
  (hΩ : Ω[p]? = some v) (hg : w.grownBy w' v.ownBlock) (how : w'.ownsRow 0 ty sz v' n xs) (hb : v'.ownBlock = v.ownBlock ∨ v'.ownBlock = some w.heap.size) (hl : xs.length = cells'.length)
  (hr : ∀ (i : Nat) x y, cells'[i]? = some x → xs[i]? = some y → RepD w (okB C obs Ω w) x y) (hno : ∀ i ob, i ≠ p → obs[i]? = some ob → ob.noO p = true) :
  Mem C (obs.set p (.grow ty sz cells')) (Ω.set p v') w' ∧ ∀ k, okB C obs Ω w k → okB C (obs.set p (.grow ty sz cells')) (Ω.set p v') w' k ∧ w'.heap[k]? = w.heap[k]? := by
 obtain ⟨n0, xs0, how0, _, _⟩ := h.obj p _ _ ho hΩ
 have bo : ∀ {x : World} {m : Nat} {z : Value} {l : List Value}, x.ownsRow 0 ty sz z m l → blk z = z.ownBlock := fun {x m z l} hz => by
  rcases hz.2 with ⟨rfl, _⟩ | ⟨g, cap, cur, rfl, _⟩ <;> rfl
 have b1 := bo how0
 have b2 := bo how
 have hlt : ∀ {i : Nat} {ob : Ob} {k : Value} {b : Nat}, obs[i]? = some ob → ob.live = true → Ω[i]? = some k → blk k = some b → b < w.heap.size := fun e1 l e2 hbk => (h.obj _ _ _ e1 e2).lt l hbk
 have gΩ : ∀ {i : Nat} {k : Value}, i ≠ p → (Ω.set p v')[i]? = some k → Ω[i]? = some k := fun hi e => by rwa [List.getElem?_set_ne (Ne.symm hi)] at e
 have pΩ : ∀ {k : Value}, (Ω.set p v')[p]? = some k → k = v' := fun {k} e => by
  rw [List.getElem?_set_self (List.getElem?_eq_some_iff.1 hΩ).1] at e; exact (Option.some.inj e).symm
 have hok : ∀ k, okB C obs Ω w k → okB C (obs.set p (.grow ty sz cells')) (Ω.set p v') w' k ∧ w'.heap[k]? = w.heap[k]? := fun k hk => by
  have hkv : blk v ≠ some k := hk.2.2 p _ _ ho rfl hΩ
  refine ⟨⟨hk.1, Nat.lt_of_lt_of_le hk.2.1 hg.size, fun i ob q e1 l e2 => ?_⟩, hg.block k hk.2.1 (fun e => hkv (by rw [b1, ← e]))⟩
  rcases get_set e1 with ⟨rfl, rfl, _⟩ | ⟨hi, e1⟩
  ·rw [pΩ e2, b2]
   rcases hb with hb | hb
   ·rw [hb, ← b1]; exact hkv
   ·rw [hb]; intro e; cases e; exact absurd hk.2.1 (Nat.lt_irrefl _)
  ·exact hk.2.2 i ob q e1 l (gΩ hi e2)
 have nb : ∀ {b : Nat}, blk v' = some b → blk v = some b ∨ b = w.heap.size := fun {b} hbk => by
  rw [b2] at hbk
  rcases hb with hb | hb
  ·left; rw [b1, ← hb]; exact hbk
  ·right; rw [hb] at hbk; cases hbk; rfl
 refine ⟨⟨by simp [h.len], fun i ob k e1 e2 => ?_, fun i j a c x y b hij e1 e2 l1 l2 e3 e4 hp => ?_, fun i ob q b e1 l1 e2 hp => ?_, ?_⟩, hok⟩
 ·rcases get_set e1 with ⟨rfl, rfl, _⟩ | ⟨hi, e1⟩
  ·rw [pΩ e2]
   exact ⟨n, xs, how, hl, fun i x y hx hy => (hr i x y hx hy).mono hok⟩
  ·have e2' := gΩ hi e2
   have H := h.obj i ob k e1 e2'
   have hn := hno i ob hi e1
   cases ob with
   | dead => trivial
   | frame vs env => exact ⟨H.1, fun t x hx => let ⟨v, hv, hr⟩ := H.2 t x hx; ⟨v, hv, hr.noO hok (List.all_eq_true.1 (show env.all (fun q => q.2.noO p) = true from hn) (t, x) (get_mem hx))⟩⟩
   | grow ty2 sz2 cells2 =>
    obtain ⟨m, ys, hq, hql, hqr⟩ := H
    refine ⟨m, ys, hq.kept hg ?_, hql, fun i x y hx hy => (hqr i x y hx hy).mono hok⟩
    have bq : blk k = k.ownBlock := by rcases hq.2 with ⟨rfl, _⟩ | ⟨g, cap, cur, rfl, _⟩ <;> rfl
    cases hkb : k.ownBlock with
    | none => exact .inl rfl
    | some b =>
     right
     intro e
     exact h.sep i p _ _ k v b hi e1 ho rfl rfl e2' hΩ (by rw [bq, hkb]) (by rw [b1, ← e])
   | fix ty2 cells2 =>
    obtain ⟨b, vs, rfl, hw, hvl, hvr, h1⟩ := H
    refine ⟨b, vs, rfl, ?_, hvl, fun i x y hx hy => (hvr i x y hx hy).noO hok (List.all_eq_true.1 (show cells2.all (SV.noO p) = true from hn) x (List.mem_of_getElem? hx)), h1⟩
    rw [hg.block b (hlt e1 rfl e2' rfl) (fun e => h.sep i p _ _ _ v b hi e1 ho rfl rfl e2' hΩ rfl (by rw [b1, ← e]))]
    exact hw
 ·rcases get_set e1 with ⟨f1, f2, _⟩ | ⟨hi, f1⟩ <;> rcases get_set e2 with ⟨g1, g2, _⟩ | ⟨hj, g1⟩
  ·exact (hij (f1.trans g1.symm)).elim
  ·subst f1
   rw [pΩ e3] at hp
   rcases nb hp with hb' | hb'
   ·exact h.sep i j _ _ v y b hij ho g1 rfl l2 hΩ (gΩ hj e4) hb'
   ·intro e; have := hlt g1 l2 (gΩ hj e4) e; omega
  ·subst g1
   rw [pΩ e4]
   intro e
   rcases nb e with hb' | hb'
   ·exact h.sep i j _ _ x v b hij f1 ho l1 rfl (gΩ hi e3) hΩ hp hb'
   ·have := hlt f1 l1 (gΩ hi e3) hp; omega
  ·exact h.sep i j a c x y b hij f1 g1 l1 l2 (gΩ hi e3) (gΩ hj e4) hp
 ·rcases get_set e1 with ⟨rfl, rfl, _⟩ | ⟨hi, e1⟩
  ·rw [pΩ e2] at hp
   rcases nb hp with hb' | hb'
   ·exact h.new i _ v b ho rfl hΩ hb'
   ·subst hb'; exact .inl h.fr.size
  ·exact h.new i ob q b e1 l1 (gΩ hi e2) hp
 ·refine ⟨hg.os.trans h.fr.os, hg.tape.trans h.fr.tape, hg.output.trans h.fr.output, Nat.le_trans h.fr.size hg.size, fun b e1 e2 => ?_, h.fr.glob, h.fr.gmay⟩
  rw [hg.block b (Nat.lt_of_lt_of_le e1 h.fr.size) (fun e => ?_)]
  ·exact h.fr.block b e1 e2
  ·rcases h.new p _ v b ho rfl hΩ (by rw [b1, ← e]) with hn | hn
   ·omega
   ·exact e2 hn
end Go.Vm
namespace Go.Vm
/-- Nothing is appended. -/
theorem run_append_none {P : Program} {w : World} (t ty e : TypeId) {size : Nat} (ht : elemT P t = some (e, size)) {v : Value} {n : Nat} {xs : List Value} (hown : w.ownsRow 0 e size v n xs) (c : Nat) :
  (Builtin.append_ #[t, t] ty #[v, .slice none 0 c]).run P w = .ok v w := by
 obtain ⟨hu, hs⟩ := elemT_spec ht
 rcases hown.2 with ⟨rfl, h0⟩ | ⟨g, cap, cur, rfl, _, hg, hnc, _⟩
 ·simp [Builtin.append_, run_underlying hu, run_sizeOf hs, Builtin.lenOf, Builtin.firstCells]
 ·have : (storeCells ((⟨g, 0, none⟩ : Addr).add (n * size)) []).run P w = .ok () w := by simp [storeCells]
  simp [Builtin.append_, run_underlying hu, run_sizeOf hs, Builtin.lenOf, Builtin.firstCells, hnc, this]

section
variable {C : Ctx} {Q : Exit → St → Prop} {ops : Array Oper} {rest : List Oper} {o : Oper} {e : List (Nat × SV)} {obs : List Ob} {d : Nat}

/-- What can be appended: data. -/
theorem run_append_data {P : Program} {w : World} {ok : Nat → Prop} (t ty el size bytes : Nat) {z : Value} (ht : elemT P t = some (el, size)) (hi : (P.info? el).map (fun i => (i.zero, i.size, i.bytes)) = some (some z, size, bytes)) (hzs : z.cells.size = size) (hsz : 0 < size)
  {v u : Value} {n m : Nat} {xs : List Value} {news : List D} (hown : w.ownsRow 0 el size v n xs) (hu : RepD w ok (.ds size news) u) (hl : news.length = m * size) (h1 : ∀ (i : Nat) x y, news[i]? = some x → RepD w ok x y → y.oneCell' = true)
  (h63 : n + m ≤ maxLen) (hbytes : (n + m) * bytes ≤ 140737488355328) :
  ∃ v' w' us, (Builtin.append_ #[t, t] ty #[v, u]).run P w = .ok v' w' ∧ w'.ownsRow 0 el size v' (n + m) (xs ++ us) ∧ us.length = news.length ∧ (∀ (i : Nat) x y, news[i]? = some x → us[i]? = some y → RepD w ok x y) ∧
   w.grownBy w' v.ownBlock ∧ (v'.ownBlock = v.ownBlock ∨ v'.ownBlock = some w.heap.size) := by
 obtain ⟨hun, hs⟩ := elemT_spec ht
 obtain ⟨i, hii, hie⟩ : ∃ i, P.info? el = some i ∧ (i.zero, i.size, i.bytes) = (some z, size, bytes) := by
  cases hq : P.info? el with
  | none => rw [hq] at hi; cases hi
  | some i => rw [hq] at hi; exact ⟨i, rfl, Option.some.inj hi⟩
 simp only [Prod.mk.injEq] at hie
 obtain ⟨e1, e2, e3⟩ := hie
 cases hu with
 | nil _ a c =>
  have hm : m = 0 := by
   rcases Nat.eq_zero_or_pos m with h | h
   ·exact h
   ·have := Nat.mul_pos h hsz; simp at hl; omega
  subst hm
  cases a with
  | none => exact ⟨v, w, [], run_append_none t ty el ht hown c, by simpa using hown, rfl, fun i x y hx => by simp at hx, ⟨rfl, rfl, rfl, Nat.le_refl _, fun _ _ _ => rfl⟩, .inl rfl⟩
  | some a =>
   obtain ⟨v', w', h2, h3, h4, h5, h6⟩ := run_append_own_at w 0 t ty el i z size bytes hun hii e1 e2 e3 hzs hsz v n xs hown a 0 c [] (by simp) (fun j u hj => by simp at hj) (fun u hu => by simp at hu) h63 hbytes (Nat.zero_le _)
   exact ⟨v', w', [], h2, h3, rfl, fun i x y hx => by simp at hx, h4, h6⟩
 | ds _ b off len cap _ vals hl2 hc hb hcell hrr =>
  have hm : len = m := Nat.eq_of_mul_eq_mul_right hsz (by rw [← hl2, hl])
  subst hm
  have hus : ∀ (j : Nat) (u : Value), ((List.range news.length).map vals)[j]? = some u → j < news.length ∧ u = vals j := fun j u hj => by
   rw [List.getElem?_map, Option.map_eq_some_iff] at hj
   obtain ⟨k, hk, rfl⟩ := hj
   have hlt := (List.getElem?_eq_some_iff.1 hk).1
   simp at hlt
   rw [List.getElem?_range hlt] at hk
   cases hk
   exact ⟨hlt, rfl⟩
  obtain ⟨v', w', h2, h3, h4, h5, h6⟩ := run_append_own_at w 0 t ty el i z size bytes hun hii e1 e2 e3 hzs hsz v n xs hown ⟨b, off, none⟩ len cap ((List.range news.length).map vals) (by simp [hl]) (fun j u hj => by
    obtain ⟨hlt, rfl⟩ := hus j u hj
    rw [Addr.add_of]; exact hcell j hlt) (fun u hu => by
    obtain ⟨j, hj⟩ := List.getElem?_of_mem hu
    obtain ⟨hlt, rfl⟩ := hus j u hj
    have hx : news[j]? = some news[j] := List.getElem?_eq_getElem hlt
    exact h1 j _ _ hx (hrr j _ hx)) h63 hbytes (Nat.zero_le _)
  refine ⟨v', w', _, h2, h3, by simp, fun j x y hx hy => ?_, h4, h6⟩
  obtain ⟨hlt, rfl⟩ := hus j y hy
  exact hrr j x hx

/-- Onto a slice whose capacity is its length: a new row. -/
theorem run_append_full {P : Program} {w : World} {ok : Nat → Prop} (t ty el size bytes : Nat) {z : Value} (ht : elemT P t = some (el, size)) (hi : (P.info? el).map (fun i => (i.zero, i.size, i.bytes)) = some (some z, size, bytes)) (hzs : z.cells.size = size) (hsz : 0 < size)
  {u : Value} {a0 : Option Addr} {n m : Nat} {olds news : List D} (ho : RepD w ok (.ds size olds) (.slice a0 n n)) (hol : olds.length = n * size) (hu : RepD w ok (.ds size news) u) (hl : news.length = m * size) (hm : 0 < m)
  (h63 : n + m ≤ maxLen) (hbytes : (n + m) * bytes ≤ 140737488355328) :
  ∃ v' w' xs, (Builtin.append_ #[t, t] ty #[.slice a0 n n, u]).run P w = .ok v' w' ∧ w'.ownsRow 0 el size v' (n + m) xs ∧ xs.length = (olds ++ news).length ∧ (∀ (i : Nat) x y, (olds ++ news)[i]? = some x → xs[i]? = some y → RepD w ok x y) ∧
   w.grownBy w' none ∧ v'.ownBlock = some w.heap.size := by
 obtain ⟨hun, hs⟩ := elemT_spec ht
 obtain ⟨i, hii, hie⟩ : ∃ i, P.info? el = some i ∧ (i.zero, i.size, i.bytes) = (some z, size, bytes) := by
  cases hq : P.info? el with
  | none => rw [hq] at hi; cases hi
  | some i => rw [hq] at hi; exact ⟨i, rfl, Option.some.inj hi⟩
 simp only [Prod.mk.injEq] at hie
 obtain ⟨e1, e2, e3⟩ := hie
 subst e2
 subst e3
 have h63' : ((n + m : Nat) : Int) ≤ 9223372036854775807 := by simp only [maxLen] at h63; omega
 have look : ∀ (f : Nat → Value) (k j : Nat) (u : Value), ((List.range k).map f)[j]? = some u → j < k ∧ u = f j := fun f k j u hj => by
  rw [List.getElem?_map, Option.map_eq_some_iff] at hj
  obtain ⟨q, hq, rfl⟩ := hj
  have hlt := (List.getElem?_eq_some_iff.1 hq).1
  simp at hlt
  rw [List.getElem?_range hlt] at hq
  cases hq
  exact ⟨hlt, rfl⟩
 cases hu with
 | nil _ a c =>
  have := Nat.mul_pos hm hsz
  simp at hl; omega
 | ds _ b off len cap _ vals hl2 hc hb hcell hrr =>
  have hmm : len = m := Nat.eq_of_mul_eq_mul_right hsz (by rw [← hl2, hl])
  subst hmm
  have hnews : ∀ j u, ((List.range news.length).map vals)[j]? = some u → w.cell? ((⟨b, off, none⟩ : Addr).add j) = some u := fun j u hj => by
   obtain ⟨hlt, rfl⟩ := look _ _ _ _ hj
   rw [Addr.add_of]; exact hcell j hlt
  have fin : ∀ (xs : List Value) (old : Nat), xs.length = olds.length → old < n + len → (∀ (j : Nat) x y, olds[j]? = some x → xs[j]? = some y → RepD w ok x y) →
    (Builtin.append_ #[t, t] ty #[.slice a0 n n, .slice (some ⟨b, off, none⟩) len cap]).run P w = .ok (.slice (some ⟨w.heap.size, 0, none⟩) (n + len) (grownCap w (n + len) old el))
     (w.drew.alloc (.cells (xs.toArray ++ ((List.range news.length).map vals).toArray ++ Builtin.zeroCells z.cells (grownCap w (n + len) old el - (n + len))) el)) →
    ∃ v' w' xs, (Builtin.append_ #[t, t] ty #[.slice a0 n n, .slice (some ⟨b, off, none⟩) len cap]).run P w = .ok v' w' ∧ w'.ownsRow 0 el i.size v' (n + len) xs ∧ xs.length = (olds ++ news).length ∧ (∀ (i : Nat) x y, (olds ++ news)[i]? = some x → xs[i]? = some y → RepD w ok x y) ∧
     w.grownBy w' none ∧ v'.ownBlock = some w.heap.size := fun xs old hxl hold hxr hrun => by
   have hge := grownCap_ge w (n + len) old el
   have hcm : grownCap w (n + len) old el ≤ maxLen := grownCap_le_maxLen w (n + len) old el h63
   have hlen : (xs ++ (List.range news.length).map vals).length = (n + len) * i.size := by simp [hxl, hol, hl, Nat.add_mul]
   refine ⟨_, _, xs ++ (List.range news.length).map vals, hrun, ⟨hlen, .inr ⟨w.heap.size, _, _, rfl, Nat.zero_le _, heap_alloc_new w.drew _, hge, hcm, ?_, ?_⟩⟩, by simp [hxl], fun j x y hx hy => ?_, ⟨rfl, rfl, rfl, by simp, fun k hk _ => heap_alloc_old w.drew _ hk⟩, rfl⟩
   ·have hh := hlen
    simp only [List.length_append] at hh
    simp only [Array.size_append, List.size_toArray, size_zeroCells, hzs]
    rw [hh, ← Nat.add_mul]
    congr 1
    omega
   ·simp only [Array.toList_append, List.append_assoc]
    rw [← List.append_assoc, ← hlen]
    exact List.take_left
   ·rw [List.getElem?_append] at hx hy
    rw [hxl] at hy
    split at hx
    ·rename_i h; rw [if_pos h] at hy; exact hxr j x y hx hy
    ·rename_i h
     rw [if_neg h] at hy
     obtain ⟨_, rfl⟩ := look _ _ _ _ hy
     exact hrr _ x hx
  cases ho with
  | nil _ a c =>
   cases a0 with
   | none => exact fin [] 0 rfl (by omega) (fun j x y hx => by simp at hx) (by
     have h := run_append_nil (P := P) w t ty el i z hun hii e1 ⟨b, off, none⟩ len cap ((List.range news.length).map vals) (by simp [hl]) hnews (by omega) (by omega) (by have hb := hbytes; simp only [Nat.zero_add] at hb; omega)
     simpa using h)
   | some q => exact fin [] 0 rfl (by omega) (fun j x y hx => by simp at hx) (run_append_grow (P := P) w t ty el i z hun hii e1 q 0 0 [] (by simp) (fun j u hj => by simp at hj) ⟨b, off, none⟩ len cap ((List.range news.length).map vals) (by simp [hl]) hnews (by omega) h63' (growslice_fits (by omega) hbytes))
  | ds _ b2 off2 len2 cap2 _ vals2 hl3 hc3 hb3 hcell3 hrr3 =>
   exact fin ((List.range olds.length).map vals2) n (by simp) (by omega) (fun j x y hx hy => by
     obtain ⟨_, rfl⟩ := look _ _ _ _ hy
     exact hrr3 j x hx) (run_append_grow (P := P) w t ty el i z hun hii e1 ⟨b2, off2, none⟩ n n ((List.range olds.length).map vals2) (by simp [hol]) (fun j u hj => by
      obtain ⟨hlt, rfl⟩ := look _ _ _ _ hj
      rw [Addr.add_of]; exact hcell3 j hlt) ⟨b, off, none⟩ len cap ((List.range news.length).map vals) (by simp [hl]) hnews (by omega) h63' (growslice_fits (by omega) hbytes))
/-- Onto a slice of the call's own. -/
theorem AOp.appendOwn {t el size bytes p n m : Nat} {x y : Operand} {z : Value} {cells news : List D} (ho : o.op = .call { callee := .builtin .append, args := #[x, y], argTypes := #[t, t] }) (hd : o.dst = some d) (hn : d < C.n)
  (hx : opS ⟨e, obs⟩ x = some (.own p)) (hy : opS ⟨e, obs⟩ y = some (.d (.ds size news))) (ht : elemT C.P t = some (el, size)) (hi : (C.P.info? el).map (fun i => (i.zero, i.size, i.bytes)) = some (some z, size, bytes)) (hzs : z.cells.size = size) (hsz : 0 < size)
  (hp : obs[p]? = some (.grow el size cells)) (hc : cells.length = n * size) (hl : news.length = m * size) (hone : ∀ x, x ∈ news → x.one = true) (h63 : n + m ≤ maxLen) (hb : (n + m) * bytes ≤ 140737488355328)
  (hno : (obs.set p .dead).all (Ob.noO p) = true) {e' : List (Nat × SV)} (he : dropO p [] e = e')
  (h : AO C ops rest ⟨(d, .own p) :: e', obs.set p (.grow el size (cells ++ news))⟩ Q) : AOp C ops rest o ⟨e, obs⟩ Q := by
 subst he
 refine AOp.step hd hn (fun Ω a w hr => ?_) h
 obtain ⟨k, xs, hΩ, how, hxl, hrr⟩ := hr.growV hp (hr.eval hx)
 have hk : k = n := Nat.eq_of_mul_eq_mul_right hsz (by rw [← how.1, hxl, hc])
 subst hk
 have hyv := hr.eval hy
 generalize hev : a.eval y = u at hyv
 cases hyv with
 | d _ _ hyd =>
  obtain ⟨v', w', us, h1, h2, h3, h4, h5, h6⟩ := run_append_data t o.type el size bytes ht hi hzs hsz how hyd hl (fun i x y hx hr => hr.one (hone x (List.mem_of_getElem? hx))) h63 hb
  obtain ⟨hm, hok⟩ := hr.mem.grow (cells' := cells ++ news) hp hΩ h5 h2 h6 (by simp [hxl, h3]) (fun i x y hx hy => by
   rw [List.getElem?_append] at hx hy
   rw [hxl] at hy
   split at hx
   ·rename_i hi; rw [if_pos hi] at hy; exact hrr i x y hx hy
   ·rename_i hi; rw [if_neg hi] at hy; exact h4 _ x y hx hy) (fun i ob hi hob => List.all_eq_true.1 hno ob (List.mem_of_getElem? (by rw [List.getElem?_set_ne (Ne.symm hi)]; exact hob)))
  have one1 : v'.oneCell' = true := by rcases h2.2 with ⟨rfl, _⟩ | ⟨g, cap, cur, rfl, _⟩ <;> rfl
  refine ⟨v', w', _, ?_, ⟨hr.defers, hr.size, fun q sv hq => ?_, hm⟩, .own _ _ ?_ one1⟩
  ·simp [execOp, ho, hev, resolve, invoke, builtin, h1]
  ·obtain ⟨_, hg, hf⟩ := dropO_get hq
   obtain ⟨val, hval, hrep⟩ := hr.env q sv hg
   exact ⟨val, hval, hrep.noO hok hf⟩
  ·rw [List.getElem?_set_self (List.getElem?_eq_some_iff.1 hΩ).1]

end
end Go.Vm
namespace Go.Vm
section
variable {C : Ctx} {Q : Exit → St → Prop} {ops : Array Oper} {rest : List Oper} {o : Oper} {e : List (Nat × SV)} {obs : List Ob} {d : Nat}
/-- A pointer that is not nil. -/
def SV.sure : SV → Bool
 | .ptr _ _ => true
 | .ep _ _ => true
 | .d (.pt _) => true
 | _ => false
theorem RepS.sure {w : World} {ok : Nat → Prop} {Ω : List Value} {x : SV} {v : Value} (h : RepS w ok Ω x v) (hx : x.sure = true) : ∃ a, v = .pointer (some a) := by
 cases h with
 | ptr o off b ho => exact ⟨_, rfl⟩
 | ptrG o off b len cap ho => exact ⟨_, rfl⟩
 | ep => exact ⟨_, rfl⟩
 | d x v hd => cases hd with
  | pt => exact ⟨_, rfl⟩
  | _ => cases hx
 | _ => cases hx
theorem AOp.nilCheck {x : Operand} {sv : SV} (ho : o.op = .nilCheck x) (hd : o.dst = some d) (hn : d < C.n) (hx : opS ⟨e, obs⟩ x = some sv) (hs : sv.sure = true) (h : AO C ops rest ⟨(d, sv) :: e, obs⟩ Q) : AOp C ops rest o ⟨e, obs⟩ Q :=
 AOp.value hd hn (fun _ a w hr => by
  obtain ⟨ad, hv⟩ := (hr.eval hx).sure hs
  refine ⟨.pointer (some ad), ?_, by rw [← hv]; exact hr.eval hx⟩
  simp [execOp, ho, hv]) h

/-- A slot that holds no slice begins one of the call's own. -/
theorem Rel.adopt {Ω : List Value} {a : Act} {w : World} {t : Nat} (hr : Rel C ⟨e, obs⟩ Ω a w) (hx : get e t = some (.d (.v (.slice none 0 0)))) (el sz : Nat) :
  Rel C ⟨(t, .own obs.length) :: e, obs ++ [.grow el sz []]⟩ (Ω ++ [.slice none 0 0]) a w := by
 have hlen : obs.length = Ω.length := hr.mem.len
 have hok : ∀ b, okB C obs Ω w b → okB C (obs ++ [.grow el sz []]) (Ω ++ [.slice none 0 0]) w b := fun b hb => ⟨hb.1, hb.2.1, fun o ob k e1 l e2 => by
  rw [List.getElem?_append] at e1 e2
  rw [← hlen] at e2
  split at e1
  ·rename_i hi; rw [if_pos hi] at e2; exact hb.2.2 o ob k e1 l e2
  ·rename_i hi
   rw [if_neg hi] at e2
   have : k = .slice none 0 0 := by
    cases hq : o - obs.length with
    | zero => rw [hq] at e2; exact (Option.some.inj e2).symm
    | succ m => rw [hq] at e2; simp at e2
   subst this
   simp [blk]⟩
 have hΩ : ∀ (o : Nat) v, Ω[o]? = some v → (Ω ++ [.slice none 0 0])[o]? = some v := fun o v h => by
  rw [List.getElem?_append_left (List.getElem?_eq_some_iff.1 h).1]; exact h
 have new1 : ∀ {i : Nat} {ob : Ob} {k : Value}, (obs ++ [.grow el sz []])[i]? = some ob → (Ω ++ [.slice none 0 0])[i]? = some k → (obs[i]? = some ob ∧ Ω[i]? = some k) ∨ (i = obs.length ∧ ob = .grow el sz [] ∧ k = .slice none 0 0) := fun {i ob k} e1 e2 => by
  rw [List.getElem?_append] at e1 e2
  rw [← hlen] at e2
  split at e1
  ·rename_i hi; rw [if_pos hi] at e2; exact .inl ⟨e1, e2⟩
  ·rename_i hi
   rw [if_neg hi] at e2
   cases hq : i - obs.length with
   | zero =>
    rw [hq] at e1 e2
    exact .inr ⟨by omega, (Option.some.inj e1).symm, (Option.some.inj e2).symm⟩
   | succ m => rw [hq] at e1; simp at e1
 refine ⟨hr.defers, hr.size, fun q x hq => ?_, ⟨by simp [hlen], fun i ob k e1 e2 => ?_, fun i j a b p q x hij e1 e2 l1 l2 e3 e4 hp => ?_, fun i ob p b e1 l1 e2 hp => ?_, hr.mem.fr⟩⟩
 ·simp only [get] at hq
  split at hq
  ·rename_i et; subst et; cases hq
   obtain ⟨v, hv, hrep⟩ := hr.env t _ hx
   rw [hrep.val] at hv
   exact ⟨_, hv, .own _ _ (by rw [hlen, List.getElem?_append_right (Nat.le_refl _)]; simp)⟩
  ·obtain ⟨v, hv, hrep⟩ := hr.env q x hq
   exact ⟨v, hv, hrep.mono (fun b hb => ⟨hok b hb, rfl⟩) hΩ⟩
 ·rcases new1 e1 e2 with ⟨f1, f2⟩ | ⟨_, rfl, rfl⟩
  ·exact (hr.mem.obj i ob k f1 f2).mono (fun b hb => ⟨hok b hb, rfl⟩) hΩ (fun _ _ _ => rfl)
  ·exact ⟨0, [], World.ownsRow_nil w 0 el sz, rfl, fun i x y hx => by simp at hx⟩
 ·rcases new1 e1 e3 with ⟨f1, f2⟩ | ⟨_, rfl, rfl⟩
  ·rcases new1 e2 e4 with ⟨g1, g2⟩ | ⟨_, rfl, rfl⟩
   ·exact hr.mem.sep i j a b p q x hij f1 g1 l1 l2 f2 g2 hp
   ·simp [blk]
  ·cases hp
 ·rcases new1 e1 e2 with ⟨f1, f2⟩ | ⟨_, rfl, rfl⟩
  ·exact hr.mem.new i ob p b f1 l1 f2 hp
  ·cases hp
theorem AC.adopt (t el sz : Nat) {c : Code} (hx : get e t = some (.d (.v (.slice none 0 0)))) (h : AC C c ⟨(t, .own obs.length) :: e, obs ++ [.grow el sz []]⟩ Q) : AC C c ⟨e, obs⟩ Q :=
 fun Ω a w hr => h _ a w (hr.adopt hx el sz)
theorem AO.adopt {l : List Oper} (t el sz : Nat) (hx : get e t = some (.d (.v (.slice none 0 0)))) (h : AO C ops l ⟨(t, .own obs.length) :: e, obs ++ [.grow el sz []]⟩ Q) : AO C ops l ⟨e, obs⟩ Q :=
 fun Ω a w hr => h _ a w (hr.adopt hx el sz)
end
end Go.Vm

/- Truncation of what may be no number; calls of functions without a Go body that draw. -/
set_option linter.unusedVariables false
set_option linter.unusedSimpArgs false
namespace Flt
open Go Ieee Go.Vm
def isNan (x : Nat) : Bool := (FloatKind.f64.decode x).isNaN
/-- Truncated, if it is a number. -/
def truncN (x : Nat) : Nat := bif isNan x then x else truncD x
/-- z is what truncation may give. -/
def TruncR (x z : Nat) : Prop := (isNan x = false → z = truncD x) ∧ (isNan x = true → isNan z = true)
theorem truncN_of {x : Nat} (h : isNan x = false) : truncN x = truncD x := by unfold truncN; rw [h]; rfl
theorem order_nan {x y : Nat} (h : isNan y = true) : FloatKind.f64.format.order x y = none := by
 unfold isNan at h
 have h' : (double.read y).isNaN = true := h
 unfold Ieee.Format.order
 show Ieee.Datum.order (double.read x) (double.read y) = none
 generalize double.read y = d at *
 generalize double.read x = c
 cases d with
 | nan s t => cases c <;> rfl
 | number s m e => cases h'
 | infinity s => cases h'
theorem order_nan' {x y : Nat} (h : isNan x = true) : FloatKind.f64.format.order x y = none := by
 unfold isNan at h
 have h' : (double.read x).isNaN = true := h
 unfold Ieee.Format.order
 show Ieee.Datum.order (double.read x) (double.read y) = none
 generalize double.read x = d at *
 generalize double.read y = c
 cases d with
 | nan s t => cases c <;> rfl
 | number s m e => cases h'
 | infinity s => cases h'
theorem TruncR.order {x z : Nat} (h : TruncR x z) (y : Nat) : FloatKind.f64.format.order y z = FloatKind.f64.format.order y (truncN x) := by
 cases hx : isNan x with
 | false => rw [h.1 hx, truncN_of hx]
 | true => rw [order_nan (h.2 hx), order_nan (by unfold truncN; rw [hx]; exact hx)]
theorem TruncR.feq {x z : Nat} (h : TruncR x z) (y : Nat) : feq y z = feq y (truncN x) := by unfold Vm.feq; exact congrArg (· == some Ordering.eq) (h.order y)
theorem quiet_nan (s : Bool) (t : Nat) : isNan (FloatKind.f64.encode (.nan s (FloatKind.f64.format.quiet t))) = true := by
 show (double.read (double.write (.nan s (double.quiet t)))).isNaN = true
 have e1 : double.write (.nan s (double.quiet t)) = (if s then 9223372036854775808 + (9218868437227405312 + (t ||| 2251799813685248) % 4503599627370496) else 9218868437227405312 + (t ||| 2251799813685248) % 4503599627370496) := rfl
 have hr : 0 < (t ||| 2251799813685248) % 4503599627370496 := by
  have : ((t ||| 2251799813685248) % 4503599627370496).testBit 51 = true := by
   rw [show (4503599627370496 : Nat) = 2 ^ 52 from by decide, Nat.testBit_mod_two_pow, Nat.testBit_or]
   have : (2251799813685248 : Nat).testBit 51 = true := by decide
   simp [this]
  rcases Nat.eq_zero_or_pos ((t ||| 2251799813685248) % 4503599627370496) with h | h
  ·rw [h] at this; simp at this
  ·exact h
 have hl : (t ||| 2251799813685248) % 4503599627370496 < 4503599627370496 := Nat.mod_lt _ (by omega)
 generalize (t ||| 2251799813685248) % 4503599627370496 = r at *
 have e2 : (double.write (.nan s (double.quiet t))) % 9223372036854775808 = 9218868437227405312 + r := by
  rw [e1]; cases s
  ·rw [if_neg (by simp)]; omega
  ·rw [if_pos rfl]; omega
 have h3 : ∀ w : Nat, w % 9223372036854775808 = 9218868437227405312 + r → (double.read w).isNaN = true := fun w hw => by
  unfold Ieee.Format.read
  have f1 : double.signWeight = 9223372036854775808 := by decide
  have f2 : double.binade = 4503599627370496 := by decide
  have f3 : double.infRung = 9218868437227405312 := by decide
  simp only [f1, f2, f3, hw]
  rw [if_neg (by omega), if_neg (by omega), if_neg (by omega)]
  rfl
 exact h3 _ e2
def truncS (x : Nat) (d : Ieee.Datum) : Sem Value :=
 match d with
 | .nan s t =>
  if FloatKind.f64.format.quiet t = t then pure (.float .f64 x) else do
   let kept ← choose (.extern "math.Floor,Ceil,Trunc,RoundToEven.signallingNaN kept" 2)
   pure (.float .f64 (if kept == 1 then x else FloatKind.f64.encode (.nan s (FloatKind.f64.format.quiet t))))
 | d => pure (.float .f64 (FloatKind.f64.encode (d.integral .zero)))
theorem run_truncA (P : Program) (x : Nat) (h : isNan x = true) (w : World) : ∃ r w', (Extern.MathFloor.toIntegral "math.archTrunc" .zero #[.float .f64 x]).run P w = .ok r w' ∧ (w' = w ∨ w' = w.drew) ∧ ∃ z, r = .float .f64 z ∧ isNan z = true := by
 have e : Extern.MathFloor.toIntegral "math.archTrunc" .zero #[.float .f64 x] = truncS x (FloatKind.f64.decode x) := rfl
 rw [e]
 have hx := h
 unfold isNan at h
 generalize FloatKind.f64.decode x = d at *
 cases d with
 | number s m e => cases h
 | infinity s => cases h
 | nan s t =>
  unfold truncS
  simp only
  split
  ·exact ⟨_, w, rfl, .inl rfl, x, rfl, hx⟩
  ·have hq := quiet_nan s t
   simp only [Sem.run_bind, run_choose_drew]
   split
   ·exact ⟨_, _, rfl, .inl rfl, _, rfl, by split <;> assumption⟩
   ·exact ⟨_, _, rfl, .inr rfl, _, rfl, by split <;> assumption⟩
end Flt
namespace Go.Vm
section
variable {C : Ctx} {Q : Exit → St → Prop} {ops : Array Oper} {rest : List Oper} {o : Oper} {e : List (Nat × SV)} {obs : List Ob} {d : Nat}
/-- A function without a Go body that may draw. -/
theorem AOp.callXA {R : Value → Prop} {f : FuncId} {xs : List Operand} {ts : Array TypeId} (vals : List Value) (ho : o.op = .call { callee := .value (.func f), args := xs.toArray, argTypes := ts }) (hd : o.dst = some d) (hn : d < C.n)
  (hx : mapO (argD ⟨e, obs⟩) xs = some (vals.map .v)) (hrun : ∀ w, ∃ r w', (callFunc f vals.toArray).run C.P w = .ok (.value r) w' ∧ (w' = w ∨ w' = w.drew) ∧ R r) (h : ∀ r, R r → AO C ops rest ⟨(d, .d (.v r)) :: e, obs⟩ Q) : AOp C ops rest o ⟨e, obs⟩ Q :=
 AOp.drawn (R := R) hd hn (fun Ω a w hr => by
  obtain ⟨hl, hi⟩ := mapO_get hx
  obtain ⟨r, w', h1, h2, h3⟩ := hrun w
  refine ⟨r, w', ?_, h2, h3⟩
  have : xs.map a.eval = vals := by
   apply List.ext_getElem?
   intro i
   rw [List.getElem?_map]
   rcases Nat.lt_or_ge i xs.length with hlt | hge
   ·have h1 : xs[i]? = some xs[i] := List.getElem?_eq_getElem hlt
    have h2 : vals[i]? = some (vals[i]'(by simp at hl; omega)) := List.getElem?_eq_getElem _
    have := hi i _ (.v (vals[i]'(by simp at hl; omega))) h1 (by rw [List.getElem?_map, h2]; rfl)
    unfold argD at this
    split at this
    ·rename_i z hz
     rw [h1, h2]
     have hd := dataS_rep 9 this (hr.eval hz)
     exact congrArg some hd.valv
    ·cases this
   ·rw [List.getElem?_eq_none hge, List.getElem?_eq_none (by simp at hl; omega)]; rfl
  simp only [execOp, ho, resolve, Act.eval, Deferred.ofValue, Sem.run_bind, Sem.run_pure, Result.andThen_ok, invoke, Array.empty_append, Array.append_empty, List.map_toArray, this, h1]) h
end
end Go.Vm

/- Regions that draw their order, walked in an order of one's own. -/
set_option linter.unusedVariables false
namespace Go.Vm

section
variable {C : Ctx} {ops : Array Oper} {obs : List Ob} {md : Region.Mode}

structure HInv (md : Region.Mode) (ops : Array Oper) (hs : List Nat) (listed : Array Bool) : Prop where
 size : listed.size = ops.size
 closed : ∀ j oj, ops[j]? = some oj → listed.getD j false = true → ∀ e ∈ oj.after, Region.binds md e = true → listed.getD e.on false = true
 tail : ∀ t, t ∉ hs → t < ops.size → listed.getD t true = false

theorem HInv.set {hs : List Nat} {i : Nat} {listed : Array Bool} (inv : HInv md ops hs listed) (hi : i ∈ Region.ready md ops listed) (hin : i ∈ hs) : HInv md ops hs (listed.setIfInBounds i true) := by
 obtain ⟨_, oi, hoi, hall⟩ := mem_ready.1 hi
 refine ⟨by simp [inv.size], fun j oj hj hl e he hb => ?_, fun t ht ht' => by rw [getD_set_ne true (show i ≠ t from fun e => ht (by rw [← e]; exact hin))]; exact inv.tail t ht ht'⟩
 by_cases hij : i = j
 ·subst hij
  have : oj = oi := Option.some.inj (hj.symm.trans hoi)
  subst this
  exact getD_set_true (hall e he hb)
 ·rw [getD_set_ne false hij] at hl
  exact getD_set_true (inv.closed j oj hj hl e he hb)

/-- Number j waits for number i, through others. -/
def ancB (md : Region.Mode) (ops : Array Oper) : Nat → Nat → Nat → Bool
 | 0, _, _ => false
 | f + 1, j, i => match ops[j]? with
  | some oj => oj.after.any fun e => Region.binds md e && (e.on == i || ancB md ops f e.on i)
  | none => false
theorem anc_listed {hs : List Nat} {listed : Array Bool} (inv : HInv md ops hs listed) : ∀ (f j i : Nat), ancB md ops f j i = true → (∀ oj, ops[j]? = some oj → ∀ e ∈ oj.after, Region.binds md e = true → listed.getD e.on false = true) → listed.getD i false = true
 | 0, _, _, h, _ => by cases h
 | f + 1, j, i, h, hd => by
  unfold ancB at h
  split at h
  ·rename_i oj hj
   obtain ⟨e, he, hb⟩ := Array.any_eq_true'.1 h
   simp only [Bool.and_eq_true, Bool.or_eq_true, beq_iff_eq] at hb
   have hl := hd oj hj e he hb.1
   rcases hb.2 with rfl | hb2
   ·exact hl
   ·exact anc_listed inv f e.on i hb2 (fun ok hk e' he' hb' => inv.closed e.on ok hk hl e' he' hb')
  ·cases h

def HFirst (md : Region.Mode) (ops : Array Oper) (hs : List Nat) : Prop := ∀ listed, HInv md ops hs listed → ∀ i ∈ hs, listed.getD i true = false → ∀ j ∈ Region.ready md ops listed, j ∈ hs

def wpAnyO (C : Ctx) (md : Region.Mode) (ops : Array Oper) (obs : List Ob) (hs : List Nat) (L : Array Bool → Env → Prop) : Nat → Array Bool → Env → Prop
 | 0, listed, e => L listed e
 | f + 1, listed, e => Region.ready md ops listed ≠ [] ∧ ∀ i ∈ Region.ready md ops listed, i ∈ hs ∧ vOp C ops obs i (wpAnyO C md ops obs hs L f (listed.setIfInBounds i true)) e

def tailO (md : Region.Mode) (ops : Array Oper) : List Nat → Array Bool → Bool
 | [], listed => (Region.ready md ops listed).isEmpty
 | t :: ts, listed => decide (Region.ready md ops listed = [t]) && tailO md ops ts (listed.setIfInBounds t true)
def headO (md : Region.Mode) (ops : Array Oper) (ts : List Nat) : List Nat → Array Bool → Bool
 | [], listed => tailO md ops ts listed
 | i :: is, listed => (Region.ready md ops listed).contains i && Region.free md ops listed i && headO md ops ts is (listed.setIfInBounds i true)
def opsAt (ops : Array Oper) (is : List Nat) : List Oper := is.map fun i => ops.getD i default

theorem wpAny_of_tailO {Q' : Exit → Act → World → Prop} {P : Program} : ∀ (ts : List Nat) (listed : Array Bool) (a : Act) (w : World), ts.all (· < ops.size) = true →
  tailO md ops ts listed = true → wpList P ops Q' (opsAt ops ts) a w → wpAny P md ops Q' ts.length listed a w
 | [], _, _, _, _, hB, h => ⟨by simpa [tailO] using hB, h⟩
 | t :: ts, listed, a, w, hl, hB, h => by
  simp only [List.all_cons, Bool.and_eq_true, decide_eq_true_eq] at hl
  have h0 : ops[t]? = some (ops.getD t default) := by simp [hl.1]
  simp only [tailO, Bool.and_eq_true, decide_eq_true_eq] at hB
  refine ⟨fun h1 => (by rw [hB.1] at h1; cases h1), fun i hi => ?_⟩
  rw [hB.1] at hi
  have hik : i = t := by simpa using hi
  subst hik
  have hw : wpOp P ops Q' i (wpList P ops Q' (opsAt ops ts)) a w := by unfold wpOp; simp only [h0]; exact h
  exact wpOp_mono (fun a' w' h' => wpAny_of_tailO ts _ a' w' hl.2 hB.2 h') hw

def drawOB (ops : Array Oper) (is ts : List Nat) : Bool :=
 is.all (· < ops.size) && ts.all (· < ops.size) && ts.all (fun t => !is.contains t) && (is.length + ts.length == ops.size) &&
 ((List.range ops.size).all fun t => is.contains t || (ts.contains t && is.all (ancB .any ops ops.size t))) && headO .any ops ts is (Array.replicate ops.size false)

end
end Go.Vm
