/- The framework by which a function is walked through: what this claim needs of it. -/
import Derived.WalkKit
import Derived.WalkLawsBesides
import Derived.Maps.AppendAt
import Ieee.Arith
import Derived.ProofKit
import Derived.Carry
import Derived.OpenShut
import Derived.ChangeOld
import Derived.Below
import Derived.StillTail
import Derived.Laws.StructEq
import Derived.BigFrame
import Derived.ChangeKeysEq
import Derived.Laws.NewFold
import Derived.Recover
import Derived.Deep.Draws
import Derived.Laws.MakeOwn
import Derived.Laws.OwnMore
import Derived.Laws.Slices
import Derived.Laws.Cover3
import Derived.Laws.CopyRow
import Derived.Laws.IdiomCopy
import Derived.WideLaws
import Derived.Lib.LaidU8
import Derived.LaidHandle
import Derived.MakeChecks
import Derived.Lay
import Derived.LaidLaws
import Derived.Shelf.Bytes.GrowOwn
import Derived.Lib.BufferSrc
import Derived.Laws.BytesArg
import Derived.Laws.Strings
import Derived.Test.YtbinnbmpedmabaaGreatProg
import Derived.JoinedCond
/- The package variables that the walks read, by number (of an array's element: the number and 1048576 times its place), with what they hold. -/
namespace Go.Vm
def Globs : List (Nat × Value) := []
def GlobsE : List Nat := []
def GlobsP : List Nat := []
def GlobsF : List Nat := []
def ErrT (t : TypeId) : Prop := True -- T
end Go.Vm

/- A view of the machine's memory: values as data (what only is read) and objects of the call's own. The core: what it says of a world, and how it is kept. -/
namespace Go.Vm

inductive D where
 | v (x : Value)
 | ds (sz : Nat) (cells : List D)
 | pt (cells : List D)
 | ag (cells : List D)
 | ifc (t : TypeId) (x : D)
 | tu (vs : List D)
 /-- a function with what it has captured -/
 | clo (f : FuncId) (caps : List D)

inductive RepD (w : World) (ok : Nat → Prop) : D → Value → Prop
 | v (x : Value) : RepD w ok (.v x) x
 | nil (sz : Nat) (a : Option Addr) (c : Nat) : RepD w ok (.ds sz []) (.slice a 0 c)
 | ds (sz b off len cap : Nat) (cells : List D) (vals : Nat → Value) (hn : cells.length = len * sz) (hc : len ≤ cap) (hb : ok b)
   (hcell : ∀ i, i < cells.length → w.cell? ⟨b, off + i, none⟩ = some (vals i)) (hr : ∀ (i : Nat) x, cells[i]? = some x → RepD w ok x (vals i)) :
   RepD w ok (.ds sz cells) (.slice (some ⟨b, off, none⟩) len cap)
 | pt (b off : Nat) (cells : List D) (vals : Nat → Value) (hb : ok b)
   (hcell : ∀ i, i < cells.length → w.cell? ⟨b, off + i, none⟩ = some (vals i)) (hr : ∀ (i : Nat) x, cells[i]? = some x → RepD w ok x (vals i)) :
   RepD w ok (.pt cells) (.pointer (some ⟨b, off, none⟩))
 | ag (cells : List D) (vs : List Value) (hl : vs.length = cells.length) (hr : ∀ (i : Nat) x y, cells[i]? = some x → vs[i]? = some y → RepD w ok x y) :
   RepD w ok (.ag cells) (.agg vs.toArray)
 | ifc (t : TypeId) (x : D) (u : Value) (h : RepD w ok x u) : RepD w ok (.ifc t x) (.iface t u)
 | tu (cells : List D) (vs : List Value) (hl : vs.length = cells.length) (hr : ∀ (i : Nat) x y, cells[i]? = some x → vs[i]? = some y → RepD w ok x y) :
   RepD w ok (.tu cells) (.tuple vs.toArray)
 | clo (f : FuncId) (cells : List D) (vs : List Value) (hl : vs.length = cells.length) (hr : ∀ (i : Nat) x y, cells[i]? = some x → vs[i]? = some y → RepD w ok x y) :
   RepD w ok (.clo f cells) (.func (.func f) #[] vs.toArray)

theorem cell_heap {w w' : World} {b o : Nat} (h : w'.heap[b]? = w.heap[b]?) : w'.cell? ⟨b, o, none⟩ = w.cell? ⟨b, o, none⟩ :=
 World.cell?_of_block (a := ⟨b, o, none⟩) h

theorem RepD.mono {w w' : World} {ok ok' : Nat → Prop} (h : ∀ b, ok b → ok' b ∧ w'.heap[b]? = w.heap[b]?) {x : D} {v : Value} (hr : RepD w ok x v) : RepD w' ok' x v := by
 induction hr with
 | v x => exact .v x
 | nil sz a c => exact .nil sz a c
 | ds sz b off len cap cells vals hn hc hb hcell _ ih =>
  exact .ds sz b off len cap cells vals hn hc (h b hb).1 (fun i hi => by rw [cell_heap (h b hb).2]; exact hcell i hi) ih
 | pt b off cells vals hb hcell _ ih =>
  exact .pt b off cells vals (h b hb).1 (fun i hi => by rw [cell_heap (h b hb).2]; exact hcell i hi) ih
 | ag cells vs hl _ ih => exact .ag cells vs hl ih
 | ifc t x u _ ih => exact .ifc t x u ih
 | tu cells vs hl _ ih => exact .tu cells vs hl ih
 | clo f cells vs hl _ ih => exact .clo f cells vs hl ih

inductive SV where
 | d (x : D)
 | ptr (o off : Nat)
 | sl (o sz off len cap : Nat)
 | own (o : Nat)
 /-- the first k elements of an own slice -/
 | pre (o k : Nat)
 /-- data, a slice whose capacity is its length -/
 | full (sz : Nat) (cells : List D)
 | ep (cells : List D) (i : Nat)
 | ag (cells : List SV)
 | tu (vs : List SV)
 | ifc (t : TypeId) (x : SV)
 | fv (fn : Fn) (first caps : List SV)
 /-- of this nothing is said -/
 | any

inductive RepS (w : World) (ok : Nat → Prop) (Ω : List Value) : SV → Value → Prop
 | any (v : Value) : RepS w ok Ω .any v
 | d (x : D) (v : Value) (h : RepD w ok x v) : RepS w ok Ω (.d x) v
 | ptr (o off b : Nat) (h : Ω[o]? = some (.pointer (some ⟨b, 0, none⟩))) : RepS w ok Ω (.ptr o off) (.pointer (some ⟨b, off, none⟩))
 | ptrG (o off b len cap : Nat) (h : Ω[o]? = some (.slice (some ⟨b, 0, none⟩) len cap)) : RepS w ok Ω (.ptr o off) (.pointer (some ⟨b, off, none⟩))
 | sl (o sz off len cap b : Nat) (h : Ω[o]? = some (.pointer (some ⟨b, 0, none⟩))) : RepS w ok Ω (.sl o sz off len cap) (.slice (some ⟨b, off, none⟩) len cap)
 | own (o : Nat) (v : Value) (h : Ω[o]? = some v) (h1 : v.oneCell' = true := by first | rfl | assumption) : RepS w ok Ω (.own o) v
 | pre (o k n cap : Nat) (a : Option Addr) (h : Ω[o]? = some (.slice a n cap)) (hk : k ≤ n) : RepS w ok Ω (.pre o k) (.slice a k cap)
 | full (sz : Nat) (cells : List D) (a : Option Addr) (n : Nat) (h : RepD w ok (.ds sz cells) (.slice a n n)) : RepS w ok Ω (.full sz cells) (.slice a n n)
 | ep (b off i : Nat) (cells : List D) (vals : Nat → Value) (hb : ok b)
   (hcell : ∀ j, j < cells.length → w.cell? ⟨b, off + j, none⟩ = some (vals j)) (hr : ∀ (j : Nat) x, cells[j]? = some x → RepD w ok x (vals j)) :
   RepS w ok Ω (.ep cells i) (.pointer (some ⟨b, off + i, none⟩))
 | ag (cells : List SV) (vs : List Value) (hl : vs.length = cells.length) (hr : ∀ (i : Nat) x y, cells[i]? = some x → vs[i]? = some y → RepS w ok Ω x y) :
   RepS w ok Ω (.ag cells) (.agg vs.toArray)
 | tu (cells : List SV) (vs : List Value) (hl : vs.length = cells.length) (hr : ∀ (i : Nat) x y, cells[i]? = some x → vs[i]? = some y → RepS w ok Ω x y) :
   RepS w ok Ω (.tu cells) (.tuple vs.toArray)
 | ifc (t : TypeId) (x : SV) (u : Value) (h : RepS w ok Ω x u) : RepS w ok Ω (.ifc t x) (.iface t u)
 | fv (fn : Fn) (first caps : List SV) (fs cs : List Value) (hf : fs.length = first.length) (hc : cs.length = caps.length)
   (hfr : ∀ (i : Nat) x y, first[i]? = some x → fs[i]? = some y → RepS w ok Ω x y) (hcr : ∀ (i : Nat) x y, caps[i]? = some x → cs[i]? = some y → RepS w ok Ω x y) :
   RepS w ok Ω (.fv fn first caps) (.func fn fs.toArray cs.toArray)

theorem RepS.mono {w w' : World} {ok ok' : Nat → Prop} {Ω Ω' : List Value} (h : ∀ b, ok b → ok' b ∧ w'.heap[b]? = w.heap[b]?) (hΩ : ∀ (o : Nat) v, Ω[o]? = some v → Ω'[o]? = some v)
  {x : SV} {v : Value} (hr : RepS w ok Ω x v) : RepS w' ok' Ω' x v := by
 induction hr with
 | any v => exact .any v
 | d x v hd => exact .d x v (hd.mono h)
 | ptr o off b ho => exact .ptr o off b (hΩ _ _ ho)
 | ptrG o off b len cap ho => exact .ptrG o off b len cap (hΩ _ _ ho)
 | sl o sz off len cap b ho => exact .sl o sz off len cap b (hΩ _ _ ho)
 | own o v ho h1 => exact .own o v (hΩ _ _ ho) h1
 | pre o k n cap a ho hk => exact .pre o k n cap a (hΩ _ _ ho) hk
 | full sz cells a n hd => exact .full sz cells a n (hd.mono h)
 | ep b off i cells vals hb hcell hr =>
  exact .ep b off i cells vals (h b hb).1 (fun j hj => by rw [cell_heap (h b hb).2]; exact hcell j hj) (fun j x hj => (hr j x hj).mono h)
 | ag cells vs hl _ ih => exact .ag cells vs hl ih
 | tu cells vs hl _ ih => exact .tu cells vs hl ih
 | ifc t x u _ ih => exact .ifc t x u ih
 | fv fn first caps fs cs hf hc _ _ ih1 ih2 => exact .fv fn first caps fs cs hf hc ih1 ih2

def get : List (Nat × SV) → Nat → Option SV
 | [], _ => none
 | (k, x) :: r, t => if k = t then some x else get r t
theorem get_mem {e : List (Nat × SV)} {t : Nat} {x : SV} (h : get e t = some x) : (t, x) ∈ e := by
 induction e with
 | nil => cases h
 | cons p r ih =>
  obtain ⟨k, y⟩ := p
  simp only [get] at h
  split at h
  ·rename_i e; subst e; cases h; exact .head _
  ·exact .tail _ (ih h)

inductive Ob where
 | fix (ty : TypeId) (cells : List SV)
 | grow (ty : TypeId) (sz : Nat) (cells : List D)
 | dead
 | frame (vs : Array Value) (env : List (Nat × SV))

def Ob.live : Ob → Bool
 | .dead => false
 | _ => true

def blk : Value → Option Nat
 | .pointer (some a) => some a.block
 | .slice (some a) _ _ => some a.block
 | _ => none

def ObOK (w : World) (ok : Nat → Prop) (Ω : List Value) (h : Value) : Ob → Prop
 | .fix ty cells => ∃ (b : Nat) (vs : List Value), h = .pointer (some ⟨b, 0, none⟩) ∧ w.heap[b]? = some (.cells vs.toArray ty (0, 0)) ∧ vs.length = cells.length ∧
   (∀ (i : Nat) x y, cells[i]? = some x → vs[i]? = some y → RepS w ok Ω x y) ∧ ∀ y, y ∈ vs → y.oneCell' = true
 | .grow ty sz cells => ∃ (n : Nat) (xs : List Value), w.ownsRow 0 ty sz h n xs ∧ xs.length = cells.length ∧ (∀ (i : Nat) x y, cells[i]? = some x → xs[i]? = some y → RepD w ok x y)
 | .dead => True
 | .frame vs env => blk h = none ∧ ∀ t x, get env t = some x → ∃ v, vs[t]? = some v ∧ RepS w ok Ω x v

structure Ctx where
 P : Program
 W : World
 /-- old blocks that may be read -/
 ok : Nat → Prop
 /-- old blocks that may be written -/
 may : List Nat
 /-- slots -/
 n : Nat
 /-- what is deferred -/
 dfs : List Deferred := []

def okB (C : Ctx) (obs : List Ob) (Ω : List Value) (w : World) (b : Nat) : Prop :=
 (C.ok b ∨ C.W.heap.size ≤ b ∨ b ∈ C.may) ∧ b < w.heap.size ∧ ∀ (o : Nat) ob h, obs[o]? = some ob → ob.live = true → Ω[o]? = some h → blk h ≠ some b

structure St where
 env : List (Nat × SV)
 obs : List Ob

def put (e : List (Nat × SV)) (t : Nat) (x : SV) : List (Nat × SV) := (t, x) :: e

theorem get_put (e : List (Nat × SV)) (t u : Nat) (x : SV) : get (put e t x) u = if t = u then some x else get e u := rfl

def HoldsG (W : World) : Prop := (∀ p, p ∈ Globs → p.1 % 1048576 < W.heap.size ∧ W.cell? ⟨p.1 % 1048576, p.1 / 1048576, none⟩ = some p.2) ∧ (∀ p, p ∈ GlobsE → p < W.heap.size ∧ ∃ t u, W.cell? ⟨p, 0, none⟩ = some (.iface t u)) ∧
 (∀ p, p ∈ GlobsP → p < W.heap.size ∧ ∃ t a, W.cell? ⟨p, 0, none⟩ = some (.iface t (.pointer (some a))) ∧ ErrT t) ∧ ∀ p, p ∈ GlobsF → p < W.heap.size ∧ ∃ x, W.cell? ⟨p, 0, none⟩ = some (.float .f64 x)
def globB (b : Nat) : Prop := (∃ p, p ∈ Globs ∧ p.1 % 1048576 = b) ∨ b ∈ GlobsE ∨ b ∈ GlobsP ∨ b ∈ GlobsF
structure Fr (C : Ctx) (w : World) : Prop where
 os : w.os = C.W.os
 tape : w.tape = C.W.tape
 output : w.output = C.W.output
 size : C.W.heap.size ≤ w.heap.size
 block : ∀ b, b < C.W.heap.size → b ∉ C.may → w.heap[b]? = C.W.heap[b]?
 glob : HoldsG C.W
 gmay : ∀ b, b ∈ C.may → ¬ globB b

structure Mem (C : Ctx) (obs : List Ob) (Ω : List Value) (w : World) : Prop where
 len : obs.length = Ω.length
 obj : ∀ (o : Nat) ob h, obs[o]? = some ob → Ω[o]? = some h → ObOK w (okB C obs Ω w) Ω h ob
 sep : ∀ (i j : Nat) a b h k x, i ≠ j → obs[i]? = some a → obs[j]? = some b → a.live = true → b.live = true → Ω[i]? = some h → Ω[j]? = some k → blk h = some x → blk k ≠ some x
 new : ∀ (o : Nat) ob h b, obs[o]? = some ob → ob.live = true → Ω[o]? = some h → blk h = some b → C.W.heap.size ≤ b ∨ b ∈ C.may
 fr : Fr C w

structure Rel (C : Ctx) (s : St) (Ω : List Value) (a : Act) (w : World) : Prop where
 defers : a.defers = C.dfs
 size : a.tmps.size = C.n
 env : ∀ t x, get s.env t = some x → ∃ v, a.tmps[t]? = some v ∧ RepS w (okB C s.obs Ω w) Ω x v
 mem : Mem C s.obs Ω w

theorem ObOK.lt {w : World} {ok : Nat → Prop} {Ω : List Value} {h : Value} {ob : Ob} (H : ObOK w ok Ω h ob) (hl : ob.live = true) {b : Nat} (hb : blk h = some b) : b < w.heap.size := by
 cases ob with
 | dead => cases hl
 | frame vs env => rw [H.1] at hb; cases hb
 | fix ty cells =>
  obtain ⟨b', vs, rfl, hw, _⟩ := H
  cases hb
  exact (Array.getElem?_eq_some_iff.1 hw).1
 | grow ty sz cells =>
  obtain ⟨n, xs, ho, _⟩ := H
  have : Value.ownBlock h = some b := by
   rcases ho.2 with ⟨rfl, _⟩ | ⟨g, cap, cur, rfl, _⟩
   ·cases hb
   ·exact hb
  exact (ho.lt b this).2

theorem ObOK.mono {w w' : World} {ok ok' : Nat → Prop} {Ω Ω' : List Value} {h : Value} {ob : Ob} (H : ObOK w ok Ω h ob) (hok : ∀ b, ok b → ok' b ∧ w'.heap[b]? = w.heap[b]?)
  (hΩ : ∀ (o : Nat) v, Ω[o]? = some v → Ω'[o]? = some v) (hb : ∀ b, blk h = some b → ob.live = true → w'.heap[b]? = w.heap[b]?) : ObOK w' ok' Ω' h ob := by
 cases ob with
 | dead => trivial
 | frame vs env => exact ⟨H.1, fun t x hx => let ⟨v, hv, hr⟩ := H.2 t x hx; ⟨v, hv, hr.mono hok hΩ⟩⟩
 | fix ty cells =>
  obtain ⟨b', vs, rfl, hw, hl, hr, h1⟩ := H
  exact ⟨b', vs, rfl, (hb b' rfl rfl).trans hw, hl, fun i x y hx hy => (hr i x y hx hy).mono hok hΩ, h1⟩
 | grow ty sz cells =>
  obtain ⟨n, xs, ho, hl, hr⟩ := H
  refine ⟨n, xs, ⟨ho.1, ?_⟩, hl, fun i x y hx hy => (hr i x y hx hy).mono hok⟩
  rcases ho.2 with hn | ⟨g, cap, cur, rfl, h0, hg, rest⟩
  ·exact .inl hn
  ·exact .inr ⟨g, cap, cur, rfl, h0, (hb g rfl rfl).trans hg, rest⟩

/-! ### How the memory turns -/

theorem Act.put_get {a : Act} {d : Nat} {v : Value} (hd : d < a.tmps.size) (t : Nat) : (a.put (some d) v).tmps[t]? = if d = t then some v else a.tmps[t]? := by
 simp only [Act.put, Array.getElem?_setIfInBounds]
 split
 ·rename_i h; subst h; simp
 ·rfl

theorem Rel.put {C : Ctx} {s : St} {Ω : List Value} {a : Act} {w : World} (h : Rel C s Ω a w) {d : Nat} (hd : d < C.n) {x : SV} {v : Value} (hr : RepS w (okB C s.obs Ω w) Ω x v) :
  Rel C ⟨put s.env d x, s.obs⟩ Ω (a.put (some d) v) w := by
 refine ⟨h.defers, by simp only [Act.put, Array.size_setIfInBounds]; exact h.size, fun t y hy => ?_, h.mem⟩
 rw [Act.put_get (by rw [h.size]; exact hd)]
 dsimp only at hy
 rw [get_put] at hy
 split
 ·rename_i e; subst e; rw [if_pos rfl] at hy; cases hy; exact ⟨v, rfl, hr⟩
 ·rename_i e; rw [if_neg e] at hy; exact h.env t y hy

theorem Rel.putNone {C : Ctx} {s : St} {Ω : List Value} {a : Act} {w : World} (h : Rel C s Ω a w) (v : Value) : Rel C s Ω (a.put none v) w := h

theorem okB_heap {C : Ctx} {obs : List Ob} {Ω : List Value} {w w' : World} (h : w'.heap = w.heap) : okB C obs Ω w' = okB C obs Ω w := by
 funext b; unfold okB; rw [h]

theorem Mem.heap {C : Ctx} {obs : List Ob} {Ω : List Value} {w w' : World} (h : Mem C obs Ω w) (hh : w'.heap = w.heap) (ho : w'.os = w.os) (ht : w'.tape = w.tape) (hp : w'.output = w.output) : Mem C obs Ω w' := by
 refine ⟨h.len, fun o ob k h1 h2 => ?_, h.sep, h.new, ⟨ho.trans h.fr.os, ht.trans h.fr.tape, hp.trans h.fr.output, by rw [hh]; exact h.fr.size, fun b h1 h2 => by rw [hh]; exact h.fr.block b h1 h2, h.fr.glob, h.fr.gmay⟩⟩
 rw [okB_heap hh]
 exact (h.obj o ob k h1 h2).mono (fun b hb => ⟨hb, by rw [hh]⟩) (fun _ _ e => e) (fun b _ _ => by rw [hh])

theorem Rel.heap {C : Ctx} {s : St} {Ω : List Value} {a : Act} {w w' : World} (h : Rel C s Ω a w) (hh : w'.heap = w.heap) (ho : w'.os = w.os) (ht : w'.tape = w.tape) (hp : w'.output = w.output) : Rel C s Ω a w' := by
 refine ⟨h.defers, h.size, fun t x hx => ?_, h.mem.heap hh ho ht hp⟩
 obtain ⟨v, hv, hr⟩ := h.env t x hx
 exact ⟨v, hv, by rw [okB_heap hh]; exact hr.mono (fun b hb => ⟨hb, by rw [hh]⟩) (fun _ _ e => e)⟩

theorem list_get_append {α : Type} {l : List α} {x : α} {i : Nat} {y : α} (h : (l ++ [x])[i]? = some y) : l[i]? = some y ∨ (i = l.length ∧ y = x) := by
 rw [List.getElem?_append] at h
 split at h
 ·exact .inl h
 ·rename_i hi
  right
  have : i - l.length = 0 := by
   rcases Nat.eq_zero_or_pos (i - l.length) with h0 | h0
   ·exact h0
   ·rw [List.getElem?_eq_none (by simp; omega)] at h; cases h
  rw [this] at h
  simp at h
  exact ⟨by omega, h.symm⟩

theorem get_left {α : Type} {l r : List α} {i : Nat} {y : α} (h : l[i]? = some y) : (l ++ r)[i]? = some y := by
 rw [List.getElem?_append_left (List.getElem?_eq_some_iff.1 h).1]; exact h

theorem okB_alloc {C : Ctx} {obs : List Ob} {Ω : List Value} {w : World} (hlen : obs.length = Ω.length) {ob : Ob} {hd : Value} {o : Obj} (hb : ∀ b, blk hd = some b → b = w.heap.size) (b : Nat) (h : okB C obs Ω w b) :
  okB C (obs ++ [ob]) (Ω ++ [hd]) (w.alloc o) b ∧ (w.alloc o).heap[b]? = w.heap[b]? := by
 refine ⟨⟨h.1, ?_, fun o' ob' h' h1 h2 h3 => ?_⟩, heap_alloc_old w _ h.2.1⟩
 ·have := h.2.1; show b < (w.heap.push o).size; simp; omega
 ·rcases list_get_append h1 with h1 | ⟨e1, e2⟩
  ·rcases list_get_append h3 with h3 | ⟨e3, e4⟩
   ·exact h.2.2 o' ob' h' h1 h2 h3
   ·have := (List.getElem?_eq_some_iff.1 h1).1; omega
  ·rcases list_get_append h3 with h3 | ⟨e3, e4⟩
   ·have := (List.getElem?_eq_some_iff.1 h3).1; omega
   ·subst e4; intro e; have := hb b e; have := h.2.1; omega

theorem Mem.alloc {C : Ctx} {obs : List Ob} {Ω : List Value} {w : World} (h : Mem C obs Ω w) (ty : TypeId) (cells : List SV) (vs : List Value) (hl : vs.length = cells.length)
  (hr : ∀ (i : Nat) x y, cells[i]? = some x → vs[i]? = some y → RepS w (okB C obs Ω w) Ω x y) (h1 : ∀ y, y ∈ vs → y.oneCell' = true) :
  Mem C (obs ++ [.fix ty cells]) (Ω ++ [.pointer (some ⟨w.heap.size, 0, none⟩)]) (w.alloc (.cells vs.toArray ty)) := by
 have hok : ∀ b, okB C obs Ω w b → okB C (obs ++ [.fix ty cells]) (Ω ++ [.pointer (some ⟨w.heap.size, 0, none⟩)]) (w.alloc (.cells vs.toArray ty)) b ∧ (w.alloc (.cells vs.toArray ty)).heap[b]? = w.heap[b]? :=
  fun b hb => okB_alloc h.len (fun b hb => by cases hb; rfl) b hb
 have hΩ : ∀ (o : Nat) v, Ω[o]? = some v → (Ω ++ [.pointer (some ⟨w.heap.size, 0, none⟩)])[o]? = some v := fun o v e => get_left e
 refine ⟨by simp [h.len], fun o ob k e1 e2 => ?_, fun i j a b p q x hij e1 e2 l1 l2 e3 e4 hp => ?_, fun o ob p b e1 l1 e2 hp => ?_, ?_⟩
 ·rcases list_get_append e1 with e1 | ⟨i1, rfl⟩
  ·rcases list_get_append e2 with e2 | ⟨i2, _⟩
   ·refine (h.obj o ob k e1 e2).mono hok hΩ fun b hb hv => heap_alloc_old w _ ((h.obj o ob k e1 e2).lt hv hb)
   ·have := (List.getElem?_eq_some_iff.1 e1).1; have := h.len; omega
  ·rcases list_get_append e2 with e2 | ⟨i2, rfl⟩
   ·have := (List.getElem?_eq_some_iff.1 e2).1; have := h.len; omega
   ·exact ⟨w.heap.size, vs, rfl, heap_alloc_new w _, hl, fun i x y hx hy => (hr i x y hx hy).mono hok hΩ, h1⟩
 ·have hlen := h.len
  rcases list_get_append e1 with e1 | ⟨i1, f1⟩ <;> rcases list_get_append e2 with e2 | ⟨i2, f2⟩
  ·have z1 := (List.getElem?_eq_some_iff.1 e1).1
   have z2 := (List.getElem?_eq_some_iff.1 e2).1
   rcases list_get_append e3 with e3 | ⟨i3, f3⟩
   ·rcases list_get_append e4 with e4 | ⟨i4, f4⟩
    ·exact h.sep i j a b p q x hij e1 e2 l1 l2 e3 e4 hp
    ·omega
   ·omega
  ·have z1 := (List.getElem?_eq_some_iff.1 e1).1
   rcases list_get_append e3 with e3 | ⟨i3, f3⟩
   ·rcases list_get_append e4 with e4 | ⟨i4, f4⟩
    ·have z4 := (List.getElem?_eq_some_iff.1 e4).1; omega
    ·subst f4; intro hq; have e : some w.heap.size = some x := hq; injection e with e; have := (h.obj i a p e1 e3).lt l1 hp; omega
   ·omega
  ·have z2 := (List.getElem?_eq_some_iff.1 e2).1
   rcases list_get_append e3 with e3 | ⟨i3, f3⟩
   ·have z3 := (List.getElem?_eq_some_iff.1 e3).1; omega
   ·rcases list_get_append e4 with e4 | ⟨i4, f4⟩
    ·subst f3; intro hq; have e : some w.heap.size = some x := hp; injection e with e; have := (h.obj j b q e2 e4).lt l2 hq; omega
    ·omega
  ·omega
 ·rcases list_get_append e1 with e1 | ⟨i1, rfl⟩ <;> rcases list_get_append e2 with e2 | ⟨i2, rfl⟩
  ·exact h.new o ob p b e1 l1 e2 hp
  ·have := (List.getElem?_eq_some_iff.1 e1).1; have := h.len; omega
  ·have := (List.getElem?_eq_some_iff.1 e2).1; have := h.len; omega
  ·cases hp; exact .inl h.fr.size
 ·exact ⟨h.fr.os, h.fr.tape, h.fr.output, by have := h.fr.size; show _ ≤ (w.heap.push _).size; simp; omega, fun b e1 e2 => (heap_alloc_old w _ (Nat.lt_of_lt_of_le e1 h.fr.size)).trans (h.fr.block b e1 e2), h.fr.glob, h.fr.gmay⟩

theorem Rel.alloc {C : Ctx} {s : St} {Ω : List Value} {a : Act} {w : World} (h : Rel C s Ω a w) (ty : TypeId) (cells : List SV) (vs : List Value) (hl : vs.length = cells.length)
  (hr : ∀ (i : Nat) x y, cells[i]? = some x → vs[i]? = some y → RepS w (okB C s.obs Ω w) Ω x y) (h1 : ∀ y, y ∈ vs → y.oneCell' = true) :
  Rel C ⟨s.env, s.obs ++ [.fix ty cells]⟩ (Ω ++ [.pointer (some ⟨w.heap.size, 0, none⟩)]) a (w.alloc (.cells vs.toArray ty)) := by
 refine ⟨h.defers, h.size, fun t x hx => ?_, h.mem.alloc ty cells vs hl hr h1⟩
 obtain ⟨v, hv, hrv⟩ := h.env t x hx
 exact ⟨v, hv, hrv.mono (fun b hb => okB_alloc h.mem.len (fun b hb => by cases hb; rfl) b hb) (fun o v e => get_left e)⟩

theorem get_set {α : Type} {l : List α} {o i : Nat} {x y : α} (h : (l.set o x)[i]? = some y) : (i = o ∧ y = x ∧ o < l.length) ∨ (i ≠ o ∧ l[i]? = some y) := by
 rw [List.getElem?_set] at h
 split at h
 ·rename_i e
  split at h
  ·left; cases h; exact ⟨e.symm, rfl, by assumption⟩
  ·cases h
 ·rename_i e; exact .inr ⟨fun e2 => e e2.symm, h⟩

theorem okB_set {C : Ctx} {obs : List Ob} {Ω : List Value} {w w' : World} {o : Nat} {old new : Ob} {b : Nat} (ho : obs[o]? = some old) (hl : old.live = true ∨ new.live = false) (hs : w.heap.size ≤ w'.heap.size)
  (h : okB C obs Ω w b) : okB C (obs.set o new) Ω w' b := by
 refine ⟨h.1, Nat.lt_of_lt_of_le h.2.1 hs, fun i ob k e1 l e2 => ?_⟩
 rcases get_set e1 with ⟨rfl, rfl, _⟩ | ⟨_, e1⟩
 ·rcases hl with hl | hl
  ·exact h.2.2 i old k ho hl e2
  ·rw [l] at hl; cases hl
 ·exact h.2.2 i ob k e1 l e2

theorem Mem.set {C : Ctx} {obs : List Ob} {Ω : List Value} {w : World} (h : Mem C obs Ω w) {o b : Nat} {ty : TypeId} {cells cells' : List SV} {old : List Value} (ho : obs[o]? = some (.fix ty cells))
  (hΩ : Ω[o]? = some (.pointer (some ⟨b, 0, none⟩))) (hw : w.heap[b]? = some (.cells old.toArray ty (0, 0))) (vs : List Value) (hl : vs.length = cells'.length)
  (hr : ∀ (i : Nat) x y, cells'[i]? = some x → vs[i]? = some y → RepS w (okB C obs Ω w) Ω x y) (h1 : ∀ y, y ∈ vs → y.oneCell' = true) :
  Mem C (obs.set o (.fix ty cells')) Ω (w.setRow b vs.toArray) ∧ (∀ k, okB C obs Ω w k → okB C (obs.set o (.fix ty cells')) Ω (w.setRow b vs.toArray) k ∧ (w.setRow b vs.toArray).heap[k]? = w.heap[k]?) := by
 have hok : ∀ k, okB C obs Ω w k → okB C (obs.set o (.fix ty cells')) Ω (w.setRow b vs.toArray) k ∧ (w.setRow b vs.toArray).heap[k]? = w.heap[k]? := by
  intro k hk
  refine ⟨okB_set ho (.inl rfl) (by simp) hk, setRow_other w b k _ fun e => ?_⟩
  subst e
  exact hk.2.2 o _ _ ho rfl hΩ rfl
 refine ⟨⟨by simp [h.len], fun i ob k e1 e2 => ?_, fun i j a c p q x hij e1 e2 l1 l2 e3 e4 hp => ?_, fun i ob p x e1 l1 e2 hp => ?_, ?_⟩, hok⟩
 ·rcases get_set e1 with ⟨rfl, rfl, _⟩ | ⟨hi, e1⟩
  ·rw [hΩ] at e2; cases e2
   exact ⟨b, vs, rfl, setRow_heap w b _ _ ty _ hw, hl, fun i x y hx hy => (hr i x y hx hy).mono hok (fun _ _ e => e), h1⟩
  ·refine (h.obj i ob k e1 e2).mono hok (fun _ _ e => e) fun c hc hv => setRow_other w b c _ fun e => ?_
   subst e
   exact h.sep o i _ _ _ _ _ (Ne.symm hi) ho e1 rfl hv hΩ e2 rfl hc
 ·rcases get_set e1 with ⟨f1, f2, _⟩ | ⟨hi, f1⟩ <;> rcases get_set e2 with ⟨g1, g2, _⟩ | ⟨hj, g1⟩
  ·exact (hij (f1.trans g1.symm)).elim
  ·subst f1; exact h.sep i j _ _ p q x hij ho g1 rfl l2 e3 e4 hp
  ·subst g1; exact h.sep i j _ _ p q x hij f1 ho l1 rfl e3 e4 hp
  ·exact h.sep i j a c p q x hij f1 g1 l1 l2 e3 e4 hp
 ·rcases get_set e1 with ⟨rfl, rfl, _⟩ | ⟨hi, e1⟩
  ·exact h.new i _ p x ho rfl e2 hp
  ·exact h.new i ob p x e1 l1 e2 hp
 ·refine ⟨h.fr.os, h.fr.tape, h.fr.output, by simp; exact h.fr.size, fun c e1 e2 => ?_, h.fr.glob, h.fr.gmay⟩
  rw [setRow_other w b c _ fun e => ?_]
  ·exact h.fr.block c e1 e2
  ·subst e
   rcases h.new o _ _ c ho rfl hΩ rfl with hn | hn
   ·omega
   ·exact e2 hn

theorem Mem.kill {C : Ctx} {obs : List Ob} {Ω : List Value} {w : World} (h : Mem C obs Ω w) (o : Nat) : Mem C (obs.set o .dead) Ω w ∧ ∀ k, okB C obs Ω w k → okB C (obs.set o .dead) Ω w k := by
 have hok : ∀ k, okB C obs Ω w k → okB C (obs.set o .dead) Ω w k := by
  intro k hk
  refine ⟨hk.1, hk.2.1, fun i ob p e1 l e2 => ?_⟩
  rcases get_set e1 with ⟨rfl, rfl, _⟩ | ⟨_, e1⟩
  ·cases l
  ·exact hk.2.2 i ob p e1 l e2
 refine ⟨⟨by simp [h.len], fun i ob k e1 e2 => ?_, fun i j a c p q x hij e1 e2 l1 l2 e3 e4 hp => ?_, fun i ob p x e1 l1 e2 hp => ?_, h.fr⟩, hok⟩
 ·rcases get_set e1 with ⟨rfl, rfl, _⟩ | ⟨hi, e1⟩
  ·trivial
  ·exact (h.obj i ob k e1 e2).mono (fun b hb => ⟨hok b hb, rfl⟩) (fun _ _ e => e) (fun _ _ _ => rfl)
 ·rcases get_set e1 with ⟨rfl, rfl, _⟩ | ⟨hi, e1⟩
  ·cases l1
  ·rcases get_set e2 with ⟨rfl, rfl, _⟩ | ⟨hj, e2⟩
   ·cases l2
   ·exact h.sep i j a c p q x hij e1 e2 l1 l2 e3 e4 hp
 ·rcases get_set e1 with ⟨rfl, rfl, _⟩ | ⟨hi, e1⟩
  ·cases l1
  ·exact h.new i ob p x e1 l1 e2 hp

/- The first m objects alone; they name none of the others. -/
mutual
def SV.under (m : Nat) : SV → Bool
 | .d _ => true
 | .ptr o _ => decide (o < m)
 | .sl o _ _ _ _ => decide (o < m)
 | .own o => decide (o < m)
 | .pre o _ => decide (o < m)
 | .full _ _ => true
 | .ep _ _ => true
 | .any => true
 | .ag l => SV.underL m l
 | .tu l => SV.underL m l
 | .ifc _ x => SV.under m x
 | .fv _ a b => SV.underL m a && SV.underL m b
termination_by structural x => x
def SV.underL (m : Nat) : List SV → Bool
 | [] => true
 | x :: r => SV.under m x && SV.underL m r
termination_by structural x => x
end
theorem SV.underL_get {m : Nat} : ∀ {l : List SV}, SV.underL m l = true → ∀ {i : Nat} {x : SV}, l[i]? = some x → SV.under m x = true
 | [], _, i, x, hx => by simp at hx
 | y :: r, h, i, x, hx => by
  simp only [SV.underL, Bool.and_eq_true] at h
  cases i with
  | zero => simp at hx; subst hx; exact h.1
  | succ i => exact SV.underL_get h.2 (by simpa using hx)
def Ob.under (m : Nat) : Ob → Bool
 | .fix _ cells => cells.all (SV.under m)
 | .grow _ _ _ => true
 | .dead => true
 | .frame _ env => env.all fun p => p.2.under m

theorem RepS.take {w : World} {ok ok' : Nat → Prop} {Ω : List Value} {m : Nat} (h : ∀ b, ok b → ok' b) {x : SV} {v : Value} (hb : x.under m = true) (hr : RepS w ok Ω x v) : RepS w ok' (Ω.take m) x v := by
 have ht : ∀ {o : Nat} {v : Value}, o < m → Ω[o]? = some v → (Ω.take m)[o]? = some v := fun ho e => by rw [List.getElem?_take, if_pos ho]; exact e
 induction hr with
 | any v => exact .any v
 | d x v hd => exact .d x v (hd.mono fun b hb => ⟨h b hb, rfl⟩)
 | ptr o off b ho => exact .ptr o off b (ht (of_decide_eq_true hb) ho)
 | ptrG o off b len cap ho => exact .ptrG o off b len cap (ht (of_decide_eq_true hb) ho)
 | sl o sz off len cap b ho => exact .sl o sz off len cap b (ht (of_decide_eq_true hb) ho)
 | own o v ho h1 => exact .own o v (ht (of_decide_eq_true hb) ho) h1
 | pre o k n cap a ho hk => exact .pre o k n cap a (ht (of_decide_eq_true hb) ho) hk
 | full sz cells a n hd => exact .full sz cells a n (hd.mono fun b hb => ⟨h b hb, rfl⟩)
 | ep b off i cells vals hb2 hcell hr => exact .ep b off i cells vals (h b hb2) hcell (fun j x hj => (hr j x hj).mono fun b hb => ⟨h b hb, rfl⟩)
 | ag cells vs hl _ ih => exact .ag cells vs hl fun i x y hx hy => ih i x y hx hy (SV.underL_get hb hx)
 | tu cells vs hl _ ih => exact .tu cells vs hl fun i x y hx hy => ih i x y hx hy (SV.underL_get hb hx)
 | ifc t x u _ ih => exact .ifc t x u (ih hb)
 | fv fn first caps fs cs hf hc _ _ ih1 ih2 =>
  have hb2 : SV.underL m first = true ∧ SV.underL m caps = true := by simpa only [SV.under, Bool.and_eq_true] using hb
  exact .fv fn first caps fs cs hf hc (fun i x y hx hy => ih1 i x y hx hy (SV.underL_get hb2.1 hx)) (fun i x y hx hy => ih2 i x y hx hy (SV.underL_get hb2.2 hx))

theorem Mem.take {C : Ctx} {obs : List Ob} {Ω : List Value} {w : World} (h : Mem C obs Ω w) (m : Nat) (hb : (obs.take m).all (Ob.under m) = true) :
  Mem C (obs.take m) (Ω.take m) w ∧ ∀ k, okB C obs Ω w k → okB C (obs.take m) (Ω.take m) w k := by
 have g1 : ∀ {i : Nat} {ob : Ob}, (obs.take m)[i]? = some ob → i < m ∧ obs[i]? = some ob := fun {i ob} e => by
  rw [List.getElem?_take] at e; split at e
  ·exact ⟨by assumption, e⟩
  ·cases e
 have g2 : ∀ {i : Nat} {v : Value}, (Ω.take m)[i]? = some v → Ω[i]? = some v := fun {i ob} e => by
  rw [List.getElem?_take] at e; split at e
  ·exact e
  ·cases e
 have hok : ∀ k, okB C obs Ω w k → okB C (obs.take m) (Ω.take m) w k := fun k hk => ⟨hk.1, hk.2.1, fun i ob p e1 l e2 => hk.2.2 i ob p (g1 e1).2 l (g2 e2)⟩
 refine ⟨⟨by simp [h.len], fun i ob k e1 e2 => ?_, fun i j a c p q x hij e1 e2 l1 l2 e3 e4 hp => h.sep i j a c p q x hij (g1 e1).2 (g1 e2).2 l1 l2 (g2 e3) (g2 e4) hp, fun i ob p x e1 l1 e2 hp => h.new i ob p x (g1 e1).2 l1 (g2 e2) hp, h.fr⟩, hok⟩
 have H := h.obj i ob k (g1 e1).2 (g2 e2)
 have hbel : ob.under m = true := List.all_eq_true.1 hb ob (List.mem_of_getElem? e1)
 cases ob with
 | dead => trivial
 | frame vs env => exact ⟨H.1, fun t x hx => let ⟨v, hv, hr⟩ := H.2 t x hx; ⟨v, hv, hr.take hok (List.all_eq_true.1 (show env.all (fun p => p.2.under m) = true from hbel) (t, x) (get_mem hx))⟩⟩
 | grow ty sz cells =>
  obtain ⟨n, xs, ho, hl, hr⟩ := H
  exact ⟨n, xs, ho, hl, fun i x y hx hy => (hr i x y hx hy).mono fun b hb => ⟨hok b hb, rfl⟩⟩
 | fix ty cells =>
  obtain ⟨b, vs, rfl, hw, hl, hr, h1⟩ := H
  exact ⟨b, vs, rfl, hw, hl, fun i x y hx hy => (hr i x y hx hy).take hok (List.all_eq_true.1 (show cells.all (SV.under m) = true from hbel) x (List.mem_of_getElem? hx)), h1⟩

def keep : List Nat → List (Nat × SV) → Option (List (Nat × SV))
 | [], _ => some []
 | k :: ks, e => match get e k with
  | some x => match keep ks e with
   | some r => some ((k, x) :: r)
   | none => none
  | none => none
def keepOK (m : Nat) (e : List (Nat × SV)) (obs : List Ob) : Bool := e.all (fun p => p.2.under m) && obs.all (Ob.under m)

theorem keep_get {ks : List Nat} {e r : List (Nat × SV)} (h : keep ks e = some r) {t : Nat} {x : SV} (hx : get r t = some x) : get e t = some x := by
 induction ks generalizing r with
 | nil => cases h; cases hx
 | cons k ks ih =>
  simp only [keep] at h
  split at h
  ·rename_i y hy
   split at h
   ·rename_i q hq
    cases h
    simp only [get] at hx
    split at hx
    ·rename_i e; subst e; cases hx; exact hy
    ·exact ih hq hx
   ·cases h
  ·cases h

theorem Rel.keep {C : Ctx} {s : St} {Ω : List Value} {a : Act} {w : World} (h : Rel C s Ω a w) {ks : List Nat} {m : Nat} {r : List (Nat × SV)} (hk : keep ks s.env = some r) (hb : keepOK m r (s.obs.take m) = true) :
  Rel C ⟨r, s.obs.take m⟩ (Ω.take m) a w := by
 unfold keepOK at hb
 rw [Bool.and_eq_true] at hb
 have hm := h.mem.take m hb.2
 refine ⟨h.defers, h.size, fun t x hx => ?_, hm.1⟩
 obtain ⟨v, hv, hr⟩ := h.env t x (keep_get hk hx)
 exact ⟨v, hv, hr.take hm.2 (List.all_eq_true.1 hb.1 (t, x) (get_mem hx))⟩

end Go.Vm

/- The rules by which a function's code is gone through, over the view of the memory. -/
namespace Go.Vm
set_option linter.unusedVariables false

def Lift (C : Ctx) (Q : Exit → St → Prop) : Exit → Act → World → Prop := fun e a w => ∃ s Ω, Rel C s Ω a w ∧ Q e s

def AC (C : Ctx) (c : Code) (s : St) (Q : Exit → St → Prop) : Prop := ∀ Ω a w, Rel C s Ω a w → c.wp C.P (Lift C Q) a w
def AO (C : Ctx) (ops : Array Oper) (l : List Oper) (s : St) (Q : Exit → St → Prop) : Prop := ∀ Ω a w, Rel C s Ω a w → wpList C.P ops (Lift C Q) l a w

def SeqQ (C : Ctx) (y : Code) (Q : Exit → St → Prop) : Exit → St → Prop
 | .normal, s => AC C y s Q
 | e, s => Q e s
def BlkQ (id : Nat) (Q : Exit → St → Prop) : Exit → St → Prop
 | .exit id', s => if id' = id then Q .normal s else Q (.exit id') s
 | e, s => Q e s
def LoopQ (ks : List Nat) (m : Nat) (Head : St → Prop) (Q : Exit → St → Prop) : Exit → St → Prop
 | .normal, s => ∃ r, keep ks s.env = some r ∧ keepOK m r (s.obs.take m) = true ∧ Head ⟨r, s.obs.take m⟩
 | e, s => Q e s

section
variable {C : Ctx} {s : St} {Q : Exit → St → Prop}

theorem AC.seq {x y : Code} (h : AC C x s (SeqQ C y Q)) : AC C (.seq x y) s Q := fun Ω a w hr =>
 wp_seq (wp_mono (h Ω a w hr) fun e a w ⟨s, Ω, hr, hq⟩ => by
  cases e with
  | normal => exact hq Ω a w hr
  | _ => exact ⟨s, Ω, hr, hq⟩)
theorem AC.skip (h : Q .normal s) : AC C .skip s Q := fun Ω _ _ hr => wp_skip ⟨s, Ω, hr, h⟩
theorem AC.ret (h : Q .ret s) : AC C .ret s Q := fun Ω _ _ hr => wp_ret ⟨s, Ω, hr, h⟩
theorem AC.exit {id : Nat} (h : Q (.exit id) s) : AC C (.exit id) s Q := fun Ω _ _ hr => wp_exit ⟨s, Ω, hr, h⟩
theorem AC.block {id : Nat} {c : Code} (h : AC C c s (BlkQ id Q)) : AC C (.block id c) s Q := fun Ω a w hr =>
 wp_block (wp_mono (h Ω a w hr) fun e a w ⟨s, Ω, hr, hq⟩ => by
  cases e with
  | exit id' =>
   simp only [BlkQ] at hq
   simp only [Exit.inBlock]
   split
   ·rename_i e; rw [if_pos e] at hq; exact ⟨s, Ω, hr, hq⟩
   ·rename_i e; rw [if_neg e] at hq; exact ⟨s, Ω, hr, hq⟩
  | _ => exact ⟨s, Ω, hr, hq⟩)
theorem AC.region {id : Nat} {l : List Oper} (h : AO C l.toArray l s Q) : AC C (.region id l.toArray false) s Q := fun Ω a w hr => wp_region_lit (h Ω a w hr)
theorem AO.nil {ops : Array Oper} (h : Q .normal s) : AO C ops [] s Q := fun Ω _ _ hr => wpList_nil ⟨s, Ω, hr, h⟩

def opS (s : St) : Operand → Option SV
 | .tmp t => get s.env t
 | .const v => some (.d (.v v))
 | .global g => some (.d (.v (.pointer (some ⟨g, 0, none⟩))))
 | .func f => some (.d (.v (.func (.func f) #[] #[])))

theorem Rel.eval {Ω : List Value} {a : Act} {w : World} (h : Rel C s Ω a w) {x : Operand} {sv : SV} (hx : opS s x = some sv) : RepS w (okB C s.obs Ω w) Ω sv (a.eval x) := by
 cases x with
 | tmp t =>
  obtain ⟨v, hv, hr⟩ := h.env t sv hx
  have : a.eval (.tmp t) = v := by simp [Act.eval, Array.getD_eq_getD_getElem?, hv]
  rw [this]; exact hr
 | const v => cases hx; exact .d _ _ (.v v)
 | global g => cases hx; exact .d _ _ (.v _)
 | func f => cases hx; exact .d _ _ (.v _)

theorem RepS.val {w : World} {ok : Nat → Prop} {Ω : List Value} {x v : Value} (h : RepS w ok Ω (.d (.v x)) v) : v = x := by
 cases h with | d _ _ h => cases h; rfl

theorem Rel.evalV {Ω : List Value} {a : Act} {w : World} (h : Rel C s Ω a w) {x : Operand} {v : Value} (hx : opS s x = some (.d (.v v))) : a.eval x = v := (h.eval hx).val

theorem AC.cond {c : Operand} {x y : Code} {b : Bool} (hc : opS s c = some (.d (.v (.bool b)))) (ht : b = true → AC C x s Q) (hf : b = false → AC C y s Q) : AC C (.cond c x y) s Q :=
 fun Ω a w hr => wp_cond_split (hr.evalV hc) (fun e => ht e Ω a w hr) (fun e => hf e Ω a w hr)

theorem AC.condT {c : Operand} {x y : Code} {b : Bool} (hc : opS s c = some (.d (.v (.bool b)))) (hb : b = true) (h : AC C x s Q) : AC C (.cond c x y) s Q :=
 fun Ω a w hr => by subst hb; exact wp_cond_true (hr.evalV hc) (h Ω a w hr)
theorem AC.condF {c : Operand} {x y : Code} {b : Bool} (hc : opS s c = some (.d (.v (.bool b)))) (hb : b = false) (h : AC C y s Q) : AC C (.cond c x y) s Q :=
 fun Ω a w hr => by subst hb; exact wp_cond_false (hr.evalV hc) (h Ω a w hr)

theorem AC.loop {G : Type} (ks : List Nat) (m : Nat) (st : G → St) (inv : G → Prop) (μ : G → Nat) (g0 : G) {c : Code} {r0 : List (Nat × SV)}
  (hk : keep ks s.env = some r0) (hb : keepOK m r0 (s.obs.take m) = true) (h0 : (⟨r0, s.obs.take m⟩ : St) = st g0) (hi : inv g0)
  (round : ∀ g, inv g → AC C c (st g) (LoopQ ks m (fun s' => ∃ g', s' = st g' ∧ inv g' ∧ μ g' < μ g) Q)) : AC C (.loop c) s Q := by
 have key : ∀ n g, μ g = n → inv g → ∀ Ω a w, Rel C (st g) Ω a w → ∀ b k cs,
   ∃ e a' w', Lift C Q e a' w' ∧ Arrives C.P (lone (b.at a (.code c :: .inLoop c :: k)) cs w) b k cs e a' w' := by
  intro n
  induction n using Nat.strongRecOn with
  | _ n ih =>
   intro g hn hg Ω a w hr b k cs
   obtain ⟨e, a₁, w₁, ⟨s₁, Ω₁, hr₁, hq⟩, harr⟩ := round g hg Ω a w hr b (.inLoop c :: k) cs
   cases e with
   | normal =>
    obtain ⟨r, hkr, hbr, g', he, hg', hlt⟩ := hq
    have hr₂ := hr₁.keep hkr hbr
    rw [he] at hr₂
    obtain ⟨e₂, a₂, w₂, hq₂, harr₂⟩ := ih (μ g') (hn ▸ hlt) g' rfl hg' _ _ _ hr₂ b k cs
    exact ⟨e₂, a₂, w₂, hq₂, .of_steps (Steps.trans harr (.one step_inLoop)) harr₂⟩
   | exit id => exact ⟨_, a₁, w₁, ⟨s₁, Ω₁, hr₁, hq⟩, .pass (x := .inLoop c) rfl (fun _ _ => .inl (by simp)) harr⟩
   | goto l => exact ⟨_, a₁, w₁, ⟨s₁, Ω₁, hr₁, hq⟩, .pass (x := .inLoop c) rfl (fun _ _ => .inl (by simp)) harr⟩
   | ret => exact ⟨_, a₁, w₁, ⟨s₁, Ω₁, hr₁, hq⟩, .pass (x := .inLoop c) rfl (fun _ _ => .inl (by simp)) harr⟩
   | panic ch => exact ⟨_, a₁, w₁, ⟨s₁, Ω₁, hr₁, hq⟩, .pass (x := .inLoop c) rfl (fun _ _ => .inl (by simp)) harr⟩
   | outgrown => exact ⟨_, a₁, w₁, ⟨s₁, Ω₁, hr₁, hq⟩, .pass (x := .inLoop c) rfl (fun _ _ => .inl (by simp)) harr⟩
 intro Ω a w hr b k cs
 have hr0 := hr.keep hk hb
 rw [h0] at hr0
 obtain ⟨e, a', w', hq, harr⟩ := key _ g0 rfl hi _ a w hr0 b k cs
 exact ⟨e, a', w', hq, .of_steps (.one step_loop) harr⟩

theorem AC.keep (ks : List Nat) (m : Nat) {c : Code} {r : List (Nat × SV)} (hk : Vm.keep ks s.env = some r) (hb : keepOK m r (s.obs.take m) = true) (h : AC C c ⟨r, s.obs.take m⟩ Q) : AC C c s Q :=
 fun Ω a w hr => h _ a w (hr.keep hk hb)

/-! ### Operations -/
variable {ops : Array Oper} {rest : List Oper} {o : Oper}

def AOp (C : Ctx) (ops : Array Oper) (rest : List Oper) (o : Oper) (s : St) (Q : Exit → St → Prop) : Prop :=
 ∀ Ω a w, Rel C s Ω a w → o.wp C.P a w (wpList C.P ops (Lift C Q) rest) (Lift C Q)

theorem AO.op (hg : o.guard = none) (h : AOp C ops rest o s Q) : AO C ops (o :: rest) s Q := fun Ω a w hr => by
 unfold wpList
 rw [if_pos (by simp [Region.wanted, hg])]
 exact .inl (h Ω a w hr)

theorem wanted_eq {a : Act} {j : Nat} {want b : Bool} (hg : o.guard = some (j, want)) {dj : Nat} (hj : ((ops[j]?).bind (·.dst)) = some dj) (hv : a.tmps[dj]? = some (.bool b)) :
  Region.wanted o (yielded ops a.tmps) = (b == want) := by
 unfold Region.wanted
 rw [hg]
 simp only [yielded, hj, Option.bind_some, hv]
 cases b <;> cases want <;> rfl

theorem AO.guard {e : List (Nat × SV)} {obs : List Ob} {j dj d : Nat} {want b : Bool} (hg : o.guard = some (j, want)) (hj : ((ops[j]?).bind (·.dst)) = some dj) (hd : o.dst = some d) (hn : d < C.n)
  (hx : get e dj = some (.d (.v (.bool b)))) (hyes : b = want → AOp C ops rest o ⟨e, obs⟩ Q) (hno : b = (!want) → AO C ops rest ⟨(d, .d (.v undef)) :: e, obs⟩ Q) : AO C ops (o :: rest) ⟨e, obs⟩ Q := fun Ω a w hr => by
 obtain ⟨v, hv, hrep⟩ := hr.env dj _ hx
 have hvb := hrep.val
 subst hvb
 unfold wpList
 rw [wanted_eq hg hj hv]
 by_cases hb : b = want
 ·rw [if_pos (by simp [hb])]
  exact .inl (hyes hb Ω a w hr)
 ·rw [if_neg (by simp [hb]), hd]
  exact hno (by cases b <;> cases want <;> simp_all) Ω _ w (hr.put hn (.d _ _ (.v _)))
theorem AOp.step {e e1 : List (Nat × SV)} {obs obs1 : List Ob} {d : Nat} {x : SV} (hd : o.dst = some d) (hn : d < C.n)
  (hv : ∀ Ω a w, Rel C ⟨e, obs⟩ Ω a w → ∃ v w' Ω', (execOp a.eval o).run C.P w = .ok (.value v) w' ∧ Rel C ⟨e1, obs1⟩ Ω' a w' ∧ RepS w' (okB C obs1 Ω' w') Ω' x v)
  (h : AO C ops rest ⟨(d, x) :: e1, obs1⟩ Q) : AOp C ops rest o ⟨e, obs⟩ Q := fun Ω a w hr => by
 obtain ⟨v, w', Ω', hrun, hr', hrep⟩ := hv Ω a w hr
 unfold Oper.wp
 rw [hrun, Oper.upon_value, hd]
 exact h Ω' _ w' (hr'.put hn hrep)
theorem AOp.skip {e e1 : List (Nat × SV)} {obs obs1 : List Ob} (hd : o.dst = none)
  (hv : ∀ Ω a w, Rel C ⟨e, obs⟩ Ω a w → ∃ w' Ω', (execOp a.eval o).run C.P w = .ok .skip w' ∧ Rel C ⟨e1, obs1⟩ Ω' a w')
  (h : AO C ops rest ⟨e1, obs1⟩ Q) : AOp C ops rest o ⟨e, obs⟩ Q := fun Ω a w hr => by
 obtain ⟨w', Ω', hrun, hr'⟩ := hv Ω a w hr
 unfold Oper.wp
 rw [hrun, Oper.upon_skip, hd]
 exact h Ω' _ w' hr'
theorem AOp.value {e : List (Nat × SV)} {obs : List Ob} {d : Nat} {x : SV} (hd : o.dst = some d) (hn : d < C.n)
  (hv : ∀ Ω a w, Rel C ⟨e, obs⟩ Ω a w → ∃ v, (execOp a.eval o).run C.P w = .ok (.value v) w ∧ RepS w (okB C obs Ω w) Ω x v)
  (h : AO C ops rest ⟨(d, x) :: e, obs⟩ Q) : AOp C ops rest o ⟨e, obs⟩ Q :=
 AOp.step hd hn (fun Ω a w hr => let ⟨v, h1, h2⟩ := hv Ω a w hr; ⟨v, w, Ω, h1, hr, h2⟩) h

variable {e : List (Nat × SV)} {obs : List Ob} {d : Nat}

theorem AOp.move {x : Operand} {sv : SV} (ho : o.op = .move x) (hd : o.dst = some d) (hn : d < C.n) (hx : opS ⟨e, obs⟩ x = some sv) (h : AO C ops rest ⟨(d, sv) :: e, obs⟩ Q) : AOp C ops rest o ⟨e, obs⟩ Q :=
 AOp.value hd hn (fun _ a w hr => ⟨a.eval x, by simp only [execOp, ho]; rfl, hr.eval hx⟩) h
theorem AOp.assign {x : Operand} {sv : SV} (ho : o.op = .assign x) (hd : o.dst = some d) (hn : d < C.n) (hx : opS ⟨e, obs⟩ x = some sv) (h : AO C ops rest ⟨(d, sv) :: e, obs⟩ Q) : AOp C ops rest o ⟨e, obs⟩ Q :=
 AOp.value hd hn (fun _ a w hr => ⟨a.eval x, by simp only [execOp, ho]; rfl, hr.eval hx⟩) h

theorem ltb {a b : Nat} (h : Nat.blt a b = true) : a < b := by simpa [Nat.blt_eq] using h
theorem leb {a b : Nat} (h : Nat.ble a b = true) : a ≤ b := Nat.le_of_ble_eq_true h

theorem AO.guardY {j dj : Nat} {want b : Bool} (hg : o.guard = some (j, want)) (hj : ((ops[j]?).bind (·.dst)) = some dj)
  (hx : get e dj = some (.d (.v (.bool b)))) (hb : b = want) (hyes : AOp C ops rest o ⟨e, obs⟩ Q) : AO C ops (o :: rest) ⟨e, obs⟩ Q := fun Ω a w hr => by
 obtain ⟨v, hv, hrep⟩ := hr.env dj _ hx
 have hvb := hrep.val
 subst hvb
 unfold wpList
 rw [wanted_eq hg hj hv, if_pos (by simp [hb])]
 exact .inl (hyes Ω a w hr)
theorem AO.guardN {j dj : Nat} {want b : Bool} (hg : o.guard = some (j, want)) (hj : ((ops[j]?).bind (·.dst)) = some dj) (hd : o.dst = some d) (hn : d < C.n)
  (hx : get e dj = some (.d (.v (.bool b)))) (hb : b = (!want)) (hno : AO C ops rest ⟨(d, .d (.v undef)) :: e, obs⟩ Q) : AO C ops (o :: rest) ⟨e, obs⟩ Q := fun Ω a w hr => by
 obtain ⟨v, hv, hrep⟩ := hr.env dj _ hx
 have hvb := hrep.val
 subst hvb
 unfold wpList
 rw [wanted_eq hg hj hv, if_neg (by simp [hb]), hd]
 exact hno Ω _ w (hr.put hn (.d _ _ (.v _)))
theorem AO.guardU {j dj : Nat} {want : Bool} (hg : o.guard = some (j, want)) (hj : ((ops[j]?).bind (·.dst)) = some dj) (hd : o.dst = some d) (hn : d < C.n)
  (hx : get e dj = some (.d (.v undef))) (hno : AO C ops rest ⟨(d, .d (.v undef)) :: e, obs⟩ Q) : AO C ops (o :: rest) ⟨e, obs⟩ Q := fun Ω a w hr => by
 obtain ⟨v, hv, hrep⟩ := hr.env dj _ hx
 have hvb := hrep.val
 subst hvb
 have hw : Region.wanted o (yielded ops a.tmps) = false := by
  unfold Region.wanted
  rw [hg]
  simp [yielded, hj, hv, undef]
 unfold wpList
 rw [if_neg (by rw [hw]; simp), hd]
 exact hno Ω _ w (hr.put hn (.d _ _ (.v _)))
theorem AOp.pick {c x y : Operand} {sv : SV} {b : Bool} (ho : o.op = .pick c x y) (hd : o.dst = some d) (hn : d < C.n) (hc : opS ⟨e, obs⟩ c = some (.d (.v (.bool b)))) (hb : b = true) (hx : opS ⟨e, obs⟩ x = some sv)
  (h : AO C ops rest ⟨(d, sv) :: e, obs⟩ Q) : AOp C ops rest o ⟨e, obs⟩ Q :=
 AOp.value hd hn (fun _ a w hr => ⟨a.eval x, by subst hb; simp only [execOp, ho, hr.evalV hc]; rfl, hr.eval hx⟩) h
theorem AOp.pickN {c x y : Operand} {sv : SV} {b : Bool} (ho : o.op = .pick c x y) (hd : o.dst = some d) (hn : d < C.n) (hc : opS ⟨e, obs⟩ c = some (.d (.v (.bool b)))) (hb : b = false) (hx : opS ⟨e, obs⟩ y = some sv)
  (h : AO C ops rest ⟨(d, sv) :: e, obs⟩ Q) : AOp C ops rest o ⟨e, obs⟩ Q :=
 AOp.value hd hn (fun _ a w hr => ⟨a.eval y, by subst hb; simp only [execOp, ho, hr.evalV hc]; rfl, hr.eval hx⟩) h
theorem AOp.bin {b : BinOp} {t ty : TypeId} {x y : Operand} {u v r : Value} (ho : o.op = .binOp b t x y ty) (hd : o.dst = some d) (hn : d < C.n)
  (hx : opS ⟨e, obs⟩ x = some (.d (.v u))) (hy : opS ⟨e, obs⟩ y = some (.d (.v v))) (hg : eqGuard b t x y u v = pure ()) (hrun : ∀ w, (binOp b t u v).run C.P w = .ok r w)
  (h : AO C ops rest ⟨(d, .d (.v r)) :: e, obs⟩ Q) : AOp C ops rest o ⟨e, obs⟩ Q :=
 AOp.value hd hn (fun _ a w hr => ⟨r, by
  simp only [execOp, ho, hr.evalV hx, hr.evalV hy, hg, Sem.run_bind, Sem.run_pure, Result.andThen_ok, hrun w], .d _ _ (.v _)⟩) h
theorem AOp.un {b : UnOp} {t : TypeId} {x : Operand} {u r : Value} (ho : o.op = .unOp b t x) (hd : o.dst = some d) (hn : d < C.n)
  (hx : opS ⟨e, obs⟩ x = some (.d (.v u))) (hrun : ∀ w, (Op.unary b u).run C.P w = .ok r w)
  (h : AO C ops rest ⟨(d, .d (.v r)) :: e, obs⟩ Q) : AOp C ops rest o ⟨e, obs⟩ Q :=
 AOp.value hd hn (fun _ a w hr => ⟨r, by
  simp only [execOp, ho, hr.evalV hx, Sem.run_bind, Sem.run_pure, Result.andThen_ok, hrun w], .d _ _ (.v _)⟩) h
theorem AOp.conv {t ty : TypeId} {x : Operand} {u r : Value} (ho : o.op = .convert t ty x) (hd : o.dst = some d) (hn : d < C.n)
  (hx : opS ⟨e, obs⟩ x = some (.d (.v u))) (hrun : ∀ w, (convert t ty u).run C.P w = .ok r w)
  (h : AO C ops rest ⟨(d, .d (.v r)) :: e, obs⟩ Q) : AOp C ops rest o ⟨e, obs⟩ Q :=
 AOp.value hd hn (fun _ a w hr => ⟨r, by
  simp only [execOp, ho, hr.evalV hx, Sem.run_bind, Sem.run_pure, Result.andThen_ok, hrun w], .d _ _ (.v _)⟩) h

end
end Go.Vm

/- Operations on memory, over the view. -/
namespace Go.Vm
set_option linter.unusedVariables false

def D.one : D → Bool
 | .v x => x.oneCell'
 | .ag _ => false
 | .tu _ => false
 | _ => true
def SV.one : SV → Bool
 | .d x => x.one
 | .ag _ => false
 | .tu _ => false
 | .any => false
 | _ => true

theorem RepD.one {w : World} {ok : Nat → Prop} {x : D} {v : Value} (h : RepD w ok x v) (h1 : x.one = true) : v.oneCell' = true := by
 cases h with
 | v x => exact h1
 | nil => rfl
 | ds => rfl
 | pt => rfl
 | ag => cases h1
 | ifc => rfl
 | clo => rfl
 | tu => cases h1
theorem RepS.one {w : World} {ok : Nat → Prop} {Ω : List Value} {x : SV} {v : Value} (h : RepS w ok Ω x v) (h1 : x.one = true) (hw : ∀ o, x = .own o → v.oneCell' = true) : v.oneCell' = true := by
 cases h with
 | any => cases h1
 | d x v hd => exact hd.one h1
 | own o v _ h1 => exact h1
 | pre => rfl
 | full => rfl
 | ptr => rfl
 | ptrG => rfl
 | sl => rfl
 | ep => rfl
 | ag => cases h1
 | tu => cases h1
 | ifc => rfl
 | fv => rfl

def cellsS : SV → List SV
 | .ag l => l
 | .d (.ag l) => l.map .d
 | .d (.v (.agg a)) => a.toList.map fun u => .d (.v u)
 | x => [x]
def SV.plain (x : SV) : Bool := x.one

theorem RepS.plain {w : World} {ok : Nat → Prop} {Ω : List Value} {x : SV} {v : Value} (h : RepS w ok Ω x v) (h1 : x.plain = true) : v.oneCell' = true :=
 h.one h1 (fun o e => by subst e; cases h with | own _ _ _ h2 => exact h2)

theorem RepS.cells {w : World} {ok : Nat → Prop} {Ω : List Value} {x : SV} {v : Value} (h : RepS w ok Ω x v) (h1 : (cellsS x).all SV.plain = true) :
  ∃ vs : List Value, v.cells = vs.toArray ∧ vs.length = (cellsS x).length ∧ (∀ (i : Nat) p q, (cellsS x)[i]? = some p → vs[i]? = some q → RepS w ok Ω p q) ∧ ∀ y, y ∈ vs → y.oneCell' = true := by
 have fin : ∀ vs : List Value, vs.length = (cellsS x).length → (∀ (i : Nat) p q, (cellsS x)[i]? = some p → vs[i]? = some q → RepS w ok Ω p q) → ∀ y, y ∈ vs → y.oneCell' = true := by
  intro vs hl hr y hy
  obtain ⟨i, hi⟩ := List.getElem?_of_mem hy
  have hlt := (List.getElem?_eq_some_iff.1 hi).1
  have hx : (cellsS x)[i]? = some (cellsS x)[i] := List.getElem?_eq_getElem (by omega)
  exact (hr i _ _ hx hi).plain (List.all_eq_true.1 h1 _ (List.mem_of_getElem? hx))
 have single : ∀ u, cellsS x = [x] → v = u → u.oneCell' = true → ∃ vs : List Value, v.cells = vs.toArray ∧ vs.length = (cellsS x).length ∧ (∀ (i : Nat) p q, (cellsS x)[i]? = some p → vs[i]? = some q → RepS w ok Ω p q) ∧ ∀ y, y ∈ vs → y.oneCell' = true := by
  intro u hc hu ho
  subst hu
  refine ⟨[v], (by cases v <;> first | rfl | (cases ho)), (by rw [hc]; rfl), fun i p q hp hq => ?_, fun y hy => (by rw [List.mem_singleton.1 hy]; exact ho)⟩
  rw [hc] at hp
  cases i with
  | zero => cases hp; cases hq; exact h
  | succ i => cases hp
 have h0 := h
 cases h with
 | ag cells vs hl hr => exact ⟨vs, rfl, hl, hr, fin vs hl hr⟩
 | d x v hd =>
  have hd0 := hd
  cases hd with
  | ag cells vs hl hr =>
   have hr' : ∀ (i : Nat) p q, (cellsS (.d (.ag cells)))[i]? = some p → vs[i]? = some q → RepS w ok Ω p q := by
    intro i p q hp hq
    simp only [cellsS, List.getElem?_map, Option.map_eq_some_iff] at hp
    obtain ⟨z, hz, rfl⟩ := hp
    exact .d _ _ (hr i z q hz hq)
   exact ⟨vs, rfl, by simp [cellsS, hl], hr', fin vs (by simp [cellsS, hl]) hr'⟩
  | v =>
   cases v with
   | agg a =>
    have hr' : ∀ (i : Nat) p q, (cellsS (.d (.v (.agg a))))[i]? = some p → a.toList[i]? = some q → RepS w ok Ω p q := by
     intro i p q hp hq
     simp only [cellsS, List.getElem?_map, Option.map_eq_some_iff] at hp
     obtain ⟨z, hz, rfl⟩ := hp
     rw [hz] at hq; cases hq
     exact .d _ _ (.v _)
    exact ⟨a.toList, by simp [Value.cells], by simp [cellsS], hr', fin _ (by simp [cellsS]) hr'⟩
   | _ => exact single _ rfl rfl (h0.plain (by simpa [cellsS] using h1))
  | _ => exact single _ rfl rfl (h0.plain (by simpa [cellsS] using h1))
 | _ => exact single _ rfl rfl (h0.plain (by simpa [cellsS] using h1))

section
variable {C : Ctx} {Q : Exit → St → Prop} {ops : Array Oper} {rest : List Oper} {o : Oper} {e : List (Nat × SV)} {obs : List Ob} {d : Nat}

theorem AOp.box {t : TypeId} {x : Operand} {sv : SV} (ho : o.op = .box t x) (hd : o.dst = some d) (hn : d < C.n) (hx : opS ⟨e, obs⟩ x = some sv) (h1 : (cellsS sv).all SV.plain = true)
  (h : AO C ops rest ⟨(d, .ptr obs.length 0) :: e, obs ++ [.fix t (cellsS sv)]⟩ Q) : AOp C ops rest o ⟨e, obs⟩ Q := by
 refine AOp.step hd hn (fun Ω a w hr => ?_) h
 obtain ⟨vs, hc, hl, hrv, hone⟩ := (hr.eval hx).cells h1
 refine ⟨.pointer (some ⟨w.heap.size, 0, none⟩), _, _, ?_, hr.alloc t (cellsS sv) vs hl hrv hone, .ptr _ _ _ ?_⟩
 ·simp only [execOp, ho, Instr.box, newVar, newRow, hc, Sem.run_bind, Sem.run_pure, Result.andThen_ok, run_newObj]; rfl
 ·have := hr.mem.len
  dsimp only at this
  rw [this, List.getElem?_append_right (Nat.le_refl _)]; simp

def zcells (z : Value) : List SV := z.cells.toList.map fun u => .d (.v u)
theorem run_zero {P : Program} {t : TypeId} {z : Value} (hz : (P.info? t).map (·.zero) = some (some z)) (w : World) : (zeroValue t).run P w = .ok z w := by
 cases hq : P.info? t with
 | none => rw [hq] at hz; cases hz
 | some i =>
  rw [hq] at hz
  have : i.zero = some z := by simpa using hz
  simp [zeroValue, typeInfo, hq, this]
theorem AOp.alloc {t : TypeId} {z : Value} (ho : o.op = .alloc t) (hd : o.dst = some d) (hn : d < C.n) (hz : (C.P.info? t).map (·.zero) = some (some z)) (h1 : z.cells.toList.all (·.oneCell') = true)
  (h : AO C ops rest ⟨(d, .ptr obs.length 0) :: e, obs ++ [.fix t (zcells z)]⟩ Q) : AOp C ops rest o ⟨e, obs⟩ Q := by
 refine AOp.step hd hn (fun Ω a w hr => ?_) h
 refine ⟨.pointer (some ⟨w.heap.size, 0, none⟩), _, _, ?_, hr.alloc t (zcells z) z.cells.toList (by simp [zcells]) (fun i p q hp hq => ?_) (fun y hy => List.all_eq_true.1 h1 y hy), .ptr _ _ _ ?_⟩
 ·simp only [execOp, ho, Instr.alloc, run_zero hz, newVar, newRow, Sem.run_bind, Sem.run_pure, Result.andThen_ok, run_newObj, Array.toArray_toList]; rfl
 ·simp only [zcells, List.getElem?_map, Option.map_eq_some_iff] at hp
  obtain ⟨u, hu, rfl⟩ := hp
  rw [hu] at hq; cases hq
  exact .d _ _ (.v _)
 ·have := hr.mem.len
  dsimp only at this
  rw [this, List.getElem?_append_right (Nat.le_refl _)]; simp

theorem run_fieldAt {P : Program} {t : TypeId} {fs : Array Field} {f : Field} {i : Nat} {a : Addr} (hu : P.underlying t = some (.struct fs)) (hf : fs[i]? = some f) (hs : (P.info? f.type).map (fun i => i.size == 0) = some false) (w : World) :
  (Instr.fieldAt t (.pointer (some a)) i).run P w = .ok (.pointer (some (a.add f.offset))) w := by
 cases hq : P.info? f.type with
 | none => rw [hq] at hs; cases hs
 | some j =>
  rw [hq] at hs
  have hs : ¬ j.size = 0 := by simpa using hs
  simp [Instr.fieldAt, run_underlying hu, hf, Instr.sureAddr, fieldPlace, sizeOf, typeInfo, hq, hs]

theorem Addr.add_of (b o n : Nat) : (⟨b, o, none⟩ : Addr).add n = ⟨b, o + n, none⟩ := Addr.add_lit b o n

def fieldOff (P : Program) (t : TypeId) (i : Nat) : Option Nat :=
 match P.underlying t with
 | some (.struct fs) => match fs[i]? with
  | some f => match P.info? f.type with
   | some j => if j.size = 0 then none else some f.offset
   | none => none
  | none => none
 | _ => none
theorem run_fieldAt' {P : Program} {t : TypeId} {i k : Nat} {b off : Nat} (hk : fieldOff P t i = some k) (w : World) :
  (Instr.fieldAt t (.pointer (some ⟨b, off, none⟩)) i).run P w = .ok (.pointer (some ⟨b, off + k, none⟩)) w := by
 unfold fieldOff at hk
 split at hk
 ·rename_i fs hu
  split at hk
  ·rename_i f hf
   split at hk
   ·rename_i j hj
    split at hk
    ·cases hk
    ·rename_i hne
     cases hk
     rw [run_fieldAt hu hf (by rw [hj]; simp [hne]), Addr.add_of]
   ·cases hk
  ·cases hk
 ·cases hk
theorem AOp.fieldAddr {t : TypeId} {x : Operand} {i p off k : Nat} (ho : o.op = .fieldAddr t x i) (hd : o.dst = some d) (hn : d < C.n) (hx : opS ⟨e, obs⟩ x = some (.ptr p off)) (hk : fieldOff C.P t i = some k)
  (h : AO C ops rest ⟨(d, .ptr p (off + k)) :: e, obs⟩ Q) : AOp C ops rest o ⟨e, obs⟩ Q :=
 AOp.value hd hn (fun Ω a w hr => by
  have hv := hr.eval hx
  generalize hev : a.eval x = v at hv
  cases hv with
  | ptr _ _ b hb => exact ⟨_, by simp only [execOp, ho, hev, run_fieldAt' hk, Sem.run_bind, Sem.run_pure, Result.andThen_ok], .ptr _ _ _ hb⟩
  | ptrG _ _ b len cap hb => exact ⟨_, by simp only [execOp, ho, hev, run_fieldAt' hk, Sem.run_bind, Sem.run_pure, Result.andThen_ok], .ptrG _ _ _ _ _ hb⟩) h
theorem AOp.fieldAddrPt {t : TypeId} {x : Operand} {cells : List D} {i k : Nat} (ho : o.op = .fieldAddr t x i) (hd : o.dst = some d) (hn : d < C.n) (hx : opS ⟨e, obs⟩ x = some (.d (.pt cells))) (hk : fieldOff C.P t i = some k)
  (h : AO C ops rest ⟨(d, .ep cells k) :: e, obs⟩ Q) : AOp C ops rest o ⟨e, obs⟩ Q :=
 AOp.value hd hn (fun Ω a w hr => by
  have hv := hr.eval hx
  generalize hev : a.eval x = v at hv
  cases hv with
  | d _ _ hv =>
   cases hv with
   | pt b off _ vals hb hc hrr => exact ⟨_, by simp only [execOp, ho, hev, run_fieldAt' hk, Sem.run_bind, Sem.run_pure, Result.andThen_ok], .ep b off k cells vals hb hc hrr⟩) h
theorem AOp.fieldAddrEp {t : TypeId} {x : Operand} {cells : List D} {i k j : Nat} (ho : o.op = .fieldAddr t x i) (hd : o.dst = some d) (hn : d < C.n) (hx : opS ⟨e, obs⟩ x = some (.ep cells j)) (hk : fieldOff C.P t i = some k)
  (h : AO C ops rest ⟨(d, .ep cells (j + k)) :: e, obs⟩ Q) : AOp C ops rest o ⟨e, obs⟩ Q :=
 AOp.value hd hn (fun Ω a w hr => by
  have hv := hr.eval hx
  generalize hev : a.eval x = v at hv
  cases hv with
  | ep b off _ _ vals hb hc hrr => exact ⟨_, by simp only [execOp, ho, hev, run_fieldAt' hk, Sem.run_bind, Sem.run_pure, Result.andThen_ok]; rfl, by rw [Nat.add_assoc]; exact .ep b off (j + k) cells vals hb hc hrr⟩) h
end
end Go.Vm

/- Reading and writing memory, over the view. -/
namespace Go.Vm
set_option linter.unusedVariables false

def aggT (P : Program) (t : TypeId) : Option Bool :=
 match P.underlying t with
 | some (.struct _) => some true
 | some (.array _ _) => some true
 | some _ => some false
 | none => none
def sizeT (P : Program) (t : TypeId) : Option Nat := (P.info? t).map (·.size)
theorem run_isAgg {P : Program} {t : TypeId} {b : Bool} (h : aggT P t = some b) (w : World) : (isAgg t).run P w = .ok b w := by
 unfold aggT at h
 cases hu : P.underlying t with
 | none => rw [hu] at h; cases h
 | some d =>
  rw [hu] at h
  unfold isAgg
  rw [Sem.run_bind, run_underlying hu w]
  cases d <;> cases h <;> rfl
theorem run_sizeOf {P : Program} {t : TypeId} {n : Nat} (h : sizeT P t = some n) (w : World) : (sizeOf t).run P w = .ok n w := by
 unfold sizeT at h
 cases hq : P.info? t with
 | none => rw [hq] at h; cases h
 | some j => rw [hq] at h; cases h; simp [sizeOf, typeInfo, hq]
theorem run_load1 {P : Program} {t : TypeId} {w : World} {a : Addr} {v : Value} (h : aggT P t = some false) (hc : w.cell? a = some v) : (loadVar t a).run P w = .ok v w := by
 simp [loadVar, run_isAgg h, hc]
theorem run_loadN {P : Program} {t : TypeId} {w : World} {b off n : Nat} {vs : List Value} (h : aggT P t = some true) (hs : sizeT P t = some n) (hl : vs.length = n)
  (hc : ∀ j, j < n → w.cell? ⟨b, off + j, none⟩ = vs[j]?) : (loadVar t ⟨b, off, none⟩).run P w = .ok (.agg vs.toArray) w := by
 subst hl
 have := run_loadCells_list (P := P) w ⟨b, off, none⟩ vs (fun j v hv => by
  rw [Addr.add_of, hc j (List.getElem?_eq_some_iff.1 hv).1]; exact hv)
 simp [loadVar, run_isAgg h, run_sizeOf hs, this]

section
variable {C : Ctx} {Q : Exit → St → Prop} {ops : Array Oper} {rest : List Oper} {o : Oper} {e : List (Nat × SV)} {obs : List Ob} {d : Nat}

theorem Rel.fix {Ω : List Value} {a : Act} {w : World} (hr : Rel C ⟨e, obs⟩ Ω a w) {p off : Nat} {ty : TypeId} {cells : List SV} {v : Value} (hp : obs[p]? = some (.fix ty cells)) (hv : RepS w (okB C obs Ω w) Ω (.ptr p off) v) :
  ∃ b vs, v = .pointer (some ⟨b, off, none⟩) ∧ Ω[p]? = some (.pointer (some ⟨b, 0, none⟩)) ∧ w.heap[b]? = some (.cells (List.toArray vs) ty (0, 0)) ∧ vs.length = cells.length ∧
   (∀ (i : Nat) x y, cells[i]? = some x → vs[i]? = some y → RepS w (okB C obs Ω w) Ω x y) ∧ ∀ y, y ∈ vs → y.oneCell' = true := by
 cases hv with
 | ptr _ _ b hb =>
  obtain ⟨b', vs, he, hw, hl, hrr, h1⟩ := hr.mem.obj p _ _ hp hb
  cases he
  exact ⟨b, vs, rfl, hb, hw, hl, hrr, h1⟩
 | ptrG _ _ b len cap hb =>
  obtain ⟨b', vs, he, _⟩ := hr.mem.obj p _ _ hp hb
  cases he
theorem Rel.growV {Ω : List Value} {a : Act} {w : World} (hr : Rel C ⟨e, obs⟩ Ω a w) {p : Nat} {ty : TypeId} {sz : Nat} {cells : List D} {v : Value} (hp : obs[p]? = some (.grow ty sz cells)) (hv : RepS w (okB C obs Ω w) Ω (.own p) v) :
  ∃ n xs, Ω[p]? = some v ∧ w.ownsRow 0 ty sz v n xs ∧ xs.length = cells.length ∧ (∀ (i : Nat) x y, cells[i]? = some x → xs[i]? = some y → RepD w (okB C obs Ω w) x y) := by
 cases hv with
 | own _ _ hb _ =>
  obtain ⟨n, xs, ho, hl, hrr⟩ := hr.mem.obj p _ _ hp hb
  exact ⟨n, xs, hb, ho, hl, hrr⟩

theorem AOp.load1 {t : TypeId} {x : Operand} {p off : Nat} {ty : TypeId} {cells : List SV} {sv : SV} (ho : o.op = .load t x) (hd : o.dst = some d) (hn : d < C.n) (hx : opS ⟨e, obs⟩ x = some (.ptr p off))
  (ht : aggT C.P t = some false) (hp : obs[p]? = some (.fix ty cells)) (hc : cells[off]? = some sv) (h : AO C ops rest ⟨(d, sv) :: e, obs⟩ Q) : AOp C ops rest o ⟨e, obs⟩ Q :=
 AOp.value hd hn (fun Ω a w hr => by
  obtain ⟨b, vs, hev, hΩ, hw, hl, hrr, h1⟩ := hr.fix hp (hr.eval hx)
  have hlt := (List.getElem?_eq_some_iff.1 hc).1
  have hv : vs[off]? = some vs[off] := List.getElem?_eq_getElem (by omega)
  refine ⟨vs[off], ?_, hrr off _ _ hc hv⟩
  have hcell : w.cell? ⟨b, off, none⟩ = some vs[off] := by rw [cell_of_row w b off _ ty (0, 0) hw]; simp
  simp only [execOp, ho, hev, Instr.loadAt, Instr.sureAddr, Sem.run_bind, Sem.run_pure, Result.andThen_ok, run_load1 ht hcell]) h
theorem AOp.loadN {t : TypeId} {x : Operand} {p off n : Nat} {ty : TypeId} {cells : List SV} (ho : o.op = .load t x) (hd : o.dst = some d) (hn : d < C.n) (hx : opS ⟨e, obs⟩ x = some (.ptr p off))
  (ht : aggT C.P t = some true) (hs : sizeT C.P t = some n) (hp : obs[p]? = some (.fix ty cells)) (hc : off + n ≤ cells.length) {ys : List SV} (hy : (cells.drop off).take n = ys) (h : AO C ops rest ⟨(d, .ag ys) :: e, obs⟩ Q) : AOp C ops rest o ⟨e, obs⟩ Q :=
 AOp.value hd hn (fun Ω a w hr => by
  subst hy
  obtain ⟨b, vs, hev, hΩ, hw, hl, hrr, h1⟩ := hr.fix hp (hr.eval hx)
  refine ⟨.agg ((vs.drop off).take n).toArray, ?_, .ag _ _ (by simp; omega) fun i x y hx hy => ?_⟩
  ·have := run_loadN (P := C.P) (w := w) (b := b) (off := off) (vs := (vs.drop off).take n) ht hs (by simp; omega) (fun j hj => by
    rw [cell_of_row w b (off + j) _ ty (0, 0) hw, List.getElem?_take, if_pos hj, List.getElem?_drop]; simp)
   simp only [execOp, ho, hev, Instr.loadAt, Instr.sureAddr, Sem.run_bind, Sem.run_pure, Result.andThen_ok, this]
  ·rw [List.getElem?_take] at hx hy
   split at hx
   ·rename_i hi
    rw [if_pos hi] at hy
    rw [List.getElem?_drop] at hx hy
    exact hrr _ _ _ hx hy
   ·cases hx) h
theorem AOp.loadEp {t : TypeId} {x : Operand} {cells : List D} {i : Nat} {y : D} (ho : o.op = .load t x) (hd : o.dst = some d) (hn : d < C.n) (hx : opS ⟨e, obs⟩ x = some (.ep cells i))
  (ht : aggT C.P t = some false) (hc : cells[i]? = some y) (h : AO C ops rest ⟨(d, .d y) :: e, obs⟩ Q) : AOp C ops rest o ⟨e, obs⟩ Q :=
 AOp.value hd hn (fun Ω a w hr => by
  have hv := hr.eval hx
  generalize hev : a.eval x = v at hv
  cases hv with
  | ep b off _ _ vals hb hcell hrr =>
   refine ⟨vals i, ?_, .d _ _ (hrr i y hc)⟩
   simp only [execOp, ho, hev, Instr.loadAt, Instr.sureAddr, Sem.run_bind, Sem.run_pure, Result.andThen_ok, run_load1 ht (hcell i (List.getElem?_eq_some_iff.1 hc).1)]) h
theorem AOp.loadEpN {t : TypeId} {x : Operand} {cells : List D} {i n : Nat} (ho : o.op = .load t x) (hd : o.dst = some d) (hn : d < C.n) (hx : opS ⟨e, obs⟩ x = some (.ep cells i))
  (ht : aggT C.P t = some true) (hs : sizeT C.P t = some n) (hc : i + n ≤ cells.length) {ys : List D} (hy : (cells.drop i).take n = ys) (h : AO C ops rest ⟨(d, .d (.ag ys)) :: e, obs⟩ Q) : AOp C ops rest o ⟨e, obs⟩ Q :=
 AOp.value hd hn (fun Ω a w hr => by
  subst hy
  have hv := hr.eval hx
  generalize hev : a.eval x = v at hv
  cases hv with
  | ep b off _ _ vals hb hcell hrr =>
   have hl : ((List.range n).map fun j => vals (i + j)).length = n := by simp
   refine ⟨.agg ((List.range n).map fun j => vals (i + j)).toArray, ?_, .d _ _ (.ag _ _ (by simp; omega) fun j p q hp hq => ?_)⟩
   ·have := run_loadN (P := C.P) (w := w) (b := b) (off := off + i) (vs := (List.range n).map fun j => vals (i + j)) ht hs hl (fun j hj => by
     rw [Nat.add_assoc, hcell (i + j) (by omega)]; simp [hj])
    simp only [execOp, ho, hev, Instr.loadAt, Instr.sureAddr, Sem.run_bind, Sem.run_pure, Result.andThen_ok, this]
   ·rw [List.getElem?_take] at hp
    split at hp
    ·rename_i hi
     rw [List.getElem?_drop] at hp
     simp [hi] at hq
     subst hq
     exact hrr _ _ hp
    ·cases hp) h

theorem AOp.store {t : TypeId} {x y : Operand} {p off n : Nat} {ty : TypeId} {cells : List SV} {sv : SV} (ho : o.op = .store t x y) (hd : o.dst = none) (hx : opS ⟨e, obs⟩ x = some (.ptr p off)) (hy : opS ⟨e, obs⟩ y = some sv)
  (hs : sizeT C.P t = some n) (h1 : (cellsS sv).all SV.plain = true) (hl : (cellsS sv).length = n) (hp : obs[p]? = some (.fix ty cells)) (hc : off + n ≤ cells.length)
  (h : AO C ops rest ⟨e, obs.set p (.fix ty (cells.take off ++ cellsS sv ++ cells.drop (off + n)))⟩ Q) : AOp C ops rest o ⟨e, obs⟩ Q := by
 refine AOp.skip hd (fun Ω a w hr => ?_) h
 obtain ⟨b, vs, hev, hΩ, hw, hvl, hrr, hone⟩ := hr.fix hp (hr.eval hx)
 obtain ⟨us, huc, hul, hur, huone⟩ := (hr.eval hy).cells h1
 have hst := run_storeCells_at C.P b off ty us 0 vs.toArray w hw (by simp; omega) huone
 simp only [Nat.add_zero] at hst
 have key := hr.mem.set hp hΩ hw (vs.take off ++ us ++ vs.drop (off + us.length)) (cells' := cells.take off ++ cellsS sv ++ cells.drop (off + n)) (by simp; omega)
  (fun i x y hx hy => by
   have la : (cells.take off).length = off := by simp; omega
   have lb : (vs.take off).length = off := by simp; omega
   rw [List.append_assoc, List.getElem?_append] at hx hy
   rw [la] at hx
   rw [lb] at hy
   split at hx
   ·rename_i hi
    rw [if_pos hi] at hy
    rw [List.getElem?_take, if_pos hi] at hx hy
    exact hrr i x y hx hy
   ·rename_i hi
    rw [if_neg hi] at hy
    rw [List.getElem?_append] at hx hy
    split at hx
    ·rename_i hj
     rw [if_pos (by omega)] at hy
     exact hur _ x y hx hy
    ·rename_i hj
     rw [if_neg (by omega)] at hy
     rw [List.getElem?_drop] at hx hy
     rw [hul, hl] at hy
     rw [hl] at hx
     exact hrr _ x y hx hy)
  (fun y hy => by
   rcases List.mem_append.1 hy with hy | hy
   ·rcases List.mem_append.1 hy with hy | hy
    ·exact hone y (List.mem_of_mem_take hy)
    ·exact huone y hy
   ·exact hone y (List.mem_of_mem_drop hy))
 have hrel : Rel C ⟨e, obs.set p (.fix ty (cells.take off ++ cellsS sv ++ cells.drop (off + n)))⟩ Ω a (w.setRow b (vs.take off ++ us ++ vs.drop (off + us.length)).toArray) :=
  ⟨hr.defers, hr.size, fun t x hx => let ⟨v, hv, hr'⟩ := hr.env t x hx; ⟨v, hv, hr'.mono key.2 (fun _ _ e => e)⟩, key.1⟩
 refine ⟨_, Ω, ?_, hrel⟩
 have hsz : (a.eval y).cells.size = n := by rw [huc]; simp; omega
 have huc' : (a.eval y).cells.toList = us := by rw [huc]
 simp only [execOp, ho, hev, Instr.storeAt, Instr.sureAddr, storeVar, Sem.run_bind, Sem.run_pure, Result.andThen_ok, run_sizeOf hs, hsz, ne_eq, not_true_eq_false, if_false, huc', hst, Sem.run_ite]
end
end Go.Vm

/- Slices, struct values, appending, over the view. -/
namespace Go.Vm
set_option linter.unusedVariables false

def elemT (P : Program) (t : TypeId) : Option (TypeId × Nat) :=
 match P.underlying t with
 | some (.slice e) => (sizeT P e).map fun n => (e, n)
 | _ => none
theorem elemT_spec {P : Program} {t el n : Nat} (h : elemT P t = some (el, n)) : P.underlying t = some (.slice el) ∧ sizeT P el = some n := by
 unfold elemT at h
 split at h
 ·rename_i e hu
  cases hs : sizeT P e with
  | none => rw [hs] at h; cases h
  | some k => rw [hs] at h; cases h; exact ⟨hu, hs⟩
 ·cases h

section
variable {C : Ctx} {Q : Exit → St → Prop} {ops : Array Oper} {rest : List Oper} {o : Oper} {e : List (Nat × SV)} {obs : List Ob} {d : Nat}

theorem run_indexSlice {P : Program} {t el sz : TypeId} (h : elemT P t = some (el, sz)) (k : IntKind) (i : Int) (b off len cap : Nat) (h0 : 0 ≤ i) (h1 : i < len) (w : World) :
  (Instr.indexAt t (.slice (some ⟨b, off, none⟩) len cap) (.int k i)).run P w = .ok (.pointer (some ⟨b, off + i.toNat * sz, none⟩)) w := by
 obtain ⟨hu, hs⟩ := elemT_spec h
 simp only [Instr.indexAt, asIntOf, Sem.run_bind, Sem.run_pure, Result.andThen_ok, run_underlying hu, h0, h1, and_self, if_true, run_sizeOf hs, Addr.add_of, Sem.run_ite]

theorem AOp.indexDs {t el sz : TypeId} {x ix : Operand} {k : IntKind} {i : Int} {cells : List D} (ho : o.op = .indexAddr t x ix) (hd : o.dst = some d) (hn : d < C.n) (hx : opS ⟨e, obs⟩ x = some (.d (.ds sz cells)))
  (hi : opS ⟨e, obs⟩ ix = some (.d (.v (.int k i)))) (ht : elemT C.P t = some (el, sz)) (hs : 0 < sz) (h0 : 0 ≤ i) (h1 : i.toNat * sz < cells.length)
  (h : AO C ops rest ⟨(d, .ep cells (i.toNat * sz)) :: e, obs⟩ Q) : AOp C ops rest o ⟨e, obs⟩ Q :=
 AOp.value hd hn (fun Ω a w hr => by
  have hv := hr.eval hx
  have hi := hr.evalV hi
  generalize hev : a.eval x = v at hv
  cases hv with
  | d _ _ hv =>
   cases hv with
   | nil => simp at h1
   | ds _ b off len cap _ vals hl hc hb hcell hrr =>
    have hlt : i < len := by
     rw [hl] at h1
     have := Nat.lt_of_mul_lt_mul_right h1
     omega
    refine ⟨_, ?_, .ep b off (i.toNat * sz) cells vals hb hcell hrr⟩
    simp only [execOp, ho, hev, hi, run_indexSlice ht k i b off len cap h0 hlt, Sem.run_bind, Sem.run_pure, Result.andThen_ok]) h
theorem AOp.indexSl {t el sz : TypeId} {x ix : Operand} {k : IntKind} {i : Int} {p off len cap : Nat} (ho : o.op = .indexAddr t x ix) (hd : o.dst = some d) (hn : d < C.n) (hx : opS ⟨e, obs⟩ x = some (.sl p sz off len cap))
  (hi : opS ⟨e, obs⟩ ix = some (.d (.v (.int k i)))) (ht : elemT C.P t = some (el, sz)) (h0 : 0 ≤ i) (h1 : i < len)
  (h : AO C ops rest ⟨(d, .ptr p (off + i.toNat * sz)) :: e, obs⟩ Q) : AOp C ops rest o ⟨e, obs⟩ Q :=
 AOp.value hd hn (fun Ω a w hr => by
  have hv := hr.eval hx
  have hi := hr.evalV hi
  generalize hev : a.eval x = v at hv
  cases hv with
  | sl _ _ _ _ _ b hb =>
   refine ⟨_, ?_, .ptr p (off + i.toNat * sz) b hb⟩
   simp only [execOp, ho, hev, hi, run_indexSlice ht k i b off len cap h0 h1, Sem.run_bind, Sem.run_pure, Result.andThen_ok]) h

theorem run_lenSlice {P : Program} {t el sz ty : TypeId} (h : elemT P t = some (el, sz)) (a : Option Addr) (n c : Nat) (w : World) :
  (Builtin.len_ #[t] ty #[.slice a n c]).run P w = .ok (.int .i64 n) w := by
 obtain ⟨hu, hs⟩ := elemT_spec h
 simp [Builtin.len_, run_underlying hu, goInt]

theorem AOp.lenDs {t el sz : TypeId} {x : Operand} {n : Nat} {cells : List D} (ho : o.op = .call { callee := .builtin .len, args := #[x], argTypes := #[t] }) (hd : o.dst = some d) (hn : d < C.n)
  (hx : opS ⟨e, obs⟩ x = some (.d (.ds sz cells))) (ht : elemT C.P t = some (el, sz)) (hs : 0 < sz) (hl : cells.length = n * sz)
  (h : AO C ops rest ⟨(d, .d (.v (.int .i64 n))) :: e, obs⟩ Q) : AOp C ops rest o ⟨e, obs⟩ Q :=
 AOp.value hd hn (fun Ω a w hr => by
  have hv := hr.eval hx
  generalize hev : a.eval x = v at hv
  cases hv with
  | d _ _ hv =>
   refine ⟨.int .i64 n, ?_, .d _ _ (.v _)⟩
   cases hv with
   | nil _ a c =>
    have : n = 0 := by
     rcases Nat.eq_zero_or_pos n with h0 | h0
     ·exact h0
     ·have := Nat.mul_pos h0 hs; simp at hl; omega
    subst this
    simp [execOp, ho, hev, resolve, invoke, builtin, run_lenSlice ht]
   | ds _ b off len cap _ vals hl2 hc hb hcell hrr =>
    have : len = n := Nat.eq_of_mul_eq_mul_right hs (by rw [← hl2, hl])
    subst this
    simp [execOp, ho, hev, resolve, invoke, builtin, run_lenSlice ht]) h
theorem AOp.lenOwn {t el sz ty : TypeId} {x : Operand} {p n : Nat} {cells : List D} (ho : o.op = .call { callee := .builtin .len, args := #[x], argTypes := #[t] }) (hd : o.dst = some d) (hn : d < C.n)
  (hx : opS ⟨e, obs⟩ x = some (.own p)) (ht : elemT C.P t = some (el, sz)) (hp : obs[p]? = some (.grow ty sz cells)) (hs : 0 < sz) (hl : cells.length = n * sz)
  (h : AO C ops rest ⟨(d, .d (.v (.int .i64 n))) :: e, obs⟩ Q) : AOp C ops rest o ⟨e, obs⟩ Q :=
 AOp.value hd hn (fun Ω a w hr => by
  obtain ⟨m, xs, hΩ, how, hxl, hrr⟩ := hr.growV hp (hr.eval hx)
  have : m = n := Nat.eq_of_mul_eq_mul_right hs (by rw [← how.1, hxl, hl])
  subst this
  refine ⟨.int .i64 m, ?_, .d _ _ (.v _)⟩
  rcases how.2 with ⟨hev, h0⟩ | ⟨g, cap, cur, hev, _⟩
  ·subst h0; simp [execOp, ho, hev, resolve, invoke, builtin, run_lenSlice ht]
  ·simp [execOp, ho, hev, resolve, invoke, builtin, run_lenSlice ht]) h

theorem AOp.extract {x : Operand} {i : Nat} {vs : List SV} {sv : SV} (ho : o.op = .extract x i) (hd : o.dst = some d) (hn : d < C.n) (hx : opS ⟨e, obs⟩ x = some (.tu vs)) (hi : vs[i]? = some sv)
  (h : AO C ops rest ⟨(d, sv) :: e, obs⟩ Q) : AOp C ops rest o ⟨e, obs⟩ Q :=
 AOp.value hd hn (fun Ω a w hr => by
  have hv := hr.eval hx
  generalize hev : a.eval x = v at hv
  cases hv with
  | tu _ us hl hrr =>
   have hlt := (List.getElem?_eq_some_iff.1 hi).1
   have hu : us[i]? = some us[i] := List.getElem?_eq_getElem (by omega)
   exact ⟨us[i], by simp [execOp, ho, hev, Instr.extract, hu], hrr i _ _ hi hu⟩) h
theorem AOp.extractD {x : Operand} {i : Nat} {vs : List D} {y : D} (ho : o.op = .extract x i) (hd : o.dst = some d) (hn : d < C.n) (hx : opS ⟨e, obs⟩ x = some (.d (.tu vs))) (hi : vs[i]? = some y)
  (h : AO C ops rest ⟨(d, .d y) :: e, obs⟩ Q) : AOp C ops rest o ⟨e, obs⟩ Q :=
 AOp.value hd hn (fun Ω a w hr => by
  have hv := hr.eval hx
  generalize hev : a.eval x = v at hv
  cases hv with
  | d _ _ hv =>
   cases hv with
   | tu _ us hl hrr =>
    have hlt := (List.getElem?_eq_some_iff.1 hi).1
    have hu : us[i]? = some us[i] := List.getElem?_eq_getElem (by omega)
    exact ⟨us[i], by simp [execOp, ho, hev, Instr.extract, hu], .d _ _ (hrr i _ _ hi hu)⟩) h
end
end Go.Vm

/- Functions: what a call gives, over the view. -/
namespace Go.Vm
set_option linter.unusedVariables false

def mapO {α β : Type} (f : α → Option β) : List α → Option (List β)
 | [] => some []
 | x :: r => match f x with
  | some y => match mapO f r with
   | some t => some (y :: t)
   | none => none
  | none => none
theorem mapO_get {α β : Type} {f : α → Option β} : ∀ {l : List α} {r : List β}, mapO f l = some r → r.length = l.length ∧ ∀ (i : Nat) x y, l[i]? = some x → r[i]? = some y → f x = some y := by
 intro l
 induction l with
 | nil => intro r h; cases h; exact ⟨rfl, fun i x y hx => by simp at hx⟩
 | cons a l ih =>
  intro r h
  simp only [mapO] at h
  split at h
  ·rename_i y hy
   split at h
   ·rename_i t ht
    cases h
    obtain ⟨hl, hi⟩ := ih ht
    refine ⟨by simp [hl], fun i p q hp hq => ?_⟩
    cases i with
    | zero => simp at hp hq; subst hp; subst hq; exact hy
    | succ i => simp at hp hq; exact hi i p q hp hq
   ·cases h
  ·cases h

def viewS : Nat → List Ob → SV → Option D
 | 0, _, _ => none
 | n + 1, obs, x => match x with
  | .d y => some y
  | .ptr p off => match obs[p]? with
   | some (.fix ty cells) => (mapO (viewS n obs) (cells.drop off)).map .pt
   | _ => none
  | .own p => match obs[p]? with
   | some (.grow ty sz cells) => some (.ds sz cells)
   | _ => none
  | .sl p sz off len cap => match obs[p]? with
   | some (.fix ty cells) => if off + len * sz ≤ cells.length ∧ len ≤ cap then (mapO (viewS n obs) ((cells.drop off).take (len * sz))).map (.ds sz) else none
   | _ => none
  | .ep cells i => some (.pt (cells.drop i))
  | .ag l => (mapO (viewS n obs) l).map .ag
  | .tu l => (mapO (viewS n obs) l).map .tu
  | .ifc t x => (viewS n obs x).map (.ifc t)
  | .fv (.func f) [] l => (mapO (viewS n obs) l).map (.clo f)
  | .fv _ _ _ => none
  | .pre _ _ => none
  | .full sz cells => some (.ds sz cells)
  | .any => none

def okV (C : Ctx) (w : World) (b : Nat) : Prop := (C.ok b ∨ C.W.heap.size ≤ b ∨ b ∈ C.may) ∧ b < w.heap.size

theorem RepD.noMay {P : Program} {W w : World} {ok : Nat → Prop} {n : Nat} {df : List Deferred} {r : D} {v : Value} (h : RepD w (okV ⟨P, W, ok, [], n, df⟩ w) r v) : RepD w (fun b => (ok b ∨ W.heap.size ≤ b) ∧ b < w.heap.size) r v :=
 h.mono fun b hb => ⟨⟨hb.1.elim .inl (fun h => h.elim .inr (fun h => by cases h)), hb.2⟩, rfl⟩
theorem viewS_rep {C : Ctx} {obs : List Ob} {Ω : List Value} {w : World} (hm : Mem C obs Ω w) (hmay : C.may = C.may) : ∀ (n : Nat) {x : SV} {v : Value} {y : D}, viewS n obs x = some y → RepS w (okB C obs Ω w) Ω x v → RepD w (okV C w) y v := by
 have hok : ∀ b, okB C obs Ω w b → okV C w b := fun b h => ⟨h.1, h.2.1⟩
 have hnew : ∀ {p : Nat} {ob : Ob} {h : Value} {b : Nat}, obs[p]? = some ob → ob.live = true → Ω[p]? = some h → blk h = some b → okV C w b := fun {p ob h b} e1 l e2 hb => by
  refine ⟨.inr ?_, (hm.obj p ob h e1 e2).lt l hb⟩
  rcases hm.new p ob h b e1 l e2 hb with h | h
  ·exact .inl h
  ·exact .inr h
 intro n
 induction n with
 | zero => intro x v y h; cases h
 | succ n ih =>
  intro x v y h hr
  cases hr with
  | any => cases h
  | pre => cases h
  | full sz cells a n hd => cases h; exact hd.mono fun b hb => ⟨hok b hb, rfl⟩
  | d x v hd => cases h; exact hd.mono fun b hb => ⟨hok b hb, rfl⟩
  | ptr p off b hb =>
   simp only [viewS] at h
   split at h
   ·rename_i ty cells hp
    obtain ⟨ys, hy, rfl⟩ := Option.map_eq_some_iff.1 h
    obtain ⟨hl, hi⟩ := mapO_get hy
    obtain ⟨b', vs, he, hw, hvl, hrr, h1⟩ := hm.obj p _ _ hp hb
    cases he
    refine .pt b off ys (fun i => (vs.drop off).getD i undef) (hnew hp rfl hb rfl) (fun i hi' => ?_) (fun i z hz => ?_)
    ·have hlt : off + i < vs.length := by simp at hl; omega
     rw [cell_of_row w b (off + i) _ ty (0, 0) hw]; simp [hlt]
    ·have hlt := (List.getElem?_eq_some_iff.1 hz).1
     have hlt2 : off + i < cells.length := by simp at hl; omega
     have hc : (cells.drop off)[i]? = some cells[off + i] := by rw [List.getElem?_drop]; exact List.getElem?_eq_getElem hlt2
     have hv : vs[off + i]? = some vs[off + i] := List.getElem?_eq_getElem (by omega)
     have e : (vs.drop off).getD i undef = vs[off + i] := by simp [hv]
     rw [e]
     exact ih (hi i _ _ hc hz) (hrr (off + i) _ _ (List.getElem?_eq_getElem hlt2) hv)
   ·cases h
  | ptrG p off b len cap hb =>
   simp only [viewS] at h
   split at h
   ·rename_i ty cells hp
    obtain ⟨b', vs, he, _⟩ := hm.obj p _ _ hp hb
    cases he
   ·cases h
  | sl p sz off len cap b hb =>
   simp only [viewS] at h
   split at h
   ·rename_i ty cells hp
    split at h
    ·rename_i hle
     obtain ⟨ys, hy, rfl⟩ := Option.map_eq_some_iff.1 h
     obtain ⟨hl, hi⟩ := mapO_get hy
     obtain ⟨b', vs, he, hw, hvl, hrr, h1⟩ := hm.obj p _ _ hp hb
     cases he
     have hyl : ys.length = len * sz := by rw [hl]; simp; omega
     refine .ds sz b off len cap ys (fun i => (vs.drop off).getD i undef) hyl hle.2 (hnew hp rfl hb rfl) (fun i hi' => ?_) (fun i z hz => ?_)
     ·have hlt : off + i < vs.length := by omega
      rw [cell_of_row w b (off + i) _ ty (0, 0) hw]; simp [hlt]
     ·have hlt := (List.getElem?_eq_some_iff.1 hz).1
      have hlt2 : off + i < cells.length := by omega
      have hc : ((cells.drop off).take (len * sz))[i]? = some cells[off + i] := by rw [List.getElem?_take, if_pos (by omega), List.getElem?_drop]; exact List.getElem?_eq_getElem hlt2
      have hv : vs[off + i]? = some vs[off + i] := List.getElem?_eq_getElem (by omega)
      have e : (vs.drop off).getD i undef = vs[off + i] := by simp [hv]
      rw [e]
      exact ih (hi i _ _ hc hz) (hrr (off + i) _ _ (List.getElem?_eq_getElem hlt2) hv)
    ·cases h
   ·cases h
  | own p v hb hb1 =>
   simp only [viewS] at h
   split at h
   ·rename_i ty sz cells hp
    cases h
    obtain ⟨m, xs, how, hxl, hrr⟩ := hm.obj p _ _ hp hb
    rcases how.2 with ⟨rfl, h0⟩ | ⟨g, cap, cur, rfl, hbg, hg, hnc, hcm, hcs, htake⟩
    ·have : cells = [] := by
      have h2 := how.1; subst h0; rw [Nat.zero_mul] at h2
      exact List.eq_nil_of_length_eq_zero (by omega)
     subst this
     exact .nil sz none 0
    ·refine .ds sz g 0 m cap cells (fun i => xs.getD i undef) (by rw [← hxl, how.1]) hnc (hnew hp rfl hb rfl) (fun i hi => ?_) (fun i z hz => ?_)
     ·have hlt : i < xs.length := by omega
      have hx : xs[i]? = some xs[i] := List.getElem?_eq_getElem hlt
      have := how.cells (g := g) rfl i _ hx
      rw [Addr.add_of] at this
      rw [this]; simp [hx]
     ·have hlt := (List.getElem?_eq_some_iff.1 hz).1
      have hx : xs[i]? = some xs[i] := List.getElem?_eq_getElem (by omega)
      have e : xs.getD i undef = xs[i] := by simp [hx]
      rw [e]
      exact (hrr i _ _ hz hx).mono fun b hb => ⟨hok b hb, rfl⟩
   ·cases h
  | ep b off i cells vals hb hc hrr =>
   cases h
   refine .pt b (off + i) _ (fun j => vals (i + j)) (hok b hb) (fun j hj => ?_) (fun j z hz => ?_)
   ·rw [Nat.add_assoc]; exact hc (i + j) (by simp at hj; omega)
   ·rw [List.getElem?_drop] at hz; exact (hrr _ _ hz).mono fun b hb => ⟨hok b hb, rfl⟩
  | ag cells vs hl hrr =>
   simp only [viewS] at h
   obtain ⟨ys, hy, rfl⟩ := Option.map_eq_some_iff.1 h
   obtain ⟨hl2, hi⟩ := mapO_get hy
   refine .ag ys vs (by omega) fun i p q hp hq => ?_
   have hlt := (List.getElem?_eq_some_iff.1 hp).1
   have hc : cells[i]? = some cells[i] := List.getElem?_eq_getElem (by omega)
   exact ih (hi i _ _ hc hp) (hrr i _ _ hc hq)
  | tu cells vs hl hrr =>
   simp only [viewS] at h
   obtain ⟨ys, hy, rfl⟩ := Option.map_eq_some_iff.1 h
   obtain ⟨hl2, hi⟩ := mapO_get hy
   refine .tu ys vs (by omega) fun i p q hp hq => ?_
   have hlt := (List.getElem?_eq_some_iff.1 hp).1
   have hc : cells[i]? = some cells[i] := List.getElem?_eq_getElem (by omega)
   exact ih (hi i _ _ hc hp) (hrr i _ _ hc hq)
  | ifc t x u hx =>
   simp only [viewS] at h
   obtain ⟨z, hz, rfl⟩ := Option.map_eq_some_iff.1 h
   exact .ifc t z u (ih hz hx)
  | fv fn first caps fs cs hf hc h1 h2 =>
   cases fn <;> first | (cases h; done) | skip
   cases first with
   | cons _ _ => cases h
   | nil =>
    have hfs : fs = [] := List.length_eq_zero_iff.1 (by simpa using hf)
    subst hfs
    simp only [viewS] at h
    obtain ⟨ys, hy, rfl⟩ := Option.map_eq_some_iff.1 h
    obtain ⟨hl2, hi⟩ := mapO_get hy
    refine .clo _ ys cs (by omega) fun i p q hp hq => ?_
    have hlt := (List.getElem?_eq_some_iff.1 hp).1
    have hc : caps[i]? = some caps[i] := List.getElem?_eq_getElem (by omega)
    exact ih (hi i _ _ hc hp) (h2 i _ _ hc hq)

def enters (P : Program) (f : FuncId) : Bool :=
 match P.funcs[f]? with
 | some fn => !(fn.name == "runtime.NumGoroutine") && fn.body.isSome
 | none => false
theorem run_enters {P : Program} {f : FuncId} (h : enters P f = true) (args : Array Value) (w : World) : (callFunc f args).run P w = .ok (.enter f args) w := by
 unfold enters at h
 split at h
 ·rename_i fn hf
  rw [Bool.and_eq_true] at h
  have h1 : (fn.name == "runtime.NumGoroutine") = false := by simpa using h.1
  have h2 : fn.body.isNone = false := by cases hb : fn.body with | none => rw [hb] at h; cases h.2 | some c => rfl
  simp only [callFunc, Sem.run_bind, run_program, Result.andThen_ok, hf, h1, h2, Bool.false_eq_true, if_false, Sem.run_pure]
 ·cases h

def FnD (P : Program) (f : FuncId) (args : List D) (R : D → Prop) : Prop :=
 enters P f = true ∧ ∀ (W : World) (ok : Nat → Prop) (vs : List Value), HoldsG W → (∀ b, ok b → b < W.heap.size) → vs.length = args.length →
  (∀ (i : Nat) x v, args[i]? = some x → vs[i]? = some v → RepD W ok x v) →
  Calls P f vs.toArray W fun e w' => ∃ v r, e = .returned v ∧ R r ∧ RowKit.Below W.heap.size W w' ∧ RepD w' (fun b => (ok b ∨ W.heap.size ≤ b) ∧ b < w'.heap.size) r v

theorem FnD.mono {P : Program} {f : FuncId} {args : List D} {R R' : D → Prop} (h : FnD P f args R) (hr : ∀ r, R r → R' r) : FnD P f args R' :=
 ⟨h.1, fun W ok vs h0 h1 h2 h3 => (h.2 W ok vs h0 h1 h2 h3).mono fun e w' ⟨v, r, he, hR, hb, hd⟩ => ⟨v, r, he, hr r hR, hb, hd⟩⟩

theorem Mem.below {C : Ctx} {obs : List Ob} {Ω : List Value} {w w' : World} (h : Mem C obs Ω w) (hb : RowKit.Below w.heap.size w w') :
  Mem C obs Ω w' ∧ ∀ b, okB C obs Ω w b → okB C obs Ω w' b ∧ w'.heap[b]? = w.heap[b]? := by
 have hok : ∀ b, okB C obs Ω w b → okB C obs Ω w' b ∧ w'.heap[b]? = w.heap[b]? := fun b hk => ⟨⟨hk.1, Nat.lt_of_lt_of_le hk.2.1 hb.size, hk.2.2⟩, hb.block b hk.2.1⟩
 refine ⟨⟨h.len, fun o ob k e1 e2 => ?_, h.sep, h.new, ⟨hb.os.trans h.fr.os, hb.tape.trans h.fr.tape, hb.output.trans h.fr.output, Nat.le_trans h.fr.size hb.size, fun b e1 e2 => ?_, h.fr.glob, h.fr.gmay⟩⟩, hok⟩
 ·exact (h.obj o ob k e1 e2).mono hok (fun _ _ e => e) fun b hbk hl => hb.block b ((h.obj o ob k e1 e2).lt hl hbk)
 ·rw [hb.block b (Nat.lt_of_lt_of_le e1 h.fr.size)]; exact h.fr.block b e1 e2

theorem Fr.holds {C : Ctx} {w : World} (h : Fr C w) (hm : C.may = C.may) : HoldsG w := ⟨fun p hp => by
 obtain ⟨h1, h2⟩ := h.glob.1 p hp
 exact ⟨Nat.lt_of_lt_of_le h1 h.size, by rw [← h2]; exact cell_heap (h.block _ h1 (fun hb => h.gmay _ hb (.inl ⟨p, hp, rfl⟩)))⟩, fun p hp => by
 obtain ⟨h1, t, u, h2⟩ := h.glob.2.1 p hp
 exact ⟨Nat.lt_of_lt_of_le h1 h.size, t, u, by rw [← h2]; exact cell_heap (h.block _ h1 (fun hb => h.gmay _ hb (.inr (.inl hp))))⟩, fun p hp => by
 obtain ⟨h1, t, a, h2, h3⟩ := h.glob.2.2.1 p hp
 exact ⟨Nat.lt_of_lt_of_le h1 h.size, t, a, by rw [← h2]; exact cell_heap (h.block _ h1 (fun hb => h.gmay _ hb (.inr (.inr (.inl hp))))), h3⟩, fun p hp => by
 obtain ⟨h1, x, h2⟩ := h.glob.2.2.2 p hp
 exact ⟨Nat.lt_of_lt_of_le h1 h.size, x, by rw [← h2]; exact cell_heap (h.block _ h1 (fun hb => h.gmay _ hb (.inr (.inr (.inr hp)))))⟩⟩
theorem Rel.below {C : Ctx} {s : St} {Ω : List Value} {a : Act} {w w' : World} (h : Rel C s Ω a w) (hb : RowKit.Below w.heap.size w w') : Rel C s Ω a w' :=
 ⟨h.defers, h.size, fun t x hx => let ⟨v, hv, hr⟩ := h.env t x hx; ⟨v, hv, hr.mono (h.mem.below hb).2 (fun _ _ e => e)⟩, (h.mem.below hb).1⟩

theorem RepD.valv {w : World} {ok : Nat → Prop} {x u : Value} (h : RepD w ok (.v x) u) : u = x := by cases h; rfl
def dataS : Nat → SV → Option D
 | 0, _ => none
 | n + 1, x => match x with
  | .d y => some y
  | .ep cells i => some (.pt (cells.drop i))
  | .ag l => (mapO (dataS n) l).map .ag
  | .tu l => (mapO (dataS n) l).map .tu
  | .ifc t x => (dataS n x).map (.ifc t)
  | .fv (.func f) [] l => (mapO (dataS n) l).map (.clo f)
  | _ => none
theorem dataS_rep {w : World} {ok : Nat → Prop} {Ω : List Value} : ∀ (n : Nat) {x : SV} {v : Value} {y : D}, dataS n x = some y → RepS w ok Ω x v → RepD w ok y v := by
 intro n
 induction n with
 | zero => intro x v y h; cases h
 | succ n ih =>
  intro x v y h hr
  cases hr with
  | d x v hd => cases h; exact hd
  | ep b off i cells vals hb hc hrr =>
   cases h
   refine .pt b (off + i) _ (fun j => vals (i + j)) hb (fun j hj => ?_) (fun j z hz => ?_)
   ·rw [Nat.add_assoc]; exact hc (i + j) (by simp at hj; omega)
   ·rw [List.getElem?_drop] at hz; exact hrr _ _ hz
  | ag cells vs hl hrr =>
   simp only [dataS] at h
   obtain ⟨ys, hy, rfl⟩ := Option.map_eq_some_iff.1 h
   obtain ⟨hl2, hi⟩ := mapO_get hy
   refine .ag ys vs (by omega) fun i p q hp hq => ?_
   have hlt := (List.getElem?_eq_some_iff.1 hp).1
   have hc : cells[i]? = some cells[i] := List.getElem?_eq_getElem (by omega)
   exact ih (hi i _ _ hc hp) (hrr i _ _ hc hq)
  | tu cells vs hl hrr =>
   simp only [dataS] at h
   obtain ⟨ys, hy, rfl⟩ := Option.map_eq_some_iff.1 h
   obtain ⟨hl2, hi⟩ := mapO_get hy
   refine .tu ys vs (by omega) fun i p q hp hq => ?_
   have hlt := (List.getElem?_eq_some_iff.1 hp).1
   have hc : cells[i]? = some cells[i] := List.getElem?_eq_getElem (by omega)
   exact ih (hi i _ _ hc hp) (hrr i _ _ hc hq)
  | ifc t x u hx =>
   simp only [dataS] at h
   obtain ⟨z, hz, rfl⟩ := Option.map_eq_some_iff.1 h
   exact .ifc t z u (ih hz hx)
  | fv fn first caps fs cs hf hc h1 h2 =>
   cases fn <;> first | (cases h; done) | skip
   cases first with
   | cons _ _ => cases h
   | nil =>
    have hfs : fs = [] := List.length_eq_zero_iff.1 (by simpa using hf)
    subst hfs
    simp only [dataS] at h
    obtain ⟨ys, hy, rfl⟩ := Option.map_eq_some_iff.1 h
    obtain ⟨hl2, hi⟩ := mapO_get hy
    refine .clo _ ys cs (by omega) fun i p q hp hq => ?_
    have hlt := (List.getElem?_eq_some_iff.1 hp).1
    have hc : caps[i]? = some caps[i] := List.getElem?_eq_getElem (by omega)
    exact ih (hi i _ _ hc hp) (h2 i _ _ hc hq)
  | _ => cases h
def argD (s : St) (x : Operand) : Option D := match opS s x with
 | some y => dataS 9 y
 | none => none
def D.flat : D → Bool
 | .v _ => true
 | .ag l => l.all fun | .v _ => true | _ => false
 | .tu l => l.all fun | .v _ => true | _ => false
 | _ => false
theorem RepD.flat {w w' : World} {ok ok' : Nat → Prop} {x : D} {v : Value} (h : RepD w ok x v) (hf : x.flat = true) : RepD w' ok' x v := by
 have aux : ∀ {y : D} {u : Value}, (match y with | .v _ => true | _ => false) = true → RepD w ok y u → RepD w' ok' y u := fun {y u} hy hr => by
  cases hr with
  | v => exact .v _
  | _ => cases hy
 cases h with
 | v => exact .v _
 | ag cells vs hl hr => exact .ag cells vs hl fun i x y hx hy => aux (List.all_eq_true.1 hf x (List.mem_of_getElem? hx)) (hr i x y hx hy)
 | tu cells vs hl hr => exact .tu cells vs hl fun i x y hx hy => aux (List.all_eq_true.1 hf x (List.mem_of_getElem? hx)) (hr i x y hx hy)
 | _ => cases hf

section
variable {C : Ctx} {Q : Exit → St → Prop} {ops : Array Oper} {rest : List Oper} {o : Oper} {e : List (Nat × SV)} {obs : List Ob} {d : Nat}

theorem run_call {P : Program} {f : FuncId} {xs : Array Operand} {ts : Array TypeId} (he : enters P f = true) (ho : o.op = .call { callee := .value (.func f), args := xs, argTypes := ts }) (a : Act) (w : World) :
  (execOp a.eval o).run P w = .ok (.enter f (xs.map a.eval)) w := by
 simp only [execOp, ho, resolve, Act.eval, Deferred.ofValue, Sem.run_bind, Sem.run_pure, Result.andThen_ok, invoke, Array.empty_append, Array.append_empty, run_enters he]

theorem AOp.callD {f : FuncId} {xs : List Operand} {ts : Array TypeId} {ys : List D} {R : D → Prop} (ho : o.op = .call { callee := .value (.func f), args := xs.toArray, argTypes := ts }) (hd : o.dst = some d) (hn : d < C.n) (hm : C.may = C.may)
  (hx : mapO (argD ⟨e, obs⟩) xs = some ys) (hF : FnD C.P f ys R) (h : ∀ r, R r → AO C ops rest ⟨(d, .d r) :: e, obs⟩ Q) : AOp C ops rest o ⟨e, obs⟩ Q := fun Ω a w hr => by
 obtain ⟨hl, hi⟩ := mapO_get hx
 unfold Oper.wp
 rw [run_call hF.1 ho, Oper.upon_enter, List.map_toArray]
 refine (hF.2 w (okB C obs Ω w) (xs.map a.eval) (hr.mem.fr.holds hm) (fun b hb => hb.2.1) (by simp [hl]) fun i y v hy hv => ?_).mono fun ed w' ⟨v, r, he, hR, hb, hrep⟩ => ?_
 ·simp only [List.getElem?_map, Option.map_eq_some_iff] at hv
  obtain ⟨x, hxi, rfl⟩ := hv
  have := hi i x y hxi hy
  unfold argD at this
  split at this
  ·rename_i z hz
   exact dataS_rep 9 this (hr.eval hz)
  ·cases this
 ·subst he
  rw [hd]
  refine h r hR Ω _ w' ((hr.below hb).put hn (.d _ _ (hrep.mono fun b hk => ⟨?_, rfl⟩)))
  rcases hk.1 with hk1 | hk1
  ·exact ((hr.mem.below hb).2 b hk1).1
  ·refine ⟨.inr (.inl (Nat.le_trans hr.mem.fr.size hk1)), hk.2, fun o' ob k e1 l e2 hbk => ?_⟩
   have := (hr.mem.obj o' ob k e1 e2).lt l hbk
   omega

theorem AOp.callX {f : FuncId} {xs : List Operand} {ts : Array TypeId} {r : Value} (vals : List Value) (ho : o.op = .call { callee := .value (.func f), args := xs.toArray, argTypes := ts }) (hd : o.dst = some d) (hn : d < C.n)
  (hx : mapO (argD ⟨e, obs⟩) xs = some (vals.map .v)) (hrun : ∀ w, (callFunc f vals.toArray).run C.P w = .ok (.value r) w) (h : AO C ops rest ⟨(d, .d (.v r)) :: e, obs⟩ Q) : AOp C ops rest o ⟨e, obs⟩ Q :=
 AOp.value hd hn (fun Ω a w hr => by
  obtain ⟨hl, hi⟩ := mapO_get hx
  refine ⟨r, ?_, .d _ _ (.v _)⟩
  have : xs.map a.eval = vals := by
   apply List.ext_getElem?
   intro i
   rw [List.getElem?_map]
   rcases Nat.lt_or_ge i xs.length with hlt | hge
   ·have h1 : xs[i]? = some xs[i] := List.getElem?_eq_getElem hlt
    have h2 : vals[i]? = some (vals[i]'(by simp at hl; omega)) := List.getElem?_eq_getElem _
    have := hi i _ (.v (vals[i]'(by simp at hl; omega))) h1 (by rw [List.getElem?_map, h2]; rfl)
    unfold argD at this
    split at this
    ·rename_i z hz
     rw [h1, h2]
     have hd := dataS_rep 9 this (hr.eval hz)
     exact congrArg some hd.valv
    ·cases this
   ·rw [List.getElem?_eq_none hge, List.getElem?_eq_none (by simp at hl; omega)]; rfl
  simp only [execOp, ho, resolve, Act.eval, Deferred.ofValue, Sem.run_bind, Sem.run_pure, Result.andThen_ok, invoke, Array.empty_append, Array.append_empty, List.map_toArray, this, hrun]) h
end
end Go.Vm

/- A function, from its entry to its results, over the view. -/
namespace Go.Vm
set_option linter.unusedVariables false

def enumD : Nat → List D → List (Nat × SV)
 | _, [] => []
 | i, x :: r => (i, .d x) :: enumD (i + 1) r
theorem enumD_get (l : List D) : ∀ (i t : Nat) (x : SV), get (enumD i l) t = some x → ∃ y, x = .d y ∧ i ≤ t ∧ l[t - i]? = some y := by
 induction l with
 | nil => intro i t x h; cases h
 | cons y l ih =>
  intro i t x h
  simp only [enumD, get] at h
  split at h
  ·rename_i e; subst e; cases h; exact ⟨y, rfl, Nat.le_refl _, by simp⟩
  ·rename_i hne
   obtain ⟨z, hz, hle, hl⟩ := ih (i + 1) t x h
   refine ⟨z, hz, by omega, ?_⟩
   have : t - i = (t - (i + 1)) + 1 := by omega
   rw [this]; simpa using hl

def resV (P : Program) (s : St) : ResultVar → Option SV
 | .tmp t => get s.env t
 | .cell t ty => match get s.env t with
  | some (.ptr p off) => match s.obs[p]? with
   | some (.fix _ cells) => match aggT P ty with
    | some false => cells[off]?
    | some true => match sizeT P ty with
     | some n => if off + n ≤ cells.length then some (.ag ((cells.drop off).take n)) else none
     | none => none
    | none => none
   | _ => none
  | _ => none
def resD (P : Program) (s : St) (rs : List ResultVar) : Option D :=
 match mapO (fun r => match resV P s r with | some x => viewS 9 s.obs x | none => none) rs with
 | some [y] => some y
 | some ys => some (.tu ys)
 | none => none

def resSem (tmps : Array Value) : ResultVar → Sem Value
 | .tmp t => pure (tmps.getD t undef)
 | .cell a t => do loadVar t (← asAddr (tmps.getD a undef))
theorem results_eq (fn : Func) (tmps : Array Value) : results fn tmps = (do let vs ← fn.results.mapM (resSem tmps); pure (if h : vs.size = 1 then vs[0] else .tuple vs)) := rfl

theorem resV_rep {C : Ctx} {s : St} {Ω : List Value} {a : Act} {w : World} (hr : Rel C s Ω a w) {r : ResultVar} {x : SV} (h : resV C.P s r = some x) :
  ∃ v, (resSem a.tmps r).run C.P w = .ok v w ∧ RepS w (okB C s.obs Ω w) Ω x v := by
 obtain ⟨e, obs⟩ := s
 cases r with
 | tmp t =>
  obtain ⟨v, hv, hrep⟩ := hr.env t x h
  exact ⟨v, by simp [resSem, hv], hrep⟩
 | cell t ty =>
  simp only [resV] at h
  split at h
  ·rename_i p off hp
   obtain ⟨v, hv, hrep⟩ := hr.env t _ hp
   split at h
   ·rename_i ty' cells ho
    obtain ⟨b, vs, hev, hΩ, hw, hl, hrr, h1⟩ := hr.fix ho hrep
    subst hev
    split at h
    ·rename_i ha
     have hlt := (List.getElem?_eq_some_iff.1 h).1
     have hvv : vs[off]? = some vs[off] := List.getElem?_eq_getElem (by omega)
     refine ⟨vs[off], ?_, hrr off _ _ h hvv⟩
     have hcell : w.cell? ⟨b, off, none⟩ = some vs[off] := by rw [cell_of_row w b off _ ty' (0, 0) hw]; simp
     simp [resSem, hv, asAddr, run_load1 ha hcell]
    ·rename_i ha
     split at h
     ·rename_i n hs
      split at h
      ·rename_i hle
       cases h
       refine ⟨.agg ((vs.drop off).take n).toArray, ?_, .ag _ _ (by simp; omega) fun i x y hx hy => ?_⟩
       ·have := run_loadN (P := C.P) (w := w) (b := b) (off := off) (vs := (vs.drop off).take n) ha hs (by simp; omega) (fun j hj => by
         rw [cell_of_row w b (off + j) _ ty' (0, 0) hw, List.getElem?_take, if_pos hj, List.getElem?_drop]; simp)
        simp [resSem, hv, asAddr, this]
       ·rw [List.getElem?_take] at hx hy
        split at hx
        ·rename_i hi
         rw [if_pos hi] at hy
         rw [List.getElem?_drop] at hx hy
         exact hrr _ _ _ hx hy
        ·cases hx
      ·cases h
     ·cases h
    ·cases h
   ·cases h
  ·cases h

theorem results_rep {C : Ctx} {s : St} {Ω : List Value} {a : Act} {w : World} (hm : C.may = C.may) (hr : Rel C s Ω a w) {fn : Func} {y : D} (h : resD C.P s fn.results.toList = some y) :
  ∃ v, (results fn a.tmps).run C.P w = .ok v w ∧ RepD w (okV C w) y v := by
 have key : ∀ (l : List ResultVar) (ys : List D), mapO (fun r => match resV C.P s r with | some x => viewS 9 s.obs x | none => none) l = some ys →
   ∃ vs : List Value, (l.mapM (resSem a.tmps)).run C.P w = .ok vs w ∧ vs.length = ys.length ∧
    ∀ (i : Nat) p q, ys[i]? = some p → vs[i]? = some q → RepD w (okV C w) p q := by
  intro l
  induction l with
  | nil => intro ys h; cases h; exact ⟨[], rfl, rfl, fun i p q hp => by simp at hp⟩
  | cons r l ih =>
   intro ys h
   simp only [mapO] at h
   split at h
   ·rename_i y hy
    split at h
    ·rename_i t ht
     cases h
     obtain ⟨vs, hrun, hl, hrr⟩ := ih t ht
     split at hy
     ·rename_i x hx
      obtain ⟨v, hv, hrep⟩ := resV_rep hr hx
      refine ⟨v :: vs, ?_, by simp [hl], fun i p q hp hq => ?_⟩
      ·simp [List.mapM_cons, hv, hrun]
      ·cases i with
       | zero => simp at hp hq; subst hp; subst hq; exact viewS_rep hr.mem hm 9 hy hrep
       | succ i => simp at hp hq; exact hrr i p q hp hq
     ·cases hy
    ·cases h
   ·cases h
 unfold resD at h
 split at h
 ·rename_i y' hys
  cases h
  obtain ⟨vs, hrun, hl, hrr⟩ := key _ _ hys
  match vs, hl with
  | [v], _ =>
   refine ⟨v, ?_, hrr 0 _ _ rfl rfl⟩
   rw [results_eq]
   rw [← Array.toArray_toList (xs := fn.results), List.mapM_toArray]
   simp [hrun]
 ·rename_i ys hne hys
  cases h
  obtain ⟨vs, hrun, hl, hrr⟩ := key _ _ hys
  refine ⟨.tuple vs.toArray, ?_, .tu ys vs hl hrr⟩
  have h1 : ¬ vs.length = 1 := fun e => by
   rw [hl] at e
   match ys, e with
   | [y], _ => exact hne y rfl
  rw [results_eq]
  rw [← Array.toArray_toList (xs := fn.results), List.mapM_toArray]
  simp [hrun, h1]
 ·cases h

def RetQ (P : Program) (rs : List ResultVar) (R : D → Prop) : Exit → St → Prop
 | .normal, s => ∃ r, resD P s rs = some r ∧ R r
 | .ret, s => ∃ r, resD P s rs = some r ∧ R r
 | _, _ => False

theorem retq {P : Program} {s : St} {rs : List ResultVar} {R : D → Prop} {r : D} (h : resD P s rs = some r) (hR : R r) : RetQ P rs R .ret s := ⟨r, h, hR⟩
theorem FnD.of {P : Program} {f : FuncId} {fn : Func} {c : Code} {args : List D} {R : D → Prop} {n : Nat} {rs : List ResultVar} (he : enters P f = true) (hf : P.funcs[f]? = some fn) (hb : fn.body = some c) (hnt : fn.ntmps = n) (hrs : fn.results = rs.toArray) (hn : args.length ≤ n)
  (h : ∀ (W : World) (ok : Nat → Prop), AC ⟨P, W, ok, [], n, []⟩ c ⟨enumD 0 args, []⟩ (RetQ P rs R)) : FnD P f args R := by
 subst hnt
 have hrl : fn.results.toList = rs := by rw [hrs]
 subst hrl
 refine ⟨he, fun W ok vs hG hok hl hrep => calls_of_wp hf hb ?_⟩
 have hrel : Rel ⟨P, W, ok, [], fn.ntmps, []⟩ ⟨enumD 0 args, []⟩ [] { tmps := vs.toArray ++ Array.replicate (fn.ntmps - vs.toArray.size) undef, defers := [] } W := by
  refine ⟨rfl, by simp; omega, fun t x hx => ?_, ⟨rfl, fun o ob h e1 => by simp at e1, fun i j a b p q x _ e1 => by simp at e1, fun o ob p b e1 => by simp at e1, ⟨rfl, rfl, rfl, Nat.le_refl _, fun _ _ _ => rfl, hG, fun b h => by cases h⟩⟩⟩
  obtain ⟨y, rfl, _, hy⟩ := enumD_get args 0 t x hx
  rw [Nat.sub_zero] at hy
  have hlt := (List.getElem?_eq_some_iff.1 hy).1
  have hv : vs[t]? = some vs[t] := List.getElem?_eq_getElem (by omega)
  refine ⟨vs[t], ?_, .d _ _ ((hrep t _ _ hy hv).mono fun b hb => ⟨⟨.inl hb, hok b hb, fun o ob h e1 => by simp at e1⟩, rfl⟩)⟩
  rw [Array.getElem?_append_left (by simp; omega)]
  simp
 refine wp_mono (h W ok _ _ W hrel) fun ed a w ⟨s, Ω, hr, hq⟩ => ?_
 have fin : (∃ r, resD P s fn.results.toList = some r ∧ R r) → a.defers = [] ∧ ∃ v, (results fn a.tmps).run P w = .ok v w ∧
   ∃ v_1 r, Ending.returned v = Ending.returned v_1 ∧ R r ∧ RowKit.Below W.heap.size W w ∧ RepD w (fun b => (ok b ∨ W.heap.size ≤ b) ∧ b < w.heap.size) r v_1 := by
  intro ⟨r, hres, hR⟩
  obtain ⟨v, hv, hrep⟩ := results_rep rfl hr hres
  exact ⟨hr.defers, v, hv, v, r, rfl, hR, ⟨hr.mem.fr.os, hr.mem.fr.tape, hr.mem.fr.output, hr.mem.fr.size, fun b hb => hr.mem.fr.block b hb (by simp)⟩, hrep.noMay⟩
 cases ed with
 | normal => exact fin hq
 | ret => exact fin hq
 | _ => exact hq.elim
end Go.Vm

/- Struct values, slice literals, appending, over the view. -/
namespace Go.Vm
set_option linter.unusedVariables false

theorem foldl_set (vs : List Value) : ∀ (k off : Nat) (cells : Array Value), off + k + vs.length ≤ cells.size →
  ((vs.zipIdx k).foldl (fun cs (c, j) => cs.setIfInBounds (off + j) c) cells).toList = cells.toList.take (off + k) ++ vs ++ cells.toList.drop (off + k + vs.length) := by
 induction vs with
 | nil => intro k off cells h; simp
 | cons v vs ih =>
  intro k off cells h
  simp only [List.zipIdx_cons, List.foldl_cons]
  rw [ih (k + 1) off _ (by simp at h ⊢; omega)]
  simp only [Array.toList_setIfInBounds]
  have hlt : off + k < cells.toList.length := by simp at h ⊢; omega
  apply List.ext_getElem?
  intro i
  simp only [List.getElem?_append, List.length_append, List.length_take, List.length_set, List.getElem?_take, List.getElem?_set, List.getElem?_drop, List.length_cons]
  have e1 : min (off + (k + 1)) cells.toList.length = off + k + 1 := by omega
  have e2 : min (off + k) cells.toList.length = off + k := by omega
  rw [e1, e2]
  rcases Nat.lt_trichotomy i (off + k) with hi | hi | hi
  ·have c1 : i < off + k + 1 + vs.length := by omega
   have c2 : i < off + k + (vs.length + 1) := by omega
   have c3 : i < off + k + 1 := by omega
   have c4 : i < off + (k + 1) := by omega
   have c5 : ¬ off + k = i := by omega
   simp [c1, c2, c3, c4, c5, hi]
  ·subst hi
   have c1 : off + k < off + k + 1 + vs.length := by omega
   have c2 : off + k < off + k + (vs.length + 1) := by omega
   have c4 : off + k < off + (k + 1) := by omega
   simp [c1, c2, c4]
   simpa using hlt
  ·have c3 : ¬ i < off + k + 1 := by omega
   have c6 : ¬ i < off + k := by omega
   have c5 : ¬ off + k = i := by omega
   by_cases c1 : i < off + k + 1 + vs.length
   ·have c2 : i < off + k + (vs.length + 1) := by omega
    simp only [c1, c2, c3, c6, if_true, if_false]
    have : i - (off + k) = (i - (off + k + 1)) + 1 := by omega
    rw [this, List.getElem?_cons_succ]
   ·have c2 : ¬ i < off + k + (vs.length + 1) := by omega
    simp only [c1, c2, c3, c6, if_false]
    have c7 : ¬ off + k = off + (k + 1) + vs.length + (i - (off + k + 1 + vs.length)) := by omega
    rw [if_neg c7]
    congr 1
    omega

def fillS (place : Nat → Option (Nat × Nat)) : List SV → List (Nat × SV) → Option (List SV)
 | cells, [] => some cells
 | cells, (i, x) :: r => match place i with
  | none => none
  | some (off, size) => if (cellsS x).length = size ∧ off + size ≤ cells.length ∧ (cellsS x).all SV.plain = true then fillS place (cells.take off ++ cellsS x ++ cells.drop (off + size)) r else none

theorem fillS_rep {w : World} {ok : Nat → Prop} {Ω : List Value} {place : Nat → Option (Nat × Nat)} : ∀ (parts : List (Nat × SV)) (us : List (Nat × Value)) (cells r : List SV) (vs : Array Value),
  fillS place cells parts = some r → us.length = parts.length → (∀ (i : Nat) p q, parts[i]? = some p → us[i]? = some q → q.1 = p.1 ∧ RepS w ok Ω p.2 q.2) →
  vs.size = cells.length → (∀ (i : Nat) p q, cells[i]? = some p → vs.toList[i]? = some q → RepS w ok Ω p q) → (∀ y, y ∈ vs.toList → y.oneCell' = true) →
  ∃ vs' : Array Value, Instr.fill place vs us = some vs' ∧ vs'.size = r.length ∧ (∀ (i : Nat) p q, r[i]? = some p → vs'.toList[i]? = some q → RepS w ok Ω p q) ∧ ∀ y, y ∈ vs'.toList → y.oneCell' = true := by
 intro parts
 induction parts with
 | nil =>
  intro us cells r vs h hl hp hs hr h1
  cases us with
  | nil => cases h; exact ⟨vs, rfl, hs, hr, h1⟩
  | cons => cases hl
 | cons p parts ih =>
  intro us cells r vs h hl hp hs hr h1
  obtain ⟨i, x⟩ := p
  cases us with
  | nil => cases hl
  | cons q us =>
   obtain ⟨i', v⟩ := q
   have h0 := hp 0 _ _ rfl rfl
   dsimp only at h0
   obtain ⟨rfl, hrep⟩ := h0
   simp only [fillS] at h
   split at h
   ·cases h
   ·rename_i off size hpl
    split at h
    ·rename_i hc
     obtain ⟨hsz, hle, hpl1⟩ := hc
     obtain ⟨ws, hwc, hwl, hwr, hw1⟩ := hrep.cells hpl1
     have hvs : v.cells.size = size := by rw [hwc]; simp; omega
     have hfold := foldl_set ws 0 off vs (by omega)
     simp only [Nat.add_zero] at hfold
     have hfill : Instr.fill place vs ((i', v) :: us) = Instr.fill place (vs.toList.take off ++ ws ++ vs.toList.drop (off + ws.length)).toArray us := by
      simp only [Instr.fill, hpl, hvs, ne_eq, not_true_eq_false]
      rw [if_neg (by simp; omega)]
      congr 1
      rw [← hfold, hwc]
      simp
     rw [hfill]
     refine ih us _ r _ h (by simpa using hl) (fun j p q hp' hq' => hp (j + 1) p q (by simpa using hp') (by simpa using hq')) (by simp; omega) (fun j p q hp' hq' => ?_) (fun y hy => ?_)
     ·have la : (cells.take off).length = off := by simp; omega
      have lb : (vs.toList.take off).length = off := by simp; omega
      simp only [] at hq'
      rw [List.append_assoc, List.getElem?_append] at hp' hq'
      rw [la] at hp'
      rw [lb] at hq'
      split at hp'
      ·rename_i hj
       rw [if_pos hj] at hq'
       rw [List.getElem?_take, if_pos hj] at hp' hq'
       exact hr j p q hp' hq'
      ·rename_i hj
       rw [if_neg hj] at hq'
       rw [List.getElem?_append] at hp' hq'
       split at hp'
       ·rename_i hk
        rw [if_pos (by omega)] at hq'
        exact hwr _ p q hp' hq'
       ·rename_i hk
        rw [if_neg (by omega)] at hq'
        rw [List.getElem?_drop] at hp' hq'
        rw [hwl, hsz] at hq'
        rw [hsz] at hp'
        exact hr _ p q hp' hq'
     ·simp only [] at hy
      rcases List.mem_append.1 hy with hy | hy
      ·rcases List.mem_append.1 hy with hy | hy
       ·exact h1 y (List.mem_of_mem_take hy)
       ·exact hw1 y hy
      ·exact h1 y (List.mem_of_mem_drop hy)
    ·cases h

def placesT (P : Program) (t : TypeId) : Option (Nat → Option (Nat × Nat)) :=
 match P.underlying t with
 | some (.struct fields) => match mapO (fun f => (sizeT P f.type).map fun n => (f.offset, n)) fields.toList with
  | some ps => some fun i => ps[i]?
  | none => none
 | some (.array _ el) => (sizeT P el).map fun n => fun i => some (i * n, n)
 | _ => none

def placeSem (f : Field) : Sem (Nat × Nat) := do pure (f.offset, ← sizeOf f.type)
theorem run_places {P : Program} : ∀ (fs : List Field) {ps : List (Nat × Nat)}, mapO (fun f => (sizeT P f.type).map fun n => (f.offset, n)) fs = some ps → ∀ w, (fs.mapM placeSem).run P w = .ok ps w := by
 intro fs
 induction fs with
 | nil => intro ps h w; cases h; rfl
 | cons f fs ih =>
  intro ps h w
  simp only [mapO] at h
  split at h
  ·rename_i y hy
   split at h
   ·rename_i t ht
    cases h
    obtain ⟨n, hn, rfl⟩ := Option.map_eq_some_iff.1 hy
    have h1 : (placeSem f).run P w = .ok (f.offset, n) w := by simp [placeSem, run_sizeOf hn]
    simp [List.mapM_cons, h1, ih ht w]
   ·cases h
  ·cases h

def partS (s : St) (p : Nat × Operand) : Option (Nat × SV) := (opS s p.2).map fun x => (p.1, x)

section
variable {C : Ctx} {Q : Exit → St → Prop} {ops : Array Oper} {rest : List Oper} {o : Oper} {e : List (Nat × SV)} {obs : List Ob} {d : Nat}

theorem Rel.parts {Ω : List Value} {a : Act} {w : World} (hr : Rel C ⟨e, obs⟩ Ω a w) {parts : List (Nat × Operand)} {ps : List (Nat × SV)} (h : mapO (partS ⟨e, obs⟩) parts = some ps) :
  (parts.map fun (i, x) => (i, a.eval x)).length = ps.length ∧ ∀ (i : Nat) p q, ps[i]? = some p → (parts.map fun (i, x) => (i, a.eval x))[i]? = some q → q.1 = p.1 ∧ RepS w (okB C obs Ω w) Ω p.2 q.2 := by
 obtain ⟨hl, hi⟩ := mapO_get h
 refine ⟨by simp [hl], fun i p q hp hq => ?_⟩
 simp only [List.getElem?_map, Option.map_eq_some_iff] at hq
 obtain ⟨x, hx, rfl⟩ := hq
 have := hi i x p hx hp
 obtain ⟨z, hz, rfl⟩ := Option.map_eq_some_iff.1 this
 exact ⟨rfl, hr.eval hz⟩

theorem AOp.build {t : TypeId} {parts : List (Nat × Operand)} {ps : List (Nat × SV)} {z : Value} {pl : Nat → Option (Nat × Nat)} {r : List SV} (ho : o.op = .build t parts.toArray) (hd : o.dst = some d) (hn : d < C.n)
  (hz : (C.P.info? t).map (·.zero) = some (some z)) (h1 : z.cells.toList.all (·.oneCell') = true) (hpl : placesT C.P t = some pl) (hx : mapO (partS ⟨e, obs⟩) parts = some ps) (hf : fillS pl (zcells z) ps = some r)
  (h : AO C ops rest ⟨(d, .ag r) :: e, obs⟩ Q) : AOp C ops rest o ⟨e, obs⟩ Q :=
 AOp.value hd hn (fun Ω a w hr => by
  obtain ⟨hl, hp⟩ := hr.parts hx
  obtain ⟨vs, hfill, hvl, hvr, hv1⟩ := fillS_rep ps _ (zcells z) r z.cells hf hl hp (by simp [zcells]) (fun i p q hp hq => by
   simp only [zcells, List.getElem?_map, Option.map_eq_some_iff] at hp
   obtain ⟨u, hu, rfl⟩ := hp
   rw [hu] at hq; cases hq
   exact .d _ _ (.v _)) (fun y hy => List.all_eq_true.1 h1 y hy)
  refine ⟨.agg vs, ?_, by have := RepS.ag (w := w) (ok := okB C obs Ω w) (Ω := Ω) r vs.toList (by simpa using hvl) hvr; simpa using this⟩
  unfold placesT at hpl
  split at hpl
  ·rename_i fields hu
   split at hpl
   ·rename_i pp hpp
    cases hpl
    have hm := run_places fields.toList hpp w
    have e1 : fields = fields.toList.toArray := by simp
    simp only [execOp, ho, Instr.build, Sem.run_bind, run_zero hz, Result.andThen_ok, run_underlying hu, List.map_toArray]
    have e2 : (fields.mapM (fun f => do pure (f.offset, ← sizeOf f.type) : Field → Sem (Nat × Nat))) = fields.mapM placeSem := rfl
    rw [e2, e1, List.mapM_toArray]
    simp [hm, hfill]
   ·cases hpl
  ·rename_i m el hu
   obtain ⟨n, hn2, rfl⟩ := Option.map_eq_some_iff.1 hpl
   simp only [execOp, ho, Instr.build, Sem.run_bind, run_zero hz, Result.andThen_ok, run_underlying hu, List.map_toArray, run_sizeOf hn2]
   simp [hfill]
  ·cases hpl) h

theorem AOp.buildSlice {t el sz len : Nat} {parts : List (Nat × Operand)} {ps : List (Nat × SV)} {z : Value} {r : List SV} (ho : o.op = .buildSlice t len parts.toArray) (hd : o.dst = some d) (hn : d < C.n)
  (ht : elemT C.P t = some (el, sz)) (hz : (C.P.info? el).map (·.zero) = some (some z)) (h1 : z.cells.toList.all (·.oneCell') = true) (hb : len * sz ≤ 16777216) (hzs : z.cells.size = sz)
  (hx : mapO (partS ⟨e, obs⟩) parts = some ps) (hf : fillS (fun i => some (i * sz, sz)) ((List.range (len * sz)).map fun i => .d (.v (z.cells.toList.getD (i % sz) undef))) ps = some r)
  (h : AO C ops rest ⟨(d, .sl obs.length sz 0 len len) :: e, obs ++ [.fix el r]⟩ Q) : AOp C ops rest o ⟨e, obs⟩ Q := by
 refine AOp.step hd hn (fun Ω a w hr => ?_) h
 obtain ⟨hu, hs⟩ := elemT_spec ht
 obtain ⟨hl, hp⟩ := hr.parts hx
 have hzlt : ∀ (i : Nat), i < len * sz → i % sz < z.cells.size := fun i hi => by
  rw [hzs]
  exact Nat.mod_lt _ (Nat.pos_of_ne_zero fun h0 => by subst h0; simp at hi)
 have hget : ∀ (i : Nat), i < len * sz → z.cells[i % z.cells.size]! = z.cells.toList.getD (i % sz) undef ∧ z.cells[i % z.cells.size]! ∈ z.cells.toList := fun i hi => by
  have hlt := hzlt i hi
  have hlt2 : i % z.cells.size < z.cells.size := by rw [hzs] at hlt ⊢; exact hlt
  rw [getElem!_pos z.cells _ hlt2]
  refine ⟨?_, by simp⟩
  have : z.cells.toList[i % sz]? = some z.cells[i % z.cells.size] := by simp [hzs]
  rw [List.getD_eq_getElem?_getD, this]; rfl
 obtain ⟨vs, hfill, hvl, hvr, hv1⟩ := fillS_rep ps _ _ r ((Array.range (len * sz)).map fun i => z.cells[i % z.cells.size]!) hf hl hp (by simp) (fun i p q hp hq => by
  have hi : i < len * sz := by have := (List.getElem?_eq_some_iff.1 hp).1; simpa using this
  have e1 : ((List.range (len * sz)).map fun i => (SV.d (.v (z.cells.toList.getD (i % sz) undef))))[i]? = some (.d (.v (z.cells.toList.getD (i % sz) undef))) := by simp [hi]
  rw [e1] at hp; cases hp
  have e2 : ((Array.range (len * sz)).map fun i => z.cells[i % z.cells.size]!).toList[i]? = some (z.cells[i % z.cells.size]!) := by simp [hi]
  rw [e2] at hq; cases hq
  rw [(hget i hi).1]
  exact .d _ _ (.v _)) (fun y hy => by
   simp only [Array.toList_map, Array.toList_range, List.mem_map, List.mem_range] at hy
   obtain ⟨i, hi, rfl⟩ := hy
   exact List.all_eq_true.1 h1 _ (hget i hi).2)
 have hal := hr.alloc el r vs.toList (by simpa using hvl) hvr hv1
 refine ⟨.slice (some ⟨w.heap.size, 0, none⟩) len len, _, _, ?_, hal, .sl _ _ _ _ _ _ ?_⟩
 ·simp only [execOp, ho, Instr.buildSlice, Sem.run_bind, run_underlying hu, Result.andThen_ok, run_sizeOf hs, List.map_toArray, Sem.run_ite]
  rw [if_neg (by omega)]
  by_cases h0 : len * sz = 0
  ·simp only [h0, if_true, Sem.run_pure, Result.andThen_ok]
   have e0 : ((Array.range 0).map fun i => (#[] : Array Value)[i % (#[] : Array Value).size]!) = #[] := by simp
   rw [h0] at hfill
   have e1 : ((Array.range 0).map fun i => z.cells[i % z.cells.size]!) = #[] := by simp
   rw [e1] at hfill
   rw [e0, hfill]
   simp [newRow]
  ·simp only [h0, if_false, run_zero hz, Sem.run_pure, Sem.run_bind, Result.andThen_ok, hfill, newRow, run_newObj]
   simp
 ·have := hr.mem.len
  dsimp only at this
  rw [this, List.getElem?_append_right (Nat.le_refl _)]; simp
end
end Go.Vm

/- Floating numbers of 64 bits as rational numbers: what a word stands for, and how sums, products, quotients and roots are rounded. -/
namespace Flt
open Ieee

def sg (s : Bool) (q : Rat) : Rat := if s then -q else q
def dval : Datum → Option Rat
 | .number s m e => some (sg s ((m : Rat) * (2 : Rat) ^ e))
 | _ => none
def V (b : Nat) : Option Rat := dval (double.read b)

def ab (q : Rat) : Rat := if q < 0 then -q else q
structure Rnd (r q : Rat) : Prop where
 lo : r - q ≤ ab q * 2 ^ (-53 : Int) + 2 ^ (-1075 : Int)
 hi : q - r ≤ ab q * 2 ^ (-53 : Int) + 2 ^ (-1075 : Int)
 exact : ∀ n E : Int, n.natAbs ≤ 9007199254740992 → -1074 ≤ E → q = (n : Rat) * 2 ^ E → r = q

end Flt

/- Operations on numbers and truth values, over the view. -/
namespace Go.Vm
set_option linter.unusedVariables false

abbrev di (k : IntKind) (n : Int) : D := .v (.int k n)
abbrev dfl (x : Nat) : D := .v (.float .f64 x)
abbrev dbool (b : Bool) : D := .v (.bool b)
abbrev dstr (s : ByteArray) : D := .v (.string s)

def lo (k : IntKind) : Int := match k with | .i8 => -128 | .i16 => -32768 | .i32 => -2147483648 | .i64 => -9223372036854775808 | _ => 0
def hi (k : IntKind) : Int := match k with | .i8 => 127 | .i16 => 32767 | .i32 => 2147483647 | .i64 => 9223372036854775807 | .u8 => 255 | .u16 => 65535 | .u32 => 4294967295 | .u64 => 18446744073709551615

theorem wrap_in (k : IntKind) (n : Int) (h1 : lo k ≤ n) (h2 : n ≤ hi k) : k.wrap n = n := by
 cases k <;> simp only [lo, hi] at h1 h2 <;> simp only [IntKind.wrap, IntKind.bits, IntKind.signed, Bool.true_and, Bool.false_and] <;> simp <;> omega

def feq (x y : Nat) : Bool := Ieee.double.order x y == some .eq
section
variable {C : Ctx} {Q : Exit → St → Prop} {ops : Array Oper} {rest : List Oper} {o : Oper} {e : List (Nat × SV)} {obs : List Ob} {d : Nat}
variable {t ty : TypeId} {x y : Operand}

theorem AOp.iadd {k : IntKind} {a b z : Int} (ho : o.op = .binOp .add t x y ty) (hd : o.dst = some d) (hn : d < C.n) (hx : opS ⟨e, obs⟩ x = some (.d (di k a))) (hy : opS ⟨e, obs⟩ y = some (.d (di k b)))
  (hz : a + b = z) (h1 : lo k ≤ z) (h2 : z ≤ hi k) (h : AO C ops rest ⟨(d, .d (di k z)) :: e, obs⟩ Q) : AOp C ops rest o ⟨e, obs⟩ Q :=
 AOp.bin ho hd hn hx hy rfl (fun w => by subst hz; simp [binOp, Op.intArith, wrap_in k _ h1 h2]) h
theorem AOp.isub {k : IntKind} {a b z : Int} (ho : o.op = .binOp .sub t x y ty) (hd : o.dst = some d) (hn : d < C.n) (hx : opS ⟨e, obs⟩ x = some (.d (di k a))) (hy : opS ⟨e, obs⟩ y = some (.d (di k b)))
  (hz : a - b = z) (h1 : lo k ≤ z) (h2 : z ≤ hi k) (h : AO C ops rest ⟨(d, .d (di k z)) :: e, obs⟩ Q) : AOp C ops rest o ⟨e, obs⟩ Q :=
 AOp.bin ho hd hn hx hy rfl (fun w => by subst hz; simp [binOp, Op.intArith, wrap_in k _ h1 h2]) h
theorem AOp.imul {k : IntKind} {a b z : Int} (ho : o.op = .binOp .mul t x y ty) (hd : o.dst = some d) (hn : d < C.n) (hx : opS ⟨e, obs⟩ x = some (.d (di k a))) (hy : opS ⟨e, obs⟩ y = some (.d (di k b)))
  (hz : a * b = z) (h1 : lo k ≤ z) (h2 : z ≤ hi k) (h : AO C ops rest ⟨(d, .d (di k z)) :: e, obs⟩ Q) : AOp C ops rest o ⟨e, obs⟩ Q :=
 AOp.bin ho hd hn hx hy rfl (fun w => by subst hz; simp [binOp, Op.intArith, wrap_in k _ h1 h2]) h
theorem AOp.iarithW {k : IntKind} {a b : Int} {op : BinOp} (z : Int) (ho : o.op = .binOp op t x y ty) (hd : o.dst = some d) (hn : d < C.n) (hx : opS ⟨e, obs⟩ x = some (.d (di k a))) (hy : opS ⟨e, obs⟩ y = some (.d (di k b)))
  (hz : (op = .add ∧ z = k.wrap (a + b)) ∨ (op = .sub ∧ z = k.wrap (a - b)) ∨ (op = .mul ∧ z = k.wrap (a * b))) (h : AO C ops rest ⟨(d, .d (di k z)) :: e, obs⟩ Q) : AOp C ops rest o ⟨e, obs⟩ Q :=
 AOp.bin ho hd hn hx hy (by rcases hz with ⟨rfl, _⟩ | ⟨rfl, _⟩ | ⟨rfl, _⟩ <;> rfl) (fun w => by rcases hz with ⟨rfl, rfl⟩ | ⟨rfl, rfl⟩ | ⟨rfl, rfl⟩ <;> simp [binOp, Op.intArith]) h
theorem AOp.iquo {k : IntKind} {a b z : Int} (ho : o.op = .binOp .quo t x y ty) (hd : o.dst = some d) (hn : d < C.n) (hx : opS ⟨e, obs⟩ x = some (.d (di k a))) (hy : opS ⟨e, obs⟩ y = some (.d (di k b)))
  (hb : b ≠ 0) (hz : a.tdiv b = z) (h1 : lo k ≤ z) (h2 : z ≤ hi k) (h : AO C ops rest ⟨(d, .d (di k z)) :: e, obs⟩ Q) : AOp C ops rest o ⟨e, obs⟩ Q :=
 AOp.bin ho hd hn hx hy rfl (fun w => by subst hz; simp [binOp, Op.intDiv, hb, wrap_in k _ h1 h2]) h
theorem AOp.irem {k : IntKind} {a b z : Int} (ho : o.op = .binOp .rem t x y ty) (hd : o.dst = some d) (hn : d < C.n) (hx : opS ⟨e, obs⟩ x = some (.d (di k a))) (hy : opS ⟨e, obs⟩ y = some (.d (di k b)))
  (hb : b ≠ 0) (hz : a.tmod b = z) (h : AO C ops rest ⟨(d, .d (di k z)) :: e, obs⟩ Q) : AOp C ops rest o ⟨e, obs⟩ Q :=
 AOp.bin ho hd hn hx hy rfl (fun w => by subst hz; simp [binOp, Op.intDiv, hb]) h
theorem AOp.ilss {k : IntKind} {a b : Int} (ho : o.op = .binOp .lss t x y ty) (hd : o.dst = some d) (hn : d < C.n) (hx : opS ⟨e, obs⟩ x = some (.d (di k a))) (hy : opS ⟨e, obs⟩ y = some (.d (di k b)))
  (h : AO C ops rest ⟨(d, .d (dbool (decide (a < b)))) :: e, obs⟩ Q) : AOp C ops rest o ⟨e, obs⟩ Q :=
 AOp.bin ho hd hn hx hy rfl (fun w => by simp [binOp, Op.intCmp]) h
theorem AOp.ileq {k : IntKind} {a b : Int} (ho : o.op = .binOp .leq t x y ty) (hd : o.dst = some d) (hn : d < C.n) (hx : opS ⟨e, obs⟩ x = some (.d (di k a))) (hy : opS ⟨e, obs⟩ y = some (.d (di k b)))
  (h : AO C ops rest ⟨(d, .d (dbool (decide (a ≤ b)))) :: e, obs⟩ Q) : AOp C ops rest o ⟨e, obs⟩ Q :=
 AOp.bin ho hd hn hx hy rfl (fun w => by simp [binOp, Op.intCmp]) h
theorem AOp.igtr {k : IntKind} {a b : Int} (ho : o.op = .binOp .gtr t x y ty) (hd : o.dst = some d) (hn : d < C.n) (hx : opS ⟨e, obs⟩ x = some (.d (di k a))) (hy : opS ⟨e, obs⟩ y = some (.d (di k b)))
  (h : AO C ops rest ⟨(d, .d (dbool (decide (b < a)))) :: e, obs⟩ Q) : AOp C ops rest o ⟨e, obs⟩ Q :=
 AOp.bin ho hd hn hx hy rfl (fun w => by simp [binOp, Op.intCmp]) h
theorem AOp.igeq {k : IntKind} {a b : Int} (ho : o.op = .binOp .geq t x y ty) (hd : o.dst = some d) (hn : d < C.n) (hx : opS ⟨e, obs⟩ x = some (.d (di k a))) (hy : opS ⟨e, obs⟩ y = some (.d (di k b)))
  (h : AO C ops rest ⟨(d, .d (dbool (decide (b ≤ a)))) :: e, obs⟩ Q) : AOp C ops rest o ⟨e, obs⟩ Q :=
 AOp.bin ho hd hn hx hy rfl (fun w => by simp [binOp, Op.intCmp]) h
theorem AOp.ieql {k : IntKind} {a b : Int} (ho : o.op = .binOp .eql t x y ty) (hd : o.dst = some d) (hn : d < C.n) (hx : opS ⟨e, obs⟩ x = some (.d (di k a))) (hy : opS ⟨e, obs⟩ y = some (.d (di k b)))
  (h : AO C ops rest ⟨(d, .d (dbool (decide (a = b)))) :: e, obs⟩ Q) : AOp C ops rest o ⟨e, obs⟩ Q :=
 AOp.bin ho hd hn hx hy rfl (fun w => by simp [binOp, Op.intCmp]; rfl) h
theorem AOp.ineq {k : IntKind} {a b : Int} (ho : o.op = .binOp .neq t x y ty) (hd : o.dst = some d) (hn : d < C.n) (hx : opS ⟨e, obs⟩ x = some (.d (di k a))) (hy : opS ⟨e, obs⟩ y = some (.d (di k b)))
  (h : AO C ops rest ⟨(d, .d (dbool (!decide (a = b)))) :: e, obs⟩ Q) : AOp C ops rest o ⟨e, obs⟩ Q :=
 AOp.bin ho hd hn hx hy rfl (fun w => by simp [binOp, Op.intCmp]; rfl) h
theorem AOp.bnot {a : Bool} (ho : o.op = .unOp .not t x) (hd : o.dst = some d) (hn : d < C.n) (hx : opS ⟨e, obs⟩ x = some (.d (dbool a)))
  (h : AO C ops rest ⟨(d, .d (dbool (!a))) :: e, obs⟩ Q) : AOp C ops rest o ⟨e, obs⟩ Q := AOp.un ho hd hn hx (fun w => rfl) h
theorem AOp.feql {a b : Nat} (ho : o.op = .binOp .eql t x y ty) (hd : o.dst = some d) (hn : d < C.n) (hx : opS ⟨e, obs⟩ x = some (.d (dfl a))) (hy : opS ⟨e, obs⟩ y = some (.d (dfl b)))
  (h : AO C ops rest ⟨(d, .d (dbool (feq a b))) :: e, obs⟩ Q) : AOp C ops rest o ⟨e, obs⟩ Q := AOp.bin ho hd hn hx hy rfl (fun w => by rw [binOp_float_cmp_eql]; rfl) h
theorem AOp.i2i {s : TypeId} {q k : IntKind} {n z : Int} {u : TypeDesc} (ho : o.op = .convert s t x) (hd : o.dst = some d) (hn : d < C.n) (hx : opS ⟨e, obs⟩ x = some (.d (di q n))) (hs : C.P.underlying s = some u) (ht : C.P.underlying t = some (.int k))
  (hz : k.wrap n = z) (h : AO C ops rest ⟨(d, .d (di k z)) :: e, obs⟩ Q) : AOp C ops rest o ⟨e, obs⟩ Q :=
 AOp.conv ho hd hn hx (fun w => by subst hz; cases u <;> simp [convert, run_underlying hs, run_underlying ht, Conv.intToInt]) h
end
end Go.Vm

/- What an argument that can be read is, as data of the view; and a law's row out of what its function gives. -/
namespace Go.Vm
set_option linter.unusedVariables false

theorem optMapM {α β : Type} {f : α → Option β} : ∀ {l : List α} {r : List β}, l.mapM f = some r → r.length = l.length ∧ ∀ (i : Nat) x y, l[i]? = some x → r[i]? = some y → f x = some y := by
 intro l
 induction l with
 | nil => intro r h; cases h; exact ⟨rfl, fun i x y hx => by simp at hx⟩
 | cons a l ih =>
  intro r h
  rw [List.mapM_cons] at h
  cases hy : f a with
  | none => rw [hy] at h; cases h
  | some y =>
   rw [hy] at h
   cases ht : l.mapM f with
   | none => rw [ht] at h; cases h
   | some t =>
    rw [ht] at h
    cases h
    obtain ⟨hl, hi⟩ := ih ht
    refine ⟨by simp [hl], fun i p q hp hq => ?_⟩
    cases i with
    | zero => simp at hp hq; subst hp; subst hq; exact hy
    | succ i => simp at hp hq; exact hi i p q hp hq

def tiles (P : Program) : Nat → List Field → Nat → Bool
 | off, [], n => off == n
 | off, f :: fs, n => f.offset == off && tiles P (off + P.cellsOf f.type) fs n
mutual
def Shape (P : Program) : Nat → TypeId → List D → Prop
 | 0, _, _ => False
 | n + 1, t, xs => match P.underlying t with
  | some .bool => ∃ b, xs = [dbool b]
  | some (.int k) => ∃ m, xs = [di k m] ∧ lo k ≤ m ∧ m ≤ hi k
  | some (.float k) => ∃ b, xs = [.v (.float k b)] ∧ (Lit.float k b).wf = true
  | some .string => ∃ s, xs = [dstr s] ∧ s.size ≤ maxLen
  | some (.slice e) => ∃ rows : List (List D), xs = [.ds (P.cellsOf e) rows.flatten] ∧ rows.length ≤ maxLen ∧ ∀ r, r ∈ rows → Shape P n e r ∧ r.length = P.cellsOf e
  | some (.struct fs) => ShapeL P n (fs.toList.map (·.type)) xs
  | some (.array m e) => ∃ rows : List (List D), xs = rows.flatten ∧ rows.length = m ∧ ∀ r, r ∈ rows → Shape P n e r ∧ r.length = P.cellsOf e
  | _ => False
def ShapeL (P : Program) : Nat → List TypeId → List D → Prop
 | _, [], xs => xs = []
 | n, t :: ts, xs => ∃ a b, xs = a ++ b ∧ Shape P n t a ∧ a.length = P.cellsOf t ∧ ShapeL P n ts b
end

theorem flatten_get {α : Type} {n : Nat} : ∀ {rows : List (List α)}, (∀ r, r ∈ rows → r.length = n) → ∀ (i : Nat) x, rows.flatten[i]? = some x → ∃ r, rows[i / n]? = some r ∧ r[i % n]? = some x := by
 intro rows
 induction rows with
 | nil => intro _ i x h; simp at h
 | cons r rows ih =>
  intro h i x hx
  have hr : r.length = n := h r (by simp)
  rw [List.flatten_cons, List.getElem?_append] at hx
  split at hx
  ·rename_i hlt
   have h1 : i / n = 0 := Nat.div_eq_of_lt (by omega)
   have h2 : i % n = i := Nat.mod_eq_of_lt (by omega)
   exact ⟨r, by rw [h1]; rfl, by rw [h2]; exact hx⟩
  ·rename_i hge
   have hn : 0 < n := by
    rcases Nat.eq_zero_or_pos n with h0 | h0
    ·subst h0
     exfalso
     have : rows.flatten = [] := List.flatten_eq_nil_iff.2 fun s hs => List.eq_nil_of_length_eq_zero (h s (by simp [hs]))
     rw [this] at hx; simp at hx
    ·exact h0
   obtain ⟨s, hs, hx2⟩ := ih (fun r hr => h r (by simp [hr])) (i - r.length) x hx
   rw [hr] at hs hx2
   have e1 : i / n = (i - n) / n + 1 := by
    rw [← Nat.add_div_right _ hn]; congr 1; omega
   have e2 : i % n = (i - n) % n := by
    rw [← Nat.add_mod_right (i - n) n]; congr 1; omega
   exact ⟨s, by rw [e1]; simpa using hs, by rw [e2]; exact hx2⟩

theorem flatten_len {α : Type} {n : Nat} : ∀ {rows : List (List α)}, (∀ r, r ∈ rows → r.length = n) → rows.flatten.length = rows.length * n := by
 intro rows
 induction rows with
 | nil => intro _; simp
 | cons r rows ih =>
  intro h
  rw [List.flatten_cons, List.length_append, h r (by simp), ih (fun r hr => h r (by simp [hr])), List.length_cons, Nat.add_mul]; omega

theorem list_choose {α β : Type} {p : α → β → Prop} : ∀ (l : List α), (∀ x, x ∈ l → ∃ y, p x y) → ∃ r : List β, r.length = l.length ∧ ∀ (i : Nat) x y, l[i]? = some x → r[i]? = some y → p x y := by
 intro l
 induction l with
 | nil => intro _; exact ⟨[], rfl, fun i x y h => by simp at h⟩
 | cons a l ih =>
  intro h
  obtain ⟨y, hy⟩ := h a (by simp)
  obtain ⟨r, hl, hr⟩ := ih (fun x hx => h x (by simp [hx]))
  refine ⟨y :: r, by simp [hl], fun i x z hx hz => ?_⟩
  cases i with
  | zero => simp at hx hz; subst hx; subst hz; exact hy
  | succ i => simp at hx hz; exact hr i x z hx hz

theorem cells?_spec {w : World} {base : Nat} {a : Addr} {n : Nat} {l : List Value} (h : w.cells? base a n = some l) : l.length = n ∧ ∀ (j : Nat), j < n → w.cell? (a.add j) = l[j]? := by
 unfold World.cells? at h
 split at h
 ·obtain ⟨hl, hi⟩ := optMapM h
  refine ⟨by simpa using hl, fun j hj => ?_⟩
  have hlt : j < l.length := by simp at hl; omega
  have := hi j j l[j] (by simp [hj]) (List.getElem?_eq_getElem hlt)
  rw [this, List.getElem?_eq_getElem hlt]
 ·cases h

theorem cell_block {w : World} {a : Addr} {v : Value} (h : w.cell? a = some v) : a.block < w.heap.size := by
 unfold World.cell? at h
 split at h
 ·rename_i hb; exact (Array.getElem?_eq_some_iff.1 hb).1
 ·cases h
theorem cell_spot {w : World} {a : Addr} {v : Value} (h : w.cell? a = some v) : a.spot = none := by
 unfold World.cell? at h
 split at h
 ·split at h
  ·cases h
  ·rename_i hs; cases hs2 : a.spot with
   | none => rfl
   | some s => rw [hs2] at hs; simp at hs
 ·cases h

def RepC (W : World) (xs : List D) (cs : List Value) : Prop := xs.length = cs.length ∧ ∀ (i : Nat) x y, xs[i]? = some x → cs[i]? = some y → RepD W (fun b => b < W.heap.size) x y

theorem RepC.append {W : World} {a b : List D} {c d : List Value} (h1 : RepC W a c) (h2 : RepC W b d) : RepC W (a ++ b) (c ++ d) := by
 refine ⟨by simp [h1.1, h2.1], fun i x y hx hy => ?_⟩
 rw [List.getElem?_append] at hx hy
 rw [h1.1] at hx
 split at hx
 ·rename_i h; rw [if_pos h] at hy; exact h1.2 i x y hx hy
 ·rename_i h; rw [if_neg h] at hy; exact h2.2 _ x y hx hy

variable {H : Type} {enc : TypeId × Value → H} {P : Program} {W : World}

theorem trod_float {k : FloatKind} {fuel : Nat} {t : TypeId} {cs : List Value} {x : DataW H × List MemPlace} (ht : P.underlying t = some (.float k)) (h : DataW.trod enc P W 0 (fun _ => true) true fuel t cs = some x) :
  ∃ b, cs = [.float k b] ∧ (Lit.float k b).wf = true := by
 cases fuel with
 | zero => simp [DataW.trod] at h
 | succ m =>
  unfold DataW.trod at h
  rw [ht] at h
  split at h <;> simp_all

theorem wf_bounds {k : IntKind} {n : Int} (h : (Lit.int k n).wf = true) : lo k ≤ n ∧ n ≤ hi k := by
 cases k <;> simp [Lit.wf, IntKind.min, IntKind.max, IntKind.signed, IntKind.bits] at h <;> simp only [lo, hi] <;> omega

def scalarT (P : Program) (t : TypeId) : Bool := match P.underlying t with
 | some .bool | some (.int _) | some (.float _) | some .string | some (.slice _) => true
 | _ => false

theorem okWide_scalar {base : Nat} {t : TypeId} {v : Value} (ht : scalarT P t = true) (h : Value.okWide P W .any base t v) : v.cells.toList = [v] := by
 unfold scalarT at ht
 split at ht
 ·rename_i hu; obtain ⟨b, rfl⟩ := WideShapes.okWide_bool hu h; rfl
 ·rename_i hu; obtain ⟨b, rfl⟩ := WideShapes.okWide_int hu h; rfl
 ·rename_i k hu
  simp only [Value.okWide, hu, Cell.okWide, Cell.ok] at h
  cases v <;> first | rfl | simp at h
 ·rename_i hu; obtain ⟨b, rfl⟩ := WideShapes.okWide_string hu h; rfl
 ·rename_i hu; obtain ⟨a, l, c, rfl⟩ := WideShapes.okWide_slice hu h; rfl
 ·cases ht

theorem shape_bool {n : Nat} {t : TypeId} {xs : List D} (hu : P.underlying t = some .bool) (h : Shape P n t xs) : ∃ b, xs = [dbool b] := by
 cases n with
 | zero => simp only [Shape] at h
 | succ n => simp only [Shape, hu] at h; exact h
theorem shape_int {n : Nat} {t : TypeId} {k : IntKind} {xs : List D} (hu : P.underlying t = some (.int k)) (h : Shape P n t xs) : ∃ m, xs = [di k m] ∧ lo k ≤ m ∧ m ≤ hi k := by
 cases n with
 | zero => simp only [Shape] at h
 | succ n => simp only [Shape, hu] at h; exact h
theorem shape_float {n : Nat} {t : TypeId} {k : FloatKind} {xs : List D} (hu : P.underlying t = some (.float k)) (h : Shape P n t xs) : ∃ b, xs = [.v (.float k b)] ∧ (Lit.float k b).wf = true := by
 cases n with
 | zero => simp only [Shape] at h
 | succ n => simp only [Shape, hu] at h; exact h
theorem shape_slice {n : Nat} {t e : TypeId} {xs : List D} (hu : P.underlying t = some (.slice e)) (h : Shape P n t xs) :
  ∃ m rows, xs = [.ds (P.cellsOf e) (List.flatten rows)] ∧ rows.length ≤ maxLen ∧ ∀ r, r ∈ rows → Shape P m e r := by
 cases n with
 | zero => simp only [Shape] at h
 | succ n => simp only [Shape, hu] at h; obtain ⟨rows, h1, h2, h3⟩ := h; exact ⟨n, rows, h1, h2, fun r hr => (h3 r hr).1⟩
theorem shapeL_cons {n : Nat} {t : TypeId} {ts : List TypeId} {xs : List D} (h : ShapeL P n (t :: ts) xs) : ∃ a b, xs = a ++ b ∧ Shape P n t a ∧ ShapeL P n ts b := by
 simp only [ShapeL] at h
 obtain ⟨a, b, h1, h2, _, h3⟩ := h
 exact ⟨a, b, h1, h2, h3⟩
theorem shapeL_nil {n : Nat} {xs : List D} (h : ShapeL P n [] xs) : xs = [] := by
 simpa only [ShapeL] using h
theorem rows_choose {α : Type} {f : α → List D} {Q : α → Prop} : ∀ {rows : List (List D)}, (∀ r, r ∈ rows → ∃ z, r = f z ∧ Q z) → ∃ zs : List α, rows = zs.map f ∧ ∀ z, z ∈ zs → Q z
 | [], _ => ⟨[], rfl, fun z hz => by simp at hz⟩
 | r :: rows, h => by
  obtain ⟨z, rfl, hz⟩ := h r (by simp)
  obtain ⟨zs, rfl, hzs⟩ := rows_choose (rows := rows) fun r hr => h r (by simp [hr])
  exact ⟨z :: zs, rfl, fun y hy => by
   rcases List.mem_cons.1 hy with rfl | hy
   ·exact hz
   ·exact hzs y hy⟩

theorem FnD.law {f : FuncId} {xs : List D} {vs : List Value} (h : FnD P f xs (fun r => r = dbool true)) (hG : HoldsG W) (hl : vs.length = xs.length)
  (hr : ∀ (i : Nat) x v, xs[i]? = some x → vs[i]? = some v → RepD W (fun b => b < W.heap.size) x v) :
  Calls P f vs.toArray W fun e w' => e = .returned (.bool true) ∧ RowKit.Below W.heap.size W w' :=
 (h.2 W _ vs hG (fun _ hb => hb) hl hr).mono fun e w' ⟨v, r, he, hR, hb, hd⟩ => by
  subst hR
  cases hd
  exact ⟨he, hb⟩
theorem rep_nil : ∀ (i : Nat) (x : D) (v : Value), ([] : List D)[i]? = some x → ([] : List Value)[i]? = some v → RepD W (fun b => b < W.heap.size) x v := fun i x v h => by simp at h
theorem rep_cons {y : D} {ys : List D} {u : Value} {us : List Value} (h : RepD W (fun b => b < W.heap.size) y u) (hs : ∀ (i : Nat) (x : D) (v : Value), ys[i]? = some x → us[i]? = some v → RepD W (fun b => b < W.heap.size) x v) :
  ∀ (i : Nat) (x : D) (v : Value), (y :: ys)[i]? = some x → (u :: us)[i]? = some v → RepD W (fun b => b < W.heap.size) x v := fun i x v hx hv => by
 cases i with
 | zero => cases hx; cases hv; exact h
 | succ i => exact hs i x v hx hv
end Go.Vm

/- Whole numbers among the floating ones: what is whole and in range, conversions both ways. -/
namespace Flt
open Go Ieee Go.Vm

theorem zpow_zero' : (2 : Rat) ^ (0 : Int) = 1 := by decide
theorem Rnd.int {r : Rat} {n : Int} (h : Rnd r (n : Rat)) (hn : n.natAbs ≤ 9007199254740992) : r = (n : Rat) :=
 h.exact n 0 hn (by omega) (by rw [zpow_zero']; grind)

/-! ### Cutting towards zero -/
end Flt

/- What the test of whole numbers in a range tells. -/
namespace Flt
open Go Ieee Go.Vm

def truncD (x : Nat) : Nat := FloatKind.f64.encode ((FloatKind.f64.decode x).integral .zero)
end Flt

/- Regions that draw their order, over the view: one walk in the order of the text serves every order. -/
namespace Go.Vm
set_option linter.unusedVariables false

theorem wp_monoQ {P : Program} {o : Oper} {a : Act} {w : World} {K K' : Act → World → Prop} {Q Q' : Exit → Act → World → Prop} (h : ∀ a w, K a w → K' a w) (hq : ∀ e a w, e ≠ .normal → Q e a w → Q' e a w)
  (hh : o.wp P a w K Q) : o.wp P a w K' Q' := by
 unfold Oper.wp at *
 generalize (execOp a.eval o).run P w = r at *
 cases r with
 | ok n w' =>
  cases n <;> simp only [Oper.upon] at hh ⊢ <;>
   first
    | exact h _ _ hh
    | exact Calls.mono hh (fun e w'' he => by cases e <;> first | exact h _ _ he | exact hq _ _ _ (by simp) he | exact (let ⟨a, w, h⟩ := he; ⟨a, w, hq _ _ _ (by simp) h⟩))
    | exact Rows.mono hh (fun _ _ he => h _ _ he)
 | halt x w' => cases x <;> simp only [Oper.upon] at hh ⊢ <;> first | exact hq _ _ _ (by simp) hh | exact hh

abbrev Env := Nat → Option SV
def upd (e : Env) (d : Option Nat) (x : SV) : Env := match d with
 | some d => fun t => if d = t then some x else e t
 | none => e
theorem upd_ne {e : Env} {d : Option Nat} {x : SV} {t : Nat} (h : ∀ k, d = some k → k ≠ t) : upd e d x t = e t := by
 cases d with
 | none => rfl
 | some d => simp only [upd, if_neg (h d rfl)]
theorem upd_comm {e : Env} {d k : Option Nat} {x y : SV} (h : ∀ i, d = some i → k ≠ some i) : upd (upd e d x) k y = upd (upd e k y) d x := by
 cases d with
 | none => rfl
 | some d =>
  cases k with
  | none => rfl
  | some k =>
   have hne : d ≠ k := fun e => h d rfl (by rw [e])
   funext t
   simp only [upd]
   by_cases h1 : d = t <;> by_cases h2 : k = t <;> simp_all
theorem get_upd (l : List (Nat × SV)) (d : Nat) (x : SV) : get ((d, x) :: l) = upd (get l) (some d) x := by
 funext t; rfl

theorem Rel.congr {C : Ctx} {e e' : List (Nat × SV)} {obs : List Ob} {Ω : List Value} {a : Act} {w : World} (h : Rel C ⟨e, obs⟩ Ω a w) (hg : ∀ t x, get e' t = some x → get e t = some x) : Rel C ⟨e', obs⟩ Ω a w :=
 ⟨h.defers, h.size, fun t x hx => h.env t x (hg t x hx), h.mem⟩

section
variable {C : Ctx} {ops : Array Oper} {obs : List Ob} {md : Region.Mode}

def wantE (ops : Array Oper) (o : Oper) (e : Env) : Option Bool := match o.guard with
 | none => some true
 | some (g, want) => match (ops[g]?).bind (·.dst) with
  | some dj => match e dj with
   | some (.d (.v (.bool b))) => some (b == want)
   | some (.d (.v (.tuple _))) => some false
   | _ => none
  | none => none
theorem wantE_wanted {o : Oper} {l : List (Nat × SV)} {b : Bool} (h : wantE ops o (get l) = some b) {Ω : List Value} {a : Act} {w : World} (hr : Rel C ⟨l, obs⟩ Ω a w) : Region.wanted o (yielded ops a.tmps) = b := by
 unfold wantE at h
 split at h
 ·rename_i hg; cases h; simp [Region.wanted, hg]
 ·rename_i g want hg
  split at h
  ·rename_i dj hj
   split at h
   ·rename_i c hc
    obtain ⟨v, hv, hrep⟩ := hr.env dj _ hc
    have hvb := hrep.val
    subst hvb
    cases h
    exact wanted_eq hg hj hv
   ·rename_i c hc
    obtain ⟨v, hv, hrep⟩ := hr.env dj _ hc
    have hvb := hrep.val
    subst hvb
    cases h
    unfold Region.wanted
    rw [hg]
    simp [yielded, hj, hv]
   ·cases h
  ·cases h
theorem wantE_congr {o : Oper} {e e' : Env} (h : ∀ t, t ∈ o.looksAt ops → e' t = e t) : wantE ops o e' = wantE ops o e := by
 unfold wantE
 cases hg : o.guard with
 | none => rfl
 | some p =>
  obtain ⟨g, want⟩ := p
  simp only
  cases hj : (ops[g]?).bind (·.dst) with
  | none => rfl
  | some dj =>
   simp only
   rw [h dj (by unfold Oper.looksAt; rw [hg]; simp only [hj]; simp)]

def VQ (C : Ctx) (ops : Array Oper) (obs : List Ob) (o : Oper) (x : SV) (e : Env) : Prop :=
 ∀ (l : List (Nat × SV)), (∀ t, t ∈ o.looksAt ops → get l t = e t) → ∀ Ω a w, Rel C ⟨l, obs⟩ Ω a w →
  o.wp C.P a w (fun a' w' => ∃ (l' : List (Nat × SV)) (Ω' : List Value), get l' = upd (get l) o.dst x ∧ Rel C ⟨l', obs⟩ Ω' a' w') (fun _ _ _ => False)
def YV (C : Ctx) (ops : Array Oper) (obs : List Ob) (o : Oper) (x : SV) (e : Env) : Prop :=
 (wantE ops o e = some true ∧ VQ C ops obs o x e) ∨ (wantE ops o e = some false ∧ x = .d (.v undef) ∧ ∀ d, o.dst = some d → d < C.n)
theorem YV.congr {o : Oper} {x : SV} {e e' : Env} (h : YV C ops obs o x e) (he : ∀ t, t ∈ o.looksAt ops → e' t = e t) : YV C ops obs o x e' := by
 unfold YV at *
 rw [wantE_congr he]
 exact h.imp (fun ⟨h1, h2⟩ => ⟨h1, fun l hl => h2 l fun t ht => (hl t ht).trans (he t ht)⟩) id

def vOp (C : Ctx) (ops : Array Oper) (obs : List Ob) (i : Nat) (K : Env → Prop) (e : Env) : Prop := match ops[i]? with
 | none => K e
 | some o => ∃ x, YV C ops obs o x e ∧ K (upd e o.dst x)
theorem vOp_mono {i : Nat} {K K' : Env → Prop} {e : Env} (h : ∀ e, K e → K' e) (hh : vOp C ops obs i K e) : vOp C ops obs i K' e := by
 unfold vOp at *
 split
 ·rename_i ho; simp only [ho] at hh; exact h _ hh
 ·rename_i o ho; simp only [ho] at hh; exact let ⟨x, h1, h2⟩ := hh; ⟨x, h1, h _ h2⟩
theorem YV.vOp {i : Nat} {o : Oper} {x : SV} {e : Env} (hi : ops[i]? = some o) (hy : YV C ops obs o x e) {K : Env → Prop} (h : K (upd e o.dst x)) : vOp C ops obs i K e := by
 unfold Vm.vOp
 simp only [hi]
 exact ⟨x, hy, h⟩
theorem vOp_put {j : Nat} {oi oj : Oper} {x : SV} (hj : ops[j]? = some oj) (hap : oi.apart ops oj = true) {K : Env → Prop} {e : Env}
  (hy : YV C ops obs oi x e) (h : vOp C ops obs j K (upd e oi.dst x)) : vOp C ops obs j (fun e' => YV C ops obs oi x e' ∧ K (upd e' oi.dst x)) e := by
 obtain ⟨h1, h2, h3⟩ := Oper.apart_spec hap
 unfold vOp at *
 simp only [hj] at *
 obtain ⟨y, hyj, hK⟩ := h
 refine ⟨y, hyj.congr fun t ht => (upd_ne fun k hk e => h1 k hk (e ▸ ht)).symm, hy.congr fun t ht => upd_ne fun k hk e => h3 k hk (e ▸ ht), ?_⟩
 rwa [upd_comm (fun i hi => fun hk => h2 i hi hk)] at hK

theorem wpOp_of_vOp {i : Nat} {K : Env → Prop} {K' : Act → World → Prop} {Q' : Exit → Act → World → Prop} {l : List (Nat × SV)}
  (h : ∀ (l' : List (Nat × SV)), K (get l') → ∀ Ω a w, Rel C ⟨l', obs⟩ Ω a w → K' a w) (hh : vOp C ops obs i K (get l)) {Ω : List Value} {a : Act} {w : World} (hr : Rel C ⟨l, obs⟩ Ω a w) : wpOp C.P ops Q' i K' a w := by
 unfold vOp at hh
 unfold wpOp
 split
 ·rename_i ho; simp only [ho] at hh; exact h l hh Ω a w hr
 ·rename_i o ho
  simp only [ho] at hh
  obtain ⟨x, hy, hK⟩ := hh
  rcases hy with ⟨h1, h2⟩ | ⟨h1, rfl, h2⟩
  ·rw [if_pos (by rw [wantE_wanted h1 hr])]
   refine .inl (wp_monoQ (fun a' w' ⟨l', Ω', hg, hr'⟩ => h l' (by rw [hg]; exact hK) Ω' a' w' hr') (fun _ _ _ _ h => h.elim) (h2 l (fun _ _ => rfl) Ω a w hr))
  ·rw [if_neg (by rw [wantE_wanted h1 hr]; simp)]
   cases hd : o.dst with
   | none => rw [hd] at hK; exact h l hK Ω _ w (hr.putNone undef)
   | some d =>
    rw [hd] at hK
    exact h ((d, .d (.v undef)) :: l) (by rw [get_upd]; exact hK) Ω _ w (hr.put (h2 d hd) (.d _ _ (.v _)))

def wpAnyV (C : Ctx) (md : Region.Mode) (ops : Array Oper) (obs : List Ob) (n : Nat) (L : Array Bool → Env → Prop) : Nat → Array Bool → Env → Prop
 | 0, listed, e => L listed e
 | f + 1, listed, e => Region.ready md ops listed ≠ [] ∧ ∀ i ∈ Region.ready md ops listed, i < n ∧ vOp C ops obs i (wpAnyV C md ops obs n L f (listed.setIfInBounds i true)) e

theorem wpAny_of_V {n g : Nat} {L : Array Bool → Env → Prop} {Q' : Exit → Act → World → Prop} (hL : ∀ listed (l : List (Nat × SV)), L listed (get l) → ∀ Ω a w, Rel C ⟨l, obs⟩ Ω a w → wpAny C.P md ops Q' g listed a w) :
  ∀ (f : Nat) (listed : Array Bool) (l : List (Nat × SV)), wpAnyV C md ops obs n L f listed (get l) → ∀ Ω a w, Rel C ⟨l, obs⟩ Ω a w → wpAny C.P md ops Q' (f + g) listed a w
 | 0, listed, l, h, Ω, a, w, hr => by rw [Nat.zero_add]; exact hL _ _ h Ω a w hr
 | f + 1, listed, l, h, Ω, a, w, hr => by
  rw [show f + 1 + g = (f + g) + 1 by omega]
  exact ⟨fun h0 => absurd h0 h.1, fun i hi => wpOp_of_vOp (fun l' h' Ω a w hr => wpAny_of_V hL f _ l' h' Ω a w hr) (h.2 i hi).2 hr⟩

def HeadFirst (md : Region.Mode) (ops : Array Oper) (n : Nat) : Prop := ∀ listed, HeadInv md ops n listed → ∀ i, i < n → listed.getD i true = false → ∀ j ∈ Region.ready md ops listed, j < n

theorem wpAnyV_first {n i : Nat} {oi : Oper} {v : SV} {L : Array Bool → Env → Prop} (hi : ops[i]? = some oi) (hF : HeadFirst md ops n) (hin : i < n)
  (hdone : ∀ listed a, L listed a → ∀ j ∈ Region.ready md ops listed, n ≤ j) :
  ∀ (f : Nat) (listed : Array Bool) (a : Env), HeadInv md ops n listed →
   (∀ j oj, ops[j]? = some oj → j ≠ i → listed.getD j true = false → (∀ e ∈ oj.after, Region.binds md e = true → e.on ≠ i) → oi.apart ops oj = true) →
   i ∈ Region.ready md ops listed → YV C ops obs oi v a →
   wpAnyV C md ops obs n L f (listed.setIfInBounds i true) (upd a oi.dst v) → wpAnyV C md ops obs n L (f + 1) listed a := by
 intro f
 induction f with
 | zero =>
  intro listed a inv _ hr hy H
  have hun := (mem_ready.1 hr).1
  refine ⟨fun h => (by rw [h] at hr; cases hr), fun j hj => ?_⟩
  have hjn : j < n := hF listed inv i hin hun j hj
  refine ⟨hjn, ?_⟩
  by_cases hji : j = i
  ·subst hji; exact hy.vOp hi H
  ·have := hdone _ _ H j (ready_mono hj hji)
   omega
 | succ f ih =>
  intro listed a inv hfree hr hy H
  have hun := (mem_ready.1 hr).1
  refine ⟨fun h => (by rw [h] at hr; cases hr), fun j hj => ?_⟩
  have hjn : j < n := hF listed inv i hin hun j hj
  refine ⟨hjn, ?_⟩
  by_cases hji : j = i
  ·subst hji; exact hy.vOp hi H
  ·have h1 := (H.2 j (ready_mono hj hji)).2
   obtain ⟨hjun, oj, hoj, hall⟩ := mem_ready.1 hj
   have hnot : ∀ e ∈ oj.after, Region.binds md e = true → e.on ≠ i := fun e he hb heq => by
    have h1 := hall e he hb
    rw [heq, getD_both hun] at h1
    cases h1
   have h2 := vOp_put hoj (hfree j oj hoj hji hjun hnot) hy h1
   have hfree' : ∀ k ok, ops[k]? = some ok → k ≠ i → (listed.setIfInBounds j true).getD k true = false →
     (∀ e ∈ ok.after, Region.binds md e = true → e.on ≠ i) → oi.apart ops ok = true := fun k ok hk hki hun hno => by
    refine hfree k ok hk hki ?_ hno
    by_cases hjk : j = k
    ·subst hjk; exact hjun
    ·rw [getD_set_ne true hjk] at hun; exact hun
   refine vOp_mono (fun a' h3 => ih (listed.setIfInBounds j true) a' (inv.set hj hjn) hfree' (ready_mono hr (Ne.symm hji)) h3.1 ?_) h2
   rw [Array.setIfInBounds_comm _ _ hji]
   exact h3.2

def AD (C : Ctx) (ops : Array Oper) : List Oper → St → (St → Prop) → Prop
 | [], s, K => K s
 | o :: rest, s, K => ∃ x l', YV C ops s.obs o x (get s.env) ∧ get l' = upd (get s.env) o.dst x ∧ AD C ops rest ⟨l', s.obs⟩ K

theorem wpAnyV_lex {n g : Nat} {K : St → Prop} (hF : HeadFirst md ops n) :
  ∀ (l : List Oper) (k : Nat) (listed : Array Bool) (e : List (Nat × SV)), (∀ j, j < l.length → l[j]? = ops[k + j]?) → k + l.length = n → HeadInv md ops n listed →
  Region.lexHead md ops g l.length k listed = true → AD C ops l ⟨e, obs⟩ K →
  wpAnyV C md ops obs n (fun listed' a' => Region.seqB md ops g n listed' = true ∧ ∃ l', a' = get l' ∧ K ⟨l', obs⟩) l.length listed (get e)
 | [], k, listed, e, _, hk, _, hB, h => by
  have : k = n := by simpa using hk
  subst this
  exact ⟨by simpa [Region.lexHead] using hB, e, rfl, h⟩
 | o :: l, k, listed, e, hl, hk, inv, hB, h => by
  have h0 : ops[k]? = some o := by simpa using (hl 0 (by simp)).symm
  simp only [List.length_cons, Region.lexHead, Bool.and_eq_true] at hB
  obtain ⟨⟨hr, hf⟩, hB'⟩ := hB
  have hkn : k < n := by simp only [List.length_cons] at hk; omega
  have hr' : k ∈ Region.ready md ops listed := by simpa using hr
  obtain ⟨x, l', hy, hg, hK⟩ := h
  refine wpAnyV_first h0 hF hkn (fun listed' a' hL => seqB_ready hL.1) l.length listed _ inv (Region.free_spec h0 hf) hr' hy ?_
  rw [← hg]
  exact wpAnyV_lex hF l (k + 1) _ l' (fun j hj => by have := hl (j + 1) (by simp; omega); simpa [Nat.add_assoc, Nat.add_comm 1 j] using this) (by simp only [List.length_cons] at hk; omega) (inv.set hr' hkn) hB' hK

def headFirstB (ops : Array Oper) (n : Nat) : Bool := (n == ops.size) || (decide (n < ops.size) && Region.sinkB .any ops n && Region.chainB .any ops n)
def drawB (ops : Array Oper) (n : Nat) : Bool := decide (n ≤ ops.size) && headFirstB ops n && Region.lexHead .any ops (ops.size - n) n 0 (Array.replicate ops.size false)
theorem headFirst_of {n : Nat} (h : headFirstB ops n = true) : HeadFirst .any ops n := by
 simp only [headFirstB, Bool.or_eq_true, Bool.and_eq_true, beq_iff_eq, decide_eq_true_eq] at h
 intro listed inv i hi hun j hj
 rcases h with rfl | ⟨⟨h1, h2⟩, h3⟩
 ·obtain ⟨_, o, ho, _⟩ := mem_ready.1 hj
  exact (Array.getElem?_eq_some_iff.1 ho).1
 ·rcases Nat.lt_or_ge j n with h | h
  ·exact h
  ·exact absurd hj (tail_waits h2 h3 h1 inv _ i rfl hi hun j h)

theorem Rel.drew {s : St} {Ω : List Value} {a : Act} {w : World} (h : Rel C s Ω a w) : Rel C s Ω a { w with drawn := w.drawn + 1 } := by
 have hb : RowKit.Below w.heap.size w { w with drawn := w.drawn + 1 } := ⟨rfl, rfl, rfl, Nat.le_refl _, fun _ _ => rfl⟩
 obtain ⟨hm, hok⟩ := h.mem.below hb
 exact ⟨h.defers, h.size, fun t x hx => let ⟨v, h1, h2⟩ := h.env t x hx; ⟨v, h1, h2.mono hok fun _ _ e => e⟩, hm⟩

theorem AC.draw {id : Nat} {l : List Oper} {s : St} {Q : Exit → St → Prop} (n : Nat) (hm : C.P.follows .mixedOrders = true) (hB : drawB l.toArray n = true)
  (h : AD C l.toArray (l.take n) s (fun s' => AO C l.toArray (l.drop n) s' Q)) : AC C (.region id l.toArray true) s Q := fun Ω a w hr => by
 simp only [drawB, Bool.and_eq_true, decide_eq_true_eq] at hB
 obtain ⟨⟨hn, hf⟩, hlex⟩ := hB
 have hn' : n ≤ l.length := by simpa using hn
 have htl : (l.take n).length = n := by simp; omega
 have hdl : (l.drop n).length = l.toArray.size - n := by simp
 have inv0 : HeadInv .any l.toArray n (Array.replicate l.toArray.size false) :=
  ⟨by simp, fun j oj _ hl => (by rw [getD_replicate_false] at hl; cases hl), fun t _ ht => getD_in (by simpa using ht) (getD_replicate_false _ _)⟩
 have H := wpAnyV_lex (md := .any) (g := l.toArray.size - n) (headFirst_of hf) (l.take n) 0 _ s.env (fun j hj => by
  have hj' : j < n := by rw [htl] at hj; exact hj
  simp [hj']) (by simpa using htl) inv0 (by rw [htl]; exact hlex) h
 refine wp_region_any hm ?_
 have := wpAny_of_V (Q' := Lift C Q) (g := l.toArray.size - n) (fun listed e hL Ω a w hr => by
  obtain ⟨h1, l', he, hK⟩ := hL
  have := wpAny_of_seq (md := .any) (Q' := Lift C Q) (l.drop n) n listed a w (fun j => by simp [List.getElem?_drop]) (by rw [hdl]; exact h1) (hK Ω a w (hr.congr fun t x hx => by rw [he]; exact hx))
  rwa [hdl] at this) _ _ _ H Ω a _ hr.drew
 rw [htl, show n + (l.toArray.size - n) = l.toArray.size by omega] at this
 exact this

end
theorem Rel.freeze {C : Ctx} {s : St} {Ω : List Value} {a : Act} {w : World} (h : Rel C s Ω a w) (ty : TypeId) (cells : List SV) (vs : List Value) (hl : vs.length = cells.length)
  (hr : ∀ (i : Nat) x y, cells[i]? = some x → vs[i]? = some y → RepS w (okB C s.obs Ω w) Ω x y) (h1 : ∀ y, y ∈ vs → y.oneCell' = true) {ys : List D} (hy : mapO (dataS 9) cells = some ys) :
  Rel C s Ω a (w.alloc (.cells vs.toArray ty)) ∧ ys.length = cells.length ∧
   (∀ (i : Nat) x v, ys[i]? = some x → vs[i]? = some v → RepD (w.alloc (.cells vs.toArray ty)) (okB C s.obs Ω (w.alloc (.cells vs.toArray ty))) x v ∧ (w.alloc (.cells vs.toArray ty)).cell? ⟨w.heap.size, i, none⟩ = some v) ∧
   okB C s.obs Ω (w.alloc (.cells vs.toArray ty)) w.heap.size := by
 have hb : RowKit.Below w.heap.size w (w.alloc (.cells vs.toArray ty)) := ⟨rfl, rfl, rfl, by simp, fun k hk => heap_alloc_old w _ hk⟩
 obtain ⟨hyl, hyi⟩ := mapO_get hy
 refine ⟨h.below hb, hyl, fun i x v hx hv => ?_, ⟨.inr (.inl h.mem.fr.size), by simp, fun o ob k e1 l e2 hbk => ?_⟩⟩
 ·have hlt := (List.getElem?_eq_some_iff.1 hx).1
  have hc : cells[i]? = some (cells[i]'(by omega)) := List.getElem?_eq_getElem _
  refine ⟨(dataS_rep 9 (hyi i _ _ hc hx) (hr i _ _ hc hv)).mono fun b hb' => (h.mem.below hb).2 b hb', ?_⟩
  unfold World.cell?
  rw [heap_alloc_new w _]
  simpa using hv
 ·have := (h.mem.obj o ob k e1 e2).lt l hbk
  omega
section
variable {C : Ctx} {Q : Exit → St → Prop} {ops : Array Oper} {rest : List Oper} {o : Oper} {e : List (Nat × SV)} {obs : List Ob} {d : Nat}
theorem fillS_len {f : Nat → Option (Nat × Nat)} : ∀ {ps : List (Nat × SV)} {l r : List SV}, fillS f l ps = some r → r.length = l.length
 | [], l, r, h => by cases h; rfl
 | (i, x) :: ps, l, r, h => by
  simp only [fillS] at h
  split at h
  ·cases h
  ·split at h
   ·rename_i hc
    rw [fillS_len h]
    simp
    omega
   ·cases h
theorem AOp.buildSliceD {t el sz len : Nat} {parts : List (Nat × Operand)} {ps : List (Nat × SV)} {z : Value} {r : List SV} {ys : List D} (ho : o.op = .buildSlice t len parts.toArray) (hd : o.dst = some d) (hn : d < C.n)
  (ht : elemT C.P t = some (el, sz)) (hz : (C.P.info? el).map (·.zero) = some (some z)) (h1 : z.cells.toList.all (·.oneCell') = true) (hb : len * sz ≤ 16777216) (hzs : z.cells.size = sz)
  (hx : mapO (partS ⟨e, obs⟩) parts = some ps) (hf : fillS (fun i => some (i * sz, sz)) ((List.range (len * sz)).map fun i => .d (.v (z.cells.toList.getD (i % sz) undef))) ps = some r)
  (hys : mapO (dataS 9) r = some ys) (h : AO C ops rest ⟨(d, .d (.ds sz ys)) :: e, obs⟩ Q) : AOp C ops rest o ⟨e, obs⟩ Q := by
 refine AOp.step hd hn (fun Ω a w hr => ?_) h
 obtain ⟨hu, hs⟩ := elemT_spec ht
 obtain ⟨hl, hp⟩ := hr.parts hx
 have hzlt : ∀ (i : Nat), i < len * sz → i % sz < z.cells.size := fun i hi => by
  rw [hzs]
  exact Nat.mod_lt _ (Nat.pos_of_ne_zero fun h0 => by subst h0; simp at hi)
 have hget : ∀ (i : Nat), i < len * sz → z.cells[i % z.cells.size]! = z.cells.toList.getD (i % sz) undef ∧ z.cells[i % z.cells.size]! ∈ z.cells.toList := fun i hi => by
  have hlt := hzlt i hi
  have hlt2 : i % z.cells.size < z.cells.size := by rw [hzs] at hlt ⊢; exact hlt
  rw [getElem!_pos z.cells _ hlt2]
  refine ⟨?_, by simp⟩
  have : z.cells.toList[i % sz]? = some z.cells[i % z.cells.size] := by simp [hzs]
  rw [List.getD_eq_getElem?_getD, this]; rfl
 obtain ⟨vs, hfill, hvl, hvr, hv1⟩ := fillS_rep ps _ _ r ((Array.range (len * sz)).map fun i => z.cells[i % z.cells.size]!) hf hl hp (by simp) (fun i p q hp hq => by
  have hi : i < len * sz := by have := (List.getElem?_eq_some_iff.1 hp).1; simpa using this
  have e1 : ((List.range (len * sz)).map fun i => (SV.d (.v (z.cells.toList.getD (i % sz) undef))))[i]? = some (.d (.v (z.cells.toList.getD (i % sz) undef))) := by simp [hi]
  rw [e1] at hp; cases hp
  have e2 : ((Array.range (len * sz)).map fun i => z.cells[i % z.cells.size]!).toList[i]? = some (z.cells[i % z.cells.size]!) := by simp [hi]
  rw [e2] at hq; cases hq
  rw [(hget i hi).1]
  exact .d _ _ (.v _)) (fun y hy => by
   simp only [Array.toList_map, Array.toList_range, List.mem_map, List.mem_range] at hy
   obtain ⟨i, hi, rfl⟩ := hy
   exact List.all_eq_true.1 h1 _ (hget i hi).2)
 obtain ⟨hal, hlen, hfr, hok⟩ := hr.freeze el r vs.toList (by simpa using hvl) hvr hv1 hys
 refine ⟨.slice (some ⟨w.heap.size, 0, none⟩) len len, _, Ω, ?_, hal, .d _ _ (.ds _ _ _ _ _ _ (fun i => vs.toList.getD i undef) (by rw [hlen, fillS_len hf]; simp) (Nat.le_refl _) hok (fun i hi => ?_) (fun i x hx => ?_))⟩
 ·simp only [execOp, ho, Instr.buildSlice, Sem.run_bind, run_underlying hu, Result.andThen_ok, run_sizeOf hs, List.map_toArray, Sem.run_ite]
  rw [if_neg (by omega)]
  by_cases h0 : len * sz = 0
  ·simp only [h0, if_true, Sem.run_pure, Result.andThen_ok]
   have e0 : ((Array.range 0).map fun i => (#[] : Array Value)[i % (#[] : Array Value).size]!) = #[] := by simp
   rw [h0] at hfill
   have e1 : ((Array.range 0).map fun i => z.cells[i % z.cells.size]!) = #[] := by simp
   rw [e1] at hfill
   rw [e0, hfill]
   simp [newRow]
  ·simp only [h0, if_false, run_zero hz, Sem.run_pure, Sem.run_bind, Result.andThen_ok, hfill, newRow, run_newObj]
   simp
 ·have hi' : i < vs.toList.length := by rw [hlen] at hi; simpa using hvl ▸ hi
  have hv : vs.toList[i]? = some vs.toList[i] := List.getElem?_eq_getElem hi'
  have hy : ys[i]? = some ys[i] := List.getElem?_eq_getElem hi
  rw [Nat.zero_add, (hfr i _ _ hy hv).2]
  rw [List.getD_eq_getElem?_getD, hv]; rfl
 ·have hi := (List.getElem?_eq_some_iff.1 hx).1
  have hi' : i < vs.toList.length := by rw [hlen] at hi; simpa using hvl ▸ hi
  have hv : vs.toList[i]? = some vs.toList[i] := List.getElem?_eq_getElem hi'
  have := (hfr i _ _ hx hv).1
  rw [List.getD_eq_getElem?_getD, hv]; exact this
end
section
variable {C : Ctx} {ops : Array Oper} {obs : List Ob} {md : Region.Mode}
def looksB (ops : Array Oper) (o : Oper) (ks : List Nat) : Bool := (o.looksAt ops).all (ks.contains ·) && ks.all ((o.looksAt ops).contains ·)

theorem keep_get' : ∀ {ks : List Nat} {e L : List (Nat × SV)}, keep ks e = some L → ∀ t, (t ∈ ks → get L t = get e t ∧ (get e t).isSome) ∧ (t ∉ ks → get L t = none)
 | [], e, L, h, t => by cases h; exact ⟨fun h => by simp at h, fun _ => rfl⟩
 | k :: ks, e, L, h, t => by
  simp only [keep] at h
  split at h
  ·rename_i x hx
   split at h
   ·rename_i r hr
    cases h
    have ih := keep_get' hr t
    constructor
    ·intro ht
     simp only [get]
     by_cases hk : k = t
     ·subst hk; rw [if_pos rfl, hx]; exact ⟨rfl, rfl⟩
     ·rw [if_neg hk]; exact ih.1 (by simpa [Ne.symm hk] using ht)
    ·intro ht
     simp only [get]
     rw [if_neg (fun e => ht (by simp [e]))]
     exact ih.2 (fun h => ht (by simp [h]))
   ·cases h
  ·cases h
theorem get_append (L e : List (Nat × SV)) (t : Nat) : get (L ++ e) t = match get L t with | some x => some x | none => get e t := by
 induction L with
 | nil => rfl
 | cons p L ih =>
  obtain ⟨k, x⟩ := p
  simp only [List.cons_append, get]
  split
  ·rfl
  ·exact ih

def Gives (C : Ctx) (ops : Array Oper) (obs : List Ob) (o : Oper) (L : List (Nat × SV)) (d : Nat) (x : SV) : Prop :=
 ∀ (e : List (Nat × SV)) (Q : Exit → St → Prop), AO C ops [] ⟨(d, x) :: (L ++ e), obs⟩ Q → AOp C ops [] o ⟨L ++ e, obs⟩ Q

theorem VQ.of {o : Oper} {ks : List Nat} {e L : List (Nat × SV)} {d : Nat} {x : SV} (hk : keep ks e = some L) (hl : looksB ops o ks = true) (hd : o.dst = some d) (h : Gives C ops obs o L d x) : VQ C ops obs o x (get e) := by
 intro l hg Ω a w hr
 simp only [looksB, Bool.and_eq_true, List.all_eq_true, List.contains_iff_mem] at hl
 have hsame : ∀ t, get (L ++ l) t = get l t := fun t => by
  rw [get_append]
  by_cases ht : t ∈ ks
  ·obtain ⟨h1, h2⟩ := (keep_get' hk t).1 ht
   rw [h1]
   have := hg t (hl.2 t ht)
   rw [this]
   cases get e t <;> rfl
  ·rw [(keep_get' hk t).2 ht]
 have hr' : Rel C ⟨L ++ l, obs⟩ Ω a w := hr.congr fun t y hy => by rw [← hsame t]; exact hy
 have H := h l (fun ed s => ed = .normal ∧ s = ⟨(d, x) :: (L ++ l), obs⟩) (AO.nil ⟨rfl, rfl⟩) Ω a w hr'
 refine wp_monoQ (fun a' w' hq => ?_) (fun ed a' w' hne hq => ?_) H
 ·obtain ⟨s, Ω', hr2, _, hs⟩ := hq
  subst hs
  refine ⟨_, Ω', ?_, hr2⟩
  rw [hd, get_upd]
  congr 1
  funext t; exact hsame t
 ·obtain ⟨s, Ω', _, he, _⟩ := hq
  exact hne he

variable {rest r : List Oper} {o : Oper} {e L : List (Nat × SV)} {d j dj : Nat} {x : SV} {want b : Bool} {K : St → Prop} {Q : Exit → St → Prop}

theorem AD.done {s : St} (h : AO C ops r s Q) : AD C ops [] s (fun s' => AO C ops r s' Q) := h
theorem AD.op (ks : List Nat) (hg : o.guard = none) (hl : looksB ops o ks = true) (hk : keep ks e = some L) (hd : o.dst = some d) (hv : Gives C ops obs o L d x)
  (h : AD C ops rest ⟨(d, x) :: e, obs⟩ K) : AD C ops (o :: rest) ⟨e, obs⟩ K :=
 ⟨x, (d, x) :: e, .inl ⟨by unfold wantE; rw [hg], VQ.of hk hl hd hv⟩, by rw [hd, get_upd], h⟩
theorem AD.opY (ks : List Nat) (hg : o.guard = some (j, want)) (hj : ((ops[j]?).bind (·.dst)) = some dj) (hx : get e dj = some (.d (.v (.bool b)))) (hb : b = want)
  (hl : looksB ops o ks = true) (hk : keep ks e = some L) (hd : o.dst = some d) (hv : Gives C ops obs o L d x)
  (h : AD C ops rest ⟨(d, x) :: e, obs⟩ K) : AD C ops (o :: rest) ⟨e, obs⟩ K :=
 ⟨x, (d, x) :: e, .inl ⟨by unfold wantE; rw [hg]; simp only [hj]; show (match get e dj with | some (.d (.v (.bool b))) => some (b == want) | some (.d (.v (.tuple _))) => some false | _ => none) = _; rw [hx]; simp [hb], VQ.of hk hl hd hv⟩, by rw [hd, get_upd], h⟩
theorem AD.opN (hg : o.guard = some (j, want)) (hj : ((ops[j]?).bind (·.dst)) = some dj) (hd : o.dst = some d) (hn : d < C.n) (hx : get e dj = some (.d (.v (.bool b)))) (hb : b = (!want))
  (h : AD C ops rest ⟨(d, .d (.v undef)) :: e, obs⟩ K) : AD C ops (o :: rest) ⟨e, obs⟩ K :=
 ⟨.d (.v undef), _, .inr ⟨by unfold wantE; rw [hg]; simp only [hj]; show (match get e dj with | some (.d (.v (.bool b))) => some (b == want) | some (.d (.v (.tuple _))) => some false | _ => none) = _; rw [hx]; simp [hb], rfl, fun k hk => by rw [hd] at hk; cases hk; exact hn⟩, by rw [hd, get_upd], h⟩
theorem AD.opU (hg : o.guard = some (j, want)) (hj : ((ops[j]?).bind (·.dst)) = some dj) (hd : o.dst = some d) (hn : d < C.n) (hx : get e dj = some (.d (.v undef)))
  (h : AD C ops rest ⟨(d, .d (.v undef)) :: e, obs⟩ K) : AD C ops (o :: rest) ⟨e, obs⟩ K :=
 ⟨.d (.v undef), _, .inr ⟨by unfold wantE; rw [hg]; simp only [hj]; show (match get e dj with | some (.d (.v (.bool b))) => some (b == want) | some (.d (.v (.tuple _))) => some false | _ => none) = _; rw [hx]; rfl, rfl, fun k hk => by rw [hd] at hk; cases hk; exact hn⟩, by rw [hd, get_upd], h⟩
theorem AD.split {l : List Oper} (dj : Nat) (want : Bool) (hx : get e dj = some (.d (.v (.bool b)))) (hyes : b = want → AD C ops l ⟨e, obs⟩ K) (hno : b = (!want) → AD C ops l ⟨e, obs⟩ K) : AD C ops l ⟨e, obs⟩ K := by
 by_cases hb : b = want
 ·exact hyes hb
 ·exact hno (by cases b <;> cases want <;> simp_all)

end
end Go.Vm

/- Struct values are compared field by field; min and max of floats. -/
namespace Go.Vm
set_option linter.unusedVariables false
set_option linter.unusedSimpArgs false

section
variable {C : Ctx} {Q : Exit → St → Prop} {ops : Array Oper} {rest : List Oper} {o : Oper} {e : List (Nat × SV)} {obs : List Ob} {d : Nat} {t ty : TypeId} {x y : Operand}
theorem run_imax {P : Program} {k : IntKind} {a b : Int} (ts : Array TypeId) (t : TypeId) (w : World) :
  (Builtin.max_ ts t #[.int k a, .int k b]).run P w = .ok (.int k (if a < b then b else a)) w := by
 simp [Builtin.max_, Builtin.max2]
theorem AOp.imax {k : IntKind} {a b : Int} {ts : Array TypeId} (ho : o.op = .call { callee := .builtin .max, args := #[x, y], argTypes := ts }) (hd : o.dst = some d) (hn : d < C.n)
  (hx : opS ⟨e, obs⟩ x = some (.d (di k a))) (hy : opS ⟨e, obs⟩ y = some (.d (di k b)))
  (h : AO C ops rest ⟨(d, .d (di k (if a < b then b else a))) :: e, obs⟩ Q) : AOp C ops rest o ⟨e, obs⟩ Q :=
 AOp.value hd hn (fun Ω a' w hr => ⟨_, by simp [execOp, ho, hr.evalV hx, hr.evalV hy, resolve, invoke, builtin, run_imax], .d _ _ (.v _)⟩) h
end
end Go.Vm

/- min and max of floats that are numbers. -/
namespace Flt
open Go Go.Vm Ieee
set_option linter.unusedVariables false
set_option linter.unusedSimpArgs false

end Flt

/- Numbers n * 2^E among the floating ones. -/
namespace Flt
open Go Go.Vm Ieee
set_option linter.unusedVariables false

def imax (m n : Int) : Int := if m ≤ n then n else m
end Flt
namespace Go.Vm
theorem run_f64bits (P : Program) (x : Nat) (w : World) : (Extern.MathFloatBits.float64bits #[.float .f64 x]).run P w = .ok (.int .u64 x) w := rfl
theorem run_f64frombits (P : Program) (x : Nat) (w : World) : (Extern.MathFloatBits.float64frombits #[.int .u64 (x : Int)]).run P w = .ok (.float .f64 x) w := rfl
section
variable {C : Ctx} {Q : Exit → St → Prop} {ops : Array Oper} {rest : List Oper} {o : Oper} {e : List (Nat × SV)} {obs : List Ob} {d : Nat} {t ty : TypeId} {x y : Operand}
theorem AOp.ibits {op : BinOp} {k : IntKind} {a b z : Int} (hop : op = .and ∨ op = .or ∨ op = .xor ∨ op = .andNot) (ho : o.op = .binOp op t x y ty) (hd : o.dst = some d) (hn : d < C.n) (hx : opS ⟨e, obs⟩ x = some (.d (di k a))) (hy : opS ⟨e, obs⟩ y = some (.d (di k b)))
  (hz : bits op k a b = z) (h : AO C ops rest ⟨(d, .d (di k z)) :: e, obs⟩ Q) : AOp C ops rest o ⟨e, obs⟩ Q :=
 AOp.bin ho hd hn hx hy (by rcases hop with rfl | rfl | rfl | rfl <;> rfl) (fun w => by subst hz; rcases hop with rfl | rfl | rfl | rfl <;> simp [binOp, intBits_and, intBits_or, intBits_xor, intBits_andNot]) h
end
end Go.Vm
namespace Go.Vm
section
variable {C : Ctx} {Q : Exit → St → Prop} {ops : Array Oper} {rest : List Oper} {o : Oper} {e : List (Nat × SV)} {obs : List Ob} {d : Nat} {t ty : TypeId} {x y : Operand}
theorem AOp.drawn {R : Value → Prop} (hd : o.dst = some d) (hn : d < C.n)
  (hv : ∀ Ω a w, Rel C ⟨e, obs⟩ Ω a w → ∃ v w', (execOp a.eval o).run C.P w = .ok (.value v) w' ∧ (w' = w ∨ w' = w.drew) ∧ R v)
  (h : ∀ v, R v → AO C ops rest ⟨(d, .d (.v v)) :: e, obs⟩ Q) : AOp C ops rest o ⟨e, obs⟩ Q := fun Ω a w hr => by
 obtain ⟨v, w', hrun, hw, hR⟩ := hv Ω a w hr
 have hr' : Rel C ⟨e, obs⟩ Ω a w' := by rcases hw with rfl | rfl; exact hr; exact hr.drew
 unfold Oper.wp
 rw [hrun, Oper.upon_value, hd]
 exact h v hR Ω _ w' (hr'.put hn (.d _ _ (.v _)))
end
end Go.Vm

/- Functions that defer a closure which recovers: what they give where nothing panics. -/
namespace Go.Vm
set_option linter.unusedVariables false

def IsDef (P : Program) (g n : Nat) (d : Deferred) : Prop :=
 ∃ fv cap args, d.target = .fn fv cap ∧ (∀ w, (invoke d.target d.args).run P w = .ok (.enter g args) w) ∧ args.size = n

def AW (C : Ctx) (g n : Nat) (c : Code) (s : St) (Q : Exit → St → Prop) : Prop :=
 ∀ Ω a w, Rel C s Ω a w → c.wp C.P (fun e a w => ∃ d, IsDef C.P g n d ∧ Lift { C with dfs := [d] } Q e a w) a w

theorem AW.seq {C : Ctx} {g n : Nat} {x y : Code} {s : St} {Q : Exit → St → Prop} (h : AC C x s (fun e s' => e = .normal ∧ AW C g n y s' Q)) : AW C g n (.seq x y) s Q := fun Ω a w hr =>
 wp_seq (wp_mono (h Ω a w hr) fun e a w ⟨s, Ω, hr, he, hq⟩ => by
  subst he
  exact hq Ω a w hr)
theorem AW.region {C : Ctx} {g n : Nat} {id : Nat} {l : List Oper} {s : St} {y : Code} {Q : Exit → St → Prop} (h : AO C l.toArray l s (fun e s' => e = .normal ∧ AW C g n y s' Q)) : AW C g n (.seq (.region id l.toArray false) y) s Q :=
 AW.seq (AC.region h)

theorem rel_dfs {C : Ctx} {s : St} {Ω : List Value} {a : Act} {w : World} (h : Rel C s Ω a w) (hC : C.dfs = []) (d : Deferred) : Rel { C with dfs := [d] } s Ω { a with defers := d :: a.defers } w :=
 ⟨by show d :: a.defers = [d]; rw [h.defers, hC], h.size, fun t x hx => h.env t x hx, ⟨h.mem.len, h.mem.obj, h.mem.sep, h.mem.new, ⟨h.mem.fr.os, h.mem.fr.tape, h.mem.fr.output, h.mem.fr.size, h.mem.fr.block, h.mem.fr.glob, h.mem.fr.gmay⟩⟩⟩

theorem AW.defer {C : Ctx} {g id d : Nat} {o1 o2 : Oper} {y : Code} {e : List (Nat × SV)} {obs : List Ob} {Q : Exit → St → Prop} {caps : List Operand} (hC : C.dfs = []) (h1 : o1.op = .makeFunc (.func g) #[] caps.toArray) (hd : o1.dst = some d) (hn : d < C.n) (hg1 : o1.guard = none)
  (h2 : o2.op = .defer { callee := .value (.tmp d), args := #[], argTypes := #[] }) (hd2 : o2.dst = none) (hg2 : o2.guard = none) (he : enters C.P g = true)
  {cs : List SV} (hcs : mapO (opS ⟨e, obs⟩) caps = some cs) (h : ∀ df, AC { C with dfs := [df] } y ⟨(d, .fv (.func g) [] cs) :: e, obs⟩ Q) : AW C g caps.length (.seq (.region id [o1, o2].toArray false) y) ⟨e, obs⟩ Q := by
 intro Ω a w hr
 refine wp_seq (wp_region_lit ?_)
 unfold wpList
 rw [if_pos (by simp [Region.wanted, hg1])]
 refine .inl ?_
 have r1 : (execOp a.eval o1).run C.P w = .ok (.value (.func (.func g) #[] (caps.map a.eval).toArray)) w := by
  simp [execOp, h1, Instr.makeFunc]
 unfold Oper.wp
 rw [r1, Oper.upon_value, hd]
 unfold wpList
 rw [if_pos (by simp [Region.wanted, hg2])]
 refine .inl ?_
 have hv : (a.put (some d) (.func (.func g) #[] (caps.map a.eval).toArray)).eval (.tmp d) = .func (.func g) #[] (caps.map a.eval).toArray := by
  have := Act.put_get (a := a) (d := d) (v := .func (.func g) #[] (caps.map a.eval).toArray) (by rw [hr.size]; exact hn)
  simp [Act.eval, Act.put, Array.getD_eq_getD_getElem?, hr.size, hn]
 have r2 : (execOp (a.put (some d) (.func (.func g) #[] (caps.map a.eval).toArray)).eval o2).run C.P w = .ok (.defer ⟨.fn (.func g) (caps.map a.eval).toArray, #[]⟩) w := by
  simp [execOp, h2, resolve, hv, Deferred.ofValue]
 unfold Oper.wp
 rw [r2]
 simp only [Oper.upon, hd2]
 have hdef : IsDef C.P g caps.length ⟨.fn (.func g) (caps.map a.eval).toArray, #[]⟩ := by
  refine ⟨_, _, (caps.map a.eval).toArray, rfl, fun w => ?_, by simp⟩
  simp only [invoke, Array.empty_append]
  exact run_enters he _ w
 have hcap : RepS w (okB C obs Ω w) Ω (.fv (.func g) [] cs) (.func (.func g) #[] (caps.map a.eval).toArray) := by
  obtain ⟨hl, hi⟩ := mapO_get hcs
  refine .fv _ _ _ [] _ rfl (by simp [hl]) (fun i x y hx => by simp at hx) (fun i x y hx hy => ?_)
  simp only [List.getElem?_map, Option.map_eq_some_iff] at hy
  obtain ⟨z, hz, rfl⟩ := hy
  exact hr.eval (hi i z x hz hx)
 have hr2 := rel_dfs (hr.put hn hcap) hC ⟨.fn (.func g) (caps.map a.eval).toArray, #[]⟩
 have := h ⟨.fn (.func g) (caps.map a.eval).toArray, #[]⟩ Ω _ w hr2
 exact wp_mono this fun e a w hq => ⟨_, hdef, hq⟩

theorem FnD.wrap {P : Program} {f g m : FuncId} {fn : Func} {c : Code} {args : List D} {R : D → Prop} {n : Nat} {rs : List ResultVar}
  (hc : ∀ (av : Array Value) (w : World), av.size = m → CallsD P g av .returning w fun e u' w' => e = .returned (.tuple #[]) ∧ u' = .returning ∧ w' = w)
  (he : enters P f = true) (hf : P.funcs[f]? = some fn) (hb : fn.body = some c) (hnt : fn.ntmps = n) (hrs : fn.results = rs.toArray) (hn : args.length ≤ n)
  (h : ∀ (W : World) (ok : Nat → Prop), AW ⟨P, W, ok, [], n, []⟩ g m c ⟨enumD 0 args, []⟩ (RetQ P rs R)) : FnD P f args R := by
 subst hnt
 have hrl : fn.results.toList = rs := by rw [hrs]
 subst hrl
 refine ⟨he, fun W ok vs hG hok hl hrep => calls_of_wp_defers hf hb ?_⟩
 have hrel : Rel ⟨P, W, ok, [], fn.ntmps, []⟩ ⟨enumD 0 args, []⟩ [] { tmps := vs.toArray ++ Array.replicate (fn.ntmps - vs.toArray.size) undef, defers := [] } W := by
  refine ⟨rfl, by simp; omega, fun t x hx => ?_, ⟨rfl, fun o ob h e1 => by simp at e1, fun i j a b p q x _ e1 => by simp at e1, fun o ob p b e1 => by simp at e1, ⟨rfl, rfl, rfl, Nat.le_refl _, fun _ _ _ => rfl, hG, fun b h => by cases h⟩⟩⟩
  obtain ⟨y, rfl, _, hy⟩ := enumD_get args 0 t x hx
  rw [Nat.sub_zero] at hy
  have hlt := (List.getElem?_eq_some_iff.1 hy).1
  have hv : vs[t]? = some vs[t] := List.getElem?_eq_getElem (by omega)
  refine ⟨vs[t], ?_, .d _ _ ((hrep t _ _ hy hv).mono fun b hb => ⟨⟨.inl hb, hok b hb, fun o ob h e1 => by simp at e1⟩, rfl⟩)⟩
  rw [Array.getElem?_append_left (by simp; omega)]
  simp
 refine wp_mono (h W ok _ _ W hrel) fun ed a w ⟨d, hdef, s, Ω, hr, hq⟩ => ?_
 obtain ⟨fv, cap, av, ht, hinv, hsz⟩ := hdef
 have fin : (∃ r, resD P s fn.results.toList = some r ∧ R r) → Leaves P fn a.tmps (fun e w' => ∃ v r, e = .returned v ∧ R r ∧ RowKit.Below W.heap.size W w' ∧ RepD w' (fun b => (ok b ∨ W.heap.size ≤ b) ∧ b < w'.heap.size) r v) a.defers .returning w := by
  intro ⟨r, hres, hR⟩
  obtain ⟨v, hv, hrep⟩ := results_rep rfl hr hres
  have hd : a.defers = [d] := hr.defers
  rw [hd]
  refine ⟨by simp, fv, cap, g, av, ht, hinv w, (hc av w hsz).mono fun e u' w' ⟨h1, h2, h3⟩ => ?_⟩
  subst h1; subst h2; subst h3
  exact ⟨v, hv, v, r, rfl, hR, ⟨hr.mem.fr.os, hr.mem.fr.tape, hr.mem.fr.output, hr.mem.fr.size, fun b hb => hr.mem.fr.block b hb (by simp)⟩, hrep.noMay⟩
 cases ed with
 | normal => exact fin hq
 | ret => exact fin hq
 | _ => exact hq.elim
end Go.Vm

/- Appending; nil checks; calls of function values. -/
set_option linter.unusedVariables false
set_option linter.unusedSimpArgs false
namespace Go.Vm

/- It does not lead to object p. -/
mutual
def SV.noO (p : Nat) : SV → Bool
 | .d _ => true
 | .any => true
 | .ptr o _ => o != p
 | .sl o _ _ _ _ => o != p
 | .own o => o != p
 | .pre o _ => o != p
 | .full _ _ => true
 | .ep _ _ => true
 | .ag l => SV.noOL p l
 | .tu l => SV.noOL p l
 | .ifc _ x => SV.noO p x
 | .fv _ a b => SV.noOL p a && SV.noOL p b
termination_by structural x => x
def SV.noOL (p : Nat) : List SV → Bool
 | [] => true
 | x :: r => SV.noO p x && SV.noOL p r
termination_by structural x => x
end
theorem SV.noOL_get {p : Nat} : ∀ {l : List SV}, SV.noOL p l = true → ∀ {i : Nat} {x : SV}, l[i]? = some x → SV.noO p x = true
 | [], _, i, x, hx => by simp at hx
 | y :: r, h, i, x, hx => by
  simp only [SV.noOL, Bool.and_eq_true] at h
  cases i with
  | zero => simp at hx; subst hx; exact h.1
  | succ i => exact SV.noOL_get h.2 (by simpa using hx)
def Ob.noO (p : Nat) : Ob → Bool
 | .fix _ cells => cells.all (SV.noO p)
 | .frame _ env => env.all fun q => q.2.noO p
 | _ => true
def dropO (p : Nat) : List Nat → List (Nat × SV) → List (Nat × SV)
 | _, [] => []
 | seen, (k, x) :: r => if seen.contains k then dropO p seen r else if x.noO p then (k, x) :: dropO p (k :: seen) r else dropO p (k :: seen) r
theorem dropO_get {p : Nat} : ∀ {e : List (Nat × SV)} {seen : List Nat} {t : Nat} {x : SV}, get (dropO p seen e) t = some x → t ∉ seen ∧ get e t = some x ∧ x.noO p = true
 | [], _, _, _, h => by cases h
 | (k, y) :: r, seen, t, x, h => by
  simp only [dropO] at h
  split at h
  ·rename_i hk
   obtain ⟨h1, h2, h3⟩ := dropO_get h
   refine ⟨h1, ?_, h3⟩
   simp only [get]
   rw [if_neg (fun e => h1 (by subst e; simpa using hk))]
   exact h2
  ·rename_i hk
   split at h
   ·rename_i hy
    simp only [get] at h ⊢
    split at h
    ·rename_i e; subst e; cases h
     exact ⟨by simpa using hk, by rw [if_pos rfl], hy⟩
    ·rename_i e
     obtain ⟨h1, h2, h3⟩ := dropO_get h
     exact ⟨fun hm => h1 (by simp [hm]), by rw [if_neg e]; exact h2, h3⟩
   ·obtain ⟨h1, h2, h3⟩ := dropO_get h
    refine ⟨fun hm => h1 (by simp [hm]), ?_, h3⟩
    simp only [get]
    rw [if_neg (fun e => h1 (by simp [e]))]
    exact h2

theorem RepS.noO {w w' : World} {ok ok' : Nat → Prop} {Ω : List Value} {p : Nat} {u : Value} (h : ∀ b, ok b → ok' b ∧ w'.heap[b]? = w.heap[b]?) {x : SV} {v : Value} (hx : x.noO p = true) (hr : RepS w ok Ω x v) : RepS w' ok' (Ω.set p u) x v := by
 have ht : ∀ {o : Nat} {v : Value}, (o != p) = true → Ω[o]? = some v → (Ω.set p u)[o]? = some v := fun ho e => by
  rw [List.getElem?_set_ne (by simpa using Ne.symm (by simpa using ho))]; exact e
 induction hr with
 | any v => exact .any v
 | d x v hd => exact .d x v (hd.mono h)
 | ptr o off b ho => exact .ptr o off b (ht hx ho)
 | ptrG o off b len cap ho => exact .ptrG o off b len cap (ht hx ho)
 | sl o sz off len cap b ho => exact .sl o sz off len cap b (ht hx ho)
 | own o v ho h1 => exact .own o v (ht hx ho) h1
 | pre o k n cap a ho hk => exact .pre o k n cap a (ht hx ho) hk
 | full sz cells a n hd => exact .full sz cells a n (hd.mono h)
 | ep b off i cells vals hb2 hcell hr => exact .ep b off i cells vals (h b hb2).1 (fun j hj => by rw [cell_heap (h b hb2).2]; exact hcell j hj) (fun j x hj => (hr j x hj).mono h)
 | ag cells vs hl _ ih => exact .ag cells vs hl fun i x y h1 h2 => ih i x y h1 h2 (SV.noOL_get hx h1)
 | tu cells vs hl _ ih => exact .tu cells vs hl fun i x y h1 h2 => ih i x y h1 h2 (SV.noOL_get hx h1)
 | ifc t x u _ ih => exact .ifc t x u (ih hx)
 | fv fn first caps fs cs hf hc _ _ ih1 ih2 =>
  have hb2 : SV.noOL p first = true ∧ SV.noOL p caps = true := by simpa only [SV.noO, Bool.and_eq_true] using hx
  exact .fv fn first caps fs cs hf hc (fun i x y h1 h2 => ih1 i x y h1 h2 (SV.noOL_get hb2.1 h1)) (fun i x y h1 h2 => ih2 i x y h1 h2 (SV.noOL_get hb2.2 h1))

theorem Mem.grow {C : Ctx} {obs : List Ob} {Ω : List Value} {w w' : World} (h : Mem C obs Ω w) {p sz n : Nat} {ty : TypeId} {cells cells' : List D} {v v' : Value} {xs : List Value} (ho : obs[p]? = some (.grow ty sz cells))
  (hΩ : Ω[p]? = some v) (hg : w.grownBy w' v.ownBlock) (how : w'.ownsRow 0 ty sz v' n xs) (hb : v'.ownBlock = v.ownBlock ∨ v'.ownBlock = some w.heap.size) (hl : xs.length = cells'.length)
  (hr : ∀ (i : Nat) x y, cells'[i]? = some x → xs[i]? = some y → RepD w (okB C obs Ω w) x y) (hno : ∀ i ob, i ≠ p → obs[i]? = some ob → ob.noO p = true) :
  Mem C (obs.set p (.grow ty sz cells')) (Ω.set p v') w' ∧ ∀ k, okB C obs Ω w k → okB C (obs.set p (.grow ty sz cells')) (Ω.set p v') w' k ∧ w'.heap[k]? = w.heap[k]? := by
 obtain ⟨n0, xs0, how0, _, _⟩ := h.obj p _ _ ho hΩ
 have bo : ∀ {x : World} {m : Nat} {z : Value} {l : List Value}, x.ownsRow 0 ty sz z m l → blk z = z.ownBlock := fun {x m z l} hz => by
  rcases hz.2 with ⟨rfl, _⟩ | ⟨g, cap, cur, rfl, _⟩ <;> rfl
 have b1 := bo how0
 have b2 := bo how
 have hlt : ∀ {i : Nat} {ob : Ob} {k : Value} {b : Nat}, obs[i]? = some ob → ob.live = true → Ω[i]? = some k → blk k = some b → b < w.heap.size := fun e1 l e2 hbk => (h.obj _ _ _ e1 e2).lt l hbk
 have gΩ : ∀ {i : Nat} {k : Value}, i ≠ p → (Ω.set p v')[i]? = some k → Ω[i]? = some k := fun hi e => by rwa [List.getElem?_set_ne (Ne.symm hi)] at e
 have pΩ : ∀ {k : Value}, (Ω.set p v')[p]? = some k → k = v' := fun {k} e => by
  rw [List.getElem?_set_self (List.getElem?_eq_some_iff.1 hΩ).1] at e; exact (Option.some.inj e).symm
 have hok : ∀ k, okB C obs Ω w k → okB C (obs.set p (.grow ty sz cells')) (Ω.set p v') w' k ∧ w'.heap[k]? = w.heap[k]? := fun k hk => by
  have hkv : blk v ≠ some k := hk.2.2 p _ _ ho rfl hΩ
  refine ⟨⟨hk.1, Nat.lt_of_lt_of_le hk.2.1 hg.size, fun i ob q e1 l e2 => ?_⟩, hg.block k hk.2.1 (fun e => hkv (by rw [b1, ← e]))⟩
  rcases get_set e1 with ⟨rfl, rfl, _⟩ | ⟨hi, e1⟩
  ·rw [pΩ e2, b2]
   rcases hb with hb | hb
   ·rw [hb, ← b1]; exact hkv
   ·rw [hb]; intro e; cases e; exact absurd hk.2.1 (Nat.lt_irrefl _)
  ·exact hk.2.2 i ob q e1 l (gΩ hi e2)
 have nb : ∀ {b : Nat}, blk v' = some b → blk v = some b ∨ b = w.heap.size := fun {b} hbk => by
  rw [b2] at hbk
  rcases hb with hb | hb
  ·left; rw [b1, ← hb]; exact hbk
  ·right; rw [hb] at hbk; cases hbk; rfl
 refine ⟨⟨by simp [h.len], fun i ob k e1 e2 => ?_, fun i j a c x y b hij e1 e2 l1 l2 e3 e4 hp => ?_, fun i ob q b e1 l1 e2 hp => ?_, ?_⟩, hok⟩
 ·rcases get_set e1 with ⟨rfl, rfl, _⟩ | ⟨hi, e1⟩
  ·rw [pΩ e2]
   exact ⟨n, xs, how, hl, fun i x y hx hy => (hr i x y hx hy).mono hok⟩
  ·have e2' := gΩ hi e2
   have H := h.obj i ob k e1 e2'
   have hn := hno i ob hi e1
   cases ob with
   | dead => trivial
   | frame vs env => exact ⟨H.1, fun t x hx => let ⟨v, hv, hr⟩ := H.2 t x hx; ⟨v, hv, hr.noO hok (List.all_eq_true.1 (show env.all (fun q => q.2.noO p) = true from hn) (t, x) (get_mem hx))⟩⟩
   | grow ty2 sz2 cells2 =>
    obtain ⟨m, ys, hq, hql, hqr⟩ := H
    refine ⟨m, ys, hq.kept hg ?_, hql, fun i x y hx hy => (hqr i x y hx hy).mono hok⟩
    have bq : blk k = k.ownBlock := by rcases hq.2 with ⟨rfl, _⟩ | ⟨g, cap, cur, rfl, _⟩ <;> rfl
    cases hkb : k.ownBlock with
    | none => exact .inl rfl
    | some b =>
     right
     intro e
     exact h.sep i p _ _ k v b hi e1 ho rfl rfl e2' hΩ (by rw [bq, hkb]) (by rw [b1, ← e])
   | fix ty2 cells2 =>
    obtain ⟨b, vs, rfl, hw, hvl, hvr, h1⟩ := H
    refine ⟨b, vs, rfl, ?_, hvl, fun i x y hx hy => (hvr i x y hx hy).noO hok (List.all_eq_true.1 (show cells2.all (SV.noO p) = true from hn) x (List.mem_of_getElem? hx)), h1⟩
    rw [hg.block b (hlt e1 rfl e2' rfl) (fun e => h.sep i p _ _ _ v b hi e1 ho rfl rfl e2' hΩ rfl (by rw [b1, ← e]))]
    exact hw
 ·rcases get_set e1 with ⟨f1, f2, _⟩ | ⟨hi, f1⟩ <;> rcases get_set e2 with ⟨g1, g2, _⟩ | ⟨hj, g1⟩
  ·exact (hij (f1.trans g1.symm)).elim
  ·subst f1
   rw [pΩ e3] at hp
   rcases nb hp with hb' | hb'
   ·exact h.sep i j _ _ v y b hij ho g1 rfl l2 hΩ (gΩ hj e4) hb'
   ·intro e; have := hlt g1 l2 (gΩ hj e4) e; omega
  ·subst g1
   rw [pΩ e4]
   intro e
   rcases nb e with hb' | hb'
   ·exact h.sep i j _ _ x v b hij f1 ho l1 rfl (gΩ hi e3) hΩ hp hb'
   ·have := hlt f1 l1 (gΩ hi e3) hp; omega
  ·exact h.sep i j a c x y b hij f1 g1 l1 l2 (gΩ hi e3) (gΩ hj e4) hp
 ·rcases get_set e1 with ⟨rfl, rfl, _⟩ | ⟨hi, e1⟩
  ·rw [pΩ e2] at hp
   rcases nb hp with hb' | hb'
   ·exact h.new i _ v b ho rfl hΩ hb'
   ·subst hb'; exact .inl h.fr.size
  ·exact h.new i ob q b e1 l1 (gΩ hi e2) hp
 ·refine ⟨hg.os.trans h.fr.os, hg.tape.trans h.fr.tape, hg.output.trans h.fr.output, Nat.le_trans h.fr.size hg.size, fun b e1 e2 => ?_, h.fr.glob, h.fr.gmay⟩
  rw [hg.block b (Nat.lt_of_lt_of_le e1 h.fr.size) (fun e => ?_)]
  ·exact h.fr.block b e1 e2
  ·rcases h.new p _ v b ho rfl hΩ (by rw [b1, ← e]) with hn | hn
   ·omega
   ·exact e2 hn
end Go.Vm
namespace Go.Vm
theorem run_append_none {P : Program} {w : World} (t ty e : TypeId) {size : Nat} (ht : elemT P t = some (e, size)) {v : Value} {n : Nat} {xs : List Value} (hown : w.ownsRow 0 e size v n xs) (c : Nat) :
  (Builtin.append_ #[t, t] ty #[v, .slice none 0 c]).run P w = .ok v w := by
 obtain ⟨hu, hs⟩ := elemT_spec ht
 rcases hown.2 with ⟨rfl, h0⟩ | ⟨g, cap, cur, rfl, _, hg, hnc, _⟩
 ·simp [Builtin.append_, run_underlying hu, run_sizeOf hs, Builtin.lenOf, Builtin.firstCells]
 ·have : (storeCells ((⟨g, 0, none⟩ : Addr).add (n * size)) []).run P w = .ok () w := by simp [storeCells]
  simp [Builtin.append_, run_underlying hu, run_sizeOf hs, Builtin.lenOf, Builtin.firstCells, hnc, this]

section
variable {C : Ctx} {Q : Exit → St → Prop} {ops : Array Oper} {rest : List Oper} {o : Oper} {e : List (Nat × SV)} {obs : List Ob} {d : Nat}

theorem run_append_data {P : Program} {w : World} {ok : Nat → Prop} (t ty el size bytes : Nat) {z : Value} (ht : elemT P t = some (el, size)) (hi : (P.info? el).map (fun i => (i.zero, i.size, i.bytes)) = some (some z, size, bytes)) (hzs : z.cells.size = size) (hsz : 0 < size)
  {v u : Value} {n m : Nat} {xs : List Value} {news : List D} (hown : w.ownsRow 0 el size v n xs) (hu : RepD w ok (.ds size news) u) (hl : news.length = m * size) (h1 : ∀ (i : Nat) x y, news[i]? = some x → RepD w ok x y → y.oneCell' = true)
  (h63 : n + m ≤ maxLen) (hbytes : (n + m) * bytes ≤ 140737488355328) :
  ∃ v' w' us, (Builtin.append_ #[t, t] ty #[v, u]).run P w = .ok v' w' ∧ w'.ownsRow 0 el size v' (n + m) (xs ++ us) ∧ us.length = news.length ∧ (∀ (i : Nat) x y, news[i]? = some x → us[i]? = some y → RepD w ok x y) ∧
   w.grownBy w' v.ownBlock ∧ (v'.ownBlock = v.ownBlock ∨ v'.ownBlock = some w.heap.size) := by
 obtain ⟨hun, hs⟩ := elemT_spec ht
 obtain ⟨i, hii, hie⟩ : ∃ i, P.info? el = some i ∧ (i.zero, i.size, i.bytes) = (some z, size, bytes) := by
  cases hq : P.info? el with
  | none => rw [hq] at hi; cases hi
  | some i => rw [hq] at hi; exact ⟨i, rfl, Option.some.inj hi⟩
 simp only [Prod.mk.injEq] at hie
 obtain ⟨e1, e2, e3⟩ := hie
 cases hu with
 | nil _ a c =>
  have hm : m = 0 := by
   rcases Nat.eq_zero_or_pos m with h | h
   ·exact h
   ·have := Nat.mul_pos h hsz; simp at hl; omega
  subst hm
  cases a with
  | none => exact ⟨v, w, [], run_append_none t ty el ht hown c, by simpa using hown, rfl, fun i x y hx => by simp at hx, ⟨rfl, rfl, rfl, Nat.le_refl _, fun _ _ _ => rfl⟩, .inl rfl⟩
  | some a =>
   obtain ⟨v', w', h2, h3, h4, h5, h6⟩ := run_append_own_at w 0 t ty el i z size bytes hun hii e1 e2 e3 hzs hsz v n xs hown a 0 c [] (by simp) (fun j u hj => by simp at hj) (fun u hu => by simp at hu) h63 hbytes (Nat.zero_le _)
   exact ⟨v', w', [], h2, h3, rfl, fun i x y hx => by simp at hx, h4, h6⟩
 | ds _ b off len cap _ vals hl2 hc hb hcell hrr =>
  have hm : len = m := Nat.eq_of_mul_eq_mul_right hsz (by rw [← hl2, hl])
  subst hm
  have hus : ∀ (j : Nat) (u : Value), ((List.range news.length).map vals)[j]? = some u → j < news.length ∧ u = vals j := fun j u hj => by
   rw [List.getElem?_map, Option.map_eq_some_iff] at hj
   obtain ⟨k, hk, rfl⟩ := hj
   have hlt := (List.getElem?_eq_some_iff.1 hk).1
   simp at hlt
   rw [List.getElem?_range hlt] at hk
   cases hk
   exact ⟨hlt, rfl⟩
  obtain ⟨v', w', h2, h3, h4, h5, h6⟩ := run_append_own_at w 0 t ty el i z size bytes hun hii e1 e2 e3 hzs hsz v n xs hown ⟨b, off, none⟩ len cap ((List.range news.length).map vals) (by simp [hl]) (fun j u hj => by
    obtain ⟨hlt, rfl⟩ := hus j u hj
    rw [Addr.add_of]; exact hcell j hlt) (fun u hu => by
    obtain ⟨j, hj⟩ := List.getElem?_of_mem hu
    obtain ⟨hlt, rfl⟩ := hus j u hj
    have hx : news[j]? = some news[j] := List.getElem?_eq_getElem hlt
    exact h1 j _ _ hx (hrr j _ hx)) h63 hbytes (Nat.zero_le _)
  refine ⟨v', w', _, h2, h3, by simp, fun j x y hx hy => ?_, h4, h6⟩
  obtain ⟨hlt, rfl⟩ := hus j y hy
  exact hrr j x hx

theorem AOp.appendOwn {t el size bytes p n m : Nat} {x y : Operand} {z : Value} {cells news : List D} (ho : o.op = .call { callee := .builtin .append, args := #[x, y], argTypes := #[t, t] }) (hd : o.dst = some d) (hn : d < C.n)
  (hx : opS ⟨e, obs⟩ x = some (.own p)) (hy : opS ⟨e, obs⟩ y = some (.d (.ds size news))) (ht : elemT C.P t = some (el, size)) (hi : (C.P.info? el).map (fun i => (i.zero, i.size, i.bytes)) = some (some z, size, bytes)) (hzs : z.cells.size = size) (hsz : 0 < size)
  (hp : obs[p]? = some (.grow el size cells)) (hc : cells.length = n * size) (hl : news.length = m * size) (hone : ∀ x, x ∈ news → x.one = true) (h63 : n + m ≤ maxLen) (hb : (n + m) * bytes ≤ 140737488355328)
  (hno : (obs.set p .dead).all (Ob.noO p) = true) {e' : List (Nat × SV)} (he : dropO p [] e = e')
  (h : AO C ops rest ⟨(d, .own p) :: e', obs.set p (.grow el size (cells ++ news))⟩ Q) : AOp C ops rest o ⟨e, obs⟩ Q := by
 subst he
 refine AOp.step hd hn (fun Ω a w hr => ?_) h
 obtain ⟨k, xs, hΩ, how, hxl, hrr⟩ := hr.growV hp (hr.eval hx)
 have hk : k = n := Nat.eq_of_mul_eq_mul_right hsz (by rw [← how.1, hxl, hc])
 subst hk
 have hyv := hr.eval hy
 generalize hev : a.eval y = u at hyv
 cases hyv with
 | d _ _ hyd =>
  obtain ⟨v', w', us, h1, h2, h3, h4, h5, h6⟩ := run_append_data t o.type el size bytes ht hi hzs hsz how hyd hl (fun i x y hx hr => hr.one (hone x (List.mem_of_getElem? hx))) h63 hb
  obtain ⟨hm, hok⟩ := hr.mem.grow (cells' := cells ++ news) hp hΩ h5 h2 h6 (by simp [hxl, h3]) (fun i x y hx hy => by
   rw [List.getElem?_append] at hx hy
   rw [hxl] at hy
   split at hx
   ·rename_i hi; rw [if_pos hi] at hy; exact hrr i x y hx hy
   ·rename_i hi; rw [if_neg hi] at hy; exact h4 _ x y hx hy) (fun i ob hi hob => List.all_eq_true.1 hno ob (List.mem_of_getElem? (by rw [List.getElem?_set_ne (Ne.symm hi)]; exact hob)))
  have one1 : v'.oneCell' = true := by rcases h2.2 with ⟨rfl, _⟩ | ⟨g, cap, cur, rfl, _⟩ <;> rfl
  refine ⟨v', w', _, ?_, ⟨hr.defers, hr.size, fun q sv hq => ?_, hm⟩, .own _ _ ?_ one1⟩
  ·simp [execOp, ho, hev, resolve, invoke, builtin, h1]
  ·obtain ⟨_, hg, hf⟩ := dropO_get hq
   obtain ⟨val, hval, hrep⟩ := hr.env q sv hg
   exact ⟨val, hval, hrep.noO hok hf⟩
  ·rw [List.getElem?_set_self (List.getElem?_eq_some_iff.1 hΩ).1]

theorem AOp.appendNil {t el size bytes m : Nat} {x y : Operand} {z : Value} {news : List D} (ho : o.op = .call { callee := .builtin .append, args := #[x, y], argTypes := #[t, t] }) (hd : o.dst = some d) (hn : d < C.n)
  (hx : opS ⟨e, obs⟩ x = some (.d (.v (.slice none 0 0)))) (hy : opS ⟨e, obs⟩ y = some (.d (.ds size news))) (ht : elemT C.P t = some (el, size)) (hi : (C.P.info? el).map (fun i => (i.zero, i.size, i.bytes)) = some (some z, size, bytes)) (hzs : z.cells.size = size) (hsz : 0 < size)
  (hl : news.length = m * size) (hone : ∀ x, x ∈ news → x.one = true) (h63 : m ≤ maxLen) (hb : m * bytes ≤ 140737488355328)
  (h : AO C ops rest ⟨(d, .d (.ds size news)) :: e, obs⟩ Q) : AOp C ops rest o ⟨e, obs⟩ Q := by
 refine AOp.step hd hn (fun Ω a w hr => ?_) h
 have hyv := hr.eval hy
 generalize hev : a.eval y = u at hyv
 cases hyv with
 | d _ _ hyd =>
  obtain ⟨v', w', us, h1, h2, h3, h4, h5, h6⟩ := run_append_data (n := 0) (xs := []) t o.type el size bytes ht hi hzs hsz (World.ownsRow_nil w 0 el size) hyd hl (fun i x y hx hr => hr.one (hone x (List.mem_of_getElem? hx))) (by omega) (by simpa using hb)
  have hbel : RowKit.Below w.heap.size w w' := ⟨h5.os, h5.tape, h5.output, h5.size, fun k hk => h5.block k hk (by simp [Value.ownBlock])⟩
  obtain ⟨hm, hok⟩ := hr.mem.below hbel
  refine ⟨v', w', Ω, ?_, hr.below hbel, .d _ _ ?_⟩
  ·simp [execOp, ho, hr.evalV hx, hev, resolve, invoke, builtin, h1]
  ·rw [Nat.zero_add, List.nil_append] at h2
   rcases h2.2 with ⟨rfl, hm0⟩ | ⟨g, cap, cur, rfl, _, hg, hnc, _, hcs, hct⟩
   ·subst hm0
    have : news = [] := List.eq_nil_of_length_eq_zero (by simpa using hl)
    subst this
    exact .nil _ _ _
   ·have hgs : g = w.heap.size := by
     rcases h6 with h6 | h6 <;> simp [Value.ownBlock] at h6
     exact h6
    have hus : ∀ (i : Nat), i < news.length → us[i]? = some (us.getD i undef) := fun i hi => by
     rw [List.getD_eq_getElem?_getD, List.getElem?_eq_getElem (by omega)]; rfl
    have hcell : ∀ (i : Nat), i < news.length → w'.cell? ⟨g, 0 + i, none⟩ = some (us.getD i undef) := fun i hi => by
     have h7 : (cur.toList.take (m * size))[i]? = some (us.getD i undef) := by rw [hct]; exact hus i hi
     rw [List.getElem?_take, if_pos (by omega)] at h7
     rw [Nat.zero_add, cell_of_row w' g i cur el (0, 0) hg]
     simpa using h7
    refine .ds _ _ _ _ _ _ _ hl hnc ?_ hcell (fun i x hx => ?_)
    ·refine ⟨.inr (.inl (by rw [hgs]; exact hr.mem.fr.size)), (Array.getElem?_eq_some_iff.1 hg).1, fun o' ob k e1 l e2 hbk => ?_⟩
     have := (hr.mem.obj o' ob k e1 e2).lt l hbk
     omega
    ·exact (h4 i x _ hx (hus i (List.getElem?_eq_some_iff.1 hx).1)).mono hok
end
end Go.Vm
namespace Go.Vm
section
variable {C : Ctx} {Q : Exit → St → Prop} {ops : Array Oper} {rest : List Oper} {o : Oper} {e : List (Nat × SV)} {obs : List Ob} {d : Nat}
def SV.sure : SV → Bool
 | .ptr _ _ => true
 | .ep _ _ => true
 | .d (.pt _) => true
 | _ => false
theorem RepS.sure {w : World} {ok : Nat → Prop} {Ω : List Value} {x : SV} {v : Value} (h : RepS w ok Ω x v) (hx : x.sure = true) : ∃ a, v = .pointer (some a) := by
 cases h with
 | ptr o off b ho => exact ⟨_, rfl⟩
 | ptrG o off b len cap ho => exact ⟨_, rfl⟩
 | ep => exact ⟨_, rfl⟩
 | d x v hd => cases hd with
  | pt => exact ⟨_, rfl⟩
  | _ => cases hx
 | _ => cases hx
theorem AOp.nilCheck {x : Operand} {sv : SV} (ho : o.op = .nilCheck x) (hd : o.dst = some d) (hn : d < C.n) (hx : opS ⟨e, obs⟩ x = some sv) (hs : sv.sure = true) (h : AO C ops rest ⟨(d, sv) :: e, obs⟩ Q) : AOp C ops rest o ⟨e, obs⟩ Q :=
 AOp.value hd hn (fun _ a w hr => by
  obtain ⟨ad, hv⟩ := (hr.eval hx).sure hs
  refine ⟨.pointer (some ad), ?_, by rw [← hv]; exact hr.eval hx⟩
  simp [execOp, ho, hv]) h

theorem run_callF {P : Program} {f : FuncId} {x : Operand} {xs : Array Operand} {ts : Array TypeId} {a : Act} (he : enters P f = true) (ho : o.op = .call { callee := .value x, args := xs, argTypes := ts }) (hx : a.eval x = .func (.func f) #[] #[]) (w : World) :
  (execOp a.eval o).run P w = .ok (.enter f (xs.map a.eval)) w := by
 simp only [execOp, ho, resolve, hx, Deferred.ofValue, Sem.run_bind, Sem.run_pure, Result.andThen_ok, invoke, Array.empty_append, Array.append_empty, run_enters he]
theorem AOp.callF {f : FuncId} {x : Operand} {xs : List Operand} {ts : Array TypeId} {ys : List D} {R : D → Prop} (ho : o.op = .call { callee := .value x, args := xs.toArray, argTypes := ts }) (hd : o.dst = some d) (hn : d < C.n) (hm : C.may = C.may)
  (hfx : opS ⟨e, obs⟩ x = some (.d (.v (.func (.func f) #[] #[])))) (hx : mapO (argD ⟨e, obs⟩) xs = some ys) (hF : FnD C.P f ys R) (h : ∀ r, R r → AO C ops rest ⟨(d, .d r) :: e, obs⟩ Q) : AOp C ops rest o ⟨e, obs⟩ Q := fun Ω a w hr => by
 obtain ⟨hl, hi⟩ := mapO_get hx
 unfold Oper.wp
 rw [run_callF hF.1 ho (hr.evalV hfx), Oper.upon_enter, List.map_toArray]
 refine (hF.2 w (okB C obs Ω w) (xs.map a.eval) (hr.mem.fr.holds hm) (fun b hb => hb.2.1) (by simp [hl]) fun i y v hy hv => ?_).mono fun ed w' ⟨v, r, he, hR, hb, hrep⟩ => ?_
 ·simp only [List.getElem?_map, Option.map_eq_some_iff] at hv
  obtain ⟨x, hxi, rfl⟩ := hv
  have := hi i x y hxi hy
  unfold argD at this
  split at this
  ·rename_i z hz
   exact dataS_rep 9 this (hr.eval hz)
  ·cases this
 ·subst he
  rw [hd]
  refine h r hR Ω _ w' ((hr.below hb).put hn (.d _ _ (hrep.mono fun b hk => ⟨?_, rfl⟩)))
  rcases hk.1 with hk1 | hk1
  ·exact ((hr.mem.below hb).2 b hk1).1
  ·refine ⟨.inr (.inl (Nat.le_trans hr.mem.fr.size hk1)), hk.2, fun o' ob k e1 l e2 hbk => ?_⟩
   have := (hr.mem.obj o' ob k e1 e2).lt l hbk
   omega

theorem Rel.adopt {Ω : List Value} {a : Act} {w : World} {t : Nat} (hr : Rel C ⟨e, obs⟩ Ω a w) (hx : get e t = some (.d (.v (.slice none 0 0)))) (el sz : Nat) :
  Rel C ⟨(t, .own obs.length) :: e, obs ++ [.grow el sz []]⟩ (Ω ++ [.slice none 0 0]) a w := by
 have hlen : obs.length = Ω.length := hr.mem.len
 have hok : ∀ b, okB C obs Ω w b → okB C (obs ++ [.grow el sz []]) (Ω ++ [.slice none 0 0]) w b := fun b hb => ⟨hb.1, hb.2.1, fun o ob k e1 l e2 => by
  rw [List.getElem?_append] at e1 e2
  rw [← hlen] at e2
  split at e1
  ·rename_i hi; rw [if_pos hi] at e2; exact hb.2.2 o ob k e1 l e2
  ·rename_i hi
   rw [if_neg hi] at e2
   have : k = .slice none 0 0 := by
    cases hq : o - obs.length with
    | zero => rw [hq] at e2; exact (Option.some.inj e2).symm
    | succ m => rw [hq] at e2; simp at e2
   subst this
   simp [blk]⟩
 have hΩ : ∀ (o : Nat) v, Ω[o]? = some v → (Ω ++ [.slice none 0 0])[o]? = some v := fun o v h => by
  rw [List.getElem?_append_left (List.getElem?_eq_some_iff.1 h).1]; exact h
 have new1 : ∀ {i : Nat} {ob : Ob} {k : Value}, (obs ++ [.grow el sz []])[i]? = some ob → (Ω ++ [.slice none 0 0])[i]? = some k → (obs[i]? = some ob ∧ Ω[i]? = some k) ∨ (i = obs.length ∧ ob = .grow el sz [] ∧ k = .slice none 0 0) := fun {i ob k} e1 e2 => by
  rw [List.getElem?_append] at e1 e2
  rw [← hlen] at e2
  split at e1
  ·rename_i hi; rw [if_pos hi] at e2; exact .inl ⟨e1, e2⟩
  ·rename_i hi
   rw [if_neg hi] at e2
   cases hq : i - obs.length with
   | zero =>
    rw [hq] at e1 e2
    exact .inr ⟨by omega, (Option.some.inj e1).symm, (Option.some.inj e2).symm⟩
   | succ m => rw [hq] at e1; simp at e1
 refine ⟨hr.defers, hr.size, fun q x hq => ?_, ⟨by simp [hlen], fun i ob k e1 e2 => ?_, fun i j a b p q x hij e1 e2 l1 l2 e3 e4 hp => ?_, fun i ob p b e1 l1 e2 hp => ?_, hr.mem.fr⟩⟩
 ·simp only [get] at hq
  split at hq
  ·rename_i et; subst et; cases hq
   obtain ⟨v, hv, hrep⟩ := hr.env t _ hx
   rw [hrep.val] at hv
   exact ⟨_, hv, .own _ _ (by rw [hlen, List.getElem?_append_right (Nat.le_refl _)]; simp)⟩
  ·obtain ⟨v, hv, hrep⟩ := hr.env q x hq
   exact ⟨v, hv, hrep.mono (fun b hb => ⟨hok b hb, rfl⟩) hΩ⟩
 ·rcases new1 e1 e2 with ⟨f1, f2⟩ | ⟨_, rfl, rfl⟩
  ·exact (hr.mem.obj i ob k f1 f2).mono (fun b hb => ⟨hok b hb, rfl⟩) hΩ (fun _ _ _ => rfl)
  ·exact ⟨0, [], World.ownsRow_nil w 0 el sz, rfl, fun i x y hx => by simp at hx⟩
 ·rcases new1 e1 e3 with ⟨f1, f2⟩ | ⟨_, rfl, rfl⟩
  ·rcases new1 e2 e4 with ⟨g1, g2⟩ | ⟨_, rfl, rfl⟩
   ·exact hr.mem.sep i j a b p q x hij f1 g1 l1 l2 f2 g2 hp
   ·simp [blk]
  ·cases hp
 ·rcases new1 e1 e2 with ⟨f1, f2⟩ | ⟨_, rfl, rfl⟩
  ·exact hr.mem.new i ob p b f1 l1 f2 hp
  ·cases hp
theorem AC.adopt (t el sz : Nat) {c : Code} (hx : get e t = some (.d (.v (.slice none 0 0)))) (h : AC C c ⟨(t, .own obs.length) :: e, obs ++ [.grow el sz []]⟩ Q) : AC C c ⟨e, obs⟩ Q :=
 fun Ω a w hr => h _ a w (hr.adopt hx el sz)
theorem AO.adopt {l : List Oper} (t el sz : Nat) (hx : get e t = some (.d (.v (.slice none 0 0)))) (h : AO C ops l ⟨(t, .own obs.length) :: e, obs ++ [.grow el sz []]⟩ Q) : AO C ops l ⟨e, obs⟩ Q :=
 fun Ω a w hr => h _ a w (hr.adopt hx el sz)
end
end Go.Vm

/- Truncation of what may be no number; calls of functions without a Go body that draw. -/
set_option linter.unusedVariables false
set_option linter.unusedSimpArgs false
namespace Flt
open Go Ieee Go.Vm
def isNan (x : Nat) : Bool := (FloatKind.f64.decode x).isNaN
def truncN (x : Nat) : Nat := bif isNan x then x else truncD x
def TruncR (x z : Nat) : Prop := (isNan x = false → z = truncD x) ∧ (isNan x = true → isNan z = true)
theorem truncN_of {x : Nat} (h : isNan x = false) : truncN x = truncD x := by unfold truncN; rw [h]; rfl
theorem order_nan {x y : Nat} (h : isNan y = true) : FloatKind.f64.format.order x y = none := by
 unfold isNan at h
 have h' : (double.read y).isNaN = true := h
 unfold Ieee.Format.order
 show Ieee.Datum.order (double.read x) (double.read y) = none
 generalize double.read y = d at *
 generalize double.read x = c
 cases d with
 | nan s t => cases c <;> rfl
 | number s m e => cases h'
 | infinity s => cases h'
theorem TruncR.order {x z : Nat} (h : TruncR x z) (y : Nat) : FloatKind.f64.format.order y z = FloatKind.f64.format.order y (truncN x) := by
 cases hx : isNan x with
 | false => rw [h.1 hx, truncN_of hx]
 | true => rw [order_nan (h.2 hx), order_nan (by unfold truncN; rw [hx]; exact hx)]
theorem TruncR.feq {x z : Nat} (h : TruncR x z) (y : Nat) : feq y z = feq y (truncN x) := by unfold Vm.feq; exact congrArg (· == some Ordering.eq) (h.order y)
end Flt
namespace Go.Vm
section
variable {C : Ctx} {Q : Exit → St → Prop} {ops : Array Oper} {rest : List Oper} {o : Oper} {e : List (Nat × SV)} {obs : List Ob} {d : Nat}
end
end Go.Vm

/- Regions that draw their order, walked in an order of one's own. -/
set_option linter.unusedVariables false
namespace Go.Vm

section
variable {C : Ctx} {ops : Array Oper} {obs : List Ob} {md : Region.Mode}

structure HInv (md : Region.Mode) (ops : Array Oper) (hs : List Nat) (listed : Array Bool) : Prop where
 size : listed.size = ops.size
 closed : ∀ j oj, ops[j]? = some oj → listed.getD j false = true → ∀ e ∈ oj.after, Region.binds md e = true → listed.getD e.on false = true
 tail : ∀ t, t ∉ hs → t < ops.size → listed.getD t true = false

theorem HInv.set {hs : List Nat} {i : Nat} {listed : Array Bool} (inv : HInv md ops hs listed) (hi : i ∈ Region.ready md ops listed) (hin : i ∈ hs) : HInv md ops hs (listed.setIfInBounds i true) := by
 obtain ⟨_, oi, hoi, hall⟩ := mem_ready.1 hi
 refine ⟨by simp [inv.size], fun j oj hj hl e he hb => ?_, fun t ht ht' => by rw [getD_set_ne true (show i ≠ t from fun e => ht (by rw [← e]; exact hin))]; exact inv.tail t ht ht'⟩
 by_cases hij : i = j
 ·subst hij
  have : oj = oi := Option.some.inj (hj.symm.trans hoi)
  subst this
  exact getD_set_true (hall e he hb)
 ·rw [getD_set_ne false hij] at hl
  exact getD_set_true (inv.closed j oj hj hl e he hb)

def ancB (md : Region.Mode) (ops : Array Oper) : Nat → Nat → Nat → Bool
 | 0, _, _ => false
 | f + 1, j, i => match ops[j]? with
  | some oj => oj.after.any fun e => Region.binds md e && (e.on == i || ancB md ops f e.on i)
  | none => false
theorem anc_listed {hs : List Nat} {listed : Array Bool} (inv : HInv md ops hs listed) : ∀ (f j i : Nat), ancB md ops f j i = true → (∀ oj, ops[j]? = some oj → ∀ e ∈ oj.after, Region.binds md e = true → listed.getD e.on false = true) → listed.getD i false = true
 | 0, _, _, h, _ => by cases h
 | f + 1, j, i, h, hd => by
  unfold ancB at h
  split at h
  ·rename_i oj hj
   obtain ⟨e, he, hb⟩ := Array.any_eq_true'.1 h
   simp only [Bool.and_eq_true, Bool.or_eq_true, beq_iff_eq] at hb
   have hl := hd oj hj e he hb.1
   rcases hb.2 with rfl | hb2
   ·exact hl
   ·exact anc_listed inv f e.on i hb2 (fun ok hk e' he' hb' => inv.closed e.on ok hk hl e' he' hb')
  ·cases h

def HFirst (md : Region.Mode) (ops : Array Oper) (hs : List Nat) : Prop := ∀ listed, HInv md ops hs listed → ∀ i ∈ hs, listed.getD i true = false → ∀ j ∈ Region.ready md ops listed, j ∈ hs

def tailO (md : Region.Mode) (ops : Array Oper) : List Nat → Array Bool → Bool
 | [], listed => (Region.ready md ops listed).isEmpty
 | t :: ts, listed => decide (Region.ready md ops listed = [t]) && tailO md ops ts (listed.setIfInBounds t true)
def headO (md : Region.Mode) (ops : Array Oper) (ts : List Nat) : List Nat → Array Bool → Bool
 | [], listed => tailO md ops ts listed
 | i :: is, listed => (Region.ready md ops listed).contains i && Region.free md ops listed i && headO md ops ts is (listed.setIfInBounds i true)
def opsAt (ops : Array Oper) (is : List Nat) : List Oper := is.map fun i => ops.getD i default

theorem wpAny_of_tailO {Q' : Exit → Act → World → Prop} {P : Program} : ∀ (ts : List Nat) (listed : Array Bool) (a : Act) (w : World), ts.all (· < ops.size) = true →
  tailO md ops ts listed = true → wpList P ops Q' (opsAt ops ts) a w → wpAny P md ops Q' ts.length listed a w
 | [], _, _, _, _, hB, h => ⟨by simpa [tailO] using hB, h⟩
 | t :: ts, listed, a, w, hl, hB, h => by
  simp only [List.all_cons, Bool.and_eq_true, decide_eq_true_eq] at hl
  have h0 : ops[t]? = some (ops.getD t default) := by simp [hl.1]
  simp only [tailO, Bool.and_eq_true, decide_eq_true_eq] at hB
  refine ⟨fun h1 => (by rw [hB.1] at h1; cases h1), fun i hi => ?_⟩
  rw [hB.1] at hi
  have hik : i = t := by simpa using hi
  subst hik
  have hw : wpOp P ops Q' i (wpList P ops Q' (opsAt ops ts)) a w := by unfold wpOp; simp only [h0]; exact h
  exact wpOp_mono (fun a' w' h' => wpAny_of_tailO ts _ a' w' hl.2 hB.2 h') hw

end
end Go.Vm

/- Floats that may be no numbers: arithmetic leaves the result open; what is finite. -/
set_option linter.unusedVariables false
set_option linter.unusedSimpArgs false
namespace Flt
open Go Go.Vm Ieee
def nanB (r : Nat) : Prop := (double.read r).isNaN = true
end Flt
namespace Go.Vm
open Flt (nanB)
section
variable {C : Ctx} {Q : Exit → St → Prop} {ops : Array Oper} {rest : List Oper} {o : Oper} {e : List (Nat × SV)} {obs : List Ob} {d : Nat} {t ty : TypeId} {x y : Operand}
end
end Go.Vm

/- make of slices; stores at places that turn; own slices in own structs. -/
set_option linter.unusedVariables false
set_option linter.unusedSimpArgs false
namespace Go.Vm
section
variable {C : Ctx} {Q : Exit → St → Prop} {ops : Array Oper} {rest : List Oper} {o : Oper} {e : List (Nat × SV)} {obs : List Ob} {d : Nat}

theorem AOp.store1 {t : TypeId} {x y : Operand} {p off : Nat} {ty : TypeId} {cells : List SV} {sv s1 : SV} (ho : o.op = .store t x y) (hd : o.dst = none) (hx : opS ⟨e, obs⟩ x = some (.ptr p off)) (hy : opS ⟨e, obs⟩ y = some sv)
  (hs : sizeT C.P t = some 1) (h1 : s1.plain = true) (hl : cellsS sv = [s1]) (hp : obs[p]? = some (.fix ty cells)) (hc : off < cells.length)
  (h : AO C ops rest ⟨e, obs.set p (.fix ty (cells.set off s1))⟩ Q) : AOp C ops rest o ⟨e, obs⟩ Q :=
 AOp.store ho hd hx hy hs (by rw [hl]; simp [h1]) (by rw [hl]; rfl) hp (by omega) (by
  rw [hl]
  have : cells.take off ++ [s1] ++ cells.drop (off + 1) = cells.set off s1 := by
   rw [List.set_eq_take_append_cons_drop, if_pos hc]; simp
  rw [this]; exact h)

theorem AOp.makeSlice {t el bytes n : Nat} {x y : Operand} {z : Value} {ik : IntKind} (ho : o.op = .makeSlice t x y) (hd : o.dst = some d) (hn : d < C.n)
  (hx : opS ⟨e, obs⟩ x = some (.d (.v (.int ik (n : Int))))) (hy : opS ⟨e, obs⟩ y = some (.d (.v (.int ik (n : Int))))) (ht : elemT C.P t = some (el, 1)) (hi : (C.P.info? el).map (fun i => (i.zero, i.size, i.bytes)) = some (some z, 1, bytes)) (hz : z.cells = #[z]) (h1 : z.oneCell' = true)
  (hb : bytes * n ≤ 281474976710656) (h63 : n ≤ maxLen)
  (h : AO C ops rest ⟨(d, .sl obs.length 1 0 n n) :: e, obs ++ [.fix el (List.replicate n (.d (.v z)))]⟩ Q) : AOp C ops rest o ⟨e, obs⟩ Q := by
 refine AOp.step hd hn (fun Ω a w hr => ?_) h
 obtain ⟨hu, hs⟩ := elemT_spec ht
 obtain ⟨i, hii, hie⟩ : ∃ i, C.P.info? el = some i ∧ (i.zero, i.size, i.bytes) = (some z, 1, bytes) := by
  cases hq : C.P.info? el with
  | none => rw [hq] at hi; cases hi
  | some i => rw [hq] at hi; exact ⟨i, rfl, Option.some.inj hi⟩
 simp only [Prod.mk.injEq] at hie
 obtain ⟨e1, e2, e3⟩ := hie
 have h63' : (n : Int) ≤ 9223372036854775807 := by simp only [maxLen] at h63; omega
 have hb' : (i.bytes : Int) * (n : Int) ≤ 281474976710656 := by
  rw [e3]
  have h : ((bytes * n : Nat) : Int) ≤ 281474976710656 := by omega
  rwa [Int.natCast_mul] at h
 have hrun := run_make (P := C.P) w t el i z hu hii e1 ik ik (n : Int) (n : Int) (by omega) (Int.le_refl _) hb' h63'
 have hm : madeCells z.cells ((n : Int).toNat * i.size) = (List.replicate n z).toArray := by
  rw [hz, e2, Int.toNat_natCast, Nat.mul_one]
  apply Array.ext'
  rw [toList_madeCells_one]
 rw [hm, Int.toNat_natCast] at hrun
 have hal := hr.alloc el (List.replicate n (.d (.v z))) (List.replicate n z) (by simp) (fun j x y hx hy => by
  have hj := (List.getElem?_eq_some_iff.1 hx).1
  simp at hj
  rw [List.getElem?_replicate, if_pos hj] at hx hy
  cases hx; cases hy
  exact .d _ _ (.v _)) (fun y hy => by rw [List.eq_of_mem_replicate hy]; exact h1)
 refine ⟨.slice (some ⟨w.heap.size, 0, none⟩) n n, _, _, ?_, hal, .sl _ _ _ _ _ _ ?_⟩
 ·simp only [execOp, ho, hr.evalV hx, hr.evalV hy, Sem.run_bind, hrun, Result.andThen_ok, Sem.run_pure]
 ·have := hr.mem.len
  dsimp only at this
  rw [this, List.getElem?_append_right (Nat.le_refl _)]; simp
theorem AOp.storeOwn {t : TypeId} {x y : Operand} {p off n : Nat} {ty : TypeId} {cells : List SV} {q tyq szq : Nat} {cq : List D} (ho : o.op = .store t x y) (hd : o.dst = none) (hx : opS ⟨e, obs⟩ x = some (.ptr p off)) (hy : opS ⟨e, obs⟩ y = some (.own q)) (hq : obs[q]? = some (.grow tyq szq cq)) {L : List SV} (hL : [SV.own q] = L)
  (hs : sizeT C.P t = some n) (hl : L.length = n) (hp : obs[p]? = some (.fix ty cells)) (hc : off + n ≤ cells.length)
  (h : AO C ops rest ⟨e, obs.set p (.fix ty (cells.take off ++ L ++ cells.drop (off + n)))⟩ Q) : AOp C ops rest o ⟨e, obs⟩ Q := by
 refine AOp.skip hd (fun Ω a w hr => ?_) h
 obtain ⟨b, vs, hev, hΩ, hw, hvl, hrr, hone⟩ := hr.fix hp (hr.eval hx)
 obtain ⟨us, huc, hul, hur, huone⟩ : ∃ us : List Value, (a.eval y).cells = us.toArray ∧ us.length = L.length ∧ (∀ (i : Nat) p r, L[i]? = some p → us[i]? = some r → RepS w (okB C obs Ω w) Ω p r) ∧ ∀ z, z ∈ us → z.oneCell' = true := by
  subst hL
  obtain ⟨m, xs, hΩq, how, _, _⟩ := hr.growV hq (hr.eval hy)
  have hsl : ∃ ad l c, a.eval y = .slice ad l c := by
   rcases how.2 with ⟨h, _⟩ | ⟨g, cap, cur, h, _⟩
   ·exact ⟨_, _, _, h⟩
   ·exact ⟨_, _, _, h⟩
  obtain ⟨ad, l, c, hsl⟩ := hsl
  refine ⟨[a.eval y], by rw [hsl]; rfl, rfl, fun i p r hp hr2 => ?_, fun z hz => by
   rw [List.mem_singleton] at hz; rw [hz, hsl]; rfl⟩
  cases i with
  | zero => cases hp; cases hr2; exact hr.eval hy
  | succ i => simp at hp
 have hst := run_storeCells_at C.P b off ty us 0 vs.toArray w hw (by simp; omega) huone
 simp only [Nat.add_zero] at hst
 have key := hr.mem.set hp hΩ hw (vs.take off ++ us ++ vs.drop (off + us.length)) (cells' := cells.take off ++ L ++ cells.drop (off + n)) (by simp; omega)
  (fun i x y hx hy => by
   have la : (cells.take off).length = off := by simp; omega
   have lb : (vs.take off).length = off := by simp; omega
   rw [List.append_assoc, List.getElem?_append] at hx hy
   rw [la] at hx
   rw [lb] at hy
   split at hx
   ·rename_i hi
    rw [if_pos hi] at hy
    rw [List.getElem?_take, if_pos hi] at hx hy
    exact hrr i x y hx hy
   ·rename_i hi
    rw [if_neg hi] at hy
    rw [List.getElem?_append] at hx hy
    split at hx
    ·rename_i hj
     rw [if_pos (by omega)] at hy
     exact hur _ x y hx hy
    ·rename_i hj
     rw [if_neg (by omega)] at hy
     rw [List.getElem?_drop] at hx hy
     rw [hul, hl] at hy
     rw [hl] at hx
     exact hrr _ x y hx hy)
  (fun y hy => by
   rcases List.mem_append.1 hy with hy | hy
   ·rcases List.mem_append.1 hy with hy | hy
    ·exact hone y (List.mem_of_mem_take hy)
    ·exact huone y hy
   ·exact hone y (List.mem_of_mem_drop hy))
 have hrel : Rel C ⟨e, obs.set p (.fix ty (cells.take off ++ L ++ cells.drop (off + n)))⟩ Ω a (w.setRow b (vs.take off ++ us ++ vs.drop (off + us.length)).toArray) :=
  ⟨hr.defers, hr.size, fun t x hx => let ⟨v, hv, hr'⟩ := hr.env t x hx; ⟨v, hv, hr'.mono key.2 (fun _ _ e => e)⟩, key.1⟩
 refine ⟨_, Ω, ?_, hrel⟩
 have hsz : (a.eval y).cells.size = n := by rw [huc]; simp; omega
 have huc' : (a.eval y).cells.toList = us := by rw [huc]
 simp only [execOp, ho, hev, Instr.storeAt, Instr.sureAddr, storeVar, Sem.run_bind, Sem.run_pure, Result.andThen_ok, run_sizeOf hs, hsz, ne_eq, not_true_eq_false, if_false, huc', hst, Sem.run_ite]

end
end Go.Vm

/- Slice expressions on data; shifts; slices made to be appended to. -/
set_option linter.unusedVariables false
set_option linter.unusedSimpArgs false
namespace Go.Vm
section
variable {C : Ctx} {Q : Exit → St → Prop} {ops : Array Oper} {rest : List Oper} {o : Oper} {e : List (Nat × SV)} {obs : List Ob} {d : Nat} {t ty : TypeId} {x y : Operand}

theorem AOp.ishr {k k' : IntKind} {a z : Int} {n : Nat} (ho : o.op = .binOp .shr t x y ty) (hd : o.dst = some d) (hn : d < C.n) (hx : opS ⟨e, obs⟩ x = some (.d (di k a))) (hy : opS ⟨e, obs⟩ y = some (.d (di k' (n : Int))))
  (hb : n ≤ k.bits) (h0 : 0 ≤ a) (hz : a / 2 ^ n = z) (h : AO C ops rest ⟨(d, .d (di k z)) :: e, obs⟩ Q) : AOp C ops rest o ⟨e, obs⟩ Q :=
 AOp.bin ho hd hn hx hy rfl (fun w => by
  have h1 : ¬ ((n : Int) < 0) := by omega
  have h2 : min n k.bits = n := Nat.min_eq_left hb
  have h3 : a.fdiv (2 ^ n) = z := by rw [← hz]; exact Int.fdiv_eq_ediv_of_nonneg a (Int.le_of_lt (Int.pow_pos (by decide)))
  simp [binOp, Op.shift, h1, h2, h3]) h
theorem Rel.begin {Ω : List Value} {a : Act} {w w' : World} (hr : Rel C ⟨e, obs⟩ Ω a w) (hbel : RowKit.Below w.heap.size w w') {el sz n : Nat} {v : Value} {xs : List Value} {cells : List D} (how : w'.ownsRow 0 el sz v n xs)
  (hb : ∀ b, blk v = some b → w.heap.size ≤ b) (hl : xs.length = cells.length) (hc : ∀ (i : Nat) x y, cells[i]? = some x → xs[i]? = some y → RepD w (okB C obs Ω w) x y) :
  Rel C ⟨e, obs ++ [.grow el sz cells]⟩ (Ω ++ [v]) a w' := by
 have hlen : obs.length = Ω.length := hr.mem.len
 have new1 : ∀ {i : Nat} {ob : Ob} {k : Value}, (obs ++ [.grow el sz cells])[i]? = some ob → (Ω ++ [v])[i]? = some k → (obs[i]? = some ob ∧ Ω[i]? = some k) ∨ (i = obs.length ∧ ob = .grow el sz cells ∧ k = v) := fun {i ob k} e1 e2 => by
  rw [List.getElem?_append] at e1 e2
  rw [← hlen] at e2
  split at e1
  ·rename_i hi; rw [if_pos hi] at e2; exact .inl ⟨e1, e2⟩
  ·rename_i hi
   rw [if_neg hi] at e2
   cases hq : i - obs.length with
   | zero =>
    rw [hq] at e1 e2
    exact .inr ⟨by omega, (Option.some.inj e1).symm, (Option.some.inj e2).symm⟩
   | succ m => rw [hq] at e1; simp at e1
 have hok : ∀ b, okB C obs Ω w b → okB C (obs ++ [.grow el sz cells]) (Ω ++ [v]) w' b ∧ w'.heap[b]? = w.heap[b]? := fun b hk => ⟨⟨hk.1, Nat.lt_of_lt_of_le hk.2.1 hbel.size, fun i ob k e1 l e2 => by
  rcases new1 e1 e2 with ⟨f1, f2⟩ | ⟨_, rfl, rfl⟩
  ·exact hk.2.2 i ob k f1 l f2
  ·intro he
   have := hb b he
   have := hk.2.1
   omega⟩, hbel.block b hk.2.1⟩
 have hΩ : ∀ (o : Nat) u, Ω[o]? = some u → (Ω ++ [v])[o]? = some u := fun o u h => by
  rw [List.getElem?_append_left (List.getElem?_eq_some_iff.1 h).1]; exact h
 have lt : ∀ {i : Nat} {ob : Ob} {k : Value} {b : Nat}, obs[i]? = some ob → ob.live = true → Ω[i]? = some k → blk k = some b → b < w.heap.size := fun e1 l e2 hbk => (hr.mem.obj _ _ _ e1 e2).lt l hbk
 refine ⟨hr.defers, hr.size, fun q x hq => ?_, ⟨by simp [hlen], fun i ob k e1 e2 => ?_, fun i j x y p q b hij e1 e2 l1 l2 e3 e4 hp => ?_, fun i ob k b e1 l1 e2 hp => ?_, ?_⟩⟩
 ·obtain ⟨u, hu, hrep⟩ := hr.env q x hq
  exact ⟨u, hu, hrep.mono hok hΩ⟩
 ·rcases new1 e1 e2 with ⟨f1, f2⟩ | ⟨_, rfl, rfl⟩
  ·exact (hr.mem.obj i ob k f1 f2).mono hok hΩ (fun b hbk l => hbel.block b (lt f1 l f2 hbk))
  ·exact ⟨n, xs, how, hl, fun i x y hx hy => (hc i x y hx hy).mono hok⟩
 ·rcases new1 e1 e3 with ⟨f1, f2⟩ | ⟨h1, rfl, rfl⟩
  ·rcases new1 e2 e4 with ⟨g1, g2⟩ | ⟨_, rfl, rfl⟩
   ·exact hr.mem.sep i j x y p q b hij f1 g1 l1 l2 f2 g2 hp
   ·intro he
    have h1 := hb b he
    have h2 := lt f1 l1 f2 hp
    omega
  ·rcases new1 e2 e4 with ⟨g1, g2⟩ | ⟨h2, _, _⟩
   ·intro he
    have h1 := hb b hp
    have h2 := lt g1 l2 g2 he
    omega
   ·omega
 ·rcases new1 e1 e2 with ⟨f1, f2⟩ | ⟨_, rfl, rfl⟩
  ·exact hr.mem.new i ob k b f1 l1 f2 hp
  ·left; exact Nat.le_trans hr.mem.fr.size (hb b hp)
 ·exact ⟨hbel.os.trans hr.mem.fr.os, hbel.tape.trans hr.mem.fr.tape, hbel.output.trans hr.mem.fr.output, Nat.le_trans hr.mem.fr.size hbel.size, fun b e1 e2 => (hbel.block b (Nat.lt_of_lt_of_le e1 hr.mem.fr.size)).trans (hr.mem.fr.block b e1 e2), hr.mem.fr.glob, hr.mem.fr.gmay⟩

theorem RepD.sliced {w : World} {ok : Nat → Prop} {sz n l h : Nat} {cells : List D} {v : Value} (hr : RepD w ok (.ds sz cells) v) (hsz : 0 < sz) (hl : cells.length = n * sz) (h1 : l ≤ h) (h2 : h ≤ n) :
  ∃ a m c, v = .slice a m c ∧ h ≤ c ∧ m = n ∧ RepD w ok (.ds sz ((cells.drop (l * sz)).take ((h - l) * sz))) (.slice (if c = l then a else a.map (·.add (l * sz))) (h - l) (c - l)) := by
 have empty : ∀ (a : Option Addr) (c : Nat), h - l = 0 → RepD w ok (.ds sz ((cells.drop (l * sz)).take ((h - l) * sz))) (.slice a (h - l) c) := fun a c h0 => by
  rw [h0]; simp; exact .nil _ _ _
 cases hr with
 | nil _ a c =>
  have hn : n = 0 := by
   rcases Nat.eq_zero_or_pos n with h | h
   ·exact h
   ·have := Nat.mul_pos h hsz; simp at hl; omega
  subst hn
  exact ⟨a, 0, c, rfl, by omega, rfl, empty _ _ (by omega)⟩
 | ds _ b off len cap _ vals hl2 hc hb hcell hrr =>
  have hm : len = n := Nat.eq_of_mul_eq_mul_right hsz (by rw [← hl2, hl])
  subst hm
  refine ⟨_, len, cap, rfl, by omega, rfl, ?_⟩
  rcases Nat.eq_zero_or_pos (h - l) with h0 | h0
  ·exact empty _ _ h0
  ·rw [if_neg (by omega)]
   have hlen : ((cells.drop (l * sz)).take ((h - l) * sz)).length = (h - l) * sz := by
    have : h * sz ≤ len * sz := Nat.mul_le_mul_right _ h2
    have e1 : (h - l) * sz = h * sz - l * sz := Nat.sub_mul _ _ _
    simp; omega
   show RepD w ok _ (.slice (some ((⟨b, off, none⟩ : Addr).add (l * sz))) (h - l) (cap - l))
   rw [Addr.add_of]
   refine .ds _ _ _ _ _ _ (fun i => vals (l * sz + i)) hlen (by omega) hb (fun i hi => ?_) (fun i x hx => ?_)
   ·rw [Nat.add_assoc]
    rw [hlen] at hi
    have : h * sz ≤ len * sz := Nat.mul_le_mul_right _ h2
    have e1 : (h - l) * sz = h * sz - l * sz := Nat.sub_mul _ _ _
    exact hcell (l * sz + i) (by omega)
   ·rw [List.getElem?_take] at hx
    split at hx
    ·rw [List.getElem?_drop] at hx; exact hrr _ _ hx
    ·cases hx

theorem elem_of {P : Program} {t el sz : TypeId} (h : elemT P t = some (el, sz)) : P.underlying t = some (.slice (P.elem t)) ∧ (sizeOf (P.elem t)).run P = (sizeOf el).run P := by
 obtain ⟨hu, _⟩ := elemT_spec h
 have : P.elem t = el := by simp [Program.elem, hu]
 rw [this]; exact ⟨hu, rfl⟩
end
end Go.Vm

/- Two ways that meet again. -/
set_option linter.unusedVariables false
namespace Go.Vm
end Go.Vm

/- A slice of one's own, appended to no more, is data. -/
set_option linter.unusedVariables false
namespace Go.Vm
section
variable {C : Ctx} {Q : Exit → St → Prop} {ops : Array Oper} {e : List (Nat × SV)} {obs : List Ob}
theorem Rel.freezeOwn {Ω : List Value} {a : Act} {w : World} (hr : Rel C ⟨e, obs⟩ Ω a w) (hm : C.may = C.may) {t p ty sz : Nat} {cells : List D} (hx : get e t = some (.own p)) (hp : obs[p]? = some (.grow ty sz cells)) :
  Rel C ⟨(t, .d (.ds sz cells)) :: e, obs.set p .dead⟩ Ω a w := by
 obtain ⟨hmem, hok⟩ := hr.mem.kill p
 obtain ⟨v, hv, hrep⟩ := hr.env t _ hx
 obtain ⟨n, xs, hΩ, how, hxl, hrr⟩ := hr.growV hp hrep
 have hd : RepD w (okB C (obs.set p .dead) Ω w) (.ds sz cells) v := by
  rcases how.2 with ⟨rfl, h0⟩ | ⟨g, cap, cur, rfl, _, hg, hnc, _, hcs, hct⟩
  ·have : cells = [] := List.eq_nil_of_length_eq_zero (by rw [← hxl, how.1, h0]; simp)
   subst this; exact .nil _ _ _
  ·have hcell : ∀ (i : Nat), i < cells.length → xs[i]? = some (xs.getD i undef) := fun i hi => by
    rw [List.getD_eq_getElem?_getD, List.getElem?_eq_getElem (by omega)]; rfl
   refine .ds _ _ _ _ _ _ (fun i => xs.getD i undef) (by rw [← hxl, how.1]) hnc ⟨?_, (Array.getElem?_eq_some_iff.1 hg).1, fun i ob k e1 l e2 => ?_⟩ (fun i hi => ?_) (fun i x hx => ?_)
   ·rcases hr.mem.new p _ _ g hp rfl hΩ rfl with h | h
    ·exact .inr (.inl h)
    ·exact .inr (.inr h)
   ·rcases get_set e1 with ⟨rfl, rfl, _⟩ | ⟨hi, e1⟩
    ·cases l
    ·exact hr.mem.sep p i _ _ _ _ g (Ne.symm hi) hp e1 rfl l hΩ e2 rfl
   ·rw [Nat.zero_add, cell_of_row w g i cur ty (0, 0) hg]
    have hin : i < n * sz := by have := how.1; omega
    have h1 : xs[i]? = cur.toList[i]? := by rw [← hct, List.getElem?_take, if_pos hin]
    have h2 := hcell i hi
    rw [h1] at h2
    simpa using h2
   ·exact (hrr i x _ hx (hcell i (List.getElem?_eq_some_iff.1 hx).1)).mono fun b hb => ⟨hok b hb, rfl⟩
 refine ⟨hr.defers, hr.size, fun q x hq => ?_, hmem⟩
 simp only [get] at hq
 split at hq
 ·rename_i h; subst h; cases hq; exact ⟨v, hv, .d _ _ hd⟩
 ·obtain ⟨u, hu, hrep⟩ := hr.env q x hq
  exact ⟨u, hu, hrep.mono (fun b hb => ⟨hok b hb, rfl⟩) (fun _ _ e => e)⟩
theorem AO.freeze {l : List Oper} (t p : Nat) {ty sz : Nat} {cells : List D} (hm : C.may = C.may) (hx : get e t = some (.own p)) (hp : obs[p]? = some (.grow ty sz cells))
  (h : AO C ops l ⟨(t, .d (.ds sz cells)) :: e, obs.set p .dead⟩ Q) : AO C ops l ⟨e, obs⟩ Q := fun Ω a w hr => h _ a w (hr.freezeOwn hm hx hp)
end
end Go.Vm

/- Printed functions: how what they say is taken apart beside a walk; further rules of the view. -/
set_option linter.unusedVariables false
set_option linter.unusedSimpArgs false
namespace Go.Vm

def need {α : Type} (p : Prop) [Decidable p] (k : Option α) : Option α := if p then k else none
theorem need_elim {α : Type} {p : Prop} [Decidable p] {k : Option α} {r : α} (h : need p k = some r) : p ∧ k = some r := by
 unfold need at h; split at h
 ·exact ⟨by assumption, h⟩
 ·cases h
theorem need_pos {α : Type} {p : Prop} [Decidable p] (h : p) (k : Option α) : need p k = k := by unfold need; rw [if_pos h]
theorem bind_elim {α β : Type} {o : Option α} {k : α → Option β} {r : β} (h : o.bind k = some r) : ∃ y, o = some y ∧ k y = some r := by
 cases o with
 | none => cases h
 | some y => exact ⟨y, rfl, h⟩
theorem cT {α : Type} {b : Bool} {x y : α} {r : α} (h : cond b x y = r) (hb : b = true) : x = r := by subst hb; exact h
theorem cF {α : Type} {b : Bool} {x y : α} {r : α} (h : cond b x y = r) (hb : b = false) : y = r := by subst hb; exact h
def iter {V T : Type} (b : (V → Option T) → V → Option T) : Nat → V → Option T
 | 0, _ => none
 | n + 1, v => b (iter b n) v
def aft {V R T : Type} (o : Sum V R) (ret : R → Option T) (k : V → Option T) : Option T := match o with
 | .inl v => k v
 | .inr r => ret r
def idx {α : Type} (l : List α) (i : Int) : Option α := if 0 ≤ i then l[i.toNat]? else none
theorem idx_elim {α β : Type} {l : List α} {i : Int} {k : α → Option β} {r : β} (h : (idx l i).bind k = some r) : ∃ y, (0 ≤ i ∧ l[i.toNat]? = some y) ∧ k y = some r := by
 obtain ⟨y, h1, h2⟩ := bind_elim h
 unfold idx at h1; split at h1
 ·exact ⟨y, ⟨by assumption, h1⟩, h2⟩
 ·cases h1
theorem idx_some {α : Type} {l : List α} {i : Int} {n : Nat} {y : α} (h : l[n]? = some y) (hi : i = n) : idx l i = some y := by
 subst hi; unfold idx; rw [if_pos (by omega)]; simpa using h
def inI (k : IntKind) (z : Int) : Prop := lo k ≤ z ∧ z ≤ hi k
instance (k : IntKind) (z : Int) : Decidable (inI k z) := by unfold inI; exact inferInstance

/-! ### Lists of cells -/
theorem len1 {α : Type} (f : α → D) (l : List α) : (l.map f).length = l.length * 1 := by simp
theorem lt1 {α : Type} {f : α → D} {l : List α} {i : Nat} {y : α} (h : l[i]? = some y) : i * 1 < (l.map f).length := by
 have := (List.getElem?_eq_some_iff.1 h).1; simp; exact this
theorem at1 {α : Type} {f : α → D} {l : List α} {i : Nat} {y : α} (h : l[i]? = some y) : (l.map f)[i * 1]? = some (f y) := by simp [h]
theorem lenN {α : Type} (f : α → List D) (sz : Nat) (hf : ∀ x, (f x).length = sz) (l : List α) : (l.flatMap f).length = l.length * sz := by
 induction l with
 | nil => simp
 | cons a l ih => simp [ih, hf, Nat.add_mul]; omega
theorem splitN {α : Type} (f : α → List D) (sz : Nat) (hf : ∀ x, (f x).length = sz) : ∀ (l : List α) (i : Nat), (l.flatMap f).drop (i * sz) = (l.drop i).flatMap f
 | [], i => by simp
 | a :: l, 0 => by simp
 | a :: l, i + 1 => by
  have e : (i + 1) * sz = (f a).length + i * sz := by rw [hf, Nat.add_mul]; omega
  rw [List.flatMap_cons, e, ← List.drop_drop, List.drop_left, splitN f sz hf l i]
  rfl
theorem ltN {α : Type} {f : α → List D} (sz : Nat) (hf : ∀ x, (f x).length = sz) (h0 : 0 < sz) {l : List α} {i : Nat} {y : α} (h : l[i]? = some y) : i * sz < (l.flatMap f).length := by
 rw [lenN f sz hf]
 exact Nat.mul_lt_mul_of_pos_right (List.getElem?_eq_some_iff.1 h).1 h0
theorem leN {α : Type} {f : α → List D} (sz : Nat) (hf : ∀ x, (f x).length = sz) {l : List α} {i : Nat} {y : α} (h : l[i]? = some y) : i * sz + sz ≤ (l.flatMap f).length := by
 rw [lenN f sz hf]
 have : (i + 1) * sz ≤ l.length * sz := Nat.mul_le_mul_right _ (List.getElem?_eq_some_iff.1 h).1
 rw [Nat.add_mul] at this; omega
theorem atN {α : Type} {f : α → List D} (sz : Nat) (hf : ∀ x, (f x).length = sz) {l : List α} {i : Nat} {y : α} (h : l[i]? = some y) : ((l.flatMap f).drop (i * sz)).take sz = f y := by
 rw [splitN f sz hf]
 have hlt := (List.getElem?_eq_some_iff.1 h).1
 have hy : l[i] = y := (List.getElem?_eq_some_iff.1 h).2
 rw [List.drop_eq_getElem_cons hlt, List.flatMap_cons, hy]
 have : sz = (f y).length := (hf y).symm
 conv => lhs; arg 1; rw [this]
 simp
theorem sub1 {α : Type} (f : α → D) (l : List α) (a b : Nat) : ((l.map f).drop (a * 1)).take ((b - a) * 1) = ((l.drop a).take (b - a)).map f := by simp [List.map_take, List.map_drop]
theorem cat1 {α : Type} (f : α → D) (l m : List α) : l.map f ++ m.map f = (l ++ m).map f := by simp
theorem catN {α : Type} (f : α → List D) (l m : List α) : l.flatMap f ++ m.flatMap f = (l ++ m).flatMap f := by simp
theorem one1 {α : Type} (f : α → D) (hf : ∀ x, (f x).one = true) (l : List α) : ∀ x, x ∈ l.map f → x.one = true := fun x hx => by
 obtain ⟨y, _, rfl⟩ := List.mem_map.1 hx; exact hf y
theorem oneN {α : Type} (f : α → List D) (hf : ∀ x, (f x).all D.one = true) (l : List α) : ∀ x, x ∈ l.flatMap f → x.one = true := fun x hx => by
 obtain ⟨y, _, h⟩ := List.mem_flatMap.1 hx; exact List.all_eq_true.1 (hf y) x h
theorem small {n b : Nat} (h : n ≤ 4294967296) (hb : b ≤ 32768) : n * b ≤ 140737488355328 := Nat.le_trans (Nat.mul_le_mul h hb) (by decide)
theorem small' {n b : Nat} (h : n ≤ 4294967296) (hb : b ≤ 32768) : b * n ≤ 281474976710656 := by rw [Nat.mul_comm]; exact Nat.le_trans (small h hb) (by decide)
theorem small63 {n : Nat} (h : n ≤ 4294967296) : n ≤ maxLen := Nat.le_trans h (by decide)

/-! ### One view is told by another -/
def SVLe (x y : SV) : Prop := ∀ w ok Ω v, RepS w ok Ω x v → RepS w ok Ω y v
theorem SVLe.refl (x : SV) : SVLe x x := fun _ _ _ _ h => h
theorem SVLe.any (x : SV) : SVLe x .any := fun _ _ _ v _ => .any v
theorem SVLe.nil (sz : Nat) : SVLe (.d (.v (.slice none 0 0))) (.d (.ds sz [])) := fun w ok Ω v h => by
 rw [h.val]; exact .d _ _ (.nil _ _ _)
inductive SLe : List SV → List D → Prop
 | nil : SLe [] []
 | cons {x : SV} {y : D} {xs : List SV} {ys : List D} (h : SVLe x (.d y)) (t : SLe xs ys) : SLe (x :: xs) (y :: ys)
theorem SLe.get {xs : List SV} {ys : List D} (h : SLe xs ys) : xs.length = ys.length ∧ ∀ (i : Nat) x y, xs[i]? = some x → ys[i]? = some y → SVLe x (.d y) := by
 induction h with
 | nil => exact ⟨rfl, fun i x y h => by simp at h⟩
 | cons h t ih =>
  refine ⟨by simp [ih.1], fun i x y h1 h2 => ?_⟩
  cases i with
  | zero => cases h1; cases h2; exact h
  | succ i => simp at h1 h2; exact ih.2 i x y h1 h2
theorem RepS.isD {w : World} {ok : Nat → Prop} {Ω : List Value} {y : D} {v : Value} (h : RepS w ok Ω (.d y) v) : RepD w ok y v := by cases h with | d _ _ h => exact h
theorem SVLe.ag {xs : List SV} {ys : List D} (h : SLe xs ys) : SVLe (.ag xs) (.d (.ag ys)) := fun w ok Ω v hr => by
 obtain ⟨hl, hi⟩ := h.get
 cases hr with
 | ag _ vs hl2 hrr =>
  refine .d _ _ (.ag _ _ (by omega) fun i x y hx hy => ?_)
  have hlt := (List.getElem?_eq_some_iff.1 hx).1
  have hc : xs[i]? = some xs[i] := List.getElem?_eq_getElem (by omega)
  exact (hi i _ _ hc hx _ _ _ _ (hrr i _ _ hc hy)).isD
section
variable {C : Ctx} {Q : Exit → St → Prop} {ops : Array Oper} {rest : List Oper} {o : Oper} {e : List (Nat × SV)} {obs : List Ob} {d : Nat} {t ty : TypeId} {x y : Operand}
theorem Rel.sub {Ω : List Value} {a : Act} {w : World} (hr : Rel C ⟨e, obs⟩ Ω a w) {t : Nat} {x y : SV} (hx : get e t = some x) (hle : SVLe x y) : Rel C ⟨(t, y) :: e, obs⟩ Ω a w := by
 refine ⟨hr.defers, hr.size, fun q z hq => ?_, hr.mem⟩
 simp only [get] at hq
 split at hq
 ·rename_i h; subst h; cases hq
  obtain ⟨v, hv, hrep⟩ := hr.env t _ hx
  exact ⟨v, hv, hle _ _ _ _ hrep⟩
 ·exact hr.env q z hq
theorem AC.sub (t : Nat) {x y : SV} {c : Code} (hx : get e t = some x) (hle : SVLe x y) (h : AC C c ⟨(t, y) :: e, obs⟩ Q) : AC C c ⟨e, obs⟩ Q := fun Ω a w hr => h Ω a w (hr.sub hx hle)
theorem AO.sub (t : Nat) {x y : SV} {l : List Oper} (hx : get e t = some x) (hle : SVLe x y) (h : AO C ops l ⟨(t, y) :: e, obs⟩ Q) : AO C ops l ⟨e, obs⟩ Q := fun Ω a w hr => h Ω a w (hr.sub hx hle)

/-! ### A slice of one's own becomes data, wherever it stands -/
def SV.thaw (p : Nat) (x : D) : SV → SV
 | .own q => if q = p then .d x else .own q
 | .sl q sz off len cap => if q = p ∧ off = 0 then .d x else .sl q sz off len cap
 | .ag l => .ag (l.map fun | .own q => if q = p then .d x else .own q | z => z)
 | z => z
def thawE (p : Nat) (x : D) : List (Nat × SV) → List (Nat × SV)
 | [] => []
 | (k, y) :: r => (k, y.thaw p x) :: thawE p x r
theorem thawE_get {p : Nat} {x : D} : ∀ {e : List (Nat × SV)} {t : Nat} {z : SV}, get (thawE p x e) t = some z → ∃ y, get e t = some y ∧ z = y.thaw p x
 | [], _, _, h => by cases h
 | (k, y) :: r, t, z, h => by
  simp only [thawE, get] at h ⊢
  split at h
  ·rename_i hk; cases h; exact ⟨y, by rw [if_pos hk], rfl⟩
  ·rename_i hk; obtain ⟨y', h1, h2⟩ := thawE_get h; exact ⟨y', by rw [if_neg hk]; exact h1, h2⟩
theorem Rel.freezeGrow {Ω : List Value} {a : Act} {w : World} (hr : Rel C ⟨e, obs⟩ Ω a w) (hm : C.may = C.may) {p ty sz : Nat} {cells : List D} (hp : obs[p]? = some (.grow ty sz cells)) :
  Rel C ⟨thawE p (.ds sz cells) e, obs.set p .dead⟩ Ω a w := by
 obtain ⟨hmem, hok⟩ := hr.mem.kill p
 have hd : ∀ v, Ω[p]? = some v → RepD w (okB C (obs.set p .dead) Ω w) (.ds sz cells) v := fun v hΩ => by
  obtain ⟨n, xs, how, hxl, hrr⟩ := hr.mem.obj p _ _ hp hΩ
  rcases how.2 with ⟨rfl, h0⟩ | ⟨g, cap, cur, rfl, _, hg, hnc, _, hcs, hct⟩
  ·have : cells = [] := List.eq_nil_of_length_eq_zero (by rw [← hxl, how.1, h0]; simp)
   subst this; exact .nil _ _ _
  ·have hcell : ∀ (i : Nat), i < cells.length → xs[i]? = some (xs.getD i undef) := fun i hi => by
    rw [List.getD_eq_getElem?_getD, List.getElem?_eq_getElem (by omega)]; rfl
   refine .ds _ _ _ _ _ _ (fun i => xs.getD i undef) (by rw [← hxl, how.1]) hnc ⟨?_, (Array.getElem?_eq_some_iff.1 hg).1, fun i ob k e1 l e2 => ?_⟩ (fun i hi => ?_) (fun i x hx => ?_)
   ·rcases hr.mem.new p _ _ g hp rfl hΩ rfl with h | h
    ·exact .inr (.inl h)
    ·exact .inr (.inr h)
   ·rcases get_set e1 with ⟨rfl, rfl, _⟩ | ⟨hi, e1⟩
    ·cases l
    ·exact hr.mem.sep p i _ _ _ _ g (Ne.symm hi) hp e1 rfl l hΩ e2 rfl
   ·rw [Nat.zero_add, cell_of_row w g i cur ty (0, 0) hg]
    have hin : i < n * sz := by have := how.1; omega
    have h1 : xs[i]? = cur.toList[i]? := by rw [← hct, List.getElem?_take, if_pos hin]
    have h2 := hcell i hi
    rw [h1] at h2
    simpa using h2
   ·exact (hrr i x _ hx (hcell i (List.getElem?_eq_some_iff.1 hx).1)).mono fun b hb => ⟨hok b hb, rfl⟩
 have own : ∀ {v : Value}, RepS w (okB C obs Ω w) Ω (.own p) v → RepS w (okB C (obs.set p .dead) Ω w) Ω (.d (.ds sz cells)) v := fun h => by
  cases h with | own _ _ ho _ => exact .d _ _ (hd _ ho)
 refine ⟨hr.defers, hr.size, fun q z hq => ?_, hmem⟩
 obtain ⟨y, hy, rfl⟩ := thawE_get hq
 obtain ⟨v, hv, hrep⟩ := hr.env q y hy
 have mono : ∀ {z : SV} {u : Value}, RepS w (okB C obs Ω w) Ω z u → RepS w (okB C (obs.set p .dead) Ω w) Ω z u := fun h => h.mono (fun b hb => ⟨hok b hb, rfl⟩) (fun _ _ e => e)
 refine ⟨v, hv, ?_⟩
 cases y with
 | own q =>
  simp only [SV.thaw]
  split
  ·rename_i h; subst h; exact own hrep
  ·exact mono hrep
 | sl q s off len cap =>
  simp only [SV.thaw]
  split
  ·rename_i h
   obtain ⟨rfl, rfl⟩ := h
   cases hrep with
   | sl _ _ _ _ _ b ho =>
    obtain ⟨n, xs, how, _⟩ := hr.mem.obj q _ _ hp ho
    rcases how.2 with ⟨h, _⟩ | ⟨g, cap, cur, h, _⟩ <;> cases h
  ·exact mono hrep
 | ag l =>
  cases hrep with
  | ag _ vs hl hrr =>
   refine .ag _ _ (by simp [hl]) fun i x y hx hy => ?_
   rw [List.getElem?_map, Option.map_eq_some_iff] at hx
   obtain ⟨z, hz, rfl⟩ := hx
   have := hrr i z y hz hy
   split
   ·split
    ·rename_i h; subst h; exact own this
    ·exact mono this
   ·exact mono this
 | _ => exact mono hrep
theorem AO.freezeG {l : List Oper} (p : Nat) {ty sz : Nat} {cells : List D} {e' : List (Nat × SV)} (hm : C.may = C.may) (hp : obs[p]? = some (.grow ty sz cells)) (he : thawE p (.ds sz cells) e = e')
  (h : AO C ops l ⟨e', obs.set p .dead⟩ Q) : AO C ops l ⟨e, obs⟩ Q := fun Ω a w hr => h Ω a w (by subst he; exact hr.freezeGrow hm hp)
theorem AC.freezeG {c : Code} (p : Nat) {ty sz : Nat} {cells : List D} {e' : List (Nat × SV)} (hm : C.may = C.may) (hp : obs[p]? = some (.grow ty sz cells)) (he : thawE p (.ds sz cells) e = e')
  (h : AC C c ⟨e', obs.set p .dead⟩ Q) : AC C c ⟨e, obs⟩ Q := fun Ω a w hr => h Ω a w (by subst he; exact hr.freezeGrow hm hp)

theorem Rel.freezeFix {Ω : List Value} {a : Act} {w : World} (hr : Rel C ⟨e, obs⟩ Ω a w) (hm : C.may = C.may) {t p ty sz len cap : Nat} {cells : List SV} {ds : List D} (hx : get e t = some (.sl p sz 0 len cap)) (hp : obs[p]? = some (.fix ty cells))
  (hc : cells = ds.map .d) (hl : ds.length = len * sz) (hcap : len ≤ cap) :
  Rel C ⟨(t, .d (.ds sz ds)) :: e, obs.set p .dead⟩ Ω a w := by
 subst hc
 obtain ⟨hmem, hok⟩ := hr.mem.kill p
 have mono : ∀ {z : SV} {u : Value}, RepS w (okB C obs Ω w) Ω z u → RepS w (okB C (obs.set p .dead) Ω w) Ω z u := fun h => h.mono (fun b hb => ⟨hok b hb, rfl⟩) (fun _ _ e => e)
 refine ⟨hr.defers, hr.size, fun q z hq => ?_, hmem⟩
 simp only [get] at hq
 split at hq
 ·rename_i h; subst h; cases hq
  obtain ⟨v, hv, hrep⟩ := hr.env t _ hx
  refine ⟨v, hv, .d _ _ ?_⟩
  cases hrep with
  | sl _ _ _ _ _ b ho =>
   obtain ⟨b', vs, he, hw, hvl, hvr, _⟩ := hr.mem.obj p _ _ hp ho
   cases he
   rw [List.length_map] at hvl
   refine .ds _ _ _ _ _ _ (fun i => vs.getD i undef) hl hcap ⟨?_, (Array.getElem?_eq_some_iff.1 hw).1, fun i ob k e1 l e2 => ?_⟩ (fun i hi => ?_) (fun i x hx => ?_)
   ·rcases hr.mem.new p _ _ b hp rfl ho rfl with h | h
    ·exact .inr (.inl h)
    ·exact .inr (.inr h)
   ·rcases get_set e1 with ⟨rfl, rfl, _⟩ | ⟨hi, e1⟩
    ·cases l
    ·exact hr.mem.sep p i _ _ _ _ b (Ne.symm hi) hp e1 rfl l ho e2 rfl
   ·rw [Nat.zero_add, cell_of_row w b i _ ty (0, 0) hw]
    have : i < vs.length := by omega
    simp [this]
   ·have hi := (List.getElem?_eq_some_iff.1 hx).1
    have hv : vs[i]? = some (vs.getD i undef) := by rw [List.getD_eq_getElem?_getD, List.getElem?_eq_getElem (by omega)]; rfl
    exact (mono (hvr i (.d x) _ (by rw [List.getElem?_map, hx]; rfl) hv)).isD
 ·obtain ⟨v, hv, hrep⟩ := hr.env q z hq
  exact ⟨v, hv, mono hrep⟩
theorem AO.freezeF {l : List Oper} (t p : Nat) {ty sz len cap : Nat} {cells : List SV} {ds : List D} (hm : C.may = C.may) (hx : get e t = some (.sl p sz 0 len cap)) (hp : obs[p]? = some (.fix ty cells))
  (hc : cells = ds.map .d) (hl : ds.length = len * sz) (hcap : len ≤ cap) (h : AO C ops l ⟨(t, .d (.ds sz ds)) :: e, obs.set p .dead⟩ Q) : AO C ops l ⟨e, obs⟩ Q := fun Ω a w hr => h _ a w (hr.freezeFix hm hx hp hc hl hcap)
theorem AC.freezeF {c : Code} (t p : Nat) {ty sz len cap : Nat} {cells : List SV} {ds : List D} (hm : C.may = C.may) (hx : get e t = some (.sl p sz 0 len cap)) (hp : obs[p]? = some (.fix ty cells))
  (hc : cells = ds.map .d) (hl : ds.length = len * sz) (hcap : len ≤ cap) (h : AC C c ⟨(t, .d (.ds sz ds)) :: e, obs.set p .dead⟩ Q) : AC C c ⟨e, obs⟩ Q := fun Ω a w hr => h _ a w (hr.freezeFix hm hx hp hc hl hcap)

/-! ### Operations -/
theorem AOp.sliceD {el sz n l hh : Nat} {lo hi : Option Operand} {cells cells' : List D} (ho : o.op = .slice t x lo hi none) (hd : o.dst = some d) (hn : d < C.n) (hx : opS ⟨e, obs⟩ x = some (.d (.ds sz cells)))
  (hlo : (lo = none ∧ l = 0) ∨ ∃ y k i, lo = some y ∧ opS ⟨e, obs⟩ y = some (.d (.v (.int k i))) ∧ 0 ≤ i ∧ l = i.toNat)
  (hhi : (hi = none ∧ hh = n) ∨ ∃ y k i, hi = some y ∧ opS ⟨e, obs⟩ y = some (.d (.v (.int k i))) ∧ 0 ≤ i ∧ hh = i.toNat)
  (ht : elemT C.P t = some (el, sz)) (hsz : 0 < sz) (hl : cells.length = n * sz) (h1 : l ≤ hh) (h2 : hh ≤ n) (hc : (cells.drop (l * sz)).take ((hh - l) * sz) = cells')
  (h : AO C ops rest ⟨(d, .d (.ds sz cells')) :: e, obs⟩ Q) : AOp C ops rest o ⟨e, obs⟩ Q :=
 AOp.value hd hn (fun Ω a w hr => by
  subst hc
  have hv := hr.eval hx
  generalize hev : a.eval x = v at hv
  cases hv with
  | d _ _ hv =>
   obtain ⟨ad, m, c, rfl, hcap, rfl, hrep⟩ := hv.sliced hsz hl h1 h2
   obtain ⟨hu, hso⟩ := elem_of ht
   refine ⟨_, ?_, .d _ _ hrep⟩
   rcases hlo with ⟨rfl, rfl⟩ | ⟨yl, kl, il, rfl, hyl, hil, rfl⟩ <;> rcases hhi with ⟨rfl, rfl⟩ | ⟨yh, kh, ih, rfl, hyh, hih, rfl⟩
   ·have := run_slice_all (P := C.P) w t ad hh c hu
    simp only [execOp, ho, hev, Option.map_none, Sem.run_bind, run_sliceAt_slice w t _ _ _ _ hu, this, hso, run_sizeOf (elemT_spec ht).2, Result.andThen_ok, sliced, Sem.run_pure]
   ·have := run_slice_h (P := C.P) w t ad m c hu kh ih hih (by omega)
    simp only [execOp, ho, hev, hr.evalV hyh, Option.map_some, Option.map_none, Sem.run_bind, run_sliceAt_slice w t _ _ _ _ hu, this, hso, run_sizeOf (elemT_spec ht).2, Result.andThen_ok, sliced, Sem.run_pure]
   ·have := run_slice_l (P := C.P) w t ad hh c hu kl il hil (by omega)
    simp only [execOp, ho, hev, hr.evalV hyl, Option.map_some, Option.map_none, Sem.run_bind, run_sliceAt_slice w t _ _ _ _ hu, this, hso, run_sizeOf (elemT_spec ht).2, Result.andThen_ok, sliced, Sem.run_pure]
   ·have := run_slice_lh (P := C.P) w t ad m c hu kl kh il ih hil (by omega) (by omega)
    simp only [execOp, ho, hev, hr.evalV hyl, hr.evalV hyh, Option.map_some, Option.map_none, Sem.run_bind, run_sliceAt_slice w t _ _ _ _ hu, this, hso, run_sizeOf (elemT_spec ht).2, Result.andThen_ok, sliced, Sem.run_pure]) h

theorem AOp.ishr' {k k' : IntKind} {a i : Int} (ho : o.op = .binOp .shr t x y ty) (hd : o.dst = some d) (hn : d < C.n) (hx : opS ⟨e, obs⟩ x = some (.d (di k a))) (hy : opS ⟨e, obs⟩ y = some (.d (di k' i)))
  (hb : 0 ≤ i ∧ i ≤ k.bits) (h0 : 0 ≤ a) (h : AO C ops rest ⟨(d, .d (di k (a / 2 ^ i.toNat))) :: e, obs⟩ Q) : AOp C ops rest o ⟨e, obs⟩ Q := by
 have hi : (i.toNat : Int) = i := Int.toNat_of_nonneg hb.1
 exact AOp.ishr (n := i.toNat) ho hd hn hx (by rw [hi]; exact hy) (by omega) h0 rfl h
theorem AOp.iwAdd {k : IntKind} {a b : Int} (ho : o.op = .binOp .add t x y ty) (hd : o.dst = some d) (hn : d < C.n) (hx : opS ⟨e, obs⟩ x = some (.d (di k a))) (hy : opS ⟨e, obs⟩ y = some (.d (di k b)))
  (h : AO C ops rest ⟨(d, .d (di k (k.wrap (a + b)))) :: e, obs⟩ Q) : AOp C ops rest o ⟨e, obs⟩ Q := AOp.iarithW _ ho hd hn hx hy (.inl ⟨rfl, rfl⟩) h
theorem AOp.iwSub {k : IntKind} {a b : Int} (ho : o.op = .binOp .sub t x y ty) (hd : o.dst = some d) (hn : d < C.n) (hx : opS ⟨e, obs⟩ x = some (.d (di k a))) (hy : opS ⟨e, obs⟩ y = some (.d (di k b)))
  (h : AO C ops rest ⟨(d, .d (di k (k.wrap (a - b)))) :: e, obs⟩ Q) : AOp C ops rest o ⟨e, obs⟩ Q := AOp.iarithW _ ho hd hn hx hy (.inr (.inl ⟨rfl, rfl⟩)) h
theorem AOp.appendOwn' {t el size bytes p n m : Nat} {x y : Operand} {z : Value} {cells news cells' : List D} (ho : o.op = .call { callee := .builtin .append, args := #[x, y], argTypes := #[t, t] }) (hd : o.dst = some d) (hn : d < C.n)
  (hx : opS ⟨e, obs⟩ x = some (.own p)) (hy : opS ⟨e, obs⟩ y = some (.d (.ds size news))) (ht : elemT C.P t = some (el, size)) (hi : (C.P.info? el).map (fun i => (i.zero, i.size, i.bytes)) = some (some z, size, bytes)) (hzs : z.cells.size = size) (hsz : 0 < size)
  (hp : obs[p]? = some (.grow el size cells)) (hc : cells.length = n * size) (hl : news.length = m * size) (hone : ∀ x, x ∈ news → x.one = true) (h63 : n + m ≤ 4294967296) (hb : bytes ≤ 32768)
  (hno : (obs.set p .dead).all (Ob.noO p) = true) {e' : List (Nat × SV)} (he : dropO p [] e = e') (hcat : cells ++ news = cells')
  (h : AO C ops rest ⟨(d, .own p) :: e', obs.set p (.grow el size cells')⟩ Q) : AOp C ops rest o ⟨e, obs⟩ Q := by
 subst hcat
 exact AOp.appendOwn ho hd hn hx hy ht hi hzs hsz hp hc hl hone (small63 h63) (small h63 hb) hno he h
end
end Go.Vm
namespace Go.Vm
/-! ### Joins and loops beside printed functions -/
inductive LeL : List (Nat × SV) → List (Nat × SV) → Prop
 | nil : LeL [] []
 | cons {t : Nat} {x y : SV} {a b : List (Nat × SV)} (h : SVLe x y) (r : LeL a b) : LeL ((t, x) :: a) ((t, y) :: b)
theorem LeL.refl : ∀ a : List (Nat × SV), LeL a a
 | [] => .nil
 | (t, x) :: a => .cons (SVLe.refl x) (LeL.refl a)
theorem LeL.get {a b : List (Nat × SV)} (h : LeL a b) : ∀ {t : Nat} {y : SV}, Vm.get b t = some y → ∃ x, Vm.get a t = some x ∧ SVLe x y := by
 induction h with
 | nil => intro t y h; cases h
 | @cons t0 x0 y0 a b h0 r ih =>
  intro t y h
  simp only [Vm.get] at h ⊢
  split at h
  ·rename_i e; cases h; exact ⟨x0, by rw [if_pos e], h0⟩
  ·rename_i e; obtain ⟨x, h1, h2⟩ := ih h; exact ⟨x, by rw [if_neg e]; exact h1, h2⟩
theorem Rel.le {C : Ctx} {a b : List (Nat × SV)} {obs : List Ob} {Ω : List Value} {ac : Act} {w : World} (hr : Rel C ⟨a, obs⟩ Ω ac w) (h : LeL a b) : Rel C ⟨b, obs⟩ Ω ac w :=
 ⟨hr.defers, hr.size, fun t y hy => by
  obtain ⟨x, hx, hle⟩ := h.get hy
  obtain ⟨v, hv, hrep⟩ := hr.env t x hx
  exact ⟨v, hv, hle _ _ _ _ hrep⟩, hr.mem⟩
def JoinP {V : Type} (ks : List Nat) (m : Nat) (env : V → List (Nat × SV)) (ob : V → List Ob) (inv : V → Prop) (Q : Exit → St → Prop) : Exit → St → Prop
 | .normal, s => ∃ v L, Vm.keep ks s.env = some L ∧ LeL L (env v) ∧ s.obs.take m = ob v ∧ keepOK m L (ob v) = true ∧ inv v
 | e, s => Q e s
theorem AC.joinP {V : Type} (ksC ksV : List Nat) (m : Nat) (venv : V → List (Nat × SV)) (ob : V → List Ob) (inv : V → Prop) {C : Ctx} {s : St} {Q : Exit → St → Prop} {x y : Code} {cenv : List (Nat × SV)}
  (hC : Vm.keep ksC s.env = some cenv) (h : AC C x s (JoinP (ksC ++ ksV) m (fun v => cenv ++ venv v) ob inv Q)) (rest : ∀ v, inv v → AC C y ⟨cenv ++ venv v, ob v⟩ Q) : AC C (.seq x y) s Q := fun Ω a w hr =>
 wp_seq (wp_mono (h Ω a w hr) fun e a w ⟨s', Ω', hr', hq⟩ => by
  cases e with
  | normal =>
   obtain ⟨v, L, h1, h2, h3, h4, h5⟩ := hq
   have := hr'.keep (m := m) h1 (by rw [h3]; exact h4)
   rw [h3] at this
   exact rest v h5 _ a w (this.le h2)
  | _ => exact ⟨s', Ω', hr', hq⟩)
theorem AC.loopP {V T : Type} (b : (V → Option T) → V → Option T) (t : T) (ksC ksV : List Nat) (m : Nat) (venv : V → List (Nat × SV)) (ob : V → List Ob) (F : Nat) (v0 : V) {C : Ctx} {s : St} {Q : Exit → St → Prop} {c : Code} {cenv L0 : List (Nat × SV)}
  (h0 : iter b F v0 = some t) (hC : Vm.keep ksC s.env = some cenv) (hV : Vm.keep (ksC ++ ksV) s.env = some L0) (hle : LeL L0 (cenv ++ venv v0)) (hO : s.obs.take m = ob v0) (hb : keepOK m L0 (ob v0) = true)
  (round : ∀ n v, b (iter b n) v = some t → AC C c ⟨cenv ++ venv v, ob v⟩ (JoinP (ksC ++ ksV) m (fun v => cenv ++ venv v) ob (fun v' => iter b n v' = some t) Q)) : AC C (.loop c) s Q := by
 have key : ∀ n v, iter b n v = some t → ∀ Ω a w, Rel C ⟨cenv ++ venv v, ob v⟩ Ω a w → ∀ bd k cs,
   ∃ e a' w', Lift C Q e a' w' ∧ Arrives C.P (lone (bd.at a (.code c :: .inLoop c :: k)) cs w) bd k cs e a' w' := by
  intro n
  induction n with
  | zero => intro v h; cases h
  | succ n ih =>
   intro v hv Ω a w hr bd k cs
   obtain ⟨e, a₁, w₁, ⟨s₁, Ω₁, hr₁, hq⟩, harr⟩ := round n v hv Ω a w hr bd (.inLoop c :: k) cs
   cases e with
   | normal =>
    obtain ⟨v', L, h1, h2, h3, h4, h5⟩ := hq
    have hr₂ := hr₁.keep (m := m) h1 (by rw [h3]; exact h4)
    rw [h3] at hr₂
    obtain ⟨e₂, a₂, w₂, hq₂, harr₂⟩ := ih v' h5 _ _ _ (hr₂.le h2) bd k cs
    exact ⟨e₂, a₂, w₂, hq₂, .of_steps (Steps.trans harr (.one step_inLoop)) harr₂⟩
   | exit id => exact ⟨_, a₁, w₁, ⟨s₁, Ω₁, hr₁, hq⟩, .pass (x := .inLoop c) rfl (fun _ _ => .inl (by simp)) harr⟩
   | goto l => exact ⟨_, a₁, w₁, ⟨s₁, Ω₁, hr₁, hq⟩, .pass (x := .inLoop c) rfl (fun _ _ => .inl (by simp)) harr⟩
   | ret => exact ⟨_, a₁, w₁, ⟨s₁, Ω₁, hr₁, hq⟩, .pass (x := .inLoop c) rfl (fun _ _ => .inl (by simp)) harr⟩
   | panic ch => exact ⟨_, a₁, w₁, ⟨s₁, Ω₁, hr₁, hq⟩, .pass (x := .inLoop c) rfl (fun _ _ => .inl (by simp)) harr⟩
   | outgrown => exact ⟨_, a₁, w₁, ⟨s₁, Ω₁, hr₁, hq⟩, .pass (x := .inLoop c) rfl (fun _ _ => .inl (by simp)) harr⟩
 intro Ω a w hr bd k cs
 have hr0 := hr.keep (m := m) hV (by rw [hO]; exact hb)
 rw [hO] at hr0
 obtain ⟨e, a', w', hq, harr⟩ := key F v0 h0 _ a w (hr0.le hle) bd k cs
 exact ⟨e, a', w', hq, .of_steps (.one step_loop) harr⟩
theorem aftL {V R T : Type} {v : V} {ret : R → Option T} {k : V → Option T} {t : T} (h : aft (.inl v) ret k = some t) : k v = some t := h
theorem aftR {V R T : Type} {r : R} {ret : R → Option T} {k : V → Option T} {t : T} (h : aft (.inr r : Sum V R) ret k = some t) : ret r = some t := h
end Go.Vm

/- Further rules beside printed functions. -/
set_option linter.unusedVariables false
set_option linter.unusedSimpArgs false
namespace Go.Vm
theorem atO {α : Type} {f : α → SV} {l : List α} {i : Nat} {y : α} (h : l[i]? = some y) : (l.map f)[0 + i * 1]? = some (f y) := by simp [h]
inductive SVL : List SV → List SV → Prop
 | nil : SVL [] []
 | cons {x y : SV} {xs ys : List SV} (h : SVLe x y) (t : SVL xs ys) : SVL (x :: xs) (y :: ys)
theorem SVL.get {xs ys : List SV} (h : SVL xs ys) : xs.length = ys.length ∧ ∀ (i : Nat) y, ys[i]? = some y → ∃ x, xs[i]? = some x ∧ SVLe x y := by
 induction h with
 | nil => exact ⟨rfl, fun i y h => by simp at h⟩
 | cons h t ih =>
  refine ⟨by simp [ih.1], fun i y h1 => ?_⟩
  cases i with
  | zero => cases h1; exact ⟨_, rfl, h⟩
  | succ i => simp at h1; obtain ⟨x, h2, h3⟩ := ih.2 i y h1; exact ⟨x, by simpa using h2, h3⟩
theorem okU_nil {m : Nat} : ([] : List Ob).all (Ob.under m) = true := rfl
theorem okU_cons {m : Nat} {a : Ob} {l : List Ob} (h : Ob.under m a = true) (t : l.all (Ob.under m) = true) : (a :: l).all (Ob.under m) = true := by simp [h, t]
theorem okU_fixl {α : Type} {m ty : Nat} {f : α → SV} {l : List α} (hf : ∀ z, (f z).under m = true) : Ob.under m (.fix ty (l.map f)) = true := by
 show (l.map f).all _ = true
 rw [List.all_eq_true]; intro x hx; obtain ⟨z, _, rfl⟩ := List.mem_map.1 hx; exact hf z
theorem okU_mk {m : Nat} {e : List (Nat × SV)} {obs : List Ob} (h1 : e.all (fun p => p.2.under m) = true) (h2 : obs.all (Ob.under m) = true) : keepOK m e obs = true := by
 unfold keepOK; rw [h1, h2]; rfl
section
variable {C : Ctx} {Q : Exit → St → Prop} {ops : Array Oper} {rest : List Oper} {o : Oper} {e : List (Nat × SV)} {obs : List Ob} {d : Nat} {t ty : TypeId} {x y : Operand}
theorem AO.dec {l : List Oper} (b : Bool) (hy : b = true → AO C ops l ⟨e, obs⟩ Q) (hn : b = false → AO C ops l ⟨e, obs⟩ Q) : AO C ops l ⟨e, obs⟩ Q := by
 cases b with
 | true => exact hy rfl
 | false => exact hn rfl
theorem AD.dec {l : List Oper} {K : St → Prop} (b : Bool) (hy : b = true → AD C ops l ⟨e, obs⟩ K) (hn : b = false → AD C ops l ⟨e, obs⟩ K) : AD C ops l ⟨e, obs⟩ K := by
 cases b with
 | true => exact hy rfl
 | false => exact hn rfl
theorem AC.joinE {V : Type} (ksC ksV : List Nat) (m : Nat) (venv : V → List (Nat × SV)) (ob : V → List Ob) (inv : V → Prop) {C : Ctx} {s : St} {Q : Exit → St → Prop} {x : Code} {cenv : List (Nat × SV)}
  (hC : Vm.keep ksC s.env = some cenv) (h : AC C x s (JoinP (ksC ++ ksV) m (fun v => cenv ++ venv v) ob inv Q)) (rest : ∀ v, inv v → Q .normal ⟨cenv ++ venv v, ob v⟩) : AC C x s Q := fun Ω a w hr =>
 wp_mono (h Ω a w hr) fun e a w ⟨s', Ω', hr', hq⟩ => by
  cases e with
  | normal =>
   obtain ⟨v, L, h1, h2, h3, h4, h5⟩ := hq
   have := hr'.keep (m := m) h1 (by rw [h3]; exact h4)
   rw [h3] at this
   exact ⟨_, _, this.le h2, rest v h5⟩
  | _ => exact ⟨s', Ω', hr', hq⟩

theorem Rel.subO {Ω : List Value} {a : Act} {w : World} (hr : Rel C ⟨e, obs⟩ Ω a w) {p ty : Nat} {cells cells' : List SV} (hp : obs[p]? = some (.fix ty cells)) (hle : SVL cells cells') : Rel C ⟨e, obs.set p (.fix ty cells')⟩ Ω a w := by
 obtain ⟨hl, hi⟩ := hle.get
 have g1 : ∀ {i : Nat} {ob : Ob}, (obs.set p (.fix ty cells'))[i]? = some ob → ∃ ob', obs[i]? = some ob' ∧ ob'.live = ob.live ∧ (ob' = ob ∨ (ob' = .fix ty cells ∧ ob = .fix ty cells')) := fun {i ob} h => by
  rcases get_set h with ⟨rfl, rfl, _⟩ | ⟨_, h⟩
  ·exact ⟨_, hp, rfl, .inr ⟨rfl, rfl⟩⟩
  ·exact ⟨ob, h, rfl, .inl rfl⟩
 have hok : ∀ b, okB C obs Ω w b → okB C (obs.set p (.fix ty cells')) Ω w b := fun b hb => ⟨hb.1, hb.2.1, fun i ob k e1 l e2 => by
  obtain ⟨ob', h1, h2, _⟩ := g1 e1
  exact hb.2.2 i ob' k h1 (by rw [h2]; exact l) e2⟩
 refine ⟨hr.defers, hr.size, fun t x hx => ?_, ⟨by simp; exact hr.mem.len, fun i ob k e1 e2 => ?_, fun i j x y h k b hij e1 e2 l1 l2 e3 e4 hp => ?_, fun i ob k b e1 l e2 hp => ?_, hr.mem.fr⟩⟩
 ·obtain ⟨v, hv, hrep⟩ := hr.env t x hx
  exact ⟨v, hv, hrep.mono (fun b hb => ⟨hok b hb, rfl⟩) (fun _ _ e => e)⟩
 ·obtain ⟨ob', h1, _, h3⟩ := g1 e1
  have H := (hr.mem.obj i ob' k h1 e2).mono (fun b hb => ⟨hok b hb, rfl⟩) (fun _ _ e => e) (fun _ _ _ => rfl)
  rcases h3 with rfl | ⟨rfl, rfl⟩
  ·exact H
  ·obtain ⟨b, vs, rfl, hw, hvl, hvr, hone⟩ := H
   refine ⟨b, vs, rfl, hw, by rw [hvl, hl], fun j x y hx hy => ?_, hone⟩
   obtain ⟨z, hz, hzl⟩ := hi j x hx
   exact hzl _ _ _ _ (hvr j z y hz hy)
 ·obtain ⟨x', h1, q1, _⟩ := g1 e1
  obtain ⟨y', h2, q2, _⟩ := g1 e2
  exact hr.mem.sep i j x' y' h k b hij h1 h2 (by rw [q1]; exact l1) (by rw [q2]; exact l2) e3 e4 hp
 ·obtain ⟨x', h1, q1, _⟩ := g1 e1
  exact hr.mem.new i x' k b h1 (by rw [q1]; exact l) e2 hp
theorem AC.subO {c : Code} (p : Nat) {ty : Nat} {cells cells' : List SV} (hp : obs[p]? = some (.fix ty cells)) (hle : SVL cells cells') (h : AC C c ⟨e, obs.set p (.fix ty cells')⟩ Q) : AC C c ⟨e, obs⟩ Q := fun Ω a w hr => h Ω a w (hr.subO hp hle)

def arrT (P : Program) (t : TypeId) : Option (Nat × TypeId × Nat) :=
 match P.underlying t with
 | some (.array n e) => (sizeT P e).map fun k => (n, e, k)
 | _ => none
theorem arrT_spec {P : Program} {t n el k : Nat} (h : arrT P t = some (n, el, k)) : P.underlying t = some (.array n el) ∧ sizeT P el = some k := by
 unfold arrT at h
 split at h
 ·rename_i m e hu
  cases hs : sizeT P e with
  | none => rw [hs] at h; cases h
  | some j => rw [hs] at h; cases h; exact ⟨hu, hs⟩
 ·cases h
theorem run_indexArr {P : Program} {t n el sz : Nat} (h : arrT P t = some (n, el, sz)) (k : IntKind) (i : Int) (b off : Nat) (h0 : 0 ≤ i) (h1 : i < n) (w : World) :
  (Instr.indexAt t (.pointer (some ⟨b, off, none⟩)) (.int k i)).run P w = .ok (.pointer (some ⟨b, off + i.toNat * sz, none⟩)) w := by
 obtain ⟨hu, hs⟩ := arrT_spec h
 simp only [Instr.indexAt, Instr.sureAddr, asIntOf, Sem.run_bind, Sem.run_pure, Result.andThen_ok, run_underlying hu, h0, h1, and_self, if_true, run_sizeOf hs, Addr.add_of, Sem.run_ite]
inductive NilL : List D → List D → Prop
 | nil : NilL [] []
 | cons {x : D} {xs ys : List D} (t : NilL xs ys) : NilL (x :: xs) (x :: ys)
 | nils {sz : Nat} {xs ys : List D} (t : NilL xs ys) : NilL (.v (.slice none 0 0) :: xs) (.ds sz [] :: ys)
 | le {x y : D} {xs ys : List D} (h : SVLe (.d x) (.d y)) (t : NilL xs ys) : NilL (x :: xs) (y :: ys)
theorem NilL.get {xs ys : List D} (h : NilL xs ys) : xs.length = ys.length ∧ ∀ (i : Nat) y, ys[i]? = some y → ∃ x, xs[i]? = some x ∧ SVLe (.d x) (.d y) := by
 induction h with
 | nil => exact ⟨rfl, fun i y h => by simp at h⟩
 | cons t ih =>
  refine ⟨by simp [ih.1], fun i y h => ?_⟩
  cases i with
  | zero => cases h; exact ⟨_, rfl, SVLe.refl _⟩
  | succ i => simp at h; obtain ⟨x, h1, h2⟩ := ih.2 i y h; exact ⟨x, by simpa using h1, h2⟩
 | nils t ih =>
  refine ⟨by simp [ih.1], fun i y h => ?_⟩
  cases i with
  | zero => cases h; exact ⟨_, rfl, SVLe.nil _⟩
  | succ i => simp at h; obtain ⟨x, h1, h2⟩ := ih.2 i y h; exact ⟨x, by simpa using h1, h2⟩
 | le hle t ih =>
  refine ⟨by simp [ih.1], fun i y h => ?_⟩
  cases i with
  | zero => cases h; exact ⟨_, rfl, hle⟩
  | succ i => simp at h; obtain ⟨x, h1, h2⟩ := ih.2 i y h; exact ⟨x, by simpa using h1, h2⟩
theorem FnD.nils {P : Program} {f : FuncId} {xs ys : List D} {R : D → Prop} (h : FnD P f ys R) (hn : NilL xs ys) : FnD P f xs R := by
 obtain ⟨hl, hi⟩ := hn.get
 refine ⟨h.1, fun W ok vs h0 h1 h2 h3 => h.2 W ok vs h0 h1 (by omega) fun i y v hy hv => ?_⟩
 obtain ⟨x, hx, hxy⟩ := hi i y hy
 exact (hxy W ok [] v (.d _ _ (h3 i x v hx hv))).isD

theorem AOp.buildOwn {t el sz len : Nat} {parts : List (Nat × Operand)} {ps : List (Nat × SV)} {z : Value} {r : List SV} {ys : List D} (ho : o.op = .buildSlice t len parts.toArray) (hd : o.dst = some d) (hn : d < C.n)
  (ht : elemT C.P t = some (el, sz)) (hz : (C.P.info? el).map (·.zero) = some (some z)) (h1 : z.cells.toList.all (·.oneCell') = true) (hb : len * sz ≤ 16777216) (hzs : z.cells.size = sz)
  (hx : mapO (partS ⟨e, obs⟩) parts = some ps) (hf : fillS (fun i => some (i * sz, sz)) ((List.range (len * sz)).map fun i => .d (.v (z.cells.toList.getD (i % sz) undef))) ps = some r)
  (hys : mapO (dataS 9) r = some ys) (h : AO C ops rest ⟨(d, .own obs.length) :: e, obs ++ [.grow el sz ys]⟩ Q) (hlen : len ≤ maxLen := by decide) : AOp C ops rest o ⟨e, obs⟩ Q := by
 refine AOp.step hd hn (fun Ω a w hr => ?_) h
 obtain ⟨hu, hs⟩ := elemT_spec ht
 obtain ⟨hl, hp⟩ := hr.parts hx
 have hzlt : ∀ (i : Nat), i < len * sz → i % sz < z.cells.size := fun i hi => by
  rw [hzs]
  exact Nat.mod_lt _ (Nat.pos_of_ne_zero fun h0 => by subst h0; simp at hi)
 have hget : ∀ (i : Nat), i < len * sz → z.cells[i % z.cells.size]! = z.cells.toList.getD (i % sz) undef ∧ z.cells[i % z.cells.size]! ∈ z.cells.toList := fun i hi => by
  have hlt := hzlt i hi
  have hlt2 : i % z.cells.size < z.cells.size := by rw [hzs] at hlt ⊢; exact hlt
  rw [getElem!_pos z.cells _ hlt2]
  refine ⟨?_, by simp⟩
  have : z.cells.toList[i % sz]? = some z.cells[i % z.cells.size] := by simp [hzs]
  rw [List.getD_eq_getElem?_getD, this]; rfl
 obtain ⟨vs, hfill, hvl, hvr, hv1⟩ := fillS_rep ps _ _ r ((Array.range (len * sz)).map fun i => z.cells[i % z.cells.size]!) hf hl hp (by simp) (fun i p q hp hq => by
  have hi : i < len * sz := by have := (List.getElem?_eq_some_iff.1 hp).1; simpa using this
  have e1 : ((List.range (len * sz)).map fun i => (SV.d (.v (z.cells.toList.getD (i % sz) undef))))[i]? = some (.d (.v (z.cells.toList.getD (i % sz) undef))) := by simp [hi]
  rw [e1] at hp; cases hp
  have e2 : ((Array.range (len * sz)).map fun i => z.cells[i % z.cells.size]!).toList[i]? = some (z.cells[i % z.cells.size]!) := by simp [hi]
  rw [e2] at hq; cases hq
  rw [(hget i hi).1]
  exact .d _ _ (.v _)) (fun y hy => by
   simp only [Array.toList_map, Array.toList_range, List.mem_map, List.mem_range] at hy
   obtain ⟨i, hi, rfl⟩ := hy
   exact List.all_eq_true.1 h1 _ (hget i hi).2)
 obtain ⟨hyl, hyi⟩ := mapO_get hys
 have hrl := fillS_len hf
 have hvsz : vs.toList.length = len * sz := by simp [hvl, hrl]
 have how : (w.alloc (.cells vs el)).ownsRow 0 el sz (.slice (some ⟨w.heap.size, 0, none⟩) len len) len vs.toList := by
  refine ⟨hvsz, .inr ⟨w.heap.size, len, vs, rfl, Nat.zero_le _, heap_alloc_new w _, Nat.le_refl _, hlen, by simpa using hvsz, ?_⟩⟩
  rw [List.take_of_length_le (Nat.le_of_eq hvsz)]
 have hbel : RowKit.Below w.heap.size w (w.alloc (.cells vs el)) := ⟨rfl, rfl, rfl, by simp, fun k hk => heap_alloc_old w _ hk⟩
 have hrel := hr.begin hbel how (cells := ys) (fun b hb => by simp [blk] at hb; exact Nat.le_of_eq hb) (by rw [hvsz, hyl, hrl]; simp) (fun i x v hx hv => by
  have hlt := (List.getElem?_eq_some_iff.1 hx).1
  have hc : r[i]? = some (r[i]'(by omega)) := List.getElem?_eq_getElem _
  exact dataS_rep 9 (hyi i _ _ hc hx) (hvr i _ _ hc hv))
 refine ⟨.slice (some ⟨w.heap.size, 0, none⟩) len len, _, _, ?_, hrel, .own _ _ ?_⟩
 ·simp only [execOp, ho, Instr.buildSlice, Sem.run_bind, run_underlying hu, Result.andThen_ok, run_sizeOf hs, List.map_toArray, Sem.run_ite]
  rw [if_neg (by omega)]
  by_cases h0 : len * sz = 0
  ·simp only [h0, if_true, Sem.run_pure, Result.andThen_ok]
   have e0 : ((Array.range 0).map fun i => (#[] : Array Value)[i % (#[] : Array Value).size]!) = #[] := by simp
   rw [h0] at hfill
   have e1 : ((Array.range 0).map fun i => z.cells[i % z.cells.size]!) = #[] := by simp
   rw [e1] at hfill
   rw [e0, hfill]
   simp [newRow]
  ·simp only [h0, if_false, run_zero hz, Sem.run_pure, Sem.run_bind, Result.andThen_ok, hfill, newRow, run_newObj]
   simp
 ·have := hr.mem.len
  dsimp only at this
  rw [this, List.getElem?_append_right (Nat.le_refl _)]; simp
theorem AOp.makeL {α : Type} {f : α → SV} {z0 : α} {el bytes : Nat} {z : Value} {ik : IntKind} {n : Int} (ho : o.op = .makeSlice t x y) (hd : o.dst = some d) (hn : d < C.n)
  (hx : opS ⟨e, obs⟩ x = some (.d (.v (.int ik n)))) (hy : opS ⟨e, obs⟩ y = some (.d (.v (.int ik n)))) (ht : elemT C.P t = some (el, 1)) (hi : (C.P.info? el).map (fun i => (i.zero, i.size, i.bytes)) = some (some z, 1, bytes)) (hz : z.cells = #[z]) (h1 : z.oneCell' = true)
  (hb : bytes ≤ 32768) (h0 : 0 ≤ n) (h63 : n ≤ 4294967296) (hf : f z0 = .d (.v z))
  (h : AO C ops rest ⟨(d, .sl obs.length 1 0 n.toNat n.toNat) :: e, obs ++ [.fix el ((List.replicate n.toNat z0).map f)]⟩ Q) : AOp C ops rest o ⟨e, obs⟩ Q := by
 have hi' : (n.toNat : Int) = n := Int.toNat_of_nonneg h0
 rw [List.map_replicate, hf] at h
 exact AOp.makeSlice (n := n.toNat) ho hd hn (by rw [hi']; exact hx) (by rw [hi']; exact hy) ht hi hz h1 (small' (by omega) hb) (small63 (by omega)) h
theorem AOp.storeL {α : Type} {f : α → SV} {l : List α} {i : Nat} {v : α} {p ty : Nat} {sv : SV} (ho : o.op = .store t x y) (hd : o.dst = none) (hx : opS ⟨e, obs⟩ x = some (.ptr p (0 + i * 1))) (hy : opS ⟨e, obs⟩ y = some sv) (hs : sizeT C.P t = some 1)
  (h1 : (f v).plain = true) (hl : cellsS sv = [f v]) (hp : obs[p]? = some (.fix ty (l.map f))) (hc : i < l.length)
  (h : AO C ops rest ⟨e, obs.set p (.fix ty ((l.set i v).map f))⟩ Q) : AOp C ops rest o ⟨e, obs⟩ Q :=
 AOp.store1 ho hd hx hy hs h1 hl hp (by simp; exact hc) (by rw [List.map_set] at h; simpa using h)
end
end Go.Vm

/- Nil slices in structs of one's own that become slices of one's own; cells of which nothing more is said. -/
set_option linter.unusedVariables false
set_option linter.unusedSimpArgs false
namespace Go.Vm
section
variable {C : Ctx} {Q : Exit → St → Prop} {ops : Array Oper} {rest : List Oper} {o : Oper} {e : List (Nat × SV)} {obs : List Ob} {d : Nat}
theorem Rel.adopt0 {Ω : List Value} {a : Act} {w : World} (hr : Rel C ⟨e, obs⟩ Ω a w) (el sz : Nat) :
  Rel C ⟨e, obs ++ [.grow el sz []]⟩ (Ω ++ [.slice none 0 0]) a w := by
 have hlen : obs.length = Ω.length := hr.mem.len
 have hok : ∀ b, okB C obs Ω w b → okB C (obs ++ [.grow el sz []]) (Ω ++ [.slice none 0 0]) w b := fun b hb => ⟨hb.1, hb.2.1, fun o ob k e1 l e2 => by
  rw [List.getElem?_append] at e1 e2
  rw [← hlen] at e2
  split at e1
  ·rename_i hi; rw [if_pos hi] at e2; exact hb.2.2 o ob k e1 l e2
  ·rename_i hi
   rw [if_neg hi] at e2
   have : k = .slice none 0 0 := by
    cases hq : o - obs.length with
    | zero => rw [hq] at e2; exact (Option.some.inj e2).symm
    | succ m => rw [hq] at e2; simp at e2
   subst this
   simp [blk]⟩
 have hΩ : ∀ (o : Nat) v, Ω[o]? = some v → (Ω ++ [.slice none 0 0])[o]? = some v := fun o v h => by
  rw [List.getElem?_append_left (List.getElem?_eq_some_iff.1 h).1]; exact h
 have new1 : ∀ {i : Nat} {ob : Ob} {k : Value}, (obs ++ [.grow el sz []])[i]? = some ob → (Ω ++ [.slice none 0 0])[i]? = some k → (obs[i]? = some ob ∧ Ω[i]? = some k) ∨ (i = obs.length ∧ ob = .grow el sz [] ∧ k = .slice none 0 0) := fun {i ob k} e1 e2 => by
  rw [List.getElem?_append] at e1 e2
  rw [← hlen] at e2
  split at e1
  ·rename_i hi; rw [if_pos hi] at e2; exact .inl ⟨e1, e2⟩
  ·rename_i hi
   rw [if_neg hi] at e2
   cases hq : i - obs.length with
   | zero =>
    rw [hq] at e1 e2
    exact .inr ⟨by omega, (Option.some.inj e1).symm, (Option.some.inj e2).symm⟩
   | succ m => rw [hq] at e1; simp at e1
 refine ⟨hr.defers, hr.size, fun q x hq => ?_, ⟨by simp [hlen], fun i ob k e1 e2 => ?_, fun i j a b p q x hij e1 e2 l1 l2 e3 e4 hp => ?_, fun i ob p b e1 l1 e2 hp => ?_, hr.mem.fr⟩⟩
 ·obtain ⟨v, hv, hrep⟩ := hr.env q x hq
  exact ⟨v, hv, hrep.mono (fun b hb => ⟨hok b hb, rfl⟩) hΩ⟩
 ·rcases new1 e1 e2 with ⟨f1, f2⟩ | ⟨_, rfl, rfl⟩
  ·exact (hr.mem.obj i ob k f1 f2).mono (fun b hb => ⟨hok b hb, rfl⟩) hΩ (fun _ _ _ => rfl)
  ·exact ⟨0, [], World.ownsRow_nil w 0 el sz, rfl, fun i x y hx => by simp at hx⟩
 ·rcases new1 e1 e3 with ⟨f1, f2⟩ | ⟨_, rfl, rfl⟩
  ·rcases new1 e2 e4 with ⟨g1, g2⟩ | ⟨_, rfl, rfl⟩
   ·exact hr.mem.sep i j a b p q x hij f1 g1 l1 l2 f2 g2 hp
   ·simp [blk]
  ·cases hp
 ·rcases new1 e1 e2 with ⟨f1, f2⟩ | ⟨_, rfl, rfl⟩
  ·exact hr.mem.new i ob p b f1 l1 f2 hp
  ·cases hp
theorem Rel.subOΩ {Ω : List Value} {a : Act} {w : World} (hr : Rel C ⟨e, obs⟩ Ω a w) {p ty : Nat} {cells cells' : List SV} (hp : obs[p]? = some (.fix ty cells)) (hl : cells'.length = cells.length) (hi : ∀ (i : Nat) y, cells'[i]? = some y → ∃ x, cells[i]? = some x ∧ ∀ w ok v, RepS w ok Ω x v → RepS w ok Ω y v) : Rel C ⟨e, obs.set p (.fix ty cells')⟩ Ω a w := by
 have g1 : ∀ {i : Nat} {ob : Ob}, (obs.set p (.fix ty cells'))[i]? = some ob → ∃ ob', obs[i]? = some ob' ∧ ob'.live = ob.live ∧ (ob' = ob ∨ (ob' = .fix ty cells ∧ ob = .fix ty cells')) := fun {i ob} h => by
  rcases get_set h with ⟨rfl, rfl, _⟩ | ⟨_, h⟩
  ·exact ⟨_, hp, rfl, .inr ⟨rfl, rfl⟩⟩
  ·exact ⟨ob, h, rfl, .inl rfl⟩
 have hok : ∀ b, okB C obs Ω w b → okB C (obs.set p (.fix ty cells')) Ω w b := fun b hb => ⟨hb.1, hb.2.1, fun i ob k e1 l e2 => by
  obtain ⟨ob', h1, h2, _⟩ := g1 e1
  exact hb.2.2 i ob' k h1 (by rw [h2]; exact l) e2⟩
 refine ⟨hr.defers, hr.size, fun t x hx => ?_, ⟨by simp; exact hr.mem.len, fun i ob k e1 e2 => ?_, fun i j x y h k b hij e1 e2 l1 l2 e3 e4 hp => ?_, fun i ob k b e1 l e2 hp => ?_, hr.mem.fr⟩⟩
 ·obtain ⟨v, hv, hrep⟩ := hr.env t x hx
  exact ⟨v, hv, hrep.mono (fun b hb => ⟨hok b hb, rfl⟩) (fun _ _ e => e)⟩
 ·obtain ⟨ob', h1, _, h3⟩ := g1 e1
  have H := (hr.mem.obj i ob' k h1 e2).mono (fun b hb => ⟨hok b hb, rfl⟩) (fun _ _ e => e) (fun _ _ _ => rfl)
  rcases h3 with rfl | ⟨rfl, rfl⟩
  ·exact H
  ·obtain ⟨b, vs, rfl, hw, hvl, hvr, hone⟩ := H
   refine ⟨b, vs, rfl, hw, by rw [hvl, hl], fun j x y hx hy => ?_, hone⟩
   obtain ⟨z, hz, hzl⟩ := hi j x hx
   exact hzl _ _ _ (hvr j z y hz hy)
 ·obtain ⟨x', h1, q1, _⟩ := g1 e1
  obtain ⟨y', h2, q2, _⟩ := g1 e2
  exact hr.mem.sep i j x' y' h k b hij h1 h2 (by rw [q1]; exact l1) (by rw [q2]; exact l2) e3 e4 hp
 ·obtain ⟨x', h1, q1, _⟩ := g1 e1
  exact hr.mem.new i x' k b h1 (by rw [q1]; exact l) e2 hp
theorem AC.adoptO {c : Code} (p j el sz : Nat) {ty : Nat} {cells : List SV} (hp : obs[p]? = some (.fix ty cells)) (hj : cells[j]? = some (.d (.v (.slice none 0 0))))
  (h : AC C c ⟨e, (obs ++ [Ob.grow el sz []]).set p (.fix ty (cells.set j (.own obs.length)))⟩ Q) : AC C c ⟨e, obs⟩ Q := fun Ω a w hr => by
 have h1 := hr.adopt0 el sz
 refine h _ a w (h1.subOΩ (cells := cells) (by rw [List.getElem?_append_left (List.getElem?_eq_some_iff.1 hp).1]; exact hp) (by simp) fun i y hy => ?_)
 rcases get_set hy with ⟨rfl, rfl, _⟩ | ⟨_, hy⟩
 ·refine ⟨_, hj, fun w ok v hv => ?_⟩
  have := hv.val
  subst this
  refine .own _ _ ?_
  rw [show obs.length = Ω.length from hr.mem.len, List.getElem?_append_right (Nat.le_refl _)]; simp
 ·exact ⟨y, hy, fun _ _ _ h => h⟩
theorem AOp.subO (p : Nat) {ty : Nat} {cells cells' : List SV} (hp : obs[p]? = some (.fix ty cells)) (hle : SVL cells cells') (h : AOp C ops rest o ⟨e, obs.set p (.fix ty cells')⟩ Q) : AOp C ops rest o ⟨e, obs⟩ Q := fun Ω a w hr => h Ω a w (hr.subO hp hle)
theorem AO.subO {l : List Oper} (p : Nat) {ty : Nat} {cells cells' : List SV} (hp : obs[p]? = some (.fix ty cells)) (hle : SVL cells cells') (h : AO C ops l ⟨e, obs.set p (.fix ty cells')⟩ Q) : AO C ops l ⟨e, obs⟩ Q := fun Ω a w hr => h Ω a w (hr.subO hp hle)
end
end Go.Vm

/- Slices of which it is told whether they are nil. -/
set_option linter.unusedVariables false
namespace Go.Vm
def oN {α : Type} (f : α → D) : Option α → D
 | none => .v (.slice none 0 0)
 | some l => f l
def neO {α : Type} : Option (List α) → Bool
 | none => true
 | some l => !l.isEmpty
theorem SVLe.oN {α : Type} {f : List α → D} {sz : Nat} (h : f [] = .ds sz []) (x : Option (List α)) : SVLe (.d (oN f x)) (.d (f (x.getD []))) := by
 cases x with
 | none => show SVLe (.d (.v (.slice none 0 0))) (.d (f [])); rw [h]; exact SVLe.nil sz
 | some l => exact SVLe.refl _
theorem neO_cons {α : Type} {f : List α → D} {x : Option (List α)} (hf : ∀ a l, ∃ sz c cs, f (a :: l) = .ds sz (c :: cs)) (h : neO x = true) : ∀ l, x = some l → ∃ sz c cs, f l = .ds sz (c :: cs) := fun l hl => by
 subst hl
 cases l with
 | nil => cases h
 | cons a l => exact hf a l
theorem SVLe.of_eq {x y : SV} (h : x = y) : SVLe x y := h ▸ SVLe.refl _
section
variable {C : Ctx} {Q : Exit → St → Prop} {ops : Array Oper} {rest : List Oper} {o : Oper} {e : List (Nat × SV)} {obs : List Ob} {d : Nat} {t ty : TypeId} {x y : Operand}
theorem AO.top {l : List Oper} {x y : SV} (hle : SVLe x y) (h : AO C ops l ⟨(d, y) :: e, obs⟩ Q) : AO C ops l ⟨(d, x) :: e, obs⟩ Q := fun Ω a w hr => by
 refine h Ω a w ((hr.sub (t := d) (x := x) (by simp [get]) hle).congr fun t z hz => ?_)
 simp only [get] at hz ⊢
 split at hz
 ·rename_i e1; rw [if_pos e1]; exact hz
 ·rename_i e1; rw [if_neg e1, if_neg e1]; exact hz
theorem run_eql_slice_nil (P : Program) (w : World) (t e : TypeId) (a : Option Addr) (l c : Nat) (h : P.underlying t = some (.slice e)) : (binOp .eql t (.slice a l c) (.slice none 0 0)).run P w = .ok (.bool a.isNone) w := by
 simp only [binOp]
 simp [run_equal_slice_nil w t e a l c h]
theorem oN_rep {α : Type} {f : List α → D} {x : Option (List α)} (hne : ∀ l, x = some l → ∃ sz c cs, f l = .ds sz (c :: cs)) {w : World} {ok : Nat → Prop} {v : Value} (h : RepD w ok (oN f x) v) : ∃ a l c, v = .slice a l c ∧ a.isNone = x.isNone := by
 cases x with
 | none => cases h; exact ⟨none, 0, 0, rfl, rfl⟩
 | some l =>
  obtain ⟨sz, c, cs, he⟩ := hne l rfl
  have h' : RepD w ok (f l) v := h
  rw [he] at h'
  cases h' with
  | ds _ b off len cap _ vals => exact ⟨_, _, _, rfl, rfl⟩
theorem AOp.nilEql {α : Type} {f : List α → D} {x0 : Option (List α)} {el : TypeId} (ht : C.P.underlying t = some (.slice el)) (ho : o.op = .binOp .eql t x (.const (.slice none 0 0)) ty) (hd : o.dst = some d) (hn : d < C.n)
  (hx : opS ⟨e, obs⟩ x = some (.d (oN f x0))) (hne : ∀ l, x0 = some l → ∃ sz c cs, f l = .ds sz (c :: cs)) (h : AO C ops rest ⟨(d, .d (dbool x0.isNone)) :: e, obs⟩ Q) : AOp C ops rest o ⟨e, obs⟩ Q :=
 AOp.value hd hn (fun Ω a w hr => by
  have h1 := hr.eval hx
  cases h1 with
  | d _ _ h1 =>
   obtain ⟨b, l, c, hv, hb⟩ := oN_rep hne h1
   refine ⟨.bool x0.isNone, ?_, .d _ _ (.v _)⟩
   have hy : a.eval (.const (.slice none 0 0)) = .slice none 0 0 := rfl
   have hg : eqGuard .eql t x (.const (.slice none 0 0)) (.slice b l c) (.slice none 0 0) = pure () := rfl
   simp only [execOp, ho, hv, hy, hg, Sem.run_bind, Sem.run_pure, Result.andThen_ok, run_eql_slice_nil C.P w t el b l c ht, hb]) h
end
end Go.Vm
