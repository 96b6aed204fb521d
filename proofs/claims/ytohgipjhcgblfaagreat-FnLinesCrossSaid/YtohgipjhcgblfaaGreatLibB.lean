/- The framework by which a function is walked through: what this claim needs of it. -/
import Derived.Test.YtohgipjhcgblfaaGreatLibA
/- Floats that may be no numbers: arithmetic leaves the result open; what is finite. -/
set_option linter.unusedVariables false
set_option linter.unusedSimpArgs false
namespace Flt
open Go Go.Vm Ieee
def nanB (r : Nat) : Prop := (double.read r).isNaN = true
theorem nan_word (t : Nat) : nanB ((t % 2) * 2 ^ 63 + 0x7ff0000000000000 + 1 + (t / 2) % (2 ^ 52 - 1)) := by
 unfold nanB Format.read
 rw [double_sw, double_bn, double_ir]
 have h1 : ((t % 2) * 2 ^ 63 + 0x7ff0000000000000 + 1 + (t / 2) % (2 ^ 52 - 1)) % 9223372036854775808 = 0x7ff0000000000000 + 1 + (t / 2) % (2 ^ 52 - 1) := by omega
 simp only [h1]
 rw [if_neg (by omega), if_neg (by omega), if_neg (by omega)]
 rfl
theorem feq_nan {r : Nat} (h : nanB r) (y : Nat) : feq r y = false := by
 unfold nanB at h
 show (double.order r y == some .eq) = false
 unfold Format.order
 generalize double.read r = a at *
 cases a with
 | nan => rfl
 | _ => cases h
/-- It is a number. -/
def isFin (x : Nat) : Bool := (V x).isSome
theorem isFin_V {x : Nat} (h : isFin x = true) : ∃ p, V x = some p := Option.isSome_iff_exists.1 h
theorem sub_self_none {x : Nat} (h : isFin x = false) : floatBits .sub .f64 x x = none := by
 show double.sub x x = none
 unfold isFin V at h
 unfold Format.sub
 generalize double.read x = a at *
 cases a with
 | nan => rfl
 | infinity s => cases s <;> rfl
 | number s m e => cases h
theorem sub_self_zero {x : Nat} (h : isFin x = true) : ∃ z, floatBits .sub .f64 x x = some z ∧ feq z 0 = true := by
 obtain ⟨p, hp⟩ := isFin_V h
 have e : p - p = ((0 : Int) : Rat) * 2 ^ (0 : Int) := by
  have : ((0 : Int) : Rat) = 0 := rfl
  rw [this]; grind
 obtain ⟨z, r, hz, hr, hR⟩ := sub_rnd hp hp (by rw [e]; exact ab_dy (by decide) (by omega))
 have := hR.exact 0 0 (by decide) (by omega) e
 refine ⟨z, hz, ?_⟩
 rw [feq_val hr zero_int, this, e]
 simp [zpow_zero']
end Flt
namespace Go.Vm
open Flt (nanB)
theorem run_arithA (P : Program) (op : BinOp) (hop : op = .add ∨ op = .sub ∨ op = .mul ∨ op = .quo) (t : TypeId) (x y : Nat) (w : World) :
  ∃ r w', (binOp op t (.float .f64 x) (.float .f64 y)).run P w = .ok (.float .f64 r) w' ∧ (w' = w ∨ w' = w.drew) ∧ (floatBits op .f64 x y = some r ∨ (floatBits op .f64 x y = none ∧ nanB r)) := by
 cases hb : floatBits op .f64 x y with
 | some r => exact ⟨r, w, run_float_arith w op t .f64 x y r hb, .inl rfl, .inl rfl⟩
 | none =>
  unfold floatBits at hb
  refine ⟨Question.cut (.nanBits .f64 x y) (w.tape w.drawn (.nanBits .f64 x y)), w.drew, ?_, .inr rfl, .inr ⟨rfl, ?_⟩⟩
  ·rcases hop with rfl | rfl | rfl | rfl <;> simp only at hb <;> simp [binOp, Op.floatArith, hb, run_choose_drew, Question.forced]
  ·exact Flt.nan_word _
section
variable {C : Ctx} {Q : Exit → St → Prop} {ops : Array Oper} {rest : List Oper} {o : Oper} {e : List (Nat × SV)} {obs : List Ob} {d : Nat} {t ty : TypeId} {x y : Operand}
theorem AOp.farithA {a b : Nat} {op : BinOp} (hop : op = .add ∨ op = .sub ∨ op = .mul ∨ op = .quo) (ho : o.op = .binOp op t x y ty) (hd : o.dst = some d) (hn : d < C.n) (hx : opS ⟨e, obs⟩ x = some (.d (dfl a))) (hy : opS ⟨e, obs⟩ y = some (.d (dfl b)))
  (h : ∀ r, (floatBits op .f64 a b = some r ∨ (floatBits op .f64 a b = none ∧ nanB r)) → AO C ops rest ⟨(d, .d (dfl r)) :: e, obs⟩ Q) : AOp C ops rest o ⟨e, obs⟩ Q :=
 AOp.drawn (R := fun v => ∃ r, v = .float .f64 r ∧ (floatBits op .f64 a b = some r ∨ (floatBits op .f64 a b = none ∧ nanB r))) hd hn (fun Ω a' w hr => by
  obtain ⟨r, w', h1, h2, h3⟩ := run_arithA C.P op hop t a b w
  have hg : eqGuard op t x y (.float .f64 a) (.float .f64 b) = pure () := by rcases hop with rfl | rfl | rfl | rfl <;> rfl
  exact ⟨.float .f64 r, w', by simp only [execOp, ho, hr.evalV hx, hr.evalV hy, hg, Sem.run_bind, Sem.run_pure, Result.andThen_ok, h1], h2, r, rfl, h3⟩) (fun v ⟨r, he, hr⟩ => by subst he; exact h r hr)
end
end Go.Vm

/- make of slices; stores at places that turn; own slices in own structs. -/
set_option linter.unusedVariables false
set_option linter.unusedSimpArgs false
namespace Go.Vm
section
variable {C : Ctx} {Q : Exit → St → Prop} {ops : Array Oper} {rest : List Oper} {o : Oper} {e : List (Nat × SV)} {obs : List Ob} {d : Nat}

/-- One cell is written. -/
theorem AOp.store1 {t : TypeId} {x y : Operand} {p off : Nat} {ty : TypeId} {cells : List SV} {sv s1 : SV} (ho : o.op = .store t x y) (hd : o.dst = none) (hx : opS ⟨e, obs⟩ x = some (.ptr p off)) (hy : opS ⟨e, obs⟩ y = some sv)
  (hs : sizeT C.P t = some 1) (h1 : s1.plain = true) (hl : cellsS sv = [s1]) (hp : obs[p]? = some (.fix ty cells)) (hc : off < cells.length)
  (h : AO C ops rest ⟨e, obs.set p (.fix ty (cells.set off s1))⟩ Q) : AOp C ops rest o ⟨e, obs⟩ Q :=
 AOp.store ho hd hx hy hs (by rw [hl]; simp [h1]) (by rw [hl]; rfl) hp (by omega) (by
  rw [hl]
  have : cells.take off ++ [s1] ++ cells.drop (off + 1) = cells.set off s1 := by
   rw [List.set_eq_take_append_cons_drop, if_pos hc]; simp
  rw [this]; exact h)

/-- make([]T, n), T of one cell. -/
theorem AOp.makeSlice {t el bytes n : Nat} {x y : Operand} {z : Value} {ik : IntKind} (ho : o.op = .makeSlice t x y) (hd : o.dst = some d) (hn : d < C.n)
  (hx : opS ⟨e, obs⟩ x = some (.d (.v (.int ik (n : Int))))) (hy : opS ⟨e, obs⟩ y = some (.d (.v (.int ik (n : Int))))) (ht : elemT C.P t = some (el, 1)) (hi : (C.P.info? el).map (fun i => (i.zero, i.size, i.bytes)) = some (some z, 1, bytes)) (hz : z.cells = #[z]) (h1 : z.oneCell' = true)
  (hb : bytes * n ≤ 281474976710656) (h63 : n ≤ maxLen)
  (h : AO C ops rest ⟨(d, .sl obs.length 1 0 n n) :: e, obs ++ [.fix el (List.replicate n (.d (.v z)))]⟩ Q) : AOp C ops rest o ⟨e, obs⟩ Q := by
 refine AOp.step hd hn (fun Ω a w hr => ?_) h
 obtain ⟨hu, hs⟩ := elemT_spec ht
 obtain ⟨i, hii, hie⟩ : ∃ i, C.P.info? el = some i ∧ (i.zero, i.size, i.bytes) = (some z, 1, bytes) := by
  cases hq : C.P.info? el with
  | none => rw [hq] at hi; cases hi
  | some i => rw [hq] at hi; exact ⟨i, rfl, Option.some.inj hi⟩
 simp only [Prod.mk.injEq] at hie
 obtain ⟨e1, e2, e3⟩ := hie
 have h63' : (n : Int) ≤ 9223372036854775807 := by simp only [maxLen] at h63; omega
 have hb' : (i.bytes : Int) * (n : Int) ≤ 281474976710656 := by
  rw [e3]
  have h : ((bytes * n : Nat) : Int) ≤ 281474976710656 := by omega
  rwa [Int.natCast_mul] at h
 have hrun := run_make (P := C.P) w t el i z hu hii e1 ik ik (n : Int) (n : Int) (by omega) (Int.le_refl _) hb' h63'
 have hm : madeCells z.cells ((n : Int).toNat * i.size) = (List.replicate n z).toArray := by
  rw [hz, e2, Int.toNat_natCast, Nat.mul_one]
  apply Array.ext'
  rw [toList_madeCells_one]
 rw [hm, Int.toNat_natCast] at hrun
 have hal := hr.alloc el (List.replicate n (.d (.v z))) (List.replicate n z) (by simp) (fun j x y hx hy => by
  have hj := (List.getElem?_eq_some_iff.1 hx).1
  simp at hj
  rw [List.getElem?_replicate, if_pos hj] at hx hy
  cases hx; cases hy
  exact .d _ _ (.v _)) (fun y hy => by rw [List.eq_of_mem_replicate hy]; exact h1)
 refine ⟨.slice (some ⟨w.heap.size, 0, none⟩) n n, _, _, ?_, hal, .sl _ _ _ _ _ _ ?_⟩
 ·simp only [execOp, ho, hr.evalV hx, hr.evalV hy, Sem.run_bind, hrun, Result.andThen_ok, Sem.run_pure]
 ·have := hr.mem.len
  dsimp only at this
  rw [this, List.getElem?_append_right (Nat.le_refl _)]; simp
def SV.scrub (p : Nat) (x : SV) : SV := if x.noO p = true then x else .any
def Ob.scrub (p : Nat) : Ob → Ob
 | .fix ty cells => .fix ty (cells.map (SV.scrub p))
 | x => x
theorem Rel.scrub {Ω : List Value} {a : Act} {w : World} (hr : Rel C ⟨e, obs⟩ Ω a w) (p : Nat) : Rel C ⟨e, obs.map (Ob.scrub p)⟩ Ω a w := by
 have g1 : ∀ {i : Nat} {ob : Ob}, (obs.map (Ob.scrub p))[i]? = some ob → ∃ ob', obs[i]? = some ob' ∧ ob = ob'.scrub p := fun {i ob} h => by
  rw [List.getElem?_map, Option.map_eq_some_iff] at h
  obtain ⟨x, h1, h2⟩ := h
  exact ⟨x, h1, h2.symm⟩
 have lv : ∀ ob : Ob, (ob.scrub p).live = ob.live := fun ob => by cases ob <;> rfl
 have hok : ∀ b, okB C obs Ω w b → okB C (obs.map (Ob.scrub p)) Ω w b := fun b hb => ⟨hb.1, hb.2.1, fun i ob k e1 l e2 => by
  obtain ⟨ob', h1, rfl⟩ := g1 e1
  exact hb.2.2 i ob' k h1 (by rw [← lv]; exact l) e2⟩
 refine ⟨hr.defers, hr.size, fun t x hx => ?_, ⟨by simp; exact hr.mem.len, fun i ob k e1 e2 => ?_, fun i j x y h k b hij e1 e2 l1 l2 e3 e4 hp => ?_, fun i ob k b e1 l e2 hp => ?_, hr.mem.fr⟩⟩
 ·obtain ⟨v, hv, hrep⟩ := hr.env t x hx
  exact ⟨v, hv, hrep.mono (fun b hb => ⟨hok b hb, rfl⟩) (fun _ _ e => e)⟩
 ·obtain ⟨ob', h1, rfl⟩ := g1 e1
  have H := (hr.mem.obj i ob' k h1 e2).mono (fun b hb => ⟨hok b hb, rfl⟩) (fun _ _ e => e) (fun _ _ _ => rfl)
  cases ob' with
  | dead => trivial
  | frame vs env => exact H
  | grow ty sz cells => exact H
  | fix ty cells =>
   obtain ⟨b, vs, rfl, hw, hvl, hvr, hone⟩ := H
   refine ⟨b, vs, rfl, hw, by simp [hvl], fun j x y hx hy => ?_, hone⟩
   rw [List.getElem?_map, Option.map_eq_some_iff] at hx
   obtain ⟨z, hz, rfl⟩ := hx
   unfold SV.scrub
   split
   ·exact hvr j z y hz hy
   ·exact .any _
 ·obtain ⟨x', h1, rfl⟩ := g1 e1
  obtain ⟨y', h2, rfl⟩ := g1 e2
  exact hr.mem.sep i j x' y' h k b hij h1 h2 (by rw [← lv]; exact l1) (by rw [← lv]; exact l2) e3 e4 hp
 ·obtain ⟨ob', h1, rfl⟩ := g1 e1
  exact hr.mem.new i ob' k b h1 (by rw [← lv]; exact l) e2 hp
/-- In the structs of one's own nothing more is said of slice p. -/
theorem AO.scrub {l : List Oper} (p : Nat) {obs' : List Ob} (he : obs.map (Ob.scrub p) = obs') (h : AO C ops l ⟨e, obs'⟩ Q) : AO C ops l ⟨e, obs⟩ Q :=
 fun Ω a w hr => h Ω a w (by subst he; exact hr.scrub p)
end
end Go.Vm

/- Slice expressions on data; shifts; slices made to be appended to. -/
set_option linter.unusedVariables false
set_option linter.unusedSimpArgs false
namespace Go.Vm
section
variable {C : Ctx} {Q : Exit → St → Prop} {ops : Array Oper} {rest : List Oper} {o : Oper} {e : List (Nat × SV)} {obs : List Ob} {d : Nat} {t ty : TypeId} {x y : Operand}

theorem AOp.ishr {k k' : IntKind} {a z : Int} {n : Nat} (ho : o.op = .binOp .shr t x y ty) (hd : o.dst = some d) (hn : d < C.n) (hx : opS ⟨e, obs⟩ x = some (.d (di k a))) (hy : opS ⟨e, obs⟩ y = some (.d (di k' (n : Int))))
  (hb : n ≤ k.bits) (h0 : 0 ≤ a) (hz : a / 2 ^ n = z) (h : AO C ops rest ⟨(d, .d (di k z)) :: e, obs⟩ Q) : AOp C ops rest o ⟨e, obs⟩ Q :=
 AOp.bin ho hd hn hx hy rfl (fun w => by
  have h1 : ¬ ((n : Int) < 0) := by omega
  have h2 : min n k.bits = n := Nat.min_eq_left hb
  have h3 : a.fdiv (2 ^ n) = z := by rw [← hz]; exact Int.fdiv_eq_ediv_of_nonneg a (Int.le_of_lt (Int.pow_pos (by decide)))
  simp [binOp, Op.shift, h1, h2, h3]) h
theorem AOp.ishl {k k' : IntKind} {a z : Int} {n : Nat} (ho : o.op = .binOp .shl t x y ty) (hd : o.dst = some d) (hn : d < C.n) (hx : opS ⟨e, obs⟩ x = some (.d (di k a))) (hy : opS ⟨e, obs⟩ y = some (.d (di k' (n : Int))))
  (hb : n ≤ k.bits) (hz : k.wrap (a * 2 ^ n) = z) (h : AO C ops rest ⟨(d, .d (di k z)) :: e, obs⟩ Q) : AOp C ops rest o ⟨e, obs⟩ Q :=
 AOp.bin ho hd hn hx hy rfl (fun w => by
  have h1 : ¬ ((n : Int) < 0) := by omega
  have h2 : min n k.bits = n := Nat.min_eq_left hb
  simp [binOp, Op.shift, h1, h2, hz]) h

theorem Rel.begin {Ω : List Value} {a : Act} {w w' : World} (hr : Rel C ⟨e, obs⟩ Ω a w) (hbel : RowKit.Below w.heap.size w w') {el sz n : Nat} {v : Value} {xs : List Value} {cells : List D} (how : w'.ownsRow 0 el sz v n xs)
  (hb : ∀ b, blk v = some b → w.heap.size ≤ b) (hl : xs.length = cells.length) (hc : ∀ (i : Nat) x y, cells[i]? = some x → xs[i]? = some y → RepD w (okB C obs Ω w) x y) :
  Rel C ⟨e, obs ++ [.grow el sz cells]⟩ (Ω ++ [v]) a w' := by
 have hlen : obs.length = Ω.length := hr.mem.len
 have new1 : ∀ {i : Nat} {ob : Ob} {k : Value}, (obs ++ [.grow el sz cells])[i]? = some ob → (Ω ++ [v])[i]? = some k → (obs[i]? = some ob ∧ Ω[i]? = some k) ∨ (i = obs.length ∧ ob = .grow el sz cells ∧ k = v) := fun {i ob k} e1 e2 => by
  rw [List.getElem?_append] at e1 e2
  rw [← hlen] at e2
  split at e1
  ·rename_i hi; rw [if_pos hi] at e2; exact .inl ⟨e1, e2⟩
  ·rename_i hi
   rw [if_neg hi] at e2
   cases hq : i - obs.length with
   | zero =>
    rw [hq] at e1 e2
    exact .inr ⟨by omega, (Option.some.inj e1).symm, (Option.some.inj e2).symm⟩
   | succ m => rw [hq] at e1; simp at e1
 have hok : ∀ b, okB C obs Ω w b → okB C (obs ++ [.grow el sz cells]) (Ω ++ [v]) w' b ∧ w'.heap[b]? = w.heap[b]? := fun b hk => ⟨⟨hk.1, Nat.lt_of_lt_of_le hk.2.1 hbel.size, fun i ob k e1 l e2 => by
  rcases new1 e1 e2 with ⟨f1, f2⟩ | ⟨_, rfl, rfl⟩
  ·exact hk.2.2 i ob k f1 l f2
  ·intro he
   have := hb b he
   have := hk.2.1
   omega⟩, hbel.block b hk.2.1⟩
 have hΩ : ∀ (o : Nat) u, Ω[o]? = some u → (Ω ++ [v])[o]? = some u := fun o u h => by
  rw [List.getElem?_append_left (List.getElem?_eq_some_iff.1 h).1]; exact h
 have lt : ∀ {i : Nat} {ob : Ob} {k : Value} {b : Nat}, obs[i]? = some ob → ob.live = true → Ω[i]? = some k → blk k = some b → b < w.heap.size := fun e1 l e2 hbk => (hr.mem.obj _ _ _ e1 e2).lt l hbk
 refine ⟨hr.defers, hr.size, fun q x hq => ?_, ⟨by simp [hlen], fun i ob k e1 e2 => ?_, fun i j x y p q b hij e1 e2 l1 l2 e3 e4 hp => ?_, fun i ob k b e1 l1 e2 hp => ?_, ?_⟩⟩
 ·obtain ⟨u, hu, hrep⟩ := hr.env q x hq
  exact ⟨u, hu, hrep.mono hok hΩ⟩
 ·rcases new1 e1 e2 with ⟨f1, f2⟩ | ⟨_, rfl, rfl⟩
  ·exact (hr.mem.obj i ob k f1 f2).mono hok hΩ (fun b hbk l => hbel.block b (lt f1 l f2 hbk))
  ·exact ⟨n, xs, how, hl, fun i x y hx hy => (hc i x y hx hy).mono hok⟩
 ·rcases new1 e1 e3 with ⟨f1, f2⟩ | ⟨h1, rfl, rfl⟩
  ·rcases new1 e2 e4 with ⟨g1, g2⟩ | ⟨_, rfl, rfl⟩
   ·exact hr.mem.sep i j x y p q b hij f1 g1 l1 l2 f2 g2 hp
   ·intro he
    have h1 := hb b he
    have h2 := lt f1 l1 f2 hp
    omega
  ·rcases new1 e2 e4 with ⟨g1, g2⟩ | ⟨h2, _, _⟩
   ·intro he
    have h1 := hb b hp
    have h2 := lt g1 l2 g2 he
    omega
   ·omega
 ·rcases new1 e1 e2 with ⟨f1, f2⟩ | ⟨_, rfl, rfl⟩
  ·exact hr.mem.new i ob k b f1 l1 f2 hp
  ·left; exact Nat.le_trans hr.mem.fr.size (hb b hp)
 ·exact ⟨hbel.os.trans hr.mem.fr.os, hbel.tape.trans hr.mem.fr.tape, hbel.output.trans hr.mem.fr.output, Nat.le_trans hr.mem.fr.size hbel.size, fun b e1 e2 => (hbel.block b (Nat.lt_of_lt_of_le e1 hr.mem.fr.size)).trans (hr.mem.fr.block b e1 e2), hr.mem.fr.glob, hr.mem.fr.gmay⟩

/-- make([]T, 0, c): to be appended to. -/
theorem AOp.makeOwn {el sz bytes c : Nat} {z : Value} (ho : o.op = .makeSlice t x y) (hd : o.dst = some d) (hn : d < C.n)
  (hx : opS ⟨e, obs⟩ x = some (.d (.v (.int .i64 0)))) (hy : opS ⟨e, obs⟩ y = some (.d (.v (.int .i64 (c : Int))))) (ht : elemT C.P t = some (el, sz)) (hi : (C.P.info? el).map (fun i => (i.zero, i.size, i.bytes)) = some (some z, sz, bytes))
  (hb : bytes * c ≤ 281474976710656) (h63 : c ≤ maxLen)
  (h : AO C ops rest ⟨(d, .own obs.length) :: e, obs ++ [.grow el sz []]⟩ Q) : AOp C ops rest o ⟨e, obs⟩ Q := by
 refine AOp.step hd hn (fun Ω a w hr => ?_) h
 obtain ⟨hu, hs⟩ := elemT_spec ht
 obtain ⟨i, hii, hie⟩ : ∃ i, C.P.info? el = some i ∧ (i.zero, i.size, i.bytes) = (some z, sz, bytes) := by
  cases hq : C.P.info? el with
  | none => rw [hq] at hi; cases hi
  | some i => rw [hq] at hi; exact ⟨i, rfl, Option.some.inj hi⟩
 simp only [Prod.mk.injEq] at hie
 obtain ⟨e1, e2, e3⟩ := hie
 obtain ⟨w', hrun, how, hg⟩ := run_make_own (P := C.P) w 0 t el i z sz hu hii e1 e2 .i64 .i64 c (by rw [e3]; exact hb) h63 (Nat.zero_le _)
 have hbel : RowKit.Below w.heap.size w w' := ⟨hg.os, hg.tape, hg.output, hg.size, fun k hk => hg.block k hk (by simp)⟩
 have hrel := hr.begin hbel how (cells := []) (fun b hb => by simp [blk] at hb; exact Nat.le_of_eq hb) rfl (fun i x y hx => by simp at hx)
 refine ⟨.slice (some ⟨w.heap.size, 0, none⟩) 0 c, w', _, ?_, hrel, .own _ _ ?_⟩
 ·simp only [execOp, ho, hr.evalV hx, hr.evalV hy, Sem.run_bind, hrun, Result.andThen_ok, Sem.run_pure]
 ·have := hr.mem.len
  dsimp only at this
  rw [this, List.getElem?_append_right (Nat.le_refl _)]; simp

/-- x[l:h] of data. -/
theorem RepD.sliced {w : World} {ok : Nat → Prop} {sz n l h : Nat} {cells : List D} {v : Value} (hr : RepD w ok (.ds sz cells) v) (hsz : 0 < sz) (hl : cells.length = n * sz) (h1 : l ≤ h) (h2 : h ≤ n) :
  ∃ a m c, v = .slice a m c ∧ h ≤ c ∧ m = n ∧ RepD w ok (.ds sz ((cells.drop (l * sz)).take ((h - l) * sz))) (.slice (if c = l then a else a.map (·.add (l * sz))) (h - l) (c - l)) := by
 have empty : ∀ (a : Option Addr) (c : Nat), h - l = 0 → RepD w ok (.ds sz ((cells.drop (l * sz)).take ((h - l) * sz))) (.slice a (h - l) c) := fun a c h0 => by
  rw [h0]; simp; exact .nil _ _ _
 cases hr with
 | nil _ a c =>
  have hn : n = 0 := by
   rcases Nat.eq_zero_or_pos n with h | h
   ·exact h
   ·have := Nat.mul_pos h hsz; simp at hl; omega
  subst hn
  exact ⟨a, 0, c, rfl, by omega, rfl, empty _ _ (by omega)⟩
 | ds _ b off len cap _ vals hl2 hc hb hcell hrr =>
  have hm : len = n := Nat.eq_of_mul_eq_mul_right hsz (by rw [← hl2, hl])
  subst hm
  refine ⟨_, len, cap, rfl, by omega, rfl, ?_⟩
  rcases Nat.eq_zero_or_pos (h - l) with h0 | h0
  ·exact empty _ _ h0
  ·rw [if_neg (by omega)]
   have hlen : ((cells.drop (l * sz)).take ((h - l) * sz)).length = (h - l) * sz := by
    have : h * sz ≤ len * sz := Nat.mul_le_mul_right _ h2
    have e1 : (h - l) * sz = h * sz - l * sz := Nat.sub_mul _ _ _
    simp; omega
   show RepD w ok _ (.slice (some ((⟨b, off, none⟩ : Addr).add (l * sz))) (h - l) (cap - l))
   rw [Addr.add_of]
   refine .ds _ _ _ _ _ _ (fun i => vals (l * sz + i)) hlen (by omega) hb (fun i hi => ?_) (fun i x hx => ?_)
   ·rw [Nat.add_assoc]
    rw [hlen] at hi
    have : h * sz ≤ len * sz := Nat.mul_le_mul_right _ h2
    have e1 : (h - l) * sz = h * sz - l * sz := Nat.sub_mul _ _ _
    exact hcell (l * sz + i) (by omega)
   ·rw [List.getElem?_take] at hx
    split at hx
    ·rw [List.getElem?_drop] at hx; exact hrr _ _ hx
    ·cases hx

theorem elem_of {P : Program} {t el sz : TypeId} (h : elemT P t = some (el, sz)) : P.underlying t = some (.slice (P.elem t)) ∧ (sizeOf (P.elem t)).run P = (sizeOf el).run P := by
 obtain ⟨hu, _⟩ := elemT_spec h
 have : P.elem t = el := by simp [Program.elem, hu]
 rw [this]; exact ⟨hu, rfl⟩
end
end Go.Vm

/- Two ways that meet again. -/
set_option linter.unusedVariables false
namespace Go.Vm
def JoinQ {G : Type} (ksC ksV : List Nat) (m : Nat) (cenv : List (Nat × SV)) (venv : G → List (Nat × SV)) (ob : G → List Ob) (inv : G → Prop) (Q : Exit → St → Prop) : Exit → St → Prop
 | .normal, s => Vm.keep ksC s.env = some cenv ∧ ∃ g, Vm.keep ksV s.env = some (venv g) ∧ s.obs.take m = ob g ∧ keepOK m (cenv ++ venv g) (ob g) = true ∧ inv g
 | e, s => Q e s
end Go.Vm

/- A slice of one's own, appended to no more, is data. -/
set_option linter.unusedVariables false
namespace Go.Vm
section
variable {C : Ctx} {Q : Exit → St → Prop} {ops : Array Oper} {e : List (Nat × SV)} {obs : List Ob}
theorem Rel.freezeOwn {Ω : List Value} {a : Act} {w : World} (hr : Rel C ⟨e, obs⟩ Ω a w) (hm : C.may = C.may) {t p ty sz : Nat} {cells : List D} (hx : get e t = some (.own p)) (hp : obs[p]? = some (.grow ty sz cells)) :
  Rel C ⟨(t, .d (.ds sz cells)) :: e, obs.set p .dead⟩ Ω a w := by
 obtain ⟨hmem, hok⟩ := hr.mem.kill p
 obtain ⟨v, hv, hrep⟩ := hr.env t _ hx
 obtain ⟨n, xs, hΩ, how, hxl, hrr⟩ := hr.growV hp hrep
 have hd : RepD w (okB C (obs.set p .dead) Ω w) (.ds sz cells) v := by
  rcases how.2 with ⟨rfl, h0⟩ | ⟨g, cap, cur, rfl, _, hg, hnc, _, hcs, hct⟩
  ·have : cells = [] := List.eq_nil_of_length_eq_zero (by rw [← hxl, how.1, h0]; simp)
   subst this; exact .nil _ _ _
  ·have hcell : ∀ (i : Nat), i < cells.length → xs[i]? = some (xs.getD i undef) := fun i hi => by
    rw [List.getD_eq_getElem?_getD, List.getElem?_eq_getElem (by omega)]; rfl
   refine .ds _ _ _ _ _ _ (fun i => xs.getD i undef) (by rw [← hxl, how.1]) hnc ⟨?_, (Array.getElem?_eq_some_iff.1 hg).1, fun i ob k e1 l e2 => ?_⟩ (fun i hi => ?_) (fun i x hx => ?_)
   ·rcases hr.mem.new p _ _ g hp rfl hΩ rfl with h | h
    ·exact .inr (.inl h)
    ·exact .inr (.inr h)
   ·rcases get_set e1 with ⟨rfl, rfl, _⟩ | ⟨hi, e1⟩
    ·cases l
    ·exact hr.mem.sep p i _ _ _ _ g (Ne.symm hi) hp e1 rfl l hΩ e2 rfl
   ·rw [Nat.zero_add, cell_of_row w g i cur ty (0, 0) hg]
    have hin : i < n * sz := by have := how.1; omega
    have h1 : xs[i]? = cur.toList[i]? := by rw [← hct, List.getElem?_take, if_pos hin]
    have h2 := hcell i hi
    rw [h1] at h2
    simpa using h2
   ·exact (hrr i x _ hx (hcell i (List.getElem?_eq_some_iff.1 hx).1)).mono fun b hb => ⟨hok b hb, rfl⟩
 refine ⟨hr.defers, hr.size, fun q x hq => ?_, hmem⟩
 simp only [get] at hq
 split at hq
 ·rename_i h; subst h; cases hq; exact ⟨v, hv, .d _ _ hd⟩
 ·obtain ⟨u, hu, hrep⟩ := hr.env q x hq
  exact ⟨u, hu, hrep.mono (fun b hb => ⟨hok b hb, rfl⟩) (fun _ _ e => e)⟩
theorem AO.freeze {l : List Oper} (t p : Nat) {ty sz : Nat} {cells : List D} (hm : C.may = C.may) (hx : get e t = some (.own p)) (hp : obs[p]? = some (.grow ty sz cells))
  (h : AO C ops l ⟨(t, .d (.ds sz cells)) :: e, obs.set p .dead⟩ Q) : AO C ops l ⟨e, obs⟩ Q := fun Ω a w hr => h _ a w (hr.freezeOwn hm hx hp)
end
end Go.Vm

/- Printed functions: how what they say is taken apart beside a walk; further rules of the view. -/
set_option linter.unusedVariables false
set_option linter.unusedSimpArgs false
namespace Go.Vm

/-- k, where p holds. -/
def need {α : Type} (p : Prop) [Decidable p] (k : Option α) : Option α := if p then k else none
theorem need_elim {α : Type} {p : Prop} [Decidable p] {k : Option α} {r : α} (h : need p k = some r) : p ∧ k = some r := by
 unfold need at h; split at h
 ·exact ⟨by assumption, h⟩
 ·cases h
theorem need_pos {α : Type} {p : Prop} [Decidable p] (h : p) (k : Option α) : need p k = k := by unfold need; rw [if_pos h]
theorem bind_elim {α β : Type} {o : Option α} {k : α → Option β} {r : β} (h : o.bind k = some r) : ∃ y, o = some y ∧ k y = some r := by
 cases o with
 | none => cases h
 | some y => exact ⟨y, rfl, h⟩
theorem cT {α : Type} {b : Bool} {x y : α} {r : α} (h : cond b x y = r) (hb : b = true) : x = r := by subst hb; exact h
theorem cF {α : Type} {b : Bool} {x y : α} {r : α} (h : cond b x y = r) (hb : b = false) : y = r := by subst hb; exact h
/-- A loop with fuel. -/
def iter {V T : Type} (b : (V → Option T) → V → Option T) : Nat → V → Option T
 | 0, _ => none
 | n + 1, v => b (iter b n) v
/-- Behind a loop: what follows a break, or a result at once. -/
def aft {V R T : Type} (o : Sum V R) (ret : R → Option T) (k : V → Option T) : Option T := match o with
 | .inl v => k v
 | .inr r => ret r
/-- an element, where there is one -/
def idx {α : Type} (l : List α) (i : Int) : Option α := if 0 ≤ i then l[i.toNat]? else none
theorem idx_elim {α β : Type} {l : List α} {i : Int} {k : α → Option β} {r : β} (h : (idx l i).bind k = some r) : ∃ y, (0 ≤ i ∧ l[i.toNat]? = some y) ∧ k y = some r := by
 obtain ⟨y, h1, h2⟩ := bind_elim h
 unfold idx at h1; split at h1
 ·exact ⟨y, ⟨by assumption, h1⟩, h2⟩
 ·cases h1
theorem idx_some {α : Type} {l : List α} {i : Int} {n : Nat} {y : α} (h : l[n]? = some y) (hi : i = n) : idx l i = some y := by
 subst hi; unfold idx; rw [if_pos (by omega)]; simpa using h
def inI (k : IntKind) (z : Int) : Prop := lo k ≤ z ∧ z ≤ hi k
instance (k : IntKind) (z : Int) : Decidable (inI k z) := by unfold inI; exact inferInstance

/-! ### Lists of cells -/
theorem len1 {α : Type} (f : α → D) (l : List α) : (l.map f).length = l.length * 1 := by simp
theorem lt1 {α : Type} {f : α → D} {l : List α} {i : Nat} {y : α} (h : l[i]? = some y) : i * 1 < (l.map f).length := by
 have := (List.getElem?_eq_some_iff.1 h).1; simp; exact this
theorem at1 {α : Type} {f : α → D} {l : List α} {i : Nat} {y : α} (h : l[i]? = some y) : (l.map f)[i * 1]? = some (f y) := by simp [h]
theorem lenN {α : Type} (f : α → List D) (sz : Nat) (hf : ∀ x, (f x).length = sz) (l : List α) : (l.flatMap f).length = l.length * sz := by
 induction l with
 | nil => simp
 | cons a l ih => simp [ih, hf, Nat.add_mul]; omega
theorem splitN {α : Type} (f : α → List D) (sz : Nat) (hf : ∀ x, (f x).length = sz) : ∀ (l : List α) (i : Nat), (l.flatMap f).drop (i * sz) = (l.drop i).flatMap f
 | [], i => by simp
 | a :: l, 0 => by simp
 | a :: l, i + 1 => by
  have e : (i + 1) * sz = (f a).length + i * sz := by rw [hf, Nat.add_mul]; omega
  rw [List.flatMap_cons, e, ← List.drop_drop, List.drop_left, splitN f sz hf l i]
  rfl
theorem takeN {α : Type} (f : α → List D) (sz : Nat) (hf : ∀ x, (f x).length = sz) : ∀ (l : List α) (i : Nat), (l.flatMap f).take (i * sz) = (l.take i).flatMap f
 | [], i => by simp
 | a :: l, 0 => by simp
 | a :: l, i + 1 => by
  have e : (i + 1) * sz = (f a).length + i * sz := by rw [hf, Nat.add_mul]; omega
  rw [List.flatMap_cons, e, List.take_length_add_append, takeN f sz hf l i]
  simp
theorem ltN {α : Type} {f : α → List D} (sz : Nat) (hf : ∀ x, (f x).length = sz) (h0 : 0 < sz) {l : List α} {i : Nat} {y : α} (h : l[i]? = some y) : i * sz < (l.flatMap f).length := by
 rw [lenN f sz hf]
 exact Nat.mul_lt_mul_of_pos_right (List.getElem?_eq_some_iff.1 h).1 h0
theorem leN {α : Type} {f : α → List D} (sz : Nat) (hf : ∀ x, (f x).length = sz) {l : List α} {i : Nat} {y : α} (h : l[i]? = some y) : i * sz + sz ≤ (l.flatMap f).length := by
 rw [lenN f sz hf]
 have : (i + 1) * sz ≤ l.length * sz := Nat.mul_le_mul_right _ (List.getElem?_eq_some_iff.1 h).1
 rw [Nat.add_mul] at this; omega
theorem atN {α : Type} {f : α → List D} (sz : Nat) (hf : ∀ x, (f x).length = sz) {l : List α} {i : Nat} {y : α} (h : l[i]? = some y) : ((l.flatMap f).drop (i * sz)).take sz = f y := by
 rw [splitN f sz hf]
 have hlt := (List.getElem?_eq_some_iff.1 h).1
 have hy : l[i] = y := (List.getElem?_eq_some_iff.1 h).2
 rw [List.drop_eq_getElem_cons hlt, List.flatMap_cons, hy]
 have : sz = (f y).length := (hf y).symm
 conv => lhs; arg 1; rw [this]
 simp
theorem sub1 {α : Type} (f : α → D) (l : List α) (a b : Nat) : ((l.map f).drop (a * 1)).take ((b - a) * 1) = ((l.drop a).take (b - a)).map f := by simp [List.map_take, List.map_drop]
theorem subN {α : Type} (f : α → List D) (sz : Nat) (hf : ∀ x, (f x).length = sz) (l : List α) (a b : Nat) : ((l.flatMap f).drop (a * sz)).take ((b - a) * sz) = ((l.drop a).take (b - a)).flatMap f := by
 rw [splitN f sz hf, takeN f sz hf]
theorem tkN {α : Type} (f : α → List D) (sz : Nat) (hf : ∀ x, (f x).length = sz) (l : List α) (k : Nat) : (l.flatMap f).take (k * sz) = (l.take k).flatMap f := takeN f sz hf l k
theorem cat1 {α : Type} (f : α → D) (l m : List α) : l.map f ++ m.map f = (l ++ m).map f := by simp
theorem catN {α : Type} (f : α → List D) (l m : List α) : l.flatMap f ++ m.flatMap f = (l ++ m).flatMap f := by simp
theorem one1 {α : Type} (f : α → D) (hf : ∀ x, (f x).one = true) (l : List α) : ∀ x, x ∈ l.map f → x.one = true := fun x hx => by
 obtain ⟨y, _, rfl⟩ := List.mem_map.1 hx; exact hf y
theorem oneN {α : Type} (f : α → List D) (hf : ∀ x, (f x).all D.one = true) (l : List α) : ∀ x, x ∈ l.flatMap f → x.one = true := fun x hx => by
 obtain ⟨y, _, h⟩ := List.mem_flatMap.1 hx; exact List.all_eq_true.1 (hf y) x h
theorem small {n b : Nat} (h : n ≤ 4294967296) (hb : b ≤ 32768) : n * b ≤ 140737488355328 := Nat.le_trans (Nat.mul_le_mul h hb) (by decide)
theorem small' {n b : Nat} (h : n ≤ 4294967296) (hb : b ≤ 32768) : b * n ≤ 281474976710656 := by rw [Nat.mul_comm]; exact Nat.le_trans (small h hb) (by decide)
theorem small63 {n : Nat} (h : n ≤ 4294967296) : n ≤ maxLen := Nat.le_trans h (by decide)

/-! ### One view is told by another -/
def SVLe (x y : SV) : Prop := ∀ w ok Ω v, RepS w ok Ω x v → RepS w ok Ω y v
theorem SVLe.refl (x : SV) : SVLe x x := fun _ _ _ _ h => h
theorem SVLe.any (x : SV) : SVLe x .any := fun _ _ _ v _ => .any v
theorem SVLe.nil (sz : Nat) : SVLe (.d (.v (.slice none 0 0))) (.d (.ds sz [])) := fun w ok Ω v h => by
 rw [h.val]; exact .d _ _ (.nil _ _ _)
/-- data, as it stands in a struct -/
inductive SLe : List SV → List D → Prop
 | nil : SLe [] []
 | cons {x : SV} {y : D} {xs : List SV} {ys : List D} (h : SVLe x (.d y)) (t : SLe xs ys) : SLe (x :: xs) (y :: ys)
theorem SLe.get {xs : List SV} {ys : List D} (h : SLe xs ys) : xs.length = ys.length ∧ ∀ (i : Nat) x y, xs[i]? = some x → ys[i]? = some y → SVLe x (.d y) := by
 induction h with
 | nil => exact ⟨rfl, fun i x y h => by simp at h⟩
 | cons h t ih =>
  refine ⟨by simp [ih.1], fun i x y h1 h2 => ?_⟩
  cases i with
  | zero => cases h1; cases h2; exact h
  | succ i => simp at h1 h2; exact ih.2 i x y h1 h2
theorem RepS.isD {w : World} {ok : Nat → Prop} {Ω : List Value} {y : D} {v : Value} (h : RepS w ok Ω (.d y) v) : RepD w ok y v := by cases h with | d _ _ h => exact h
theorem SVLe.ag {xs : List SV} {ys : List D} (h : SLe xs ys) : SVLe (.ag xs) (.d (.ag ys)) := fun w ok Ω v hr => by
 obtain ⟨hl, hi⟩ := h.get
 cases hr with
 | ag _ vs hl2 hrr =>
  refine .d _ _ (.ag _ _ (by omega) fun i x y hx hy => ?_)
  have hlt := (List.getElem?_eq_some_iff.1 hx).1
  have hc : xs[i]? = some xs[i] := List.getElem?_eq_getElem (by omega)
  exact (hi i _ _ hc hx _ _ _ _ (hrr i _ _ hc hy)).isD
section
variable {C : Ctx} {Q : Exit → St → Prop} {ops : Array Oper} {rest : List Oper} {o : Oper} {e : List (Nat × SV)} {obs : List Ob} {d : Nat} {t ty : TypeId} {x y : Operand}
theorem Rel.sub {Ω : List Value} {a : Act} {w : World} (hr : Rel C ⟨e, obs⟩ Ω a w) {t : Nat} {x y : SV} (hx : get e t = some x) (hle : SVLe x y) : Rel C ⟨(t, y) :: e, obs⟩ Ω a w := by
 refine ⟨hr.defers, hr.size, fun q z hq => ?_, hr.mem⟩
 simp only [get] at hq
 split at hq
 ·rename_i h; subst h; cases hq
  obtain ⟨v, hv, hrep⟩ := hr.env t _ hx
  exact ⟨v, hv, hle _ _ _ _ hrep⟩
 ·exact hr.env q z hq
theorem AC.sub (t : Nat) {x y : SV} {c : Code} (hx : get e t = some x) (hle : SVLe x y) (h : AC C c ⟨(t, y) :: e, obs⟩ Q) : AC C c ⟨e, obs⟩ Q := fun Ω a w hr => h Ω a w (hr.sub hx hle)
theorem AO.sub (t : Nat) {x y : SV} {l : List Oper} (hx : get e t = some x) (hle : SVLe x y) (h : AO C ops l ⟨(t, y) :: e, obs⟩ Q) : AO C ops l ⟨e, obs⟩ Q := fun Ω a w hr => h Ω a w (hr.sub hx hle)

/-! ### A slice of one's own becomes data, wherever it stands -/
def SV.thaw (p : Nat) (x : D) : SV → SV
 | .own q => if q = p then .d x else .own q
 | .sl q sz off len cap => if q = p ∧ off = 0 then .d x else .sl q sz off len cap
 | .ag l => .ag (l.map fun | .own q => if q = p then .d x else .own q | z => z)
 | z => z
def thawE (p : Nat) (x : D) : List (Nat × SV) → List (Nat × SV)
 | [] => []
 | (k, y) :: r => (k, y.thaw p x) :: thawE p x r
theorem thawE_get {p : Nat} {x : D} : ∀ {e : List (Nat × SV)} {t : Nat} {z : SV}, get (thawE p x e) t = some z → ∃ y, get e t = some y ∧ z = y.thaw p x
 | [], _, _, h => by cases h
 | (k, y) :: r, t, z, h => by
  simp only [thawE, get] at h ⊢
  split at h
  ·rename_i hk; cases h; exact ⟨y, by rw [if_pos hk], rfl⟩
  ·rename_i hk; obtain ⟨y', h1, h2⟩ := thawE_get h; exact ⟨y', by rw [if_neg hk]; exact h1, h2⟩
/-- as long as cap is len -/
def SV.fullB (p : Nat) : SV → Bool
 | .sl q _ off len cap => q != p || off != 0 || len == cap
 | _ => true
theorem Rel.freezeGrow {Ω : List Value} {a : Act} {w : World} (hr : Rel C ⟨e, obs⟩ Ω a w) (hm : C.may = C.may) {p ty sz : Nat} {cells : List D} (hp : obs[p]? = some (.grow ty sz cells)) :
  Rel C ⟨thawE p (.ds sz cells) e, obs.set p .dead⟩ Ω a w := by
 obtain ⟨hmem, hok⟩ := hr.mem.kill p
 have hd : ∀ v, Ω[p]? = some v → RepD w (okB C (obs.set p .dead) Ω w) (.ds sz cells) v := fun v hΩ => by
  obtain ⟨n, xs, how, hxl, hrr⟩ := hr.mem.obj p _ _ hp hΩ
  rcases how.2 with ⟨rfl, h0⟩ | ⟨g, cap, cur, rfl, _, hg, hnc, _, hcs, hct⟩
  ·have : cells = [] := List.eq_nil_of_length_eq_zero (by rw [← hxl, how.1, h0]; simp)
   subst this; exact .nil _ _ _
  ·have hcell : ∀ (i : Nat), i < cells.length → xs[i]? = some (xs.getD i undef) := fun i hi => by
    rw [List.getD_eq_getElem?_getD, List.getElem?_eq_getElem (by omega)]; rfl
   refine .ds _ _ _ _ _ _ (fun i => xs.getD i undef) (by rw [← hxl, how.1]) hnc ⟨?_, (Array.getElem?_eq_some_iff.1 hg).1, fun i ob k e1 l e2 => ?_⟩ (fun i hi => ?_) (fun i x hx => ?_)
   ·rcases hr.mem.new p _ _ g hp rfl hΩ rfl with h | h
    ·exact .inr (.inl h)
    ·exact .inr (.inr h)
   ·rcases get_set e1 with ⟨rfl, rfl, _⟩ | ⟨hi, e1⟩
    ·cases l
    ·exact hr.mem.sep p i _ _ _ _ g (Ne.symm hi) hp e1 rfl l hΩ e2 rfl
   ·rw [Nat.zero_add, cell_of_row w g i cur ty (0, 0) hg]
    have hin : i < n * sz := by have := how.1; omega
    have h1 : xs[i]? = cur.toList[i]? := by rw [← hct, List.getElem?_take, if_pos hin]
    have h2 := hcell i hi
    rw [h1] at h2
    simpa using h2
   ·exact (hrr i x _ hx (hcell i (List.getElem?_eq_some_iff.1 hx).1)).mono fun b hb => ⟨hok b hb, rfl⟩
 have own : ∀ {v : Value}, RepS w (okB C obs Ω w) Ω (.own p) v → RepS w (okB C (obs.set p .dead) Ω w) Ω (.d (.ds sz cells)) v := fun h => by
  cases h with | own _ _ ho _ => exact .d _ _ (hd _ ho)
 refine ⟨hr.defers, hr.size, fun q z hq => ?_, hmem⟩
 obtain ⟨y, hy, rfl⟩ := thawE_get hq
 obtain ⟨v, hv, hrep⟩ := hr.env q y hy
 have mono : ∀ {z : SV} {u : Value}, RepS w (okB C obs Ω w) Ω z u → RepS w (okB C (obs.set p .dead) Ω w) Ω z u := fun h => h.mono (fun b hb => ⟨hok b hb, rfl⟩) (fun _ _ e => e)
 refine ⟨v, hv, ?_⟩
 cases y with
 | own q =>
  simp only [SV.thaw]
  split
  ·rename_i h; subst h; exact own hrep
  ·exact mono hrep
 | sl q s off len cap =>
  simp only [SV.thaw]
  split
  ·rename_i h
   obtain ⟨rfl, rfl⟩ := h
   cases hrep with
   | sl _ _ _ _ _ b ho =>
    obtain ⟨n, xs, how, _⟩ := hr.mem.obj q _ _ hp ho
    rcases how.2 with ⟨h, _⟩ | ⟨g, cap, cur, h, _⟩ <;> cases h
  ·exact mono hrep
 | ag l =>
  cases hrep with
  | ag _ vs hl hrr =>
   refine .ag _ _ (by simp [hl]) fun i x y hx hy => ?_
   rw [List.getElem?_map, Option.map_eq_some_iff] at hx
   obtain ⟨z, hz, rfl⟩ := hx
   have := hrr i z y hz hy
   split
   ·split
    ·rename_i h; subst h; exact own this
    ·exact mono this
   ·exact mono this
 | _ => exact mono hrep
theorem AO.freezeG {l : List Oper} (p : Nat) {ty sz : Nat} {cells : List D} {e' : List (Nat × SV)} (hm : C.may = C.may) (hp : obs[p]? = some (.grow ty sz cells)) (he : thawE p (.ds sz cells) e = e')
  (h : AO C ops l ⟨e', obs.set p .dead⟩ Q) : AO C ops l ⟨e, obs⟩ Q := fun Ω a w hr => h Ω a w (by subst he; exact hr.freezeGrow hm hp)
theorem AC.freezeG {c : Code} (p : Nat) {ty sz : Nat} {cells : List D} {e' : List (Nat × SV)} (hm : C.may = C.may) (hp : obs[p]? = some (.grow ty sz cells)) (he : thawE p (.ds sz cells) e = e')
  (h : AC C c ⟨e', obs.set p .dead⟩ Q) : AC C c ⟨e, obs⟩ Q := fun Ω a w hr => h Ω a w (by subst he; exact hr.freezeGrow hm hp)

/-- Of one cell or many: what the elements of a made slice are. -/
theorem Rel.freezeFix {Ω : List Value} {a : Act} {w : World} (hr : Rel C ⟨e, obs⟩ Ω a w) (hm : C.may = C.may) {t p ty sz len cap : Nat} {cells : List SV} {ds : List D} (hx : get e t = some (.sl p sz 0 len cap)) (hp : obs[p]? = some (.fix ty cells))
  (hc : cells = ds.map .d) (hl : ds.length = len * sz) (hcap : len ≤ cap) :
  Rel C ⟨(t, .d (.ds sz ds)) :: e, obs.set p .dead⟩ Ω a w := by
 subst hc
 obtain ⟨hmem, hok⟩ := hr.mem.kill p
 have mono : ∀ {z : SV} {u : Value}, RepS w (okB C obs Ω w) Ω z u → RepS w (okB C (obs.set p .dead) Ω w) Ω z u := fun h => h.mono (fun b hb => ⟨hok b hb, rfl⟩) (fun _ _ e => e)
 refine ⟨hr.defers, hr.size, fun q z hq => ?_, hmem⟩
 simp only [get] at hq
 split at hq
 ·rename_i h; subst h; cases hq
  obtain ⟨v, hv, hrep⟩ := hr.env t _ hx
  refine ⟨v, hv, .d _ _ ?_⟩
  cases hrep with
  | sl _ _ _ _ _ b ho =>
   obtain ⟨b', vs, he, hw, hvl, hvr, _⟩ := hr.mem.obj p _ _ hp ho
   cases he
   rw [List.length_map] at hvl
   refine .ds _ _ _ _ _ _ (fun i => vs.getD i undef) hl hcap ⟨?_, (Array.getElem?_eq_some_iff.1 hw).1, fun i ob k e1 l e2 => ?_⟩ (fun i hi => ?_) (fun i x hx => ?_)
   ·rcases hr.mem.new p _ _ b hp rfl ho rfl with h | h
    ·exact .inr (.inl h)
    ·exact .inr (.inr h)
   ·rcases get_set e1 with ⟨rfl, rfl, _⟩ | ⟨hi, e1⟩
    ·cases l
    ·exact hr.mem.sep p i _ _ _ _ b (Ne.symm hi) hp e1 rfl l ho e2 rfl
   ·rw [Nat.zero_add, cell_of_row w b i _ ty (0, 0) hw]
    have : i < vs.length := by omega
    simp [this]
   ·have hi := (List.getElem?_eq_some_iff.1 hx).1
    have hv : vs[i]? = some (vs.getD i undef) := by rw [List.getD_eq_getElem?_getD, List.getElem?_eq_getElem (by omega)]; rfl
    exact (mono (hvr i (.d x) _ (by rw [List.getElem?_map, hx]; rfl) hv)).isD
 ·obtain ⟨v, hv, hrep⟩ := hr.env q z hq
  exact ⟨v, hv, mono hrep⟩
theorem AO.freezeF {l : List Oper} (t p : Nat) {ty sz len cap : Nat} {cells : List SV} {ds : List D} (hm : C.may = C.may) (hx : get e t = some (.sl p sz 0 len cap)) (hp : obs[p]? = some (.fix ty cells))
  (hc : cells = ds.map .d) (hl : ds.length = len * sz) (hcap : len ≤ cap) (h : AO C ops l ⟨(t, .d (.ds sz ds)) :: e, obs.set p .dead⟩ Q) : AO C ops l ⟨e, obs⟩ Q := fun Ω a w hr => h _ a w (hr.freezeFix hm hx hp hc hl hcap)
theorem AC.freezeF {c : Code} (t p : Nat) {ty sz len cap : Nat} {cells : List SV} {ds : List D} (hm : C.may = C.may) (hx : get e t = some (.sl p sz 0 len cap)) (hp : obs[p]? = some (.fix ty cells))
  (hc : cells = ds.map .d) (hl : ds.length = len * sz) (hcap : len ≤ cap) (h : AC C c ⟨(t, .d (.ds sz ds)) :: e, obs.set p .dead⟩ Q) : AC C c ⟨e, obs⟩ Q := fun Ω a w hr => h _ a w (hr.freezeFix hm hx hp hc hl hcap)

/-! ### Operations -/
theorem AOp.sliceD {el sz n l hh : Nat} {lo hi : Option Operand} {cells cells' : List D} (ho : o.op = .slice t x lo hi none) (hd : o.dst = some d) (hn : d < C.n) (hx : opS ⟨e, obs⟩ x = some (.d (.ds sz cells)))
  (hlo : (lo = none ∧ l = 0) ∨ ∃ y k i, lo = some y ∧ opS ⟨e, obs⟩ y = some (.d (.v (.int k i))) ∧ 0 ≤ i ∧ l = i.toNat)
  (hhi : (hi = none ∧ hh = n) ∨ ∃ y k i, hi = some y ∧ opS ⟨e, obs⟩ y = some (.d (.v (.int k i))) ∧ 0 ≤ i ∧ hh = i.toNat)
  (ht : elemT C.P t = some (el, sz)) (hsz : 0 < sz) (hl : cells.length = n * sz) (h1 : l ≤ hh) (h2 : hh ≤ n) (hc : (cells.drop (l * sz)).take ((hh - l) * sz) = cells')
  (h : AO C ops rest ⟨(d, .d (.ds sz cells')) :: e, obs⟩ Q) : AOp C ops rest o ⟨e, obs⟩ Q :=
 AOp.value hd hn (fun Ω a w hr => by
  subst hc
  have hv := hr.eval hx
  generalize hev : a.eval x = v at hv
  cases hv with
  | d _ _ hv =>
   obtain ⟨ad, m, c, rfl, hcap, rfl, hrep⟩ := hv.sliced hsz hl h1 h2
   obtain ⟨hu, hso⟩ := elem_of ht
   refine ⟨_, ?_, .d _ _ hrep⟩
   rcases hlo with ⟨rfl, rfl⟩ | ⟨yl, kl, il, rfl, hyl, hil, rfl⟩ <;> rcases hhi with ⟨rfl, rfl⟩ | ⟨yh, kh, ih, rfl, hyh, hih, rfl⟩
   ·have := run_slice_all (P := C.P) w t ad hh c hu
    simp only [execOp, ho, hev, Option.map_none, Sem.run_bind, run_sliceAt_slice w t _ _ _ _ hu, this, hso, run_sizeOf (elemT_spec ht).2, Result.andThen_ok, sliced, Sem.run_pure]
   ·have := run_slice_h (P := C.P) w t ad m c hu kh ih hih (by omega)
    simp only [execOp, ho, hev, hr.evalV hyh, Option.map_some, Option.map_none, Sem.run_bind, run_sliceAt_slice w t _ _ _ _ hu, this, hso, run_sizeOf (elemT_spec ht).2, Result.andThen_ok, sliced, Sem.run_pure]
   ·have := run_slice_l (P := C.P) w t ad hh c hu kl il hil (by omega)
    simp only [execOp, ho, hev, hr.evalV hyl, Option.map_some, Option.map_none, Sem.run_bind, run_sliceAt_slice w t _ _ _ _ hu, this, hso, run_sizeOf (elemT_spec ht).2, Result.andThen_ok, sliced, Sem.run_pure]
   ·have := run_slice_lh (P := C.P) w t ad m c hu kl kh il ih hil (by omega) (by omega)
    simp only [execOp, ho, hev, hr.evalV hyl, hr.evalV hyh, Option.map_some, Option.map_none, Sem.run_bind, run_sliceAt_slice w t _ _ _ _ hu, this, hso, run_sizeOf (elemT_spec ht).2, Result.andThen_ok, sliced, Sem.run_pure]) h

theorem AOp.ishl' {k k' : IntKind} {a i : Int} (ho : o.op = .binOp .shl t x y ty) (hd : o.dst = some d) (hn : d < C.n) (hx : opS ⟨e, obs⟩ x = some (.d (di k a))) (hy : opS ⟨e, obs⟩ y = some (.d (di k' i)))
  (hb : 0 ≤ i ∧ i ≤ k.bits) (h : AO C ops rest ⟨(d, .d (di k (k.wrap (a * 2 ^ i.toNat)))) :: e, obs⟩ Q) : AOp C ops rest o ⟨e, obs⟩ Q := by
 have hi : (i.toNat : Int) = i := Int.toNat_of_nonneg hb.1
 exact AOp.ishl (n := i.toNat) ho hd hn hx (by rw [hi]; exact hy) (by omega) rfl h
theorem AOp.inegW {k : IntKind} {a : Int} (ho : o.op = .unOp .neg t x) (hd : o.dst = some d) (hn : d < C.n) (hx : opS ⟨e, obs⟩ x = some (.d (di k a)))
  (h : AO C ops rest ⟨(d, .d (di k (k.wrap (-a)))) :: e, obs⟩ Q) : AOp C ops rest o ⟨e, obs⟩ Q :=
 AOp.un ho hd hn hx (fun w => rfl) (by rw [Int.zero_sub]; exact h)
/-- Onto a slice of the call's own, cells told. -/
theorem AOp.appendOwn' {t el size bytes p n m : Nat} {x y : Operand} {z : Value} {cells news cells' : List D} (ho : o.op = .call { callee := .builtin .append, args := #[x, y], argTypes := #[t, t] }) (hd : o.dst = some d) (hn : d < C.n)
  (hx : opS ⟨e, obs⟩ x = some (.own p)) (hy : opS ⟨e, obs⟩ y = some (.d (.ds size news))) (ht : elemT C.P t = some (el, size)) (hi : (C.P.info? el).map (fun i => (i.zero, i.size, i.bytes)) = some (some z, size, bytes)) (hzs : z.cells.size = size) (hsz : 0 < size)
  (hp : obs[p]? = some (.grow el size cells)) (hc : cells.length = n * size) (hl : news.length = m * size) (hone : ∀ x, x ∈ news → x.one = true) (h63 : n + m ≤ 4294967296) (hb : bytes ≤ 32768)
  (hno : (obs.set p .dead).all (Ob.noO p) = true) {e' : List (Nat × SV)} (he : dropO p [] e = e') (hcat : cells ++ news = cells')
  (h : AO C ops rest ⟨(d, .own p) :: e', obs.set p (.grow el size cells')⟩ Q) : AOp C ops rest o ⟨e, obs⟩ Q := by
 subst hcat
 exact AOp.appendOwn ho hd hn hx hy ht hi hzs hsz hp hc hl hone (small63 h63) (small h63 hb) hno he h
end
end Go.Vm
namespace Go.Vm
/-! ### Joins and loops beside printed functions -/
inductive LeL : List (Nat × SV) → List (Nat × SV) → Prop
 | nil : LeL [] []
 | cons {t : Nat} {x y : SV} {a b : List (Nat × SV)} (h : SVLe x y) (r : LeL a b) : LeL ((t, x) :: a) ((t, y) :: b)
theorem LeL.refl : ∀ a : List (Nat × SV), LeL a a
 | [] => .nil
 | (t, x) :: a => .cons (SVLe.refl x) (LeL.refl a)
theorem LeL.get {a b : List (Nat × SV)} (h : LeL a b) : ∀ {t : Nat} {y : SV}, Vm.get b t = some y → ∃ x, Vm.get a t = some x ∧ SVLe x y := by
 induction h with
 | nil => intro t y h; cases h
 | @cons t0 x0 y0 a b h0 r ih =>
  intro t y h
  simp only [Vm.get] at h ⊢
  split at h
  ·rename_i e; cases h; exact ⟨x0, by rw [if_pos e], h0⟩
  ·rename_i e; obtain ⟨x, h1, h2⟩ := ih h; exact ⟨x, by rw [if_neg e]; exact h1, h2⟩
theorem Rel.le {C : Ctx} {a b : List (Nat × SV)} {obs : List Ob} {Ω : List Value} {ac : Act} {w : World} (hr : Rel C ⟨a, obs⟩ Ω ac w) (h : LeL a b) : Rel C ⟨b, obs⟩ Ω ac w :=
 ⟨hr.defers, hr.size, fun t y hy => by
  obtain ⟨x, hx, hle⟩ := h.get hy
  obtain ⟨v, hv, hrep⟩ := hr.env t x hx
  exact ⟨v, hv, hle _ _ _ _ hrep⟩, hr.mem⟩
/-- The end of a way that is joined with others: v the values, L what stands there. -/
def JoinP {V : Type} (ks : List Nat) (m : Nat) (env : V → List (Nat × SV)) (ob : V → List Ob) (inv : V → Prop) (Q : Exit → St → Prop) : Exit → St → Prop
 | .normal, s => ∃ v L, Vm.keep ks s.env = some L ∧ LeL L (env v) ∧ s.obs.take m = ob v ∧ keepOK m L (ob v) = true ∧ inv v
 | e, s => Q e s
theorem AC.joinP {V : Type} (ksC ksV : List Nat) (m : Nat) (venv : V → List (Nat × SV)) (ob : V → List Ob) (inv : V → Prop) {C : Ctx} {s : St} {Q : Exit → St → Prop} {x y : Code} {cenv : List (Nat × SV)}
  (hC : Vm.keep ksC s.env = some cenv) (h : AC C x s (JoinP (ksC ++ ksV) m (fun v => cenv ++ venv v) ob inv Q)) (rest : ∀ v, inv v → AC C y ⟨cenv ++ venv v, ob v⟩ Q) : AC C (.seq x y) s Q := fun Ω a w hr =>
 wp_seq (wp_mono (h Ω a w hr) fun e a w ⟨s', Ω', hr', hq⟩ => by
  cases e with
  | normal =>
   obtain ⟨v, L, h1, h2, h3, h4, h5⟩ := hq
   have := hr'.keep (m := m) h1 (by rw [h3]; exact h4)
   rw [h3] at this
   exact rest v h5 _ a w (this.le h2)
  | _ => exact ⟨s', Ω', hr', hq⟩)
theorem AC.loopP {V T : Type} (b : (V → Option T) → V → Option T) (t : T) (ksC ksV : List Nat) (m : Nat) (venv : V → List (Nat × SV)) (ob : V → List Ob) (F : Nat) (v0 : V) {C : Ctx} {s : St} {Q : Exit → St → Prop} {c : Code} {cenv L0 : List (Nat × SV)}
  (h0 : iter b F v0 = some t) (hC : Vm.keep ksC s.env = some cenv) (hV : Vm.keep (ksC ++ ksV) s.env = some L0) (hle : LeL L0 (cenv ++ venv v0)) (hO : s.obs.take m = ob v0) (hb : keepOK m L0 (ob v0) = true)
  (round : ∀ n v, b (iter b n) v = some t → AC C c ⟨cenv ++ venv v, ob v⟩ (JoinP (ksC ++ ksV) m (fun v => cenv ++ venv v) ob (fun v' => iter b n v' = some t) Q)) : AC C (.loop c) s Q := by
 have key : ∀ n v, iter b n v = some t → ∀ Ω a w, Rel C ⟨cenv ++ venv v, ob v⟩ Ω a w → ∀ bd k cs,
   ∃ e a' w', Lift C Q e a' w' ∧ Arrives C.P (lone (bd.at a (.code c :: .inLoop c :: k)) cs w) bd k cs e a' w' := by
  intro n
  induction n with
  | zero => intro v h; cases h
  | succ n ih =>
   intro v hv Ω a w hr bd k cs
   obtain ⟨e, a₁, w₁, ⟨s₁, Ω₁, hr₁, hq⟩, harr⟩ := round n v hv Ω a w hr bd (.inLoop c :: k) cs
   cases e with
   | normal =>
    obtain ⟨v', L, h1, h2, h3, h4, h5⟩ := hq
    have hr₂ := hr₁.keep (m := m) h1 (by rw [h3]; exact h4)
    rw [h3] at hr₂
    obtain ⟨e₂, a₂, w₂, hq₂, harr₂⟩ := ih v' h5 _ _ _ (hr₂.le h2) bd k cs
    exact ⟨e₂, a₂, w₂, hq₂, .of_steps (Steps.trans harr (.one step_inLoop)) harr₂⟩
   | exit id => exact ⟨_, a₁, w₁, ⟨s₁, Ω₁, hr₁, hq⟩, .pass (x := .inLoop c) rfl (fun _ _ => .inl (by simp)) harr⟩
   | goto l => exact ⟨_, a₁, w₁, ⟨s₁, Ω₁, hr₁, hq⟩, .pass (x := .inLoop c) rfl (fun _ _ => .inl (by simp)) harr⟩
   | ret => exact ⟨_, a₁, w₁, ⟨s₁, Ω₁, hr₁, hq⟩, .pass (x := .inLoop c) rfl (fun _ _ => .inl (by simp)) harr⟩
   | panic ch => exact ⟨_, a₁, w₁, ⟨s₁, Ω₁, hr₁, hq⟩, .pass (x := .inLoop c) rfl (fun _ _ => .inl (by simp)) harr⟩
   | outgrown => exact ⟨_, a₁, w₁, ⟨s₁, Ω₁, hr₁, hq⟩, .pass (x := .inLoop c) rfl (fun _ _ => .inl (by simp)) harr⟩
 intro Ω a w hr bd k cs
 have hr0 := hr.keep (m := m) hV (by rw [hO]; exact hb)
 rw [hO] at hr0
 obtain ⟨e, a', w', hq, harr⟩ := key F v0 h0 _ a w (hr0.le hle) bd k cs
 exact ⟨e, a', w', hq, .of_steps (.one step_loop) harr⟩
theorem aftL {V R T : Type} {v : V} {ret : R → Option T} {k : V → Option T} {t : T} (h : aft (.inl v) ret k = some t) : k v = some t := h
theorem aftR {V R T : Type} {r : R} {ret : R → Option T} {k : V → Option T} {t : T} (h : aft (.inr r : Sum V R) ret k = some t) : ret r = some t := h
end Go.Vm

/- Further rules beside printed functions. -/
set_option linter.unusedVariables false
set_option linter.unusedSimpArgs false
namespace Go.Vm
theorem atO {α : Type} {f : α → SV} {l : List α} {i : Nat} {y : α} (h : l[i]? = some y) : (l.map f)[0 + i * 1]? = some (f y) := by simp [h]
inductive SVL : List SV → List SV → Prop
 | nil : SVL [] []
 | cons {x y : SV} {xs ys : List SV} (h : SVLe x y) (t : SVL xs ys) : SVL (x :: xs) (y :: ys)
theorem SVL.get {xs ys : List SV} (h : SVL xs ys) : xs.length = ys.length ∧ ∀ (i : Nat) y, ys[i]? = some y → ∃ x, xs[i]? = some x ∧ SVLe x y := by
 induction h with
 | nil => exact ⟨rfl, fun i y h => by simp at h⟩
 | cons h t ih =>
  refine ⟨by simp [ih.1], fun i y h1 => ?_⟩
  cases i with
  | zero => cases h1; exact ⟨_, rfl, h⟩
  | succ i => simp at h1; obtain ⟨x, h2, h3⟩ := ih.2 i y h1; exact ⟨x, by simpa using h2, h3⟩
theorem okU_nil {m : Nat} : ([] : List Ob).all (Ob.under m) = true := rfl
theorem okU_cons {m : Nat} {a : Ob} {l : List Ob} (h : Ob.under m a = true) (t : l.all (Ob.under m) = true) : (a :: l).all (Ob.under m) = true := by simp [h, t]
theorem okU_fixl {α : Type} {m ty : Nat} {f : α → SV} {l : List α} (hf : ∀ z, (f z).under m = true) : Ob.under m (.fix ty (l.map f)) = true := by
 show (l.map f).all _ = true
 rw [List.all_eq_true]; intro x hx; obtain ⟨z, _, rfl⟩ := List.mem_map.1 hx; exact hf z
theorem okU_mk {m : Nat} {e : List (Nat × SV)} {obs : List Ob} (h1 : e.all (fun p => p.2.under m) = true) (h2 : obs.all (Ob.under m) = true) : keepOK m e obs = true := by
 unfold keepOK; rw [h1, h2]; rfl
section
variable {C : Ctx} {Q : Exit → St → Prop} {ops : Array Oper} {rest : List Oper} {o : Oper} {e : List (Nat × SV)} {obs : List Ob} {d : Nat} {t ty : TypeId} {x y : Operand}
theorem AO.dec {l : List Oper} (b : Bool) (hy : b = true → AO C ops l ⟨e, obs⟩ Q) (hn : b = false → AO C ops l ⟨e, obs⟩ Q) : AO C ops l ⟨e, obs⟩ Q := by
 cases b with
 | true => exact hy rfl
 | false => exact hn rfl
theorem AD.dec {l : List Oper} {K : St → Prop} (b : Bool) (hy : b = true → AD C ops l ⟨e, obs⟩ K) (hn : b = false → AD C ops l ⟨e, obs⟩ K) : AD C ops l ⟨e, obs⟩ K := by
 cases b with
 | true => exact hy rfl
 | false => exact hn rfl
theorem AC.joinE {V : Type} (ksC ksV : List Nat) (m : Nat) (venv : V → List (Nat × SV)) (ob : V → List Ob) (inv : V → Prop) {C : Ctx} {s : St} {Q : Exit → St → Prop} {x : Code} {cenv : List (Nat × SV)}
  (hC : Vm.keep ksC s.env = some cenv) (h : AC C x s (JoinP (ksC ++ ksV) m (fun v => cenv ++ venv v) ob inv Q)) (rest : ∀ v, inv v → Q .normal ⟨cenv ++ venv v, ob v⟩) : AC C x s Q := fun Ω a w hr =>
 wp_mono (h Ω a w hr) fun e a w ⟨s', Ω', hr', hq⟩ => by
  cases e with
  | normal =>
   obtain ⟨v, L, h1, h2, h3, h4, h5⟩ := hq
   have := hr'.keep (m := m) h1 (by rw [h3]; exact h4)
   rw [h3] at this
   exact ⟨_, _, this.le h2, rest v h5⟩
  | _ => exact ⟨s', Ω', hr', hq⟩

theorem Rel.subO {Ω : List Value} {a : Act} {w : World} (hr : Rel C ⟨e, obs⟩ Ω a w) {p ty : Nat} {cells cells' : List SV} (hp : obs[p]? = some (.fix ty cells)) (hle : SVL cells cells') : Rel C ⟨e, obs.set p (.fix ty cells')⟩ Ω a w := by
 obtain ⟨hl, hi⟩ := hle.get
 have g1 : ∀ {i : Nat} {ob : Ob}, (obs.set p (.fix ty cells'))[i]? = some ob → ∃ ob', obs[i]? = some ob' ∧ ob'.live = ob.live ∧ (ob' = ob ∨ (ob' = .fix ty cells ∧ ob = .fix ty cells')) := fun {i ob} h => by
  rcases get_set h with ⟨rfl, rfl, _⟩ | ⟨_, h⟩
  ·exact ⟨_, hp, rfl, .inr ⟨rfl, rfl⟩⟩
  ·exact ⟨ob, h, rfl, .inl rfl⟩
 have hok : ∀ b, okB C obs Ω w b → okB C (obs.set p (.fix ty cells')) Ω w b := fun b hb => ⟨hb.1, hb.2.1, fun i ob k e1 l e2 => by
  obtain ⟨ob', h1, h2, _⟩ := g1 e1
  exact hb.2.2 i ob' k h1 (by rw [h2]; exact l) e2⟩
 refine ⟨hr.defers, hr.size, fun t x hx => ?_, ⟨by simp; exact hr.mem.len, fun i ob k e1 e2 => ?_, fun i j x y h k b hij e1 e2 l1 l2 e3 e4 hp => ?_, fun i ob k b e1 l e2 hp => ?_, hr.mem.fr⟩⟩
 ·obtain ⟨v, hv, hrep⟩ := hr.env t x hx
  exact ⟨v, hv, hrep.mono (fun b hb => ⟨hok b hb, rfl⟩) (fun _ _ e => e)⟩
 ·obtain ⟨ob', h1, _, h3⟩ := g1 e1
  have H := (hr.mem.obj i ob' k h1 e2).mono (fun b hb => ⟨hok b hb, rfl⟩) (fun _ _ e => e) (fun _ _ _ => rfl)
  rcases h3 with rfl | ⟨rfl, rfl⟩
  ·exact H
  ·obtain ⟨b, vs, rfl, hw, hvl, hvr, hone⟩ := H
   refine ⟨b, vs, rfl, hw, by rw [hvl, hl], fun j x y hx hy => ?_, hone⟩
   obtain ⟨z, hz, hzl⟩ := hi j x hx
   exact hzl _ _ _ _ (hvr j z y hz hy)
 ·obtain ⟨x', h1, q1, _⟩ := g1 e1
  obtain ⟨y', h2, q2, _⟩ := g1 e2
  exact hr.mem.sep i j x' y' h k b hij h1 h2 (by rw [q1]; exact l1) (by rw [q2]; exact l2) e3 e4 hp
 ·obtain ⟨x', h1, q1, _⟩ := g1 e1
  exact hr.mem.new i x' k b h1 (by rw [q1]; exact l) e2 hp
theorem AC.subO {c : Code} (p : Nat) {ty : Nat} {cells cells' : List SV} (hp : obs[p]? = some (.fix ty cells)) (hle : SVL cells cells') (h : AC C c ⟨e, obs.set p (.fix ty cells')⟩ Q) : AC C c ⟨e, obs⟩ Q := fun Ω a w hr => h Ω a w (hr.subO hp hle)

/-- An array type: its length, its element, its cells. -/
def arrT (P : Program) (t : TypeId) : Option (Nat × TypeId × Nat) :=
 match P.underlying t with
 | some (.array n e) => (sizeT P e).map fun k => (n, e, k)
 | _ => none
theorem arrT_spec {P : Program} {t n el k : Nat} (h : arrT P t = some (n, el, k)) : P.underlying t = some (.array n el) ∧ sizeT P el = some k := by
 unfold arrT at h
 split at h
 ·rename_i m e hu
  cases hs : sizeT P e with
  | none => rw [hs] at h; cases h
  | some j => rw [hs] at h; cases h; exact ⟨hu, hs⟩
 ·cases h
theorem run_indexArr {P : Program} {t n el sz : Nat} (h : arrT P t = some (n, el, sz)) (k : IntKind) (i : Int) (b off : Nat) (h0 : 0 ≤ i) (h1 : i < n) (w : World) :
  (Instr.indexAt t (.pointer (some ⟨b, off, none⟩)) (.int k i)).run P w = .ok (.pointer (some ⟨b, off + i.toNat * sz, none⟩)) w := by
 obtain ⟨hu, hs⟩ := arrT_spec h
 simp only [Instr.indexAt, Instr.sureAddr, asIntOf, Sem.run_bind, Sem.run_pure, Result.andThen_ok, run_underlying hu, h0, h1, and_self, if_true, run_sizeOf hs, Addr.add_of, Sem.run_ite]
/-- Nil slices handed on are empty rows. -/
inductive NilL : List D → List D → Prop
 | nil : NilL [] []
 | cons {x : D} {xs ys : List D} (t : NilL xs ys) : NilL (x :: xs) (x :: ys)
 | nils {sz : Nat} {xs ys : List D} (t : NilL xs ys) : NilL (.v (.slice none 0 0) :: xs) (.ds sz [] :: ys)
 | le {x y : D} {xs ys : List D} (h : SVLe (.d x) (.d y)) (t : NilL xs ys) : NilL (x :: xs) (y :: ys)
theorem NilL.get {xs ys : List D} (h : NilL xs ys) : xs.length = ys.length ∧ ∀ (i : Nat) y, ys[i]? = some y → ∃ x, xs[i]? = some x ∧ SVLe (.d x) (.d y) := by
 induction h with
 | nil => exact ⟨rfl, fun i y h => by simp at h⟩
 | cons t ih =>
  refine ⟨by simp [ih.1], fun i y h => ?_⟩
  cases i with
  | zero => cases h; exact ⟨_, rfl, SVLe.refl _⟩
  | succ i => simp at h; obtain ⟨x, h1, h2⟩ := ih.2 i y h; exact ⟨x, by simpa using h1, h2⟩
 | nils t ih =>
  refine ⟨by simp [ih.1], fun i y h => ?_⟩
  cases i with
  | zero => cases h; exact ⟨_, rfl, SVLe.nil _⟩
  | succ i => simp at h; obtain ⟨x, h1, h2⟩ := ih.2 i y h; exact ⟨x, by simpa using h1, h2⟩
 | le hle t ih =>
  refine ⟨by simp [ih.1], fun i y h => ?_⟩
  cases i with
  | zero => cases h; exact ⟨_, rfl, hle⟩
  | succ i => simp at h; obtain ⟨x, h1, h2⟩ := ih.2 i y h; exact ⟨x, by simpa using h1, h2⟩
theorem FnD.nils {P : Program} {f : FuncId} {xs ys : List D} {R : D → Prop} (h : FnD P f ys R) (hn : NilL xs ys) : FnD P f xs R := by
 obtain ⟨hl, hi⟩ := hn.get
 refine ⟨h.1, fun W ok vs h0 h1 h2 h3 => h.2 W ok vs h0 h1 (by omega) fun i y v hy hv => ?_⟩
 obtain ⟨x, hx, hxy⟩ := hi i y hy
 exact (hxy W ok [] v (.d _ _ (h3 i x v hx hv))).isD

/-- Which cell a field is. -/
def fieldIx (P : Program) (t : TypeId) (i : Nat) : Option Nat := match P.underlying t with
 | some (.struct fs) => (fs[i]?).bind fun f => match aggT P f.type with | some false => some f.offset | _ => none
 | _ => none
/-- A slice literal that is appended to. -/
theorem AOp.buildOwn {t el sz len : Nat} {parts : List (Nat × Operand)} {ps : List (Nat × SV)} {z : Value} {r : List SV} {ys : List D} (ho : o.op = .buildSlice t len parts.toArray) (hd : o.dst = some d) (hn : d < C.n)
  (ht : elemT C.P t = some (el, sz)) (hz : (C.P.info? el).map (·.zero) = some (some z)) (h1 : z.cells.toList.all (·.oneCell') = true) (hb : len * sz ≤ 16777216) (hzs : z.cells.size = sz)
  (hx : mapO (partS ⟨e, obs⟩) parts = some ps) (hf : fillS (fun i => some (i * sz, sz)) ((List.range (len * sz)).map fun i => .d (.v (z.cells.toList.getD (i % sz) undef))) ps = some r)
  (hys : mapO (dataS 9) r = some ys) (h : AO C ops rest ⟨(d, .own obs.length) :: e, obs ++ [.grow el sz ys]⟩ Q) (hlen : len ≤ maxLen := by decide) : AOp C ops rest o ⟨e, obs⟩ Q := by
 refine AOp.step hd hn (fun Ω a w hr => ?_) h
 obtain ⟨hu, hs⟩ := elemT_spec ht
 obtain ⟨hl, hp⟩ := hr.parts hx
 have hzlt : ∀ (i : Nat), i < len * sz → i % sz < z.cells.size := fun i hi => by
  rw [hzs]
  exact Nat.mod_lt _ (Nat.pos_of_ne_zero fun h0 => by subst h0; simp at hi)
 have hget : ∀ (i : Nat), i < len * sz → z.cells[i % z.cells.size]! = z.cells.toList.getD (i % sz) undef ∧ z.cells[i % z.cells.size]! ∈ z.cells.toList := fun i hi => by
  have hlt := hzlt i hi
  have hlt2 : i % z.cells.size < z.cells.size := by rw [hzs] at hlt ⊢; exact hlt
  rw [getElem!_pos z.cells _ hlt2]
  refine ⟨?_, by simp⟩
  have : z.cells.toList[i % sz]? = some z.cells[i % z.cells.size] := by simp [hzs]
  rw [List.getD_eq_getElem?_getD, this]; rfl
 obtain ⟨vs, hfill, hvl, hvr, hv1⟩ := fillS_rep ps _ _ r ((Array.range (len * sz)).map fun i => z.cells[i % z.cells.size]!) hf hl hp (by simp) (fun i p q hp hq => by
  have hi : i < len * sz := by have := (List.getElem?_eq_some_iff.1 hp).1; simpa using this
  have e1 : ((List.range (len * sz)).map fun i => (SV.d (.v (z.cells.toList.getD (i % sz) undef))))[i]? = some (.d (.v (z.cells.toList.getD (i % sz) undef))) := by simp [hi]
  rw [e1] at hp; cases hp
  have e2 : ((Array.range (len * sz)).map fun i => z.cells[i % z.cells.size]!).toList[i]? = some (z.cells[i % z.cells.size]!) := by simp [hi]
  rw [e2] at hq; cases hq
  rw [(hget i hi).1]
  exact .d _ _ (.v _)) (fun y hy => by
   simp only [Array.toList_map, Array.toList_range, List.mem_map, List.mem_range] at hy
   obtain ⟨i, hi, rfl⟩ := hy
   exact List.all_eq_true.1 h1 _ (hget i hi).2)
 obtain ⟨hyl, hyi⟩ := mapO_get hys
 have hrl := fillS_len hf
 have hvsz : vs.toList.length = len * sz := by simp [hvl, hrl]
 have how : (w.alloc (.cells vs el)).ownsRow 0 el sz (.slice (some ⟨w.heap.size, 0, none⟩) len len) len vs.toList := by
  refine ⟨hvsz, .inr ⟨w.heap.size, len, vs, rfl, Nat.zero_le _, heap_alloc_new w _, Nat.le_refl _, hlen, by simpa using hvsz, ?_⟩⟩
  rw [List.take_of_length_le (Nat.le_of_eq hvsz)]
 have hbel : RowKit.Below w.heap.size w (w.alloc (.cells vs el)) := ⟨rfl, rfl, rfl, by simp, fun k hk => heap_alloc_old w _ hk⟩
 have hrel := hr.begin hbel how (cells := ys) (fun b hb => by simp [blk] at hb; exact Nat.le_of_eq hb) (by rw [hvsz, hyl, hrl]; simp) (fun i x v hx hv => by
  have hlt := (List.getElem?_eq_some_iff.1 hx).1
  have hc : r[i]? = some (r[i]'(by omega)) := List.getElem?_eq_getElem _
  exact dataS_rep 9 (hyi i _ _ hc hx) (hvr i _ _ hc hv))
 refine ⟨.slice (some ⟨w.heap.size, 0, none⟩) len len, _, _, ?_, hrel, .own _ _ ?_⟩
 ·simp only [execOp, ho, Instr.buildSlice, Sem.run_bind, run_underlying hu, Result.andThen_ok, run_sizeOf hs, List.map_toArray, Sem.run_ite]
  rw [if_neg (by omega)]
  by_cases h0 : len * sz = 0
  ·simp only [h0, if_true, Sem.run_pure, Result.andThen_ok]
   have e0 : ((Array.range 0).map fun i => (#[] : Array Value)[i % (#[] : Array Value).size]!) = #[] := by simp
   rw [h0] at hfill
   have e1 : ((Array.range 0).map fun i => z.cells[i % z.cells.size]!) = #[] := by simp
   rw [e1] at hfill
   rw [e0, hfill]
   simp [newRow]
  ·simp only [h0, if_false, run_zero hz, Sem.run_pure, Sem.run_bind, Result.andThen_ok, hfill, newRow, run_newObj]
   simp
 ·have := hr.mem.len
  dsimp only at this
  rw [this, List.getElem?_append_right (Nat.le_refl _)]; simp
theorem run_append_zero {P : Program} {w : World} (t ty e : TypeId) {size : Nat} (ht : elemT P t = some (e, size)) (a0 : Option Addr) (n c0 : Nat) (h : n ≤ c0) (a : Option Addr) (c : Nat) :
  (Builtin.append_ #[t, t] ty #[.slice a0 n c0, .slice a 0 c]).run P w = .ok (.slice a0 n c0) w := by
 obtain ⟨hu, hs⟩ := elemT_spec ht
 have hst : ∀ b : Addr, (storeCells b []).run P w = .ok () w := fun b => by simp [storeCells]
 cases a0 <;> cases a <;> simp [Builtin.append_, run_underlying hu, run_sizeOf hs, Builtin.lenOf, Builtin.firstCells, h, hst, loadCells, loadCellsFrom]
/-- Data onto data whose capacity is its length: data. -/
theorem AOp.appendFullD {t el size bytes n m : Nat} {z : Value} {cells news cells' : List D} (ho : o.op = .call { callee := .builtin .append, args := #[x, y], argTypes := #[t, t] }) (hd : o.dst = some d) (hn : d < C.n)
  (hx : opS ⟨e, obs⟩ x = some (.full size cells)) (hy : opS ⟨e, obs⟩ y = some (.d (.ds size news))) (ht : elemT C.P t = some (el, size)) (hi : (C.P.info? el).map (fun i => (i.zero, i.size, i.bytes)) = some (some z, size, bytes)) (hzs : z.cells.size = size) (hsz : 0 < size)
  (hc : cells.length = n * size) (hl : news.length = m * size) (h63 : n + m ≤ 4294967296) (hb : bytes ≤ 32768) (hcat : cells ++ news = cells')
  (h : AO C ops rest ⟨(d, .d (.ds size cells')) :: e, obs⟩ Q) : AOp C ops rest o ⟨e, obs⟩ Q := by
 subst hcat
 refine AOp.step hd hn (fun Ω a w hr => ?_) h
 have hxv := hr.eval hx
 have hyv := hr.eval hy
 generalize hev : a.eval x = v at hxv
 generalize hev2 : a.eval y = u at hyv
 cases hxv with
 | full _ _ a0 n0 hxd =>
  cases hyv with
  | d _ _ hyd =>
   have hn0 : n0 = n := by
    cases hxd with
    | nil _ _ _ =>
     rcases Nat.eq_zero_or_pos n with h | h
     ·exact h.symm
     ·have := Nat.mul_pos h hsz; simp at hc; omega
    | ds _ b off len cap _ vals hl2 _ _ _ _ => exact Nat.eq_of_mul_eq_mul_right hsz (by rw [← hl2, hc])
   subst hn0
   rcases Nat.eq_zero_or_pos m with hm | hm
   ·subst hm
    have hnil : news = [] := List.eq_nil_of_length_eq_zero (by simpa using hl)
    subst hnil
    obtain ⟨au, cu, rfl⟩ : ∃ a c, u = .slice a 0 c := by
     cases hyd with
     | nil _ a c => exact ⟨a, c, rfl⟩
     | ds _ b off len cap _ vals hl2 _ _ _ _ =>
      have : len = 0 := by
       rcases Nat.eq_zero_or_pos len with h | h
       ·exact h
       ·have := Nat.mul_pos h hsz; simp at hl2; omega
      subst this; exact ⟨_, _, rfl⟩
    refine ⟨_, w, Ω, ?_, hr, .d _ _ (by rw [List.append_nil]; exact hxd)⟩
    simp [execOp, ho, hev, hev2, resolve, invoke, builtin, run_append_zero (P := C.P) (w := w) t o.type el ht a0 n0 n0 (Nat.le_refl _) au cu]
   ·obtain ⟨v', w', us, h1, h2, h3, h4, h5, h6⟩ := run_append_full t o.type el size bytes ht hi hzs hsz hxd hc hyd hl hm (small63 h63) (small h63 hb)
    have hbel : RowKit.Below w.heap.size w w' := ⟨h5.os, h5.tape, h5.output, h5.size, fun k hk => h5.block k hk (by simp)⟩
    have hmem := hr.mem.below hbel
    refine ⟨v', w', Ω, ?_, hr.below hbel, .d _ _ ?_⟩
    ·simp [execOp, ho, hev, hev2, resolve, invoke, builtin, h1]
    ·rcases h2.2 with ⟨rfl, h0⟩ | ⟨g, cap, cur, rfl, _, hg, hnc, _, hcs, hct⟩
     ·cases h6
     ·have hgs : g = w.heap.size := by simpa [Value.ownBlock] using h6
      have hcell : ∀ (i : Nat), i < (cells ++ news).length → us[i]? = some (us.getD i undef) := fun i hi => by
       rw [List.getD_eq_getElem?_getD, List.getElem?_eq_getElem (by rw [h3]; exact hi)]; rfl
      have hglt : g < w'.heap.size := (Array.getElem?_eq_some_iff.1 hg).1
      refine .ds _ g 0 _ _ _ (fun i => us.getD i undef) (by rw [← h3, h2.1]) hnc ⟨.inr (.inl (by rw [hgs]; exact hr.mem.fr.size)), hglt, fun o ob k e1 l e2 hbk => ?_⟩ (fun i hi => ?_) (fun i x hx => ?_)
      ·have := (hr.mem.obj o ob k e1 e2).lt l hbk
       omega
      ·rw [Nat.zero_add, cell_of_row w' g i cur el (0, 0) hg]
       have hin : i < (n0 + m) * size := by have := h2.1; omega
       have e1 : us[i]? = cur.toList[i]? := by rw [← hct, List.getElem?_take, if_pos hin]
       have e2 := hcell i hi
       rw [e1] at e2
       simpa using e2
      ·have hi := (List.getElem?_eq_some_iff.1 hx).1
       exact (h4 i x _ hx (hcell i hi)).mono hmem.2
/-- x[:k:k] of data. -/
theorem AOp.slice3D {el sz n k : Nat} {hi mx : Operand} {kk kk2 : IntKind} {i : Int} {cells cells' : List D} (ho : o.op = .slice t x none (some hi) (some mx)) (hd : o.dst = some d) (hn : d < C.n) (hx : opS ⟨e, obs⟩ x = some (.d (.ds sz cells)))
  (hh : opS ⟨e, obs⟩ hi = some (.d (.v (.int kk i)))) (hm : opS ⟨e, obs⟩ mx = some (.d (.v (.int kk2 i)))) (ht : elemT C.P t = some (el, sz)) (hsz : 0 < sz) (hl : cells.length = n * sz) (h0 : 0 ≤ i) (hk : i.toNat = k) (hle : k ≤ n) (hc : cells.take (k * sz) = cells')
  (h : AO C ops rest ⟨(d, .full sz cells') :: e, obs⟩ Q) : AOp C ops rest o ⟨e, obs⟩ Q :=
 AOp.value hd hn (fun Ω a w hr => by
  subst hc
  have hv := hr.eval hx
  generalize hev : a.eval x = v at hv
  cases hv with
  | d _ _ hv =>
   obtain ⟨hu, hso⟩ := elem_of ht
   have key : ∃ ad m c, v = .slice ad m c ∧ k ≤ c ∧ RepD w (okB C obs Ω w) (.ds sz (cells.take (k * sz))) (.slice ad k k) ∧ (ad.map (fun q : Addr => q.add (0 * sz))) = ad := by
    cases hv with
    | nil _ ad c =>
     have hn0 : n = 0 := by
      rcases Nat.eq_zero_or_pos n with h | h
      ·exact h
      ·have := Nat.mul_pos h hsz; simp at hl; omega
     subst hn0
     have hk0 : k = 0 := by omega
     subst hk0
     exact ⟨ad, 0, c, rfl, by omega, by simpa using RepD.nil sz ad 0, by cases ad <;> simp [Addr.add]⟩
    | ds _ b off len cap _ vals hl2 hcc hb hcell hrr =>
     have hm : len = n := Nat.eq_of_mul_eq_mul_right hsz (by rw [← hl2, hl])
     subst hm
     have hkl : k * sz ≤ cells.length := by rw [hl]; exact Nat.mul_le_mul_right _ hle
     refine ⟨_, len, cap, rfl, by omega, .ds _ b off k k _ vals (by rw [List.length_take]; omega) (Nat.le_refl _) hb (fun j hj => hcell j (by rw [List.length_take] at hj; omega)) (fun j x hx => hrr j x (by rw [List.getElem?_take] at hx; split at hx <;> simp_all)), by simp [Addr.add_of]⟩
   obtain ⟨ad, m, c, rfl, hkc, hrep, had⟩ := key
   refine ⟨_, ?_, .full _ _ ad k hrep⟩
   have hb : (Instr.sliceBounds true m c none (some (.int kk i)) (some (.int kk2 i))).run C.P w = .ok (0, k, k) w := by
    have e1 : ((i.toNat : Nat) : Int) = i := Int.toNat_of_nonneg h0
    simp only [Instr.sliceBounds, Sem.run_bind, Sem.run_pure, run_sliceBound (P := C.P) w kk2 i c _ h0 (by omega), Result.andThen_ok, if_true, Option.isSome]
    rw [run_sliceBound (P := C.P) w kk i i.toNat _ h0 (by omega)]
    simp [hk]
   simp only [execOp, ho, hev, hr.evalV hh, hr.evalV hm, Option.map_some, Option.map_none, Sem.run_bind, run_sliceAt_slice w t _ _ _ _ hu, run_slice_any (P := C.P) w t ad m c hu, hb, hso, run_sizeOf (elemT_spec ht).2, Result.andThen_ok, sliced, Sem.run_pure, Nat.sub_zero, had, ite_self]) h


theorem AOp.makeL {α : Type} {f : α → SV} {z0 : α} {el bytes : Nat} {z : Value} {ik : IntKind} {n : Int} (ho : o.op = .makeSlice t x y) (hd : o.dst = some d) (hn : d < C.n)
  (hx : opS ⟨e, obs⟩ x = some (.d (.v (.int ik n)))) (hy : opS ⟨e, obs⟩ y = some (.d (.v (.int ik n)))) (ht : elemT C.P t = some (el, 1)) (hi : (C.P.info? el).map (fun i => (i.zero, i.size, i.bytes)) = some (some z, 1, bytes)) (hz : z.cells = #[z]) (h1 : z.oneCell' = true)
  (hb : bytes ≤ 32768) (h0 : 0 ≤ n) (h63 : n ≤ 4294967296) (hf : f z0 = .d (.v z))
  (h : AO C ops rest ⟨(d, .sl obs.length 1 0 n.toNat n.toNat) :: e, obs ++ [.fix el ((List.replicate n.toNat z0).map f)]⟩ Q) : AOp C ops rest o ⟨e, obs⟩ Q := by
 have hi' : (n.toNat : Int) = n := Int.toNat_of_nonneg h0
 rw [List.map_replicate, hf] at h
 exact AOp.makeSlice (n := n.toNat) ho hd hn (by rw [hi']; exact hx) (by rw [hi']; exact hy) ht hi hz h1 (small' (by omega) hb) (small63 (by omega)) h
theorem AOp.makeOwn0 {el sz bytes : Nat} {z : Value} {c : Int} (ho : o.op = .makeSlice t x y) (hd : o.dst = some d) (hn : d < C.n)
  (hx : opS ⟨e, obs⟩ x = some (.d (.v (.int .i64 0)))) (hy : opS ⟨e, obs⟩ y = some (.d (.v (.int .i64 c)))) (ht : elemT C.P t = some (el, sz)) (hi : (C.P.info? el).map (fun i => (i.zero, i.size, i.bytes)) = some (some z, sz, bytes))
  (hb : bytes ≤ 32768) (hc : ((0 : Int) ≤ 0 ∧ 0 ≤ c) ∧ c ≤ 4294967296)
  (h : AO C ops rest ⟨(d, .own obs.length) :: e, obs ++ [.grow el sz []]⟩ Q) : AOp C ops rest o ⟨e, obs⟩ Q := by
 have hi' : (c.toNat : Int) = c := Int.toNat_of_nonneg hc.1.2
 exact AOp.makeOwn (c := c.toNat) ho hd hn hx (by rw [hi']; exact hy) ht hi (small' (by omega) hb) (small63 (by omega)) h
/-- make([]T, n, c): to be appended to; T of one cell. -/
theorem AOp.makeOwnN {α : Type} {f : α → D} {z0 : α} {el bytes : Nat} {z : Value} {n c : Int} (ho : o.op = .makeSlice t x y) (hd : o.dst = some d) (hn : d < C.n)
  (hx : opS ⟨e, obs⟩ x = some (.d (.v (.int .i64 n)))) (hy : opS ⟨e, obs⟩ y = some (.d (.v (.int .i64 c)))) (ht : elemT C.P t = some (el, 1)) (hi : (C.P.info? el).map (fun i => (i.zero, i.size, i.bytes)) = some (some z, 1, bytes)) (hz : z.cells = #[z]) (h1 : z.oneCell' = true)
  (hb : bytes ≤ 32768) (hc : (0 ≤ n ∧ n ≤ c) ∧ c ≤ 4294967296) (hf : f z0 = .v z)
  (h : AO C ops rest ⟨(d, .own obs.length) :: e, obs ++ [.grow el 1 ((List.replicate n.toNat z0).map f)]⟩ Q) : AOp C ops rest o ⟨e, obs⟩ Q := by
 refine AOp.step hd hn (fun Ω a w hr => ?_) h
 obtain ⟨hu, hs⟩ := elemT_spec ht
 obtain ⟨i, hii, hie⟩ : ∃ i, C.P.info? el = some i ∧ (i.zero, i.size, i.bytes) = (some z, 1, bytes) := by
  cases hq : C.P.info? el with
  | none => rw [hq] at hi; cases hi
  | some i => rw [hq] at hi; exact ⟨i, rfl, Option.some.inj hi⟩
 simp only [Prod.mk.injEq] at hie
 obtain ⟨e1, e2, e3⟩ := hie
 have hc' : (c.toNat : Int) = c := Int.toNat_of_nonneg (by omega)
 have hrun := run_make (P := C.P) w t el i z hu hii e1 .i64 .i64 n c hc.1.1 hc.1.2 (by
  rw [e3]
  have h := small' (n := c.toNat) (b := bytes) (by omega) hb
  have h2 : ((bytes * c.toNat : Nat) : Int) ≤ 281474976710656 := by omega
  rwa [Int.natCast_mul, hc'] at h2) (by omega)
 have hm : madeCells z.cells (c.toNat * i.size) = (List.replicate c.toNat z).toArray := by
  rw [hz, e2, Nat.mul_one]
  apply Array.ext'
  rw [toList_madeCells_one]
 rw [hm] at hrun
 have how : (w.alloc (.cells (List.replicate c.toNat z).toArray el)).ownsRow 0 el 1 (.slice (some ⟨w.heap.size, 0, none⟩) n.toNat c.toNat) n.toNat (List.replicate n.toNat z) := by
  refine ⟨by simp, .inr ⟨w.heap.size, c.toNat, _, rfl, Nat.zero_le _, heap_alloc_new w _, by omega, small63 (by omega), by simp, ?_⟩⟩
  simp [Nat.min_eq_left (show n.toNat ≤ c.toNat by omega)]
 have hbel : RowKit.Below w.heap.size w (w.alloc (.cells (List.replicate c.toNat z).toArray el)) := ⟨rfl, rfl, rfl, by simp, fun k hk => heap_alloc_old w _ hk⟩
 have hrel := hr.begin hbel how (cells := (List.replicate n.toNat z0).map f) (fun b hb => by simp [blk] at hb; exact Nat.le_of_eq hb) (by simp) (fun j x v hx hv => by
  have hj := (List.getElem?_eq_some_iff.1 hv).1
  rw [List.length_replicate] at hj
  rw [List.map_replicate, List.getElem?_replicate, if_pos hj] at hx
  rw [List.getElem?_replicate, if_pos hj] at hv
  cases hx; cases hv
  rw [hf]; exact .v _)
 refine ⟨.slice (some ⟨w.heap.size, 0, none⟩) n.toNat c.toNat, _, _, ?_, hrel, .own _ _ ?_⟩
 ·simp only [execOp, ho, hr.evalV hx, hr.evalV hy, Sem.run_bind, hrun, Result.andThen_ok, Sem.run_pure]
 ·have := hr.mem.len
  dsimp only at this
  rw [this, List.getElem?_append_right (Nat.le_refl _)]; simp
theorem AOp.storeL {α : Type} {f : α → SV} {l : List α} {i : Nat} {v : α} {p ty : Nat} {sv : SV} (ho : o.op = .store t x y) (hd : o.dst = none) (hx : opS ⟨e, obs⟩ x = some (.ptr p (0 + i * 1))) (hy : opS ⟨e, obs⟩ y = some sv) (hs : sizeT C.P t = some 1)
  (h1 : (f v).plain = true) (hl : cellsS sv = [f v]) (hp : obs[p]? = some (.fix ty (l.map f))) (hc : i < l.length)
  (h : AO C ops rest ⟨e, obs.set p (.fix ty ((l.set i v).map f))⟩ Q) : AOp C ops rest o ⟨e, obs⟩ Q :=
 AOp.store1 ho hd hx hy hs h1 hl hp (by simp; exact hc) (by rw [List.map_set] at h; simpa using h)
end
end Go.Vm

/- Nil slices in structs of one's own that become slices of one's own; cells of which nothing more is said. -/
set_option linter.unusedVariables false
set_option linter.unusedSimpArgs false
namespace Go.Vm
section
variable {C : Ctx} {Q : Exit → St → Prop} {ops : Array Oper} {rest : List Oper} {o : Oper} {e : List (Nat × SV)} {obs : List Ob} {d : Nat}
theorem AOp.subO (p : Nat) {ty : Nat} {cells cells' : List SV} (hp : obs[p]? = some (.fix ty cells)) (hle : SVL cells cells') (h : AOp C ops rest o ⟨e, obs.set p (.fix ty cells')⟩ Q) : AOp C ops rest o ⟨e, obs⟩ Q := fun Ω a w hr => h Ω a w (hr.subO hp hle)
theorem AO.subO {l : List Oper} (p : Nat) {ty : Nat} {cells cells' : List SV} (hp : obs[p]? = some (.fix ty cells)) (hle : SVL cells cells') (h : AO C ops l ⟨e, obs.set p (.fix ty cells')⟩ Q) : AO C ops l ⟨e, obs⟩ Q := fun Ω a w hr => h Ω a w (hr.subO hp hle)
end
end Go.Vm

/- Slices of which it is told whether they are nil. -/
set_option linter.unusedVariables false
namespace Go.Vm
def oN {α : Type} (f : α → D) : Option α → D
 | none => .v (.slice none 0 0)
 | some l => f l
/-- It is nil, or has elements. -/
def neO {α : Type} : Option (List α) → Bool
 | none => true
 | some l => !l.isEmpty
theorem SVLe.oN {α : Type} {f : List α → D} {sz : Nat} (h : f [] = .ds sz []) (x : Option (List α)) : SVLe (.d (oN f x)) (.d (f (x.getD []))) := by
 cases x with
 | none => show SVLe (.d (.v (.slice none 0 0))) (.d (f [])); rw [h]; exact SVLe.nil sz
 | some l => exact SVLe.refl _
section
variable {C : Ctx} {Q : Exit → St → Prop} {ops : Array Oper} {rest : List Oper} {o : Oper} {e : List (Nat × SV)} {obs : List Ob} {d : Nat} {t ty : TypeId} {x y : Operand}
end
end Go.Vm

/- Elements of growing slices of one's own: read and written. -/
set_option linter.unusedVariables false
set_option linter.unusedSimpArgs false
namespace Go.Vm
section
variable {C : Ctx} {Q : Exit → St → Prop} {ops : Array Oper} {rest : List Oper} {o : Oper} {e : List (Nat × SV)} {obs : List Ob} {d : Nat}
/-- What the slice is, if it has elements. -/
theorem Rel.growP {Ω : List Value} {a : Act} {w : World} (hr : Rel C ⟨e, obs⟩ Ω a w) {p : Nat} {ty sz : Nat} {cells : List D} {h : Value} (hp : obs[p]? = some (.grow ty sz cells)) (hΩ : Ω[p]? = some h) (h0 : 0 < cells.length) :
  ∃ g n cap cur, h = .slice (some ⟨g, 0, none⟩) n cap ∧ w.heap[g]? = some (.cells cur ty (0, 0)) ∧ cells.length = n * sz ∧ n ≤ cap ∧ cap ≤ maxLen ∧ cur.size = cap * sz ∧
   (∀ (i : Nat) x, cells[i]? = some x → ∃ y, cur.toList[i]? = some y ∧ RepD w (okB C obs Ω w) x y) := by
 obtain ⟨n, xs, ⟨hl, ho⟩, hxl, hrr⟩ := hr.mem.obj p _ _ hp hΩ
 rcases ho with ⟨_, hn⟩ | ⟨g, cap, cur, hv, _, hw, hnc, hcm, hcs, htk⟩
 ·exfalso; rw [hn] at hl; simp at hl; rw [hl] at hxl; simp at hxl; omega
 ·refine ⟨g, n, cap, cur, hv, hw, by omega, hnc, hcm, hcs, fun i x hx => ?_⟩
  have hi := (List.getElem?_eq_some_iff.1 hx).1
  obtain ⟨y, hxi⟩ : ∃ y, xs[i]? = some y := ⟨_, List.getElem?_eq_getElem (by omega)⟩
  refine ⟨y, ?_, hrr i x y hx hxi⟩
  rw [← htk, List.getElem?_take] at hxi
  split at hxi
  ·exact hxi
  ·cases hxi
theorem Rel.ptrG' {Ω : List Value} {a : Act} {w : World} (hr : Rel C ⟨e, obs⟩ Ω a w) {p off : Nat} {ty sz : Nat} {cells : List D} {v : Value} (hp : obs[p]? = some (.grow ty sz cells)) (h0 : 0 < cells.length)
  (hv : RepS w (okB C obs Ω w) Ω (.ptr p off) v) : ∃ g n cap cur, v = .pointer (some ⟨g, off, none⟩) ∧ Ω[p]? = some (.slice (some ⟨g, 0, none⟩) n cap) ∧ w.heap[g]? = some (.cells cur ty (0, 0)) ∧ cells.length = n * sz ∧ n ≤ cap ∧ cap ≤ maxLen ∧ cur.size = cap * sz ∧
   (∀ (i : Nat) x, cells[i]? = some x → ∃ y, cur.toList[i]? = some y ∧ RepD w (okB C obs Ω w) x y) := by
 cases hv with
 | ptr _ _ b hb =>
  obtain ⟨g, n, cap, cur, h1, _⟩ := hr.growP hp hb h0
  cases h1
 | ptrG _ _ b len cap hb =>
  obtain ⟨g, n, cap, cur, h1, h2⟩ := hr.growP hp hb h0
  cases h1
  exact ⟨b, len, cap, cur, rfl, hb, h2⟩
theorem AOp.indexOwn {t el sz : TypeId} {x ix : Operand} {k : IntKind} {i : Int} {p n : Nat} {cells : List D} (ho : o.op = .indexAddr t x ix) (hd : o.dst = some d) (hn : d < C.n) (hx : opS ⟨e, obs⟩ x = some (.own p))
  (hi : opS ⟨e, obs⟩ ix = some (.d (.v (.int k i)))) (ht : elemT C.P t = some (el, sz)) (hp : obs[p]? = some (.grow el sz cells)) (hs : 0 < sz) (hc : cells.length = n * sz) (h0 : 0 ≤ i) (h1 : i < (n : Int))
  (h : AO C ops rest ⟨(d, .ptr p (i.toNat * sz)) :: e, obs⟩ Q) : AOp C ops rest o ⟨e, obs⟩ Q :=
 AOp.value hd hn (fun Ω a w hr => by
  have hi := hr.evalV hi
  have hv := hr.eval hx
  generalize hev : a.eval x = v at hv
  cases hv with
  | own _ _ hb _ =>
   have hpos : 0 < cells.length := by
    rw [hc]; exact Nat.mul_pos (by omega) hs
   obtain ⟨g, m, cap, cur, rfl, hw, hcl, _⟩ := hr.growP hp hb hpos
   have hmn : m = n := Nat.eq_of_mul_eq_mul_right hs (by rw [← hcl, hc])
   subst hmn
   refine ⟨_, ?_, .ptrG p (i.toNat * sz) g m cap hb⟩
   have := run_indexSlice (P := C.P) ht k i g 0 m cap h0 h1 (w := w)
   simp only [Nat.zero_add] at this
   simp only [execOp, ho, hev, hi, this, Sem.run_bind, Sem.run_pure, Result.andThen_ok]) h
theorem AOp.loadO1 {t : TypeId} {x : Operand} {p off : Nat} {ty sz : Nat} {cells : List D} {y : D} (ho : o.op = .load t x) (hd : o.dst = some d) (hn : d < C.n) (hx : opS ⟨e, obs⟩ x = some (.ptr p off))
  (ht : aggT C.P t = some false) (hp : obs[p]? = some (.grow ty sz cells)) (hc : cells[off]? = some y) (h : AO C ops rest ⟨(d, .d y) :: e, obs⟩ Q) : AOp C ops rest o ⟨e, obs⟩ Q :=
 AOp.value hd hn (fun Ω a w hr => by
  have hlt := (List.getElem?_eq_some_iff.1 hc).1
  obtain ⟨g, n, cap, cur, hev, hΩ, hw, hcl, _, _, _, hrr⟩ := hr.ptrG' hp (by omega) (hr.eval hx)
  obtain ⟨v, hv, hrep⟩ := hrr off y hc
  refine ⟨v, ?_, .d _ _ hrep⟩
  have hcell : w.cell? ⟨g, off, none⟩ = some v := by rw [cell_of_row w g off cur ty (0, 0) hw]; simpa using hv
  simp only [execOp, ho, hev, Instr.loadAt, Instr.sureAddr, Sem.run_bind, Sem.run_pure, Result.andThen_ok, run_load1 ht hcell]) h
theorem Mem.setG {C : Ctx} {obs : List Ob} {Ω : List Value} {w : World} (h : Mem C obs Ω w) {o g n cap sz : Nat} {ty : TypeId} {cells cells' : List D} {cur cur' : List Value} (ho : obs[o]? = some (.grow ty sz cells))
  (hΩ : Ω[o]? = some (.slice (some ⟨g, 0, none⟩) n cap)) (hw : w.heap[g]? = some (.cells cur.toArray ty (0, 0))) (hcl : cells'.length = n * sz) (hnc : n ≤ cap) (hcm : cap ≤ maxLen) (hcs : cur'.length = cap * sz)
  (hr : ∀ (i : Nat) x, cells'[i]? = some x → ∃ y, cur'[i]? = some y ∧ RepD w (okB C obs Ω w) x y) :
  Mem C (obs.set o (.grow ty sz cells')) Ω (w.setRow g cur'.toArray) ∧ (∀ k, okB C obs Ω w k → okB C (obs.set o (.grow ty sz cells')) Ω (w.setRow g cur'.toArray) k ∧ (w.setRow g cur'.toArray).heap[k]? = w.heap[k]?) := by
 have hok : ∀ k, okB C obs Ω w k → okB C (obs.set o (.grow ty sz cells')) Ω (w.setRow g cur'.toArray) k ∧ (w.setRow g cur'.toArray).heap[k]? = w.heap[k]? := by
  intro k hk
  refine ⟨okB_set ho (.inl rfl) (by simp) hk, setRow_other w g k _ fun e => ?_⟩
  subst e
  exact hk.2.2 o _ _ ho rfl hΩ rfl
 refine ⟨⟨by simp [h.len], fun i ob k e1 e2 => ?_, fun i j a c p q x hij e1 e2 l1 l2 e3 e4 hp => ?_, fun i ob p x e1 l1 e2 hp => ?_, ?_⟩, hok⟩
 ·rcases get_set e1 with ⟨rfl, rfl, _⟩ | ⟨hi, e1⟩
  ·rw [hΩ] at e2; cases e2
   have hle : n * sz ≤ cap * sz := Nat.mul_le_mul_right _ hnc
   refine ⟨n, cur'.take (n * sz), ⟨by simp; omega, .inr ⟨g, cap, cur'.toArray, rfl, Nat.zero_le _, setRow_heap w g _ _ ty _ hw, hnc, hcm, by simp [hcs], by simp⟩⟩, by simp; omega, fun i x y hx hy => ?_⟩
   obtain ⟨z, hz, hrep⟩ := hr i x hx
   rw [List.getElem?_take] at hy
   split at hy
   ·rw [hz] at hy; cases hy; exact hrep.mono hok
   ·cases hy
  ·refine (h.obj i ob k e1 e2).mono hok (fun _ _ e => e) fun c hc hv => setRow_other w g c _ fun e => ?_
   subst e
   exact h.sep o i _ _ _ _ _ (Ne.symm hi) ho e1 rfl hv hΩ e2 rfl hc
 ·rcases get_set e1 with ⟨f1, f2, _⟩ | ⟨hi, f1⟩ <;> rcases get_set e2 with ⟨g1, g2, _⟩ | ⟨hj, g1⟩
  ·exact (hij (f1.trans g1.symm)).elim
  ·subst f1; exact h.sep i j _ _ p q x hij ho g1 rfl l2 e3 e4 hp
  ·subst g1; exact h.sep i j _ _ p q x hij f1 ho l1 rfl e3 e4 hp
  ·exact h.sep i j a c p q x hij f1 g1 l1 l2 e3 e4 hp
 ·rcases get_set e1 with ⟨rfl, rfl, _⟩ | ⟨hi, e1⟩
  ·exact h.new i _ p x ho rfl e2 hp
  ·exact h.new i ob p x e1 l1 e2 hp
 ·refine ⟨h.fr.os, h.fr.tape, h.fr.output, by simp; exact h.fr.size, fun c e1 e2 => ?_, h.fr.glob, h.fr.gmay⟩
  rw [setRow_other w g c _ fun e => ?_]
  ·exact h.fr.block c e1 e2
  ·subst e
   rcases h.new o _ _ c ho rfl hΩ rfl with hn | hn
   ·omega
   ·exact e2 hn
/-- One element, of one cell, is written. -/
theorem AOp.storeO1 {t : TypeId} {x y : Operand} {p off : Nat} {ty sz : Nat} {cells : List D} {z : D} (ho : o.op = .store t x y) (hd : o.dst = none) (hx : opS ⟨e, obs⟩ x = some (.ptr p off)) (hy : opS ⟨e, obs⟩ y = some (.d z))
  (hs : sizeT C.P t = some 1) (h1 : (SV.d z).plain = true) (hl : cellsS (.d z) = [.d z]) (hp : obs[p]? = some (.grow ty sz cells)) (hc : off < cells.length)
  (h : AO C ops rest ⟨e, obs.set p (.grow ty sz (cells.set off z))⟩ Q) : AOp C ops rest o ⟨e, obs⟩ Q := by
 refine AOp.skip hd (fun Ω a w hr => ?_) h
 obtain ⟨g, n, cap, cur, hev, hΩ, hw, hcl, hnc, hcm, hcs, hrr⟩ := hr.ptrG' hp (by omega) (hr.eval hx)
 obtain ⟨us, huc, hul, hur, huone⟩ := (hr.eval hy).cells (by rw [hl]; simp [h1])
 rw [hl] at hul hur
 obtain ⟨v, rfl⟩ : ∃ v, us = [v] := by
  cases us with
  | nil => simp at hul
  | cons v r => cases r with
   | nil => exact ⟨v, rfl⟩
   | cons => simp at hul
 have hrep : RepS w (okB C obs Ω w) Ω (.d z) v := hur 0 _ _ rfl rfl
 have hlen : cells.length ≤ cur.toList.length := by rw [hcl]; simp [hcs]; exact Nat.mul_le_mul_right _ hnc
 have hst := run_storeCells_at C.P g off ty [v] 0 cur.toList.toArray w (by simpa using hw) (by simp at hlen ⊢; omega) huone
 simp only [Nat.add_zero] at hst
 have hset : cur.toList.take off ++ [v] ++ cur.toList.drop (off + [v].length) = cur.toList.set off v := by
  rw [List.set_eq_take_append_cons_drop, if_pos (by omega)]; simp
 have key := hr.mem.setG hp hΩ (cur := cur.toList) (by simpa using hw) (cells' := cells.set off z) (cur' := cur.toList.take off ++ [v] ++ cur.toList.drop (off + [v].length)) (by simpa using hcl) hnc hcm (by rw [hset]; simpa using hcs) (fun i x hx => by
  rw [hset]
  by_cases hi : off = i
  ·subst hi
   rw [List.getElem?_set_self hc] at hx
   cases hx
   refine ⟨v, by rw [List.getElem?_set_self (by omega)], ?_⟩
   cases hrep with
   | d _ _ hd => exact hd
  ·rw [List.getElem?_set_ne hi] at hx ⊢
   exact hrr i x hx)
 have hrel : Rel C ⟨e, obs.set p (.grow ty sz (cells.set off z))⟩ Ω a (w.setRow g (cur.toList.take off ++ [v] ++ cur.toList.drop (off + [v].length)).toArray) :=
  ⟨hr.defers, hr.size, fun t x hx => let ⟨v, hv, hr'⟩ := hr.env t x hx; ⟨v, hv, hr'.mono key.2 (fun _ _ e => e)⟩, key.1⟩
 refine ⟨_, Ω, ?_, hrel⟩
 have hsz : (a.eval y).cells.size = 1 := by rw [huc]; rfl
 have huc' : (a.eval y).cells.toList = [v] := by rw [huc]
 simp only [execOp, ho, hev, Instr.storeAt, Instr.sureAddr, storeVar, Sem.run_bind, Sem.run_pure, Result.andThen_ok, run_sizeOf hs, hsz, ne_eq, not_true_eq_false, if_false, huc', hst, Sem.run_ite]
theorem AOp.storeOL {α : Type} {f : α → D} {l : List α} {i : Nat} {v : α} {t : TypeId} {x y : Operand} {p : Nat} {ty : Nat} (ho : o.op = .store t x y) (hd : o.dst = none) (hx : opS ⟨e, obs⟩ x = some (.ptr p (i * 1))) (hy : opS ⟨e, obs⟩ y = some (.d (f v)))
  (hs : sizeT C.P t = some 1) (h1 : (SV.d (f v)).plain = true) (hl : cellsS (.d (f v)) = [.d (f v)]) (hp : obs[p]? = some (.grow ty 1 (l.map f))) (hc : i < l.length)
  (h : AO C ops rest ⟨e, obs.set p (.grow ty 1 ((l.set i v).map f))⟩ Q) : AOp C ops rest o ⟨e, obs⟩ Q :=
 AOp.storeO1 ho hd hx hy hs h1 hl hp (by simpa using hc) (by rw [List.map_set] at h; simpa using h)
/-- copy into a slice made by make, of cells of one word. -/
theorem AOp.copyL {α : Type} {k : α → D} {l l2 : List α} {m n c : Nat} {t t2 : TypeId} {x y : Operand} {p ty el : Nat} (ho : o.op = .call { callee := .builtin .copy, args := #[x, y], argTypes := #[t, t2] }) (hd : o.dst = some d) (hn : d < C.n)
  (hx : opS ⟨e, obs⟩ x = some (.sl p 1 0 n c)) (hy : opS ⟨e, obs⟩ y = some (.d (.ds 1 (l2.map k)))) (ht : elemT C.P t = some (el, 1)) (hp : obs[p]? = some (.fix ty (l.map fun z => SV.d (k z)))) (hln : n = l.length) (hk : ∀ z, (k z).one = true)
  (hm : m = min l2.length l.length) (h : AO C ops rest ⟨(d, .d (.v (.int .i64 (m : Int)))) :: e, obs.set p (.fix ty ((l2.take m ++ l.drop m).map fun z => SV.d (k z)))⟩ Q) : AOp C ops rest o ⟨e, obs⟩ Q := by
 refine AOp.step hd hn (fun Ω a w hr => ?_) h
 obtain ⟨hu, hs⟩ := elemT_spec ht
 have hs1 : (C.P.info? el).map (·.size) = some 1 := hs
 have hvx := hr.eval hx
 have hvy := hr.eval hy
 generalize hex : a.eval x = u at hvx
 generalize hey : a.eval y = v at hvy
 cases hvx with
 | sl _ _ _ _ _ b hb =>
  obtain ⟨b', vs, he, hw, hvl, hrr, hone⟩ := hr.mem.obj p _ _ hp hb
  cases he
  rw [List.length_map] at hvl
  -- the source's cells
  have hsrc : ∃ (ad : Option Addr) (sl sc : Nat) (cs : List Value), v = .slice ad sl sc ∧ sl = l2.length ∧ cs.length = m ∧ (∀ (i : Nat) z, l2[i]? = some z → i < m → ∃ u, cs[i]? = some u ∧ RepD w (okB C obs Ω w) (k z) u ∧ u.oneCell' = true) ∧
    (m = 0 ∨ ∃ a0, ad = some a0 ∧ ∀ j u, cs[j]? = some u → w.cell? (a0.add j) = some u) := by
   cases hvy with
   | d _ _ hvy =>
    generalize hc : l2.map k = cells at hvy
    cases hvy with
    | nil _ ad cp =>
     have : l2 = [] := by simpa using hc
     subst this
     exact ⟨ad, 0, cp, [], rfl, rfl, by simp [hm], fun i z hz => by simp at hz, .inl (by simp [hm])⟩
    | ds _ b2 off len cap _ vals hcl hcc hok hcell hrr2 =>
     subst hc
     rw [List.length_map] at hcl
     refine ⟨_, len, cap, (List.range m).map vals, rfl, by omega, by simp, fun i z hz hi => ⟨vals i, by simp [hi], ?_⟩, .inr ⟨_, rfl, fun j u hj => ?_⟩⟩
     ·have hrep := hrr2 i (k z) (by rw [List.getElem?_map, hz]; rfl)
      exact ⟨hrep, hrep.one (hk z)⟩
     ·have hjm := (List.getElem?_eq_some_iff.1 hj).1
      simp at hjm
      simp [hjm] at hj
      subst hj
      have := hcell j (by simp; omega)
      have ea : (⟨b2, off, none⟩ : Addr).add j = ⟨b2, off + j, none⟩ := by unfold Addr.add; split <;> simp_all
      rw [ea]; exact this
  obtain ⟨ad, sl, sc, cs, rfl, hsl, hcs, hcsr, had⟩ := hsrc
  have hml : m ≤ l.length := by omega
  have hone' : ∀ u, u ∈ cs → u.oneCell' = true := fun u hu => by
   obtain ⟨i, hi⟩ := List.getElem?_of_mem hu
   have hlt := (List.getElem?_eq_some_iff.1 hi).1
   obtain ⟨z, hz⟩ : ∃ z, l2[i]? = some z := ⟨_, List.getElem?_eq_getElem (by omega)⟩
   obtain ⟨u', h1, _, h2⟩ := hcsr i z hz (by omega)
   rw [hi] at h1; cases h1; exact h2
  have hrun : (Builtin.copy_ #[t, t2] o.type #[.slice (some ⟨b, 0, none⟩) n c, .slice ad sl sc]).run C.P w = .ok (goInt cs.length) (w.setRow b (vs.take 0 ++ cs ++ vs.drop (0 + cs.length)).toArray) := by
   rcases had with h0 | ⟨a0, rfl, hcell⟩
   ·have hc0 : cs = [] := List.eq_nil_of_length_eq_zero (by omega)
    subst hc0
    have := run_copy_none (P := C.P) w t t2 o.type el (some ⟨b, 0, none⟩) ad n c sl sc hu hs1 (show min sl n = 0 by omega)
    rw [this]
    simp only [List.length_nil, List.take_zero, List.nil_append, Nat.add_zero, List.drop_zero]
    rw [setRow_self w b vs.toArray ty (0, 0) hw]
    rfl
   ·have := run_copy_row (P := C.P) w t t2 o.type el b 0 n c a0 sl sc vs.toArray ty cs hu hs1 hw (by rw [hcs, hm, hsl, hln]) hcell (by simp <;> omega) hone'
    simpa using this
  have key := hr.mem.set hp hb hw (vs.take 0 ++ cs ++ vs.drop (0 + cs.length)) (cells' := (l2.take m ++ l.drop m).map fun z => SV.d (k z)) (by simp; omega) (fun i x y hx hy => by
   rw [List.getElem?_map, Option.map_eq_some_iff] at hx
   obtain ⟨z, hz, rfl⟩ := hx
   simp only [List.take_zero, List.nil_append, Nat.zero_add] at hy
   rw [List.getElem?_append] at hz hy
   have l1 : (l2.take m).length = m := by simp; omega
   rw [l1] at hz
   rw [hcs] at hy
   split at hz
   ·rename_i hi
    rw [if_pos hi] at hy
    rw [List.getElem?_take, if_pos hi] at hz
    obtain ⟨u', h1, h2, _⟩ := hcsr i z hz hi
    rw [hy] at h1; cases h1
    exact .d _ _ h2
   ·rename_i hi
    rw [if_neg hi] at hy
    rw [List.getElem?_drop] at hz hy
    exact hrr (m + (i - m)) (.d (k z)) y (by rw [List.getElem?_map, hz]; rfl) hy) (fun y hy => by
   rcases List.mem_append.1 hy with hy | hy
   ·rcases List.mem_append.1 hy with hy | hy
    ·simp at hy
    ·exact hone' y hy
   ·exact hone y (List.mem_of_mem_drop hy))
  refine ⟨.int .i64 (m : Int), _, Ω, ?_, ⟨hr.defers, hr.size, fun t x hx => let ⟨v, hv, hr'⟩ := hr.env t x hx; ⟨v, hv, hr'.mono key.2 (fun _ _ e => e)⟩, key.1⟩, .d _ _ (.v _)⟩
  simp [execOp, ho, hex, hey, resolve, invoke, builtin, hrun, hcs, goInt]
theorem AOp.copyL2 {α : Type} {k : α → D} {l l2 l3 : List α} {m n c : Nat} {t t2 : TypeId} {x y : Operand} {p ty el : Nat} (ho : o.op = .call { callee := .builtin .copy, args := #[x, y], argTypes := #[t, t2] }) (hd : o.dst = some d) (hn : d < C.n)
  (hx : opS ⟨e, obs⟩ x = some (.sl p 1 0 n c)) (hy : opS ⟨e, obs⟩ y = some (.d (.ds 1 (l2.map k)))) (ht : elemT C.P t = some (el, 1)) (hp : obs[p]? = some (.fix ty (l.map fun z => SV.d (k z)))) (hln : n = l.length) (hk : ∀ z, (k z).one = true)
  (hm : m = min l2.length l.length) (h3 : l2.take m ++ l.drop m = l3) (h : AO C ops rest ⟨(d, .d (.v (.int .i64 (m : Int)))) :: e, obs.set p (.fix ty (l3.map fun z => SV.d (k z)))⟩ Q) : AOp C ops rest o ⟨e, obs⟩ Q := by
 subst h3; exact AOp.copyL ho hd hn hx hy ht hp hln hk hm h
end
end Go.Vm

/- Regions that draw their order, in which some operations turn memory while others still wait. -/
set_option linter.unusedVariables false
set_option linter.unusedSimpArgs false
namespace Go.Vm

def drE (sv : SV → Bool) (e : Env) : Env := fun t => (e t).bind fun y => if sv y = true then some y else none
def dropS (sv : SV → Bool) : List Nat → List (Nat × SV) → List (Nat × SV)
 | _, [] => []
 | seen, (k, x) :: r => if seen.contains k then dropS sv seen r else if sv x then (k, x) :: dropS sv (k :: seen) r else dropS sv (k :: seen) r
theorem get_dropS (sv : SV → Bool) : ∀ (e : List (Nat × SV)) (seen : List Nat) (t : Nat), get (dropS sv seen e) t = if t ∈ seen then none else drE sv (get e) t
 | [], seen, t => by simp [dropS, get, drE]
 | (k, x) :: r, seen, t => by
  simp only [dropS]
  split
  ·rename_i hk
   rw [get_dropS sv r seen t]
   split
   ·rfl
   ·rename_i ht
    have : k ≠ t := fun e => ht (by subst e; simpa using hk)
    simp [drE, get, this]
  ·rename_i hk
   have hk' : k ∉ seen := by simpa using hk
   split
   ·rename_i hx
    simp only [get]
    split
    ·rename_i e; subst e; rw [if_neg hk']; simp [drE, get, hx]
    ·rename_i e
     rw [get_dropS sv r (k :: seen) t]
     simp [drE, get, e, Ne.symm e]
   ·rename_i hx
    rw [get_dropS sv r (k :: seen) t]
    by_cases e : k = t
    ·subst e; simp [hk', drE, get, hx]
    ·simp [drE, get, e, Ne.symm e]
theorem drE_some {sv : SV → Bool} {e : Env} {t : Nat} {y : SV} (h : drE sv e t = some y) : e t = some y ∧ sv y = true := by
 unfold drE at h
 cases he : e t with
 | none => rw [he] at h; cases h
 | some z =>
  rw [he, Option.bind_some] at h
  split at h
  ·rename_i hz; cases h; exact ⟨rfl, hz⟩
  ·cases h
theorem drE_upd {sv : SV → Bool} {e : Env} {d : Option Nat} {x : SV} (h : sv x = true) : drE sv (upd e d x) = upd (drE sv e) d x := by
 cases d with
 | none => rfl
 | some d => funext t; simp only [drE, upd]; split <;> simp [h]

section
variable {C : Ctx} {ops : Array Oper} {md : Region.Mode}

/-- o turns memory from ob to ob'. -/
def MV (C : Ctx) (ops : Array Oper) (ob ob' : List Ob) (sv : SV → Bool) (o : Oper) (x : SV) (e : Env) : Prop :=
 o.guard = none ∧ ∀ (l : List (Nat × SV)), (∀ t, t ∈ o.looksAt ops → get l t = e t) → ∀ Ω a w, Rel C ⟨l, ob⟩ Ω a w →
  o.wp C.P a w (fun a' w' => ∃ (l' : List (Nat × SV)) (Ω' : List Value), get l' = upd (drE sv (get l)) o.dst x ∧ Rel C ⟨l', ob'⟩ Ω' a' w') (fun _ _ _ => False)

/-- hs: what gives values; ms: what turns memory, in its order; OL: the objects ahead of each of ms, and at the end; SL: what outlives each of ms. -/
structure Plan where
 hs : List Nat
 ms : List Nat
 OL : List (List Ob)
 SL : List (SV → Bool)

/-- Number i may come up behind the first k of those that turn memory. -/
def relK (md : Region.Mode) (ops : Array Oper) (p : Plan) (i : Nat) : Nat → Bool
 | 0 => true
 | k + 1 => match p.ms[k]? with
  | some j => !ancB md ops ops.size j i
  | none => true
def YA (C : Ctx) (md : Region.Mode) (ops : Array Oper) (p : Plan) (i : Nat) (o : Oper) (x : SV) (e : Env) : Prop := ∀ (k : Nat) (ob : List Ob), p.OL[k]? = some ob → relK md ops p i k = true → YV C ops ob o x e
/-- What o looks at outlives what the others turn, those that do not wait for it. -/
def SU (md : Region.Mode) (ops : Array Oper) (p : Plan) (i : Nat) (o : Oper) (x : SV) (e : Env) : Prop := ∀ (k : Nat) (sv : SV → Bool) (j : Nat), p.SL[k]? = some sv → p.ms[k]? = some j → ancB md ops ops.size j i = false → sv x = true ∧ ∀ t, t ∈ o.looksAt ops → ∀ y, e t = some y → sv y = true
def DN (p : Plan) (listed : Array Bool) (k : Nat) : Prop := ∀ (k' j : Nat), k' < k → p.ms[k']? = some j → listed.getD j false = true

def wpAnyT (C : Ctx) (md : Region.Mode) (ops : Array Oper) (p : Plan) (L : Array Bool → Env → Prop) : Nat → Array Bool → Env → Nat → Prop
 | 0, listed, e, k => k = p.ms.length ∧ L listed e
 | f + 1, listed, e, k => Region.ready md ops listed ≠ [] ∧ ∀ i ∈ Region.ready md ops listed,
   (i ∈ p.hs ∧ ∃ o x ob, ops[i]? = some o ∧ p.OL[k]? = some ob ∧ YV C ops ob o x e ∧ wpAnyT C md ops p L f (listed.setIfInBounds i true) (upd e o.dst x) k) ∨
   (p.ms[k]? = some i ∧ ∃ o x ob ob' sv, ops[i]? = some o ∧ p.OL[k]? = some ob ∧ p.OL[k + 1]? = some ob' ∧ p.SL[k]? = some sv ∧ MV C ops ob ob' sv o x e ∧
    wpAnyT C md ops p L f (listed.setIfInBounds i true) (upd (drE sv e) o.dst x) (k + 1))

/-- The walk: what gives values first, then what turns memory. -/
def AM (C : Ctx) (ops : Array Oper) (p : Plan) : Nat → List Nat → List (Nat × SV) → (St → Prop) → Prop
 | k, [], e, K => ∃ ob, p.OL[k]? = some ob ∧ K ⟨e, ob⟩
 | k, i :: is, e, K => ∃ o x ob ob' sv l', ops[i]? = some o ∧ p.OL[k]? = some ob ∧ p.OL[k + 1]? = some ob' ∧ p.SL[k]? = some sv ∧ MV C ops ob ob' sv o x (get e) ∧ get l' = upd (drE sv (get e)) o.dst x ∧ AM C ops p (k + 1) is l' K
def AH (C : Ctx) (md : Region.Mode) (ops : Array Oper) (p : Plan) : List Nat → List (Nat × SV) → (List (Nat × SV) → Prop) → Prop
 | [], e, K => K e
 | i :: rest, e, K => ∃ o x l', ops[i]? = some o ∧ YA C md ops p i o x (get e) ∧ SU md ops p i o x (get e) ∧ get l' = upd (get e) o.dst x ∧ AH C md ops p rest l' K

def drawMB (ops : Array Oper) (hs ms ts : List Nat) : Bool :=
 hs.all (· < ops.size) && ts.all (· < ops.size) && ts.all (fun t => !(hs ++ ms).contains t) && (hs.length + ms.length + ts.length == ops.size) &&
 ((List.range ops.size).all fun t => (hs ++ ms).contains t || (ts.contains t && (hs ++ ms).all (ancB .any ops ops.size t))) && headO .any ops (ms ++ ts) hs (Array.replicate ops.size false)

/-! ### How the walk is printed -/
variable {p : Plan} {rest : List Oper} {o : Oper} {e L : List (Nat × SV)} {d j dj : Nat} {x : SV} {want b : Bool} {K : List (Nat × SV) → Prop} {KS : St → Prop}
def GA (C : Ctx) (ops : Array Oper) (OL : List (List Ob)) (ks : List Nat) (o : Oper) (L : List (Nat × SV)) (d : Nat) (x : SV) : Prop := ∀ k ∈ ks, ∀ ob, OL[k]? = some ob → Gives C ops ob o L d x
theorem GA.nil {OL : List (List Ob)} {o : Oper} {L : List (Nat × SV)} {d : Nat} {x : SV} : GA C ops OL [] o L d x := fun k h => by cases h
theorem GA.cons {OL : List (List Ob)} {k : Nat} {ks : List Nat} {o : Oper} {L : List (Nat × SV)} {d : Nat} {x : SV} {ob : List Ob} (hk : OL[k]? = some ob) (h : Gives C ops ob o L d x) (t : GA C ops OL ks o L d x) : GA C ops OL (k :: ks) o L d x := fun k' hk' ob' hb => by
 rcases List.mem_cons.1 hk' with rfl | h'
 ·rw [hk] at hb; cases hb; exact h
 ·exact t k' h' ob' hb
def SA (SL : List (SV → Bool)) (L : List (Nat × SV)) (x : SV) : List Nat → Bool
 | [] => true
 | k :: ks => (match SL[k]? with | some sv => sv x && L.all fun q => sv q.2 | none => true) && SA SL L x ks
theorem SA.spec {SL : List (SV → Bool)} {L : List (Nat × SV)} {x : SV} : ∀ {ks : List Nat}, SA SL L x ks = true → ∀ k ∈ ks, ∀ sv, SL[k]? = some sv → sv x = true ∧ L.all (fun q => sv q.2) = true
 | [], _, k, hk, _, _ => by cases hk
 | k0 :: ks, h, k, hk, sv, hsv => by
  simp only [SA, Bool.and_eq_true] at h
  rcases List.mem_cons.1 hk with rfl | h'
  ·rw [hsv] at h; simpa using h.1
  ·exact SA.spec h.2 k h' sv hsv
/-- ks: behind how many of those that turn memory number i may come up; ss: which of them do not wait for it. -/
def relB (ops : Array Oper) (ms : List Nat) (i : Nat) (ks ss : List Nat) : Bool :=
 (List.range (ms.length + 1)).all (fun k => (match k with | 0 => false | k + 1 => match ms[k]? with | some j => ancB .any ops ops.size j i | none => false) || ks.contains k) &&
 (List.range ms.length).all (fun k => (match ms[k]? with | some j => ancB .any ops ops.size j i | none => false) || ss.contains k)
theorem keep_all {ks : List Nat} (hk : keep ks e = some L) (hl : looksB ops o ks = true) {sv : SV → Bool} (h : L.all (fun q => sv q.2) = true) : ∀ t, t ∈ o.looksAt ops → ∀ y, get e t = some y → sv y = true := fun t ht y hy => by
 simp only [looksB, Bool.and_eq_true, List.all_eq_true, List.contains_iff_mem] at hl
 obtain ⟨h1, _⟩ := (keep_get' hk t).1 (hl.1 t ht)
 rw [← h1] at hy
 have hmem : ∀ {l : List (Nat × SV)}, get l t = some y → (t, y) ∈ l := fun {l} => by
  induction l with
  | nil => intro h; cases h
  | cons q l ih =>
   obtain ⟨k, z⟩ := q
   intro h
   simp only [get] at h
   split at h
   ·rename_i e; subst e; cases h; simp
   ·simp [ih h]
 exact List.all_eq_true.1 h _ (hmem hy)
theorem AH.done (h : AM C ops p 0 p.ms e KS) : AH C .any ops p [] e (fun e' => AM C ops p 0 p.ms e' KS) := h
theorem AH.op {i : Nat} {is : List Nat} (ls ks ss : List Nat) (h0 : ops[i]? = some o) (hg : o.guard = none) (hl : looksB ops o ls = true) (hrel : relB ops p.ms i ks ss = true) (hlen : p.OL.length = p.ms.length + 1) (hk : keep ls e = some L) (hd : o.dst = some d)
  (hv : GA C ops p.OL ks o L d x) (hs : SA p.SL L x ss = true) (h : AH C .any ops p is ((d, x) :: e) K) : AH C .any ops p (i :: is) e K := by
 simp only [relB, Bool.and_eq_true, List.all_eq_true, List.mem_range, Bool.or_eq_true, List.contains_iff_mem] at hrel
 refine ⟨o, x, (d, x) :: e, h0, fun k ob hob hr => .inl ⟨by unfold wantE; rw [hg], VQ.of hk hl hd (hv k ?_ ob hob)⟩, fun k sv j h1 h2 h3 => ?_, by rw [hd, get_upd], h⟩
 ·have hlt := (List.getElem?_eq_some_iff.1 hob).1
  rcases hrel.1 k (by omega) with h | h
  ·exfalso
   cases k with
   | zero => cases h
   | succ k =>
    simp only [relK] at hr
    simp only at h
    split at h
    ·rename_i j hj
     rw [hj] at hr
     simp [h] at hr
    ·cases h
  ·exact h
 ·have hlt := (List.getElem?_eq_some_iff.1 h2).1
  rcases hrel.2 k hlt with h | h
  ·rw [h2] at h; simp only at h; rw [h3] at h; cases h
  ·obtain ⟨q1, q2⟩ := SA.spec hs k h sv h1
   exact ⟨q1, keep_all hk hl q2⟩
theorem AM.done {k : Nat} {ob : List Ob} (h1 : p.OL[k]? = some ob) (h : KS ⟨e, ob⟩) : AM C ops p k [] e KS := ⟨ob, h1, h⟩
theorem AM.op {k i : Nat} {is : List Nat} (ks : List Nat) {ob ob' : List Ob} {sv : SV → Bool} (h1 : ops[i]? = some o) (h2 : p.OL[k]? = some ob) (h3 : p.OL[k + 1]? = some ob') (h4 : p.SL[k]? = some sv) (hg : o.guard = none)
  (hl : looksB ops o ks = true) (hk : keep ks e = some L) (hd : o.dst = some d)
  (hv : ∀ (e : List (Nat × SV)) (Q : Exit → St → Prop), AO C ops [] ⟨(d, x) :: dropS sv [] (L ++ e), ob'⟩ Q → AOp C ops [] o ⟨L ++ e, ob⟩ Q)
  {e' : List (Nat × SV)} (he : dropS sv [] e = e') (h : AM C ops p (k + 1) is ((d, x) :: e') KS) : AM C ops p k (i :: is) e KS := by
 subst he
 have hdr : ∀ l : List (Nat × SV), get (dropS sv [] l) = drE sv (get l) := fun l => by funext t; rw [get_dropS]; simp
 refine ⟨o, x, ob, ob', sv, (d, x) :: dropS sv [] e, h1, h2, h3, h4, ⟨hg, ?_⟩, by rw [hd, get_upd, hdr], h⟩
 intro l hg' Ω a w hr
 simp only [looksB, Bool.and_eq_true, List.all_eq_true, List.contains_iff_mem] at hl
 have hsame : ∀ t, get (L ++ l) t = get l t := fun t => by
  rw [get_append]
  by_cases ht : t ∈ ks
  ·obtain ⟨h1, h2⟩ := (keep_get' hk t).1 ht
   rw [h1]
   have := hg' t (hl.2 t ht)
   rw [this]
   cases get e t <;> rfl
  ·rw [(keep_get' hk t).2 ht]
 have hr' : Rel C ⟨L ++ l, ob⟩ Ω a w := hr.congr fun t y hy => by rw [← hsame t]; exact hy
 have H := hv l (fun ed s => ed = .normal ∧ s = ⟨(d, x) :: dropS sv [] (L ++ l), ob'⟩) (AO.nil ⟨rfl, rfl⟩) Ω a w hr'
 refine wp_monoQ (fun a' w' hq => ?_) (fun ed a' w' hne hq => ?_) H
 ·obtain ⟨s, Ω', hr2, _, hs⟩ := hq
  subst hs
  refine ⟨_, Ω', ?_, hr2⟩
  rw [hd, get_upd, hdr]
  congr 1
  congr 1
  funext t; exact hsame t
 ·obtain ⟨s, Ω', _, he, _⟩ := hq
  exact hne he
end
section
variable {C : Ctx} {Q : Exit → St → Prop} {ops : Array Oper} {rest : List Oper} {o : Oper} {e : List (Nat × SV)} {obs : List Ob} {d : Nat}
theorem dropO_dropS (p : Nat) : ∀ (e : List (Nat × SV)) (seen : List Nat), dropO p seen e = dropS (SV.noO p) seen e
 | [], seen => rfl
 | (k, x) :: r, seen => by simp only [dropO, dropS, dropO_dropS p r]
/-- The slots that remain are told. -/
theorem AO.forget {l : List Oper} {e' : List (Nat × SV)} (hg : ∀ t y, get e' t = some y → get e t = some y) (h : AO C ops l ⟨e', obs⟩ Q) : AO C ops l ⟨e, obs⟩ Q := fun Ω a w hr => h Ω a w (hr.congr hg)
theorem AO.dropped {l : List Oper} {p : Nat} {x : SV} (h : AO C ops l ⟨(d, x) :: dropS (SV.noO p) [] e, obs⟩ Q) : AO C ops l ⟨(d, x) :: dropO p [] e, obs⟩ Q := by rw [dropO_dropS]; exact h
theorem thaw_noO {p : Nat} {x : D} {y : SV} (h : y.noO p = true) : y.thaw p x = y := by
 cases y with
 | own q => simp [SV.thaw, SV.noO] at *; exact fun e => absurd e h
 | sl q sz off len cap => simp [SV.thaw, SV.noO] at *; intro e; exact absurd e h
 | ag l =>
  simp only [SV.thaw, SV.noO] at *
  congr 1
  have : ∀ z ∈ l, (match z with | .own q => if q = p then SV.d x else .own q | z => z) = z := fun z hz => by
   obtain ⟨i, hi⟩ := List.getElem?_of_mem hz
   have := SV.noOL_get h hi
   cases z <;> first | rfl | (simp [SV.noO] at this; simp [this])
  exact (List.map_congr_left this).trans (List.map_id' l)
 | _ => rfl
theorem thawE_some {p : Nat} {x : D} : ∀ {e : List (Nat × SV)} {t : Nat} {y : SV}, get e t = some y → get (thawE p x e) t = some (y.thaw p x)
 | [], _, _, h => by cases h
 | (k, z) :: r, t, y, h => by
  simp only [thawE, get] at h ⊢
  split at h
  ·rename_i hk; cases h; rw [if_pos hk]
  ·rename_i hk; rw [if_neg hk]; exact thawE_some h
/-- A slice of one's own becomes data in one slot; the others are forgotten. -/
theorem AOp.freezeDrop (t p : Nat) {ty sz : Nat} {cells : List D} (hm : C.may = C.may) (hx : get e t = some (.own p)) (hp : obs[p]? = some (.grow ty sz cells))
  (h : AOp C ops rest o ⟨(t, .d (.ds sz cells)) :: dropS (SV.noO p) [] e, obs.set p .dead⟩ Q) : AOp C ops rest o ⟨e, obs⟩ Q := fun Ω a w hr => by
 refine h Ω a w ((hr.freezeGrow hm hp).congr fun q y hq => ?_)
 simp only [get] at hq
 split at hq
 ·rename_i hqt; subst hqt; cases hq
  rw [thawE_some hx]
  simp [SV.thaw]
 ·rw [get_dropS] at hq
  simp only [List.not_mem_nil, if_false] at hq
  obtain ⟨h1, h2⟩ := drE_some hq
  rw [thawE_some h1, thaw_noO h2]
theorem AO.forget1 {l : List Oper} {t d : Nat} {x y : SV} {sv : SV → Bool} (hx : sv x = false ∨ True) (h : AO C ops l ⟨(d, y) :: dropS sv [] e, obs⟩ Q) (hn : get (dropS sv [] e) t = none ∨ t = d ∨ get (dropS sv [] e) t = some x) : AO C ops l ⟨(d, y) :: (t, x) :: dropS sv [] e, obs⟩ Q :=
 AO.forget (fun q z hq => by
  simp only [get] at hq ⊢
  split at hq
  ·rename_i h; rw [if_pos h]; exact hq
  ·rename_i h
   rw [if_neg h]
   by_cases ht : t = q
   ·subst ht
    rw [if_pos rfl]
    rcases hn with hn | hn | hn
    ·rw [hn] at hq; cases hq
    ·exact absurd hn.symm h
    ·rw [hn] at hq; exact hq
   ·rw [if_neg ht]; exact hq) h
/-- A slot that is dropped is not there. -/
theorem dropped_none {p : Nat} {t : Nat} {e : List (Nat × SV)} {x : SV} (hx : get e t = some x) (h : x.noO p = false) : get (dropS (SV.noO p) [] e) t = none := by
 rw [get_dropS]; simp [drE, hx, h]
end
end Go.Vm

/- Plain Lean about printed functions: steps, elements, loops that scan a list. -/
set_option linter.unusedVariables false
set_option linter.unusedSimpArgs false
namespace Go.Vm
theorem in64 {z : Int} (h1 : 0 ≤ z) (h2 : z ≤ 9223372036854775807) : inI .i64 z := ⟨by simp only [lo]; omega, by simp only [hi]; omega⟩
theorem in64m {z : Int} (h1 : -9223372036854775808 ≤ z) (h2 : z ≤ 9223372036854775807) : inI .i64 z := ⟨by simp only [lo]; omega, by simp only [hi]; omega⟩
theorem inu64 {z : Int} (h1 : 0 ≤ z) (h2 : z ≤ 18446744073709551615) : inI .u64 z := ⟨by simp only [lo]; omega, by simp only [hi]; omega⟩
theorem cond_t {α : Type} {b : Bool} (h : b = true) (x y : α) : cond b x y = x := by rw [h]; rfl
theorem cond_f {α : Type} {b : Bool} (h : b = false) (x y : α) : cond b x y = y := by rw [h]; rfl
/-- What f says whatever it is told. -/
noncomputable def anyN {β : Type} (f : Nat → Option β) : Option β := by
 classical exact if h : ∃ r, ∀ z, f z = some r then some h.choose else none
theorem anyN_at {β : Type} {f : Nat → Option β} {r : β} (h : anyN f = some r) (z : Nat) : f z = some r := by
 unfold anyN at h
 split at h
 ·rename_i k
  rw [← h]; exact k.choose_spec z
 ·cases h
theorem anyN_of {β : Type} {f : Nat → Option β} {r : β} (h : ∀ z, f z = some r) : anyN f = some r := by
 have k : ∃ r, ∀ z, f z = some r := ⟨r, h⟩
 unfold anyN
 rw [dif_pos k, ← k.choose_spec 0, h 0]
theorem nT {p : Prop} [Decidable p] (h : ¬ p) : (!decide p) = true := by simp [h]
theorem nF {p : Prop} [Decidable p] (h : p) : (!decide p) = false := by simp [h]
theorem aft_inl {V R T : Type} (v : V) (ret : R → Option T) (k : V → Option T) : aft (.inl v) ret k = k v := rfl
theorem aft_inr {V R T : Type} (r : R) (ret : R → Option T) (k : V → Option T) : aft (.inr r : Sum V R) ret k = ret r := rfl
theorem idx_get {α : Type} {l : List α} {k : Nat} {x : α} (h : l[k]? = some x) : idx l (k : Int) = some x := idx_some h rfl
theorem succ_cast (k : Nat) : ((k : Int) + 1) = ((k + 1 : Nat) : Int) := by omega
/-- A loop that goes through a list and gives bad at the first element that is not p. -/
theorem scan_loop {α T : Type} (l : List α) (b : (Int → Option (Sum Unit T)) → Int → Option (Sum Unit T)) (p : α → Bool) (bad : T)
  (hend : ∀ K (k : Nat), l.length ≤ k → b K (k : Int) = some (Sum.inl ()))
  (hstep : ∀ K (k : Nat) x, l[k]? = some x → b K (k : Int) = if p x = true then K ((k + 1 : Nat) : Int) else some (Sum.inr bad)) :
  ∀ (F k : Nat), l.length - k < F → iter b F (k : Int) = some (if (l.drop k).all p = true then Sum.inl () else Sum.inr bad) := by
 intro F
 induction F with
 | zero => intro k h; omega
 | succ F ih =>
  intro k h
  show b (iter b F) (k : Int) = _
  by_cases hk : k < l.length
  ·have hx : l[k]? = some l[k] := List.getElem?_eq_getElem hk
   rw [hstep _ k _ hx, List.drop_eq_getElem_cons hk, List.all_cons]
   by_cases hp : p l[k] = true
   ·rw [if_pos hp, hp, Bool.true_and]; exact ih (k + 1) (by omega)
   ·rw [if_neg hp]
    have : p l[k] = false := by simpa using hp
    rw [this, Bool.false_and, if_neg (by simp)]
  ·rw [hend _ k (by omega), List.drop_eq_nil_of_le (by omega)]; rfl
theorem scan_loop0 {α T : Type} (l : List α) (b : (Int → Option (Sum Unit T)) → Int → Option (Sum Unit T)) (p : α → Bool) (bad : T)
  (hend : ∀ K (k : Nat), l.length ≤ k → b K (k : Int) = some (Sum.inl ()))
  (hstep : ∀ K (k : Nat) x, l[k]? = some x → b K (k : Int) = if p x = true then K ((k + 1 : Nat) : Int) else some (Sum.inr bad)) {F : Nat} (hF : l.length < F) :
  iter b F (0 : Int) = some (if l.all p = true then Sum.inl () else Sum.inr bad) := by
 have := scan_loop l b p bad hend hstep F 0 (by omega)
 rwa [List.drop_zero] at this
theorem wf64 {x : Nat} (h : (Lit.float .f64 x).wf = true) : x < 18446744073709551616 := by
 have : x < 2 ^ 64 := by simpa [Lit.wf] using h
 omega
theorem lenq {a b n s : Nat} (q : n = b) (h : a = b * s) : a = n * s := q ▸ h
end Go.Vm

/- Regions that draw their order, in which operations turn memory in whatever order they come. -/
set_option linter.unusedVariables false
set_option linter.unusedSimpArgs false
namespace Go.Vm

/-- js: all but the tail, in the order in which they are gone through; ms: those of them that turn memory; OB: the objects, by what is listed; SL: what outlives each of ms. -/
structure Mids where
 js : List Nat
 ms : List Nat
 OB : (Nat → Bool) → List Ob
 SL : List (Nat × (SV → Bool))
def getF : List (Nat × (SV → Bool)) → Nat → SV → Bool
 | [], _ => fun _ => true
 | (k, f) :: r, i => if k = i then f else getF r i
def Mids.sv (p : Mids) (i : Nat) : SV → Bool := getF p.SL i
def Mids.svf (p : Mids) (i : Nat) : SV → Bool := if p.ms.contains i then p.sv i else fun _ => true
def setB (L : Nat → Bool) (i : Nat) : Nat → Bool := fun j => bif Nat.beq j i then true else L j
def lstB (listed : Array Bool) : Nat → Bool := fun j => listed.getD j false

theorem drE_true (e : Env) : drE (fun _ => true) e = e := by
 funext t; unfold drE; cases e t <;> simp
theorem drE_comm (f g : SV → Bool) (e : Env) : drE f (drE g e) = drE g (drE f e) := by
 funext t
 unfold drE
 cases e t with
 | none => rfl
 | some y => simp only [Option.bind_some]; by_cases h1 : f y = true <;> by_cases h2 : g y = true <;> simp [h1, h2]

section
variable {C : Ctx} {ops : Array Oper}

/-- The state tells at least this of what o looks at. -/
def Tells (ops : Array Oper) (o : Oper) (e : Env) (l : List (Nat × SV)) : Prop := ∀ t, t ∈ o.looksAt ops → ∀ y, e t = some y → get l t = some y
def MS (C : Ctx) (ops : Array Oper) (ob ob' : List Ob) (sv : SV → Bool) (o : Oper) (x : SV) (e : Env) : Prop :=
 wantE ops o e = some true ∧ ∀ (l : List (Nat × SV)), Tells ops o e l → ∀ Ω a w, Rel C ⟨l, ob⟩ Ω a w →
  o.wp C.P a w (fun a' w' => ∃ (l' : List (Nat × SV)) (Ω' : List Value), get l' = upd (drE sv (get l)) o.dst x ∧ Rel C ⟨l', ob'⟩ Ω' a' w') (fun _ _ _ => False)
def YS (C : Ctx) (ops : Array Oper) (obs : List Ob) (o : Oper) (x : SV) (e : Env) : Prop :=
 (wantE ops o e = some true ∧ ∀ (l : List (Nat × SV)), Tells ops o e l → ∀ Ω a w, Rel C ⟨l, obs⟩ Ω a w →
  o.wp C.P a w (fun a' w' => ∃ (l' : List (Nat × SV)) (Ω' : List Value), get l' = upd (get l) o.dst x ∧ Rel C ⟨l', obs⟩ Ω' a' w') (fun _ _ _ => False)) ∨
 (wantE ops o e = some false ∧ x = .d (.v undef) ∧ ∀ d, o.dst = some d → d < C.n)
theorem wantE_mono {o : Oper} {e e' : Env} {b : Bool} (h : ∀ t, t ∈ o.looksAt ops → ∀ y, e t = some y → e' t = some y) (hw : wantE ops o e = some b) : wantE ops o e' = some b := by
 unfold wantE at *
 cases hg : o.guard with
 | none => rw [hg] at hw; exact hw
 | some p =>
  obtain ⟨g, want⟩ := p
  rw [hg] at hw
  simp only at hw ⊢
  cases hj : (ops[g]?).bind (·.dst) with
  | none => rw [hj] at hw; cases hw
  | some dj =>
   rw [hj] at hw
   simp only at hw ⊢
   have hm : dj ∈ o.looksAt ops := by unfold Oper.looksAt; rw [hg]; simp only [hj]; simp
   cases he : e dj with
   | none => rw [he] at hw; cases hw
   | some y => rw [h dj hm y he]; rw [he] at hw; exact hw
theorem Tells.mono {o : Oper} {e e' : Env} {l : List (Nat × SV)} (h : ∀ t, t ∈ o.looksAt ops → ∀ y, e t = some y → e' t = some y) (ht : Tells ops o e' l) : Tells ops o e l := fun t hm y hy => ht t hm y (h t hm y hy)

/-- What may be listed when number i comes up. -/
def Adm (ops : Array Oper) (p : Mids) (L : Nat → Bool) (i : Nat) : Prop := L i = false ∧ ∀ k, k ∈ p.ms → (ancB .any ops ops.size i k = true → L k = true) ∧ (ancB .any ops ops.size k i = true → L k = false)
def ST (C : Ctx) (ops : Array Oper) (p : Mids) (i : Nat) (o : Oper) (x : SV) (e : Env) : Prop := ∀ L, Adm ops p L i →
 (p.ms.contains i = false ∧ YS C ops (p.OB L) o x e) ∨ (p.ms.contains i = true ∧ MS C ops (p.OB L) (p.OB (setB L i)) (p.sv i) o x e)
/-- The value outlives those that do not come ahead of it. -/
def SX (ops : Array Oper) (p : Mids) (i : Nat) (x : SV) : Prop := ∀ k, k ∈ p.ms → k ≠ i → ancB .any ops ops.size i k = false → ancB .any ops ops.size k i = false → p.sv k x = true
def SK (ops : Array Oper) (p : Mids) (i : Nat) (o : Oper) (e : Env) : Prop := ∀ k, k ∈ p.ms → k ≠ i → ancB .any ops ops.size i k = false → ancB .any ops ops.size k i = false → ∀ t, t ∈ o.looksAt ops → ∀ y, e t = some y → p.sv k y = true
theorem ST.mono {p : Mids} {i : Nat} {o : Oper} {x : SV} {e e' : Env} (h : ∀ t, t ∈ o.looksAt ops → ∀ y, e t = some y → e' t = some y) (hs : ST C ops p i o x e) : ST C ops p i o x e' := fun L hL => by
 rcases hs L hL with ⟨h1, h2⟩ | ⟨h1, h2, h3⟩
 ·refine .inl ⟨h1, ?_⟩
  rcases h2 with ⟨h2, h3⟩ | ⟨h2, h3⟩
  ·exact .inl ⟨wantE_mono h h2, fun l hl => h3 l (hl.mono h)⟩
  ·exact .inr ⟨wantE_mono h h2, h3⟩
 ·exact .inr ⟨h1, wantE_mono h h2, fun l hl => h3 l (hl.mono h)⟩

def wpAnyS (C : Ctx) (ops : Array Oper) (p : Mids) (K : Array Bool → Env → Prop) : Nat → Array Bool → Env → Prop
 | 0, listed, e => K listed e
 | f + 1, listed, e => Region.ready .any ops listed ≠ [] ∧ ∀ i ∈ Region.ready .any ops listed, i ∈ p.js ∧ ∃ o x, ops[i]? = some o ∧ ST C ops p i o x e ∧ SX ops p i x ∧
   wpAnyS C ops p K f (listed.setIfInBounds i true) (upd (drE (p.svf i) e) o.dst x)

theorem adm_of {p : Mids} {i : Nat} {listed : Array Bool} (inv : HInv .any ops p.js listed) (hi : i ∈ Region.ready .any ops listed) : Adm ops p (lstB listed) i := by
 obtain ⟨hun, oi, hoi, hall⟩ := mem_ready.1 hi
 refine ⟨getD_both hun, fun k hk => ⟨fun ha => ?_, fun ha => ?_⟩⟩
 ·exact anc_listed inv _ i k ha fun oj hj e he hb => by rw [hoi] at hj; cases hj; exact hall e he hb
 ·cases hq : lstB listed k with
  | false => rfl
  | true =>
   have := anc_listed inv _ k i ha fun ok hok e he hb => inv.closed k ok hok hq e he hb
   rw [getD_both hun] at this; cases this
theorem lst_set {listed : Array Bool} {i j : Nat} (h : i < listed.size) : lstB (listed.setIfInBounds i true) j = setB (lstB listed) i j := by
 unfold lstB setB
 by_cases e : j = i
 ·subst e; simp [Array.getD, h]
 ·rw [getD_set_ne false (fun h => e h.symm)]; simp [e]

theorem wpAny_of_S {p : Mids} {g : Nat} {K : Array Bool → Env → Prop} {Q' : Exit → Act → World → Prop} (hOB : ∀ L L', (∀ j ∈ p.ms, L j = L' j) → p.OB L = p.OB L')
  (hL : ∀ listed (l : List (Nat × SV)), K listed (get l) → ∀ Ω a w, Rel C ⟨l, p.OB (lstB listed)⟩ Ω a w → wpAny C.P .any ops Q' g listed a w) :
  ∀ (f : Nat) (listed : Array Bool) (l : List (Nat × SV)), HInv .any ops p.js listed → wpAnyS C ops p K f listed (get l) → ∀ Ω a w, Rel C ⟨l, p.OB (lstB listed)⟩ Ω a w → wpAny C.P .any ops Q' (f + g) listed a w
 | 0, listed, l, _, h, Ω, a, w, hr => by rw [Nat.zero_add]; exact hL _ _ h Ω a w hr
 | f + 1, listed, l, inv, h, Ω, a, w, hr => by
  rw [show f + 1 + g = (f + g) + 1 by omega]
  refine ⟨fun h0 => absurd h0 h.1, fun i hi => ?_⟩
  obtain ⟨hin, o, x, ho, hst, _, hK⟩ := h.2 i hi
  have inv' := inv.set hi hin
  have hlt : i < listed.size := by rw [inv.size]; exact (Array.getElem?_eq_some_iff.1 ho).1
  have hob' : p.OB (setB (lstB listed) i) = p.OB (lstB (listed.setIfInBounds i true)) := hOB _ _ fun j _ => (lst_set hlt).symm
  rcases hst _ (adm_of inv hi) with ⟨hm, hy⟩ | ⟨hm, hg, hmv⟩
  ·have hob : p.OB (lstB listed) = p.OB (lstB (listed.setIfInBounds i true)) := hOB _ _ fun j hj => by
    rw [lst_set hlt]
    have : j ≠ i := fun e => by subst e; simp [hj] at hm
    simp [setB, this]
   have hsv : p.svf i = fun _ => true := by unfold Mids.svf; rw [hm]; rfl
   rw [hsv, drE_true] at hK
   unfold wpOp
   simp only [ho]
   rcases hy with ⟨h1, h2⟩ | ⟨h1, rfl, h2⟩
   ·rw [if_pos (by rw [wantE_wanted h1 hr])]
    refine .inl (wp_monoQ (fun a' w' ⟨l', Ω', hg, hr'⟩ => ?_) (fun _ _ _ _ h => h.elim) (h2 l (fun _ _ _ h => h) Ω a w hr))
    exact wpAny_of_S hOB hL f _ l' inv' (by rw [hg]; exact hK) Ω' a' w' (hob ▸ hr')
   ·rw [if_neg (by rw [wantE_wanted h1 hr]; simp)]
    cases hd : o.dst with
    | none => rw [hd] at hK; exact wpAny_of_S hOB hL f _ l inv' hK Ω _ w (hob ▸ (hr.putNone undef))
    | some d =>
     rw [hd] at hK
     exact wpAny_of_S hOB hL f _ ((d, .d (.v undef)) :: l) inv' (by rw [get_upd]; exact hK) Ω _ w (hob ▸ (hr.put (h2 d hd) (.d _ _ (.v _))))
  ·unfold wpOp
   simp only [ho]
   rw [if_pos (by rw [wantE_wanted hg hr])]
   refine .inl (wp_monoQ (fun a' w' ⟨l', Ω', hg, hr'⟩ => ?_) (fun _ _ _ _ h => h.elim) (hmv l (fun _ _ _ h => h) Ω a w hr))
   have hsv : p.svf i = p.sv i := by unfold Mids.svf; rw [hm]; rfl
   exact wpAny_of_S hOB hL f _ l' inv' (by rw [hg, ← hsv]; exact hK) Ω' a' w' (hob' ▸ hr')

theorem svf_eq {p : Mids} {k : Nat} {y : SV} (h : k ∈ p.ms → p.sv k y = true) : p.svf k y = true := by
 unfold Mids.svf
 split
 ·rename_i hk; exact h (List.contains_iff_mem.1 hk)
 ·rfl
theorem wpAnyS_first {p : Mids} {i : Nat} {oi : Oper} {v : SV} {K : Array Bool → Env → Prop} (hi : ops[i]? = some oi) (hF : HFirst .any ops p.js) (hin : i ∈ p.js)
  (hdone : ∀ listed a, K listed a → ∀ j ∈ Region.ready .any ops listed, j ∉ p.js) :
  ∀ (f : Nat) (listed : Array Bool) (a : Env), HInv .any ops p.js listed →
   (∀ j oj, ops[j]? = some oj → j ≠ i → listed.getD j true = false → (∀ e ∈ oj.after, Region.binds .any e = true → e.on ≠ i) → oi.apart ops oj = true) →
   i ∈ Region.ready .any ops listed → ST C ops p i oi v a → SX ops p i v → SK ops p i oi a →
   wpAnyS C ops p K f (listed.setIfInBounds i true) (upd (drE (p.svf i) a) oi.dst v) → wpAnyS C ops p K (f + 1) listed a := by
 intro f
 induction f with
 | zero =>
  intro listed a inv _ hr hy hx hs H
  have hun := (mem_ready.1 hr).1
  refine ⟨fun h => (by rw [h] at hr; cases hr), fun j hj => ?_⟩
  have hjn : j ∈ p.js := hF listed inv i hin hun j hj
  refine ⟨hjn, ?_⟩
  by_cases hji : j = i
  ·subst hji; exact ⟨oi, v, hi, hy, hx, H⟩
  ·exact absurd hjn (hdone _ _ H j (ready_mono hj hji))
 | succ f ih =>
  intro listed a inv hfree hr hy hx hs H
  have hun := (mem_ready.1 hr).1
  refine ⟨fun h => (by rw [h] at hr; cases hr), fun j hj => ?_⟩
  have hjn : j ∈ p.js := hF listed inv i hin hun j hj
  refine ⟨hjn, ?_⟩
  by_cases hji : j = i
  ·subst hji; exact ⟨oi, v, hi, hy, hx, H⟩
  ·obtain ⟨hjun, oj, hoj, hall⟩ := mem_ready.1 hj
   have hnot : ∀ e ∈ oj.after, Region.binds .any e = true → e.on ≠ i := fun e he hb heq => by
    have h1 := hall e he hb
    rw [heq, getD_both hun] at h1
    cases h1
   have hap := hfree j oj hoj hji hjun hnot
   obtain ⟨a1, a2, a3⟩ := Oper.apart_spec hap
   have hfree' : ∀ k ok, ops[k]? = some ok → k ≠ i → (listed.setIfInBounds j true).getD k true = false →
     (∀ e ∈ ok.after, Region.binds .any e = true → e.on ≠ i) → oi.apart ops ok = true := fun k ok hk hki hun hno => by
    refine hfree k ok hk hki ?_ hno
    by_cases hjk : j = k
    ·subst hjk; exact hjun
    ·rw [getD_set_ne true hjk] at hun; exact hun
   have notanc : ∀ {j k : Nat}, j ∈ Region.ready .any ops listed → listed.getD k true = false → ancB .any ops ops.size j k = false := fun {j k} hj hun => by
    obtain ⟨_, oj, hoj, hall⟩ := mem_ready.1 hj
    cases hq : ancB .any ops ops.size j k with
    | false => rfl
    | true =>
     have := anc_listed inv _ j k hq (fun ok hok e he hb => by rw [hoj] at hok; cases hok; exact hall e he hb)
     rw [getD_both hun] at this; cases this
   obtain ⟨_, oj', y, hoj', hstj, hxj, hK⟩ := H.2 j (ready_mono hj hji)
   rw [hoj] at hoj'; cases hoj'
   have sjv : p.svf j v = true := svf_eq fun hjm => hx j hjm hji (notanc hr hjun) (notanc hj hun)
   have siy : p.svf i y = true := svf_eq fun him => hxj i him (Ne.symm hji) (notanc hj hun) (notanc hr hjun)
   refine ⟨oj, y, hoj, hstj.mono (fun t ht z hz => ?_), hxj, ?_⟩
   ·rw [upd_ne fun k hk e => a1 k hk (e ▸ ht)] at hz
    exact (drE_some hz).1
   ·refine ih (listed.setIfInBounds j true) _ (inv.set hj hjn) hfree' (ready_mono hr (Ne.symm hji)) (hy.mono fun t ht z hz => ?_) hx (fun k hk hki ha hb t ht z hz => ?_) ?_
    ·rw [upd_ne fun k hk e => a3 k hk (e ▸ ht)]
     have hz' : p.svf j z = true := svf_eq fun hjm => hs j hjm hji (notanc hr hjun) (notanc hj hun) t ht z hz
     simp [drE, hz, hz']
    ·rw [upd_ne fun k hk e => a3 k hk (e ▸ ht)] at hz
     exact hs k hk hki ha hb t ht z (drE_some hz).1
    ·rw [drE_upd siy, drE_comm, Array.setIfInBounds_comm _ _ hji]
     rw [drE_upd sjv] at hK
     rw [upd_comm (fun i hi => fun hk => a2 i hi hk)] at hK
     exact hK

/-- The walk. -/
def AS (C : Ctx) (ops : Array Oper) (p : Mids) : List Nat → List (Nat × SV) → (List (Nat × SV) → Prop) → Prop
 | [], e, K => K e
 | i :: rest, e, K => ∃ o x l', ops[i]? = some o ∧ ST C ops p i o x (get e) ∧ SX ops p i x ∧ SK ops p i o (get e) ∧ get l' = upd (drE (p.svf i) (get e)) o.dst x ∧ AS C ops p rest l' K

theorem wpAnyS_lex {p : Mids} {ts : List Nat} {K : List (Nat × SV) → Prop} (hF : HFirst .any ops p.js) (htl : ∀ t ∈ ts, t ∉ p.js) :
  ∀ (is : List Nat) (listed : Array Bool) (e : List (Nat × SV)), (∀ i ∈ is, i < ops.size ∧ i ∈ p.js) → (∀ j ∈ p.js, j ∈ is ∨ listed.getD j false = true) → HInv .any ops p.js listed →
  headO .any ops ts is listed = true → AS C ops p is e K →
  wpAnyS C ops p (fun listed' a' => (tailO .any ops ts listed' = true ∧ ∀ j ∈ p.js, listed'.getD j false = true) ∧ ∃ l', a' = get l' ∧ K l') is.length listed (get e)
 | [], listed, e, _, hall, inv, hB, h => ⟨⟨hB, fun j hj => (hall j hj).resolve_left (by simp)⟩, e, rfl, h⟩
 | i :: is, listed, e, hl, hall, inv, hB, h => by
  have hi := hl i (by simp)
  simp only [headO, Bool.and_eq_true] at hB
  obtain ⟨⟨hr, hf⟩, hB'⟩ := hB
  have hr' : i ∈ Region.ready .any ops listed := by simpa using hr
  obtain ⟨o, x, l', h0, hy, hx, hs, hg, hK⟩ := h
  refine wpAnyS_first h0 hF hi.2 (fun listed' a' hL => ?_) is.length listed _ inv (Region.free_spec h0 hf) hr' hy hx hs ?_
  ·intro j hj
   cases ts with
   | nil => have := hL.1.1; simp only [tailO, List.isEmpty_iff] at this; rw [this] at hj; cases hj
   | cons t ts =>
    have := hL.1.1
    simp only [tailO, Bool.and_eq_true, decide_eq_true_eq] at this
    rw [this.1] at hj
    have : j = t := by simpa using hj
    subst this
    exact htl j (by simp)
  ·rw [← hg]
   refine wpAnyS_lex hF htl is _ l' (fun j hj => hl j (by simp [hj])) (fun j hj => ?_) (inv.set hr' hi.2) hB' hK
   by_cases hji : j = i
   ·subst hji; right
    have : j < listed.size := by rw [inv.size]; exact hi.1
    simp [Array.getD, this]
   ·rcases hall j hj with h | h
    ·left; rcases List.mem_cons.1 h with h | h
     ·exact absurd h hji
     ·exact h
    ·right; exact getD_set_true h

def drawSB (ops : Array Oper) (js ms ts : List Nat) : Bool :=
 js.all (· < ops.size) && ts.all (· < ops.size) && ts.all (fun t => !js.contains t) && (js.length + ts.length == ops.size) && ms.all (js.contains ·) &&
 ((List.range ops.size).all fun t => js.contains t || (ts.contains t && js.all (ancB .any ops ops.size t))) && headO .any ops ts js (Array.replicate ops.size false)

theorem AC.drawS {id : Nat} {l : List Oper} {s : St} {Q : Exit → St → Prop} (js ms ts : List Nat) (OB : (Nat → Bool) → List Ob) (SL : List (Nat × (SV → Bool))) (hm : C.P.follows .mixedOrders = true) (hB : drawSB l.toArray js ms ts = true)
  (hOB : ∀ L L', (∀ j ∈ ms, L j = L' j) → OB L = OB L') (h0 : OB (fun _ => false) = s.obs)
  (h : AS C l.toArray ⟨js, ms, OB, SL⟩ js s.env (fun e' => AO C l.toArray (opsAt l.toArray ts) ⟨e', OB (fun _ => true)⟩ Q)) : AC C (.region id l.toArray true) s Q := fun Ω a w hr => by
 simp only [drawSB, Bool.and_eq_true, beq_iff_eq] at hB
 obtain ⟨⟨⟨⟨⟨⟨b1, b2⟩, b3⟩, b4⟩, b4'⟩, b5⟩, b6⟩ := hB
 have hF : HFirst .any l.toArray js := by
  intro listed inv i hi hun j hj
  obtain ⟨_, oj, hoj, hall⟩ := mem_ready.1 hj
  have hlt := (Array.getElem?_eq_some_iff.1 hoj).1
  have := List.all_eq_true.1 b5 j (List.mem_range.2 hlt)
  simp only [Bool.or_eq_true, Bool.and_eq_true, List.contains_iff_mem] at this
  rcases this with h | ⟨_, h⟩
  ·exact h
  ·have ha := anc_listed inv _ j i (List.all_eq_true.1 h i hi) (fun ok hk e he hb => by
    have : ok = oj := Option.some.inj (hk.symm.trans hoj)
    subst this
    exact hall e he hb)
   rw [getD_both hun] at ha
   cases ha
 have inv0 : HInv .any l.toArray js (Array.replicate l.toArray.size false) :=
  ⟨by simp, fun j oj _ hl => (by rw [getD_replicate_false] at hl; cases hl), fun t _ ht => getD_in (by simpa using ht) (getD_replicate_false _ _)⟩
 have H := wpAnyS_lex (p := ⟨js, ms, OB, SL⟩) (ts := ts) hF (fun t ht => by have := List.all_eq_true.1 b3 t ht; simpa using this) js _ s.env (fun i hi => ⟨by have := List.all_eq_true.1 b1 i hi; simpa using this, hi⟩) (fun j hj => .inl hj) inv0 b6 h
 refine wp_region_any hm ?_
 have := wpAny_of_S (Q' := Lift C Q) (p := ⟨js, ms, OB, SL⟩) (g := ts.length) hOB (fun listed e hL Ω a w hr => by
  obtain ⟨⟨h7, h8⟩, l', he, hK⟩ := hL
  have hob : OB (lstB listed) = OB (fun _ => true) := hOB _ _ fun j hj => h8 j (by have := List.all_eq_true.1 b4' j hj; simpa using this)
  have hr' : Rel C ⟨e, OB (fun _ => true)⟩ Ω a w := hob ▸ hr
  exact wpAny_of_tailO ts listed a w b2 h7 (hK Ω a w (hr'.congr fun t x hx => by rw [he]; exact hx))) _ _ s.env inv0 H Ω a _ (by
   have e0 : OB (lstB (Array.replicate l.toArray.size false)) = s.obs := by
    rw [← h0]; exact hOB _ _ fun j _ => getD_replicate_false _ _
   show Rel C ⟨s.env, OB _⟩ Ω a _
   rw [e0]; exact hr.drew)
 have e4 : js.length + ts.length = l.toArray.size := b4
 rw [e4] at this
 exact this

/-! ### How the walk is printed -/
variable {p : Mids} {o : Oper} {e Ls : List (Nat × SV)} {d j dj i : Nat} {x : SV} {want b : Bool} {K : List (Nat × SV) → Prop} {is : List Nat}
/-- What is listed for sure, what is not, and else L. -/
def elemN : List Nat → Nat → Bool
 | [], _ => false
 | a :: r, k => bif Nat.beq a k then true else elemN r k
theorem elemN_mem {k : Nat} : ∀ {l : List Nat}, elemN l k = true → k ∈ l
 | [], h => by cases h
 | a :: r, h => by
  simp only [elemN] at h
  by_cases e : a = k
  ·subst e; simp
  ·cases q : Nat.beq a k with
   | true => exact absurd (Nat.eq_of_beq_eq_true q) e
   | false => rw [q] at h; exact List.mem_cons_of_mem _ (elemN_mem h)
def force (T F : List Nat) (L : Nat → Bool) : Nat → Bool := fun k => bif elemN T k then true else bif elemN F k then false else L k
def relS (ops : Array Oper) (ms : List Nat) (i : Nat) (T F su : List Nat) : Bool :=
 T.all (fun k => ms.contains k && ancB .any ops ops.size i k) && F.all (fun k => k == i || (ms.contains k && ancB .any ops ops.size k i)) && ms.all (fun k => k == i || ancB .any ops ops.size i k || ancB .any ops ops.size k i || su.contains k)
def SAS (p : Mids) (Ls : List (Nat × SV)) (x : SV) (su : List Nat) : Bool := su.all fun k => p.sv k x && Ls.all fun q => p.sv k q.2
theorem force_eq {T F su : List Nat} {L : Nat → Bool} (hr : relS ops p.ms i T F su = true) (hL : Adm ops p L i) : force T F L = L := by
 simp only [relS, Bool.and_eq_true, List.all_eq_true, List.contains_iff_mem, Bool.or_eq_true, beq_iff_eq] at hr
 obtain ⟨⟨h1, h2⟩, _⟩ := hr
 funext k
 unfold force
 cases q1 : elemN T k with
 | true => have := h1 k (elemN_mem q1); exact ((hL.2 k this.1).1 this.2).symm
 | false =>
  cases q2 : elemN F k with
  | true =>
   rcases h2 k (elemN_mem q2) with rfl | h
   ·exact hL.1.symm
   ·exact ((hL.2 k h.1).2 h.2).symm
  | false => rfl
theorem keeps {ks : List Nat} (hk : keep ks e = some Ls) (hl : looksB ops o ks = true) {t : Nat} (ht : t ∈ o.looksAt ops) {y : SV} (hy : get e t = some y) : (t, y) ∈ Ls := by
 simp only [looksB, Bool.and_eq_true, List.all_eq_true, List.contains_iff_mem] at hl
 obtain ⟨h1, _⟩ := (keep_get' hk t).1 (hl.1 t ht)
 rw [← h1] at hy
 exact get_mem hy
theorem sx_sk {ks T F su : List Nat} (hr : relS ops p.ms i T F su = true) (hk : keep ks e = some Ls) (hl : looksB ops o ks = true) (hs : SAS p Ls x su = true) : SX ops p i x ∧ SK ops p i o (get e) := by
 simp only [relS, Bool.and_eq_true, List.all_eq_true, List.contains_iff_mem, Bool.or_eq_true, beq_iff_eq] at hr
 simp only [SAS, Bool.and_eq_true, List.all_eq_true] at hs
 have h3 : ∀ k, k ∈ p.ms → k ≠ i → ancB .any ops ops.size i k = false → ancB .any ops ops.size k i = false → k ∈ su := fun k h1 h2 h3 h4 => by
  rcases hr.2 k h1 with ((h | h) | h) | h
  ·exact absurd h h2
  ·rw [h3] at h; cases h
  ·rw [h4] at h; cases h
  ·exact h
 exact ⟨fun k h1 h2 h4 h5 => (hs k (h3 k h1 h2 h4 h5)).1, fun k h1 h2 h4 h5 t ht y hy => (hs k (h3 k h1 h2 h4 h5)).2 (t, y) (keeps hk hl ht hy)⟩
theorem tells_same {ks : List Nat} {l : List (Nat × SV)} (hk : keep ks e = some Ls) (hl : looksB ops o ks = true) (ht : Tells ops o (get e) l) : ∀ t, get (Ls ++ l) t = get l t := fun t => by
 simp only [looksB, Bool.and_eq_true, List.all_eq_true, List.contains_iff_mem] at hl
 rw [get_append]
 by_cases hm : t ∈ ks
 ·obtain ⟨h1, h2⟩ := (keep_get' hk t).1 hm
  rw [h1]
  obtain ⟨y, hy⟩ := Option.isSome_iff_exists.1 h2
  rw [hy]
  exact (ht t (hl.2 t hm) y hy).symm
 ·rw [(keep_get' hk t).2 hm]
theorem gives_run {obs : List Ob} {ks : List Nat} (hk : keep ks e = some Ls) (hl : looksB ops o ks = true) (hd : o.dst = some d) (hv : Gives C ops obs o Ls d x) (l : List (Nat × SV)) (ht : Tells ops o (get e) l) (Ω : List Value) (a : Act) (w : World) (hr : Rel C ⟨l, obs⟩ Ω a w) :
  o.wp C.P a w (fun a' w' => ∃ (l' : List (Nat × SV)) (Ω' : List Value), get l' = upd (get l) o.dst x ∧ Rel C ⟨l', obs⟩ Ω' a' w') (fun _ _ _ => False) := by
 have hsame := tells_same hk hl ht
 have hr' : Rel C ⟨Ls ++ l, obs⟩ Ω a w := hr.congr fun t y hy => by rw [← hsame t]; exact hy
 have H := hv l (fun ed s => ed = .normal ∧ s = ⟨(d, x) :: (Ls ++ l), obs⟩) (AO.nil ⟨rfl, rfl⟩) Ω a w hr'
 refine wp_monoQ (fun a' w' hq => ?_) (fun ed a' w' hne hq => ?_) H
 ·obtain ⟨s, Ω', hr2, _, hs⟩ := hq
  subst hs
  refine ⟨_, Ω', ?_, hr2⟩
  rw [hd, get_upd]
  congr 1
  funext t; exact hsame t
 ·obtain ⟨s, Ω', _, he, _⟩ := hq
  exact hne he
theorem AS.done (h : K e) : AS C ops p [] e K := h
theorem AS.give (hm : p.ms.contains i = false) {T F su ks : List Nat} (h0 : ops[i]? = some o) (hd : o.dst = some d) (hl : looksB ops o ks = true) (hr : relS ops p.ms i T F su = true) (hk : keep ks e = some Ls) (hs : SAS p Ls x su = true)
  (hy : ∀ L, YS C ops (p.OB (force T F L)) o x (get e)) (h : AS C ops p is ((d, x) :: e) K) : AS C ops p (i :: is) e K :=
 ⟨o, x, (d, x) :: e, h0, fun L hL => .inl ⟨hm, by have := hy L; rw [force_eq hr hL] at this; exact this⟩, (sx_sk hr hk hl hs).1, (sx_sk hr hk hl hs).2, by simp only [Mids.svf, hm]; rw [if_neg (by simp), drE_true, hd, get_upd], h⟩
theorem AS.op (ks T F su : List Nat) (h0 : ops[i]? = some o) (hm : p.ms.contains i = false) (hg : o.guard = none) (hl : looksB ops o ks = true) (hr : relS ops p.ms i T F su = true) (hk : keep ks e = some Ls) (hd : o.dst = some d)
  (hv : ∀ L, Gives C ops (p.OB (force T F L)) o Ls d x) (hs : SAS p Ls x su = true) (h : AS C ops p is ((d, x) :: e) K) : AS C ops p (i :: is) e K :=
 AS.give hm h0 hd hl hr hk hs (fun L => .inl ⟨by unfold wantE; rw [hg], gives_run hk hl hd (hv L)⟩) h
theorem want_eq {b : Bool} (hg : o.guard = some (j, want)) (hj : ((ops[j]?).bind (·.dst)) = some dj) (hx : get e dj = some (.d (.v (.bool b)))) : wantE ops o (get e) = some (b == want) := by
 unfold wantE; rw [hg]; simp only [hj]; show (match get e dj with | some (.d (.v (.bool b))) => some (b == want) | some (.d (.v (.tuple _))) => some false | _ => none) = _; rw [hx]
theorem AS.opY (ks T F su : List Nat) (h0 : ops[i]? = some o) (hm : p.ms.contains i = false) (hg : o.guard = some (j, want)) (hj : ((ops[j]?).bind (·.dst)) = some dj) (hx : get e dj = some (.d (.v (.bool b)))) (hb : b = want)
  (hl : looksB ops o ks = true) (hr : relS ops p.ms i T F su = true) (hk : keep ks e = some Ls) (hd : o.dst = some d)
  (hv : ∀ L, Gives C ops (p.OB (force T F L)) o Ls d x) (hs : SAS p Ls x su = true) (h : AS C ops p is ((d, x) :: e) K) : AS C ops p (i :: is) e K :=
 AS.give hm h0 hd hl hr hk hs (fun L => .inl ⟨by rw [want_eq hg hj hx]; simp [hb], gives_run hk hl hd (hv L)⟩) h
theorem AS.opN (ks T F su : List Nat) (h0 : ops[i]? = some o) (hm : p.ms.contains i = false) (hg : o.guard = some (j, want)) (hj : ((ops[j]?).bind (·.dst)) = some dj) (hx : get e dj = some (.d (.v (.bool b)))) (hb : b = (!want))
  (hl : looksB ops o ks = true) (hr : relS ops p.ms i T F su = true) (hk : keep ks e = some Ls) (hd : o.dst = some d) (hn : d < C.n)
  (hs : SAS p Ls (.d (.v undef)) su = true) (h : AS C ops p is ((d, .d (.v undef)) :: e) K) : AS C ops p (i :: is) e K :=
 AS.give hm h0 hd hl hr hk hs (fun L => .inr ⟨by rw [want_eq hg hj hx]; simp [hb], rfl, fun k hk => by rw [hd] at hk; cases hk; exact hn⟩) h
theorem AS.split (dj : Nat) (want : Bool) (hx : get e dj = some (.d (.v (.bool b)))) (hyes : b = want → AS C ops p is e K) (hno : b = (!want) → AS C ops p is e K) : AS C ops p is e K := by
 by_cases hb : b = want
 ·exact hyes hb
 ·exact hno (by cases b <;> cases want <;> simp_all)
theorem AS.dec (b : Bool) (hyes : b = true → AS C ops p is e K) (hno : b = false → AS C ops p is e K) : AS C ops p is e K := by
 cases b
 ·exact hno rfl
 ·exact hyes rfl
theorem AS.midW (ks T F su : List Nat) {sv : SV → Bool} (h0 : ops[i]? = some o) (hm : p.ms.contains i = true) (hsv : p.sv i = sv) (hg : wantE ops o (get e) = some true) (hl : looksB ops o ks = true) (hr : relS ops p.ms i T F su = true) (hk : keep ks e = some Ls) (hd : o.dst = some d)
  (hv : ∀ (L : Nat → Bool) (e : List (Nat × SV)) (Q : Exit → St → Prop), AO C ops [] ⟨(d, x) :: dropS sv [] (Ls ++ e), p.OB (setB (force T F L) i)⟩ Q → AOp C ops [] o ⟨Ls ++ e, p.OB (force T F L)⟩ Q)
  (hs : SAS p Ls x su = true) {e' : List (Nat × SV)} (he : dropS sv [] e = e') (h : AS C ops p is ((d, x) :: e') K) : AS C ops p (i :: is) e K := by
 subst he hsv
 have hdr : ∀ l : List (Nat × SV), get (dropS (p.sv i) [] l) = drE (p.sv i) (get l) := fun l => by funext t; rw [get_dropS]; simp
 refine ⟨o, x, _, h0, fun L hL => .inr ⟨hm, hg, ?_⟩, (sx_sk hr hk hl hs).1, (sx_sk hr hk hl hs).2, by rw [hd, get_upd, hdr]; simp only [Mids.svf, hm, if_true], h⟩
 intro l ht Ω a w hrl
 have hv := hv L
 rw [force_eq hr hL] at hv
 have hsame := tells_same hk hl ht
 have hr' : Rel C ⟨Ls ++ l, p.OB L⟩ Ω a w := hrl.congr fun t y hy => by rw [← hsame t]; exact hy
 have H := hv l (fun ed s => ed = .normal ∧ s = ⟨(d, x) :: dropS (p.sv i) [] (Ls ++ l), p.OB (setB L i)⟩) (AO.nil ⟨rfl, rfl⟩) Ω a w hr'
 refine wp_monoQ (fun a' w' hq => ?_) (fun ed a' w' hne hq => ?_) H
 ·obtain ⟨s, Ω', hr2, _, hs⟩ := hq
  subst hs
  refine ⟨_, Ω', ?_, hr2⟩
  rw [hd, get_upd, hdr]
  congr 1
  congr 1
  funext t; exact hsame t
 ·obtain ⟨s, Ω', _, he, _⟩ := hq
  exact hne he
theorem AS.mid (ks T F su : List Nat) {sv : SV → Bool} (h0 : ops[i]? = some o) (hm : p.ms.contains i = true) (hsv : p.sv i = sv) (hg : o.guard = none) (hl : looksB ops o ks = true) (hr : relS ops p.ms i T F su = true) (hk : keep ks e = some Ls) (hd : o.dst = some d)
  (hv : ∀ (L : Nat → Bool) (e : List (Nat × SV)) (Q : Exit → St → Prop), AO C ops [] ⟨(d, x) :: dropS sv [] (Ls ++ e), p.OB (setB (force T F L) i)⟩ Q → AOp C ops [] o ⟨Ls ++ e, p.OB (force T F L)⟩ Q)
  (hs : SAS p Ls x su = true) {e' : List (Nat × SV)} (he : dropS sv [] e = e') (h : AS C ops p is ((d, x) :: e') K) : AS C ops p (i :: is) e K :=
 AS.midW ks T F su h0 hm hsv (by unfold wantE; rw [hg]) hl hr hk hd hv hs he h
/-- A store among them. -/
theorem AS.mid0W (ks T F su : List Nat) {sv : SV → Bool} (h0 : ops[i]? = some o) (hm : p.ms.contains i = true) (hsv : p.sv i = sv) (hg : wantE ops o (get e) = some true) (hl : looksB ops o ks = true) (hr : relS ops p.ms i T F su = true) (hk : keep ks e = some Ls) (hd : o.dst = none)
  (hv : ∀ (L : Nat → Bool) (e : List (Nat × SV)) (Q : Exit → St → Prop), AO C ops [] ⟨dropS sv [] (Ls ++ e), p.OB (setB (force T F L) i)⟩ Q → AOp C ops [] o ⟨Ls ++ e, p.OB (force T F L)⟩ Q)
  (hs : SAS p Ls .any su = true) {e' : List (Nat × SV)} (he : dropS sv [] e = e') (h : AS C ops p is e' K) : AS C ops p (i :: is) e K := by
 subst he hsv
 have hdr : ∀ l : List (Nat × SV), get (dropS (p.sv i) [] l) = drE (p.sv i) (get l) := fun l => by funext t; rw [get_dropS]; simp
 refine ⟨o, .any, _, h0, fun L hL => .inr ⟨hm, hg, ?_⟩, (sx_sk hr hk hl hs).1, (sx_sk hr hk hl hs).2, by rw [hd, hdr]; simp only [Mids.svf, hm, if_true]; rfl, h⟩
 intro l ht Ω a w hrl
 have hv := hv L
 rw [force_eq hr hL] at hv
 have hsame := tells_same hk hl ht
 have hr' : Rel C ⟨Ls ++ l, p.OB L⟩ Ω a w := hrl.congr fun t y hy => by rw [← hsame t]; exact hy
 have H := hv l (fun ed s => ed = .normal ∧ s = ⟨dropS (p.sv i) [] (Ls ++ l), p.OB (setB L i)⟩) (AO.nil ⟨rfl, rfl⟩) Ω a w hr'
 refine wp_monoQ (fun a' w' hq => ?_) (fun ed a' w' hne hq => ?_) H
 ·obtain ⟨s, Ω', hr2, _, hs⟩ := hq
  subst hs
  refine ⟨_, Ω', ?_, hr2⟩
  rw [hd, hdr]
  show drE (p.sv i) (get (Ls ++ l)) = drE (p.sv i) (get l)
  congr 1
  funext t; exact hsame t
 ·obtain ⟨s, Ω', _, he, _⟩ := hq
  exact hne he
theorem AS.mid0 (ks T F su : List Nat) {sv : SV → Bool} (h0 : ops[i]? = some o) (hm : p.ms.contains i = true) (hsv : p.sv i = sv) (hg : o.guard = none) (hl : looksB ops o ks = true) (hr : relS ops p.ms i T F su = true) (hk : keep ks e = some Ls) (hd : o.dst = none)
  (hv : ∀ (L : Nat → Bool) (e : List (Nat × SV)) (Q : Exit → St → Prop), AO C ops [] ⟨dropS sv [] (Ls ++ e), p.OB (setB (force T F L) i)⟩ Q → AOp C ops [] o ⟨Ls ++ e, p.OB (force T F L)⟩ Q)
  (hs : SAS p Ls .any su = true) {e' : List (Nat × SV)} (he : dropS sv [] e = e') (h : AS C ops p is e' K) : AS C ops p (i :: is) e K :=
 AS.mid0W ks T F su h0 hm hsv (by unfold wantE; rw [hg]) hl hr hk hd hv hs he h
theorem AO.dropT {l : List Oper} {obs : List Ob} {Q : Exit → St → Prop} {sv : SV → Bool} {e : List (Nat × SV)} (h : AO C ops l ⟨dropS sv [] e, obs⟩ Q) : AO C ops l ⟨e, obs⟩ Q :=
 AO.forget (fun q z hq => by
  rw [get_dropS] at hq
  simp only [List.not_mem_nil, if_false] at hq
  exact (drE_some hq).1) h
end

/-! ### Room for objects that are made in whatever order -/
/-- It leads neither to k nor to m. -/
def SV.noO2 (k m : Nat) (x : SV) : Bool := x.noO k && x.noO m
def Ob.noO2 (k m : Nat) (x : Ob) : Bool := x.noO k && x.noO m
inductive AllNo (k m : Nat) : List Ob → Prop
 | nil : AllNo k m []
 | cons {ob : Ob} {r : List Ob} (h : ob.noO2 k m = true) (t : AllNo k m r) : AllNo k m (ob :: r)
theorem noO2_cond {k m : Nat} {b : Bool} {x y : Ob} (hx : x.noO2 k m = true) (hy : y.noO2 k m = true) : (bif b then x else y).noO2 k m = true := by cases b <;> assumption
theorem AllNo.get {k m : Nat} : ∀ {l : List Ob}, AllNo k m l → ∀ {i : Nat} {ob : Ob}, l[i]? = some ob → ob.noO2 k m = true
 | _, .cons h t, 0, _, e => by cases e; exact h
 | _, .cons h t, i + 1, ob, e => t.get (by simpa using e)
theorem RepS.moved {w w' : World} {ok ok' : Nat → Prop} {Ω Ω' : List Value} {k m : Nat} (h : ∀ b, ok b → ok' b ∧ w'.heap[b]? = w.heap[b]?) (hΩ : ∀ o v, o ≠ k → o ≠ m → Ω[o]? = some v → Ω'[o]? = some v)
  {x : SV} {v : Value} (hx : x.noO2 k m = true) (hr : RepS w ok Ω x v) : RepS w' ok' Ω' x v := by
 simp only [SV.noO2, Bool.and_eq_true] at hx
 obtain ⟨hx, hx2⟩ := hx
 have ht : ∀ {o : Nat} {v : Value}, (o != k) = true → (o != m) = true → Ω[o]? = some v → Ω'[o]? = some v := fun h1 h2 e => hΩ _ _ (by simpa using h1) (by simpa using h2) e
 induction hr with
 | any v => exact .any v
 | d x v hd => exact .d x v (hd.mono h)
 | ptr o off b ho => exact .ptr o off b (ht hx hx2 ho)
 | ptrG o off b len cap ho => exact .ptrG o off b len cap (ht hx hx2 ho)
 | sl o sz off len cap b ho => exact .sl o sz off len cap b (ht hx hx2 ho)
 | own o v ho h1 => exact .own o v (ht hx hx2 ho) h1
 | pre o k n cap a ho hk => exact .pre o k n cap a (ht hx hx2 ho) hk
 | full sz cells a n hd => exact .full sz cells a n (hd.mono h)
 | ep b off i cells vals hb2 hcell hr => exact .ep b off i cells vals (h b hb2).1 (fun j hj => by rw [cell_heap (h b hb2).2]; exact hcell j hj) (fun j x hj => (hr j x hj).mono h)
 | ag cells vs hl _ ih => exact .ag cells vs hl fun i x y h1 h2 => ih i x y h1 h2 (SV.noOL_get hx h1) (SV.noOL_get hx2 h1)
 | tu cells vs hl _ ih => exact .tu cells vs hl fun i x y h1 h2 => ih i x y h1 h2 (SV.noOL_get hx h1) (SV.noOL_get hx2 h1)
 | ifc t x u _ ih => exact .ifc t x u (ih hx hx2)
 | fv fn first caps fs cs hf hc _ _ ih1 ih2 =>
  have g1 : SV.noOL k first = true ∧ SV.noOL k caps = true := by simpa only [SV.noO, Bool.and_eq_true] using hx
  have g2 : SV.noOL m first = true ∧ SV.noOL m caps = true := by simpa only [SV.noO, Bool.and_eq_true] using hx2
  exact .fv fn first caps fs cs hf hc (fun i x y h1 h2 => ih1 i x y h1 h2 (SV.noOL_get g1.1 h1) (SV.noOL_get g2.1 h1)) (fun i x y h1 h2 => ih2 i x y h1 h2 (SV.noOL_get g1.2 h1) (SV.noOL_get g2.2 h1))

theorem allNo {k : Nat} {l : List Ob} (h : AllNo k k l) : l.all (Ob.noO k) = true := List.all_eq_true.2 fun ob hm => by
 obtain ⟨i, hi⟩ := List.getElem?_of_mem hm
 have := h.get hi
 simp only [Ob.noO2, Bool.and_self] at this
 exact this
/-- What leads to the last object leads to number k instead. -/
def SV.sunk (m k : Nat) : SV → Option SV
 | .ptr o off => if o = m then some (.ptr k off) else none
 | .sl o sz off len cap => if o = m then some (.sl k sz off len cap) else none
 | .own o => if o = m then some (.own k) else none
 | _ => none
theorem RepS.sunk {w w' : World} {ok ok' : Nat → Prop} {Ω Ω' : List Value} {k m : Nat} (hΩ : ∀ v, Ω[m]? = some v → Ω'[k]? = some v) {x y : SV} {v : Value} (hx : x.sunk m k = some y) (hr : RepS w ok Ω x v) : RepS w' ok' Ω' y v := by
 cases hr with
 | ptr o off b ho => simp only [SV.sunk] at hx; split at hx <;> cases hx; subst_vars; exact .ptr _ _ _ (hΩ _ ho)
 | ptrG o off b len cap ho => simp only [SV.sunk] at hx; split at hx <;> cases hx; subst_vars; exact .ptrG _ _ _ _ _ (hΩ _ ho)
 | sl o sz off len cap b ho => simp only [SV.sunk] at hx; split at hx <;> cases hx; subst_vars; exact .sl _ _ _ _ _ _ (hΩ _ ho)
 | own o v ho h1 => simp only [SV.sunk] at hx; split at hx <;> cases hx; subst_vars; exact .own _ _ (hΩ _ ho) h1
 | _ => cases hx

theorem Rel.sink {C : Ctx} {e : List (Nat × SV)} {obs : List Ob} {new : Ob} {Ω : List Value} {a : Act} {w : World} {d k m : Nat} {x y : SV} (h : Rel C ⟨(d, x) :: e, obs ++ [new]⟩ Ω a w) (hm : obs.length = m) (hk : obs[k]? = some .dead) (hx : x.sunk m k = some y)
  (hno : AllNo k m obs) (hnew : new.noO2 k m = true) : ∃ Ω', Rel C ⟨(d, y) :: dropS (SV.noO2 k m) [] e, obs.set k new⟩ Ω' a w := by
 obtain ⟨hdf, hsz, henv, hmem⟩ := h
 have hlen : Ω.length = m + 1 := by have := hmem.len; simp at this; omega
 have hkm : k < m := by have := (List.getElem?_eq_some_iff.1 hk).1; omega
 obtain ⟨v0, hv0⟩ : ∃ v, Ω[m]? = some v := ⟨_, List.getElem?_eq_getElem (by omega)⟩
 have hold : ∀ o v, o ≠ k → o ≠ m → Ω[o]? = some v → ((Ω.take m).set k v0)[o]? = some v := fun o v h1 h2 h3 => by
  have : o < m := by have := (List.getElem?_eq_some_iff.1 h3).1; omega
  rw [List.getElem?_set_ne (Ne.symm h1), List.getElem?_take, if_pos this]; exact h3
 have hkk : ((Ω.take m).set k v0)[k]? = some v0 := by rw [List.getElem?_set_self (by simp; omega)]
 -- whence an entry comes
 have hfrom : ∀ {i : Nat} {ob : Ob}, (obs.set k new)[i]? = some ob → (i = k ∧ ob = new) ∨ (i ≠ k ∧ i < m ∧ obs[i]? = some ob) := fun {i ob} e => by
  rcases get_set e with ⟨h1, h2, _⟩ | ⟨h1, h2⟩
  ·exact .inl ⟨h1, h2⟩
  ·exact .inr ⟨h1, by have := (List.getElem?_eq_some_iff.1 h2).1; omega, h2⟩
 have hval : ∀ {i : Nat} {v : Value}, ((Ω.take m).set k v0)[i]? = some v → (i = k ∧ v = v0) ∨ (i ≠ k ∧ Ω[i]? = some v) := fun {i v} e => by
  rcases get_set e with ⟨h1, h2, _⟩ | ⟨h1, h2⟩
  ·exact .inl ⟨h1, h2⟩
  ·rw [List.getElem?_take] at h2
   split at h2
   ·exact .inr ⟨h1, h2⟩
   ·cases h2
 have hnewat : (obs ++ [new])[m]? = some new := by rw [← hm]; simp
 have hat : ∀ {i : Nat} {ob : Ob} {v : Value}, (obs.set k new)[i]? = some ob → ((Ω.take m).set k v0)[i]? = some v → ∃ i', (obs ++ [new])[i']? = some ob ∧ Ω[i']? = some v ∧ (i' = if i = k then m else i) := fun {i ob v} e1 e2 => by
  rcases hfrom e1 with ⟨h1, h2⟩ | ⟨h1, h2, h3⟩
  ·rcases hval e2 with ⟨_, h4⟩ | ⟨h4, _⟩
   ·subst h2 h4; exact ⟨m, hnewat, hv0, by simp [h1]⟩
   ·exact absurd h1 h4
  ·rcases hval e2 with ⟨h4, _⟩ | ⟨_, h4⟩
   ·exact absurd h4 h1
   ·exact ⟨i, get_left h3, h4, by simp [h1]⟩
 have hok : ∀ b, okB C (obs ++ [new]) Ω w b → okB C (obs.set k new) ((Ω.take m).set k v0) w b ∧ w.heap[b]? = w.heap[b]? := fun b hb => ⟨⟨hb.1, hb.2.1, fun i ob v e1 hl e2 => by
  obtain ⟨i', e1', e2', _⟩ := hat e1 e2
  exact hb.2.2 i' ob v e1' hl e2'⟩, rfl⟩
 refine ⟨(Ω.take m).set k v0, hdf, hsz, fun t z hz => ?_, ?_⟩
 ·simp only [Vm.get] at hz
  split at hz
  ·rename_i ht; cases hz
   obtain ⟨v, hv, hr⟩ := henv t x (by simp [Vm.get, ht])
   exact ⟨v, hv, hr.sunk (fun v hv => by rw [hv0] at hv; cases hv; exact hkk) hx⟩
  ·rename_i ht
   rw [get_dropS] at hz
   simp only [List.not_mem_nil, if_false] at hz
   obtain ⟨h1, h2⟩ := drE_some hz
   obtain ⟨v, hv, hr⟩ := henv t z (by simp only [Vm.get, if_neg ht]; exact h1)
   exact ⟨v, hv, hr.moved hok hold h2⟩
 ·refine ⟨by simp [hlen]; omega, fun i ob v e1 e2 => ?_, fun i j a b v u y hij e1 e2 l1 l2 e3 e4 => ?_, fun i ob v b e1 l e2 hb => ?_, hmem.fr⟩
  ·have hnob : ob.noO2 k m = true := by
    rcases hfrom e1 with ⟨_, h2⟩ | ⟨_, _, h3⟩
    ·rw [h2]; exact hnew
    ·exact hno.get h3
   obtain ⟨i', e1', e2', _⟩ := hat e1 e2
   have H := hmem.obj i' ob v e1' e2'
   cases ob with
   | dead => trivial
   | frame vs env =>
    simp only [Ob.noO2, Ob.noO, Bool.and_eq_true] at hnob
    exact ⟨H.1, fun t x hx => let ⟨v, hv, hr⟩ := H.2 t x hx; ⟨v, hv, hr.moved hok hold (by
     simp only [SV.noO2, Bool.and_eq_true]
     exact ⟨List.all_eq_true.1 hnob.1 (t, x) (get_mem hx), List.all_eq_true.1 hnob.2 (t, x) (get_mem hx)⟩)⟩⟩
   | grow ty sz cells =>
    obtain ⟨n, xs, ho, hl, hr⟩ := H
    exact ⟨n, xs, ho, hl, fun i x y hx hy => (hr i x y hx hy).mono hok⟩
   | fix ty cells =>
    obtain ⟨b, vs, rfl, hw, hl, hr, h1⟩ := H
    simp only [Ob.noO2, Ob.noO, Bool.and_eq_true] at hnob
    exact ⟨b, vs, rfl, hw, hl, fun i x y hx hy => (hr i x y hx hy).moved hok hold (by
     simp only [SV.noO2, Bool.and_eq_true]
     exact ⟨List.all_eq_true.1 hnob.1 x (List.mem_of_getElem? hx), List.all_eq_true.1 hnob.2 x (List.mem_of_getElem? hx)⟩), h1⟩
  ·obtain ⟨i', e1', e3', hi'⟩ := hat e1 e3
   obtain ⟨j', e2', e4', hj'⟩ := hat e2 e4
   have : i' ≠ j' := by
    intro he
    have hi := (List.getElem?_eq_some_iff.1 e1).1
    have hj := (List.getElem?_eq_some_iff.1 e2).1
    simp at hi hj
    by_cases h1 : i = k <;> by_cases h2 : j = k
    ·exact hij (h1.trans h2.symm)
    ·rw [if_pos h1] at hi'; rw [if_neg h2] at hj'; omega
    ·rw [if_neg h1] at hi'; rw [if_pos h2] at hj'; omega
    ·rw [if_neg h1] at hi'; rw [if_neg h2] at hj'; omega
   exact hmem.sep i' j' a b v u y this e1' e2' l1 l2 e3' e4'
  ·obtain ⟨i', e1', e2', _⟩ := hat e1 e2
   exact hmem.new i' ob v b e1' l e2' hb

section
variable {C : Ctx} {Q : Exit → St → Prop} {ops : Array Oper} {e : List (Nat × SV)} {obs : List Ob} {d : Nat}
theorem AO.sink {l : List Oper} {new : Ob} (k m : Nat) {x y : SV} (hm : obs.length = m) (hk : obs[k]? = some .dead) (hx : x.sunk m k = some y) (hno : AllNo k m obs) (hnew : new.noO2 k m = true)
  (h : AO C ops l ⟨(d, y) :: dropS (SV.noO2 k m) [] e, obs.set k new⟩ Q) : AO C ops l ⟨(d, x) :: e, obs ++ [new]⟩ Q := fun Ω a w hr => by
 obtain ⟨Ω', hr'⟩ := hr.sink hm hk hx hno hnew
 exact h Ω' a w hr'
theorem AO.objs {l : List Oper} {obs' : List Ob} (ho : obs' = obs) (h : AO C ops l ⟨e, obs'⟩ Q) : AO C ops l ⟨e, obs⟩ Q := ho ▸ h
theorem Rel.room {s : St} {Ω : List Value} {a : Act} {w : World} (h : Rel C s Ω a w) : Rel C ⟨s.env, s.obs ++ [.dead]⟩ (Ω ++ [undef]) a w := by
 have hok : ∀ b, okB C s.obs Ω w b → okB C (s.obs ++ [.dead]) (Ω ++ [undef]) w b ∧ w.heap[b]? = w.heap[b]? := fun b hb => ⟨⟨hb.1, hb.2.1, fun i ob v e1 hl e2 => by
  rcases list_get_append e1 with e1 | ⟨_, rfl⟩
  ·rcases list_get_append e2 with e2 | ⟨h1, _⟩
   ·exact hb.2.2 i ob v e1 hl e2
   ·have := (List.getElem?_eq_some_iff.1 e1).1; have := h.mem.len; omega
  ·cases hl⟩, rfl⟩
 have hΩ : ∀ (o : Nat) v, Ω[o]? = some v → (Ω ++ [undef])[o]? = some v := fun o v e => get_left e
 have hval : ∀ {i : Nat} {ob : Ob} {v : Value}, (s.obs ++ [.dead])[i]? = some ob → ob.live = true → (Ω ++ [undef])[i]? = some v → s.obs[i]? = some ob ∧ Ω[i]? = some v := fun {i ob v} e1 hl e2 => by
  rcases list_get_append e1 with e1 | ⟨_, rfl⟩
  ·rcases list_get_append e2 with e2 | ⟨h1, _⟩
   ·exact ⟨e1, e2⟩
   ·have := (List.getElem?_eq_some_iff.1 e1).1; have := h.mem.len; omega
  ·cases hl
 refine ⟨h.defers, h.size, fun t x hx => let ⟨v, h1, h2⟩ := h.env t x hx; ⟨v, h1, h2.mono hok hΩ⟩, by simp [h.mem.len], fun i ob v e1 e2 => ?_, fun i j a b v u y hij e1 e2 l1 l2 e3 e4 => ?_, fun i ob v b e1 l e2 hb => ?_, h.mem.fr⟩
 ·cases hl : ob.live with
  | false => cases ob <;> first | trivial | cases hl
  | true =>
   obtain ⟨e1', e2'⟩ := hval e1 hl e2
   exact (h.mem.obj i ob v e1' e2').mono hok hΩ fun b _ _ => rfl
 ·obtain ⟨q1, q2⟩ := hval e1 l1 e3
  obtain ⟨q3, q4⟩ := hval e2 l2 e4
  exact h.mem.sep i j a b v u y hij q1 q3 l1 l2 q2 q4
 ·obtain ⟨q1, q2⟩ := hval e1 l e2
  exact h.mem.new i ob v b q1 l q2 hb
theorem AC.room {c : Code} {s : St} (h : AC C c ⟨s.env, s.obs ++ [.dead]⟩ Q) : AC C c s Q := fun Ω a w hr => h _ a w hr.room
end
end Go.Vm

/- Functions that are gone through where they are called: their caller waits, its slots kept among the objects. -/
namespace Go.Vm
set_option linter.unusedVariables false

def enumS : Nat → List SV → List (Nat × SV)
 | _, [] => []
 | i, x :: r => (i, x) :: enumS (i + 1) r
theorem enumS_get (l : List SV) : ∀ (i t : Nat) (x : SV), get (enumS i l) t = some x → i ≤ t ∧ l[t - i]? = some x := by
 induction l with
 | nil => intro i t x h; cases h
 | cons y l ih =>
  intro i t x h
  simp only [enumS, get] at h
  split at h
  ·rename_i e; subst e; cases h; exact ⟨Nat.le_refl _, by simp⟩
  ·rename_i hne
   obtain ⟨hle, hl⟩ := ih (i + 1) t x h
   refine ⟨by omega, ?_⟩
   have : t - i = (t - (i + 1)) + 1 := by omega
   rw [this]; simpa using hl

def resS (P : Program) (s : St) (rs : List ResultVar) : Option SV :=
 match mapO (resV P s) rs with
 | some [y] => some y
 | some ys => some (.tu ys)
 | none => none

theorem resS_rep {C : Ctx} {s : St} {Ω : List Value} {a : Act} {w : World} (hr : Rel C s Ω a w) {fn : Func} {y : SV} (h : resS C.P s fn.results.toList = some y) :
  ∃ v, (results fn a.tmps).run C.P w = .ok v w ∧ RepS w (okB C s.obs Ω w) Ω y v := by
 have key : ∀ (l : List ResultVar) (ys : List SV), mapO (resV C.P s) l = some ys →
   ∃ vs : List Value, (l.mapM (resSem a.tmps)).run C.P w = .ok vs w ∧ vs.length = ys.length ∧
    ∀ (i : Nat) p q, ys[i]? = some p → vs[i]? = some q → RepS w (okB C s.obs Ω w) Ω p q := by
  intro l
  induction l with
  | nil => intro ys h; cases h; exact ⟨[], rfl, rfl, fun i p q hp => by simp at hp⟩
  | cons r l ih =>
   intro ys h
   simp only [mapO] at h
   split at h
   ·rename_i y hy
    split at h
    ·rename_i t ht
     cases h
     obtain ⟨vs, hrun, hl, hrr⟩ := ih t ht
     obtain ⟨v, hv, hrep⟩ := resV_rep hr hy
     refine ⟨v :: vs, ?_, by simp [hl], fun i p q hp hq => ?_⟩
     ·simp [List.mapM_cons, hv, hrun]
     ·cases i with
      | zero => simp at hp hq; subst hp; subst hq; exact hrep
      | succ i => simp at hp hq; exact hrr i p q hp hq
    ·cases h
   ·cases h
 unfold resS at h
 split at h
 ·rename_i y' hys
  cases h
  obtain ⟨vs, hrun, hl, hrr⟩ := key _ _ hys
  match vs, hl with
  | [v], _ =>
   refine ⟨v, ?_, hrr 0 _ _ rfl rfl⟩
   rw [results_eq]
   rw [← Array.toArray_toList (xs := fn.results), List.mapM_toArray]
   simp [hrun]
 ·rename_i ys hne hys
  cases h
  obtain ⟨vs, hrun, hl, hrr⟩ := key _ _ hys
  refine ⟨.tuple vs.toArray, ?_, .tu ys vs hl hrr⟩
  have h1 : ¬ vs.length = 1 := fun e => by
   rw [hl] at e
   match ys, e with
   | [y], _ => exact hne y rfl
  rw [results_eq]
  rw [← Array.toArray_toList (xs := fn.results), List.mapM_toArray]
  simp [hrun, h1]
 ·cases h

/-- The same, with slots of another function. -/
abbrev Ctx.sub (C : Ctx) (n : Nat) : Ctx := ⟨C.P, C.W, C.ok, C.may, n, []⟩
theorem Mem.ctx {C : Ctx} {n : Nat} {obs : List Ob} {Ω : List Value} {w : World} (h : Mem C obs Ω w) : Mem (C.sub n) obs Ω w :=
 ⟨h.len, h.obj, h.sep, h.new, ⟨h.fr.os, h.fr.tape, h.fr.output, h.fr.size, h.fr.block, h.fr.glob, h.fr.gmay⟩⟩
theorem Mem.ctx' {C : Ctx} {n : Nat} {obs : List Ob} {Ω : List Value} {w : World} (h : Mem (C.sub n) obs Ω w) : Mem C obs Ω w :=
 ⟨h.len, h.obj, h.sep, h.new, ⟨h.fr.os, h.fr.tape, h.fr.output, h.fr.size, h.fr.block, h.fr.glob, h.fr.gmay⟩⟩

/-- Slots are laid among the objects. -/
theorem Mem.frame {C : Ctx} {obs : List Ob} {Ω : List Value} {w : World} (h : Mem C obs Ω w) (vs : Array Value) (env : List (Nat × SV)) (he : ∀ t x, get env t = some x → ∃ v, vs[t]? = some v ∧ RepS w (okB C obs Ω w) Ω x v) :
  Mem C (obs ++ [.frame vs env]) (Ω ++ [undef]) w ∧ ∀ b, okB C obs Ω w b → okB C (obs ++ [.frame vs env]) (Ω ++ [undef]) w b := by
 have hb0 : blk undef = none := rfl
 have hΩ : ∀ (o : Nat) v, Ω[o]? = some v → (Ω ++ [undef])[o]? = some v := fun o v e => get_left e
 -- an object, or the new one
 have hval : ∀ {i : Nat} {ob : Ob} {v : Value}, (obs ++ [Ob.frame vs env])[i]? = some ob → (Ω ++ [undef])[i]? = some v → (obs[i]? = some ob ∧ Ω[i]? = some v) ∨ (ob = .frame vs env ∧ v = undef) := fun {i ob v} e1 e2 => by
  rcases list_get_append e1 with e1 | ⟨h1, rfl⟩
  ·rcases list_get_append e2 with e2 | ⟨h2, _⟩
   ·exact .inl ⟨e1, e2⟩
   ·have := (List.getElem?_eq_some_iff.1 e1).1; have := h.len; omega
  ·rcases list_get_append e2 with e2 | ⟨h2, rfl⟩
   ·have := (List.getElem?_eq_some_iff.1 e2).1; have := h.len; omega
   ·exact .inr ⟨rfl, rfl⟩
 have hok : ∀ b, okB C obs Ω w b → okB C (obs ++ [.frame vs env]) (Ω ++ [undef]) w b := fun b hb => ⟨hb.1, hb.2.1, fun i ob v e1 hl e2 => by
  rcases hval e1 e2 with ⟨q1, q2⟩ | ⟨rfl, rfl⟩
  ·exact hb.2.2 i ob v q1 hl q2
  ·rw [hb0]; intro e; cases e⟩
 refine ⟨⟨by simp [h.len], fun i ob v e1 e2 => ?_, fun i j a b v u y hij e1 e2 l1 l2 e3 e4 hp => ?_, fun i ob v b e1 l e2 hb => ?_, h.fr⟩, hok⟩
 ·rcases hval e1 e2 with ⟨q1, q2⟩ | ⟨rfl, rfl⟩
  ·exact (h.obj i ob v q1 q2).mono (fun b hb => ⟨hok b hb, rfl⟩) hΩ fun b _ _ => rfl
  ·exact ⟨hb0, fun t x hx => let ⟨v, hv, hr⟩ := he t x hx; ⟨v, hv, hr.mono (fun b hb => ⟨hok b hb, rfl⟩) hΩ⟩⟩
 ·rcases hval e1 e3 with ⟨q1, q2⟩ | ⟨rfl, rfl⟩
  ·rcases hval e2 e4 with ⟨q3, q4⟩ | ⟨rfl, rfl⟩
   ·exact h.sep i j a b v u y hij q1 q3 l1 l2 q2 q4 hp
   ·rw [hb0]; intro e; cases e
  ·rw [hb0] at hp; cases hp
 ·rcases hval e1 e2 with ⟨q1, q2⟩ | ⟨rfl, rfl⟩
  ·exact h.new i ob v b q1 l q2 hb
  ·rw [hb0] at hb; cases hb

def putO (dst : Option Nat) (r : SV) (e : List (Nat × SV)) : List (Nat × SV) := match dst with
 | some d => (d, r) :: e
 | none => e
/-- What comes behind a function's end. -/
def InlQ (C : Ctx) (ops : Array Oper) (rest : List Oper) (dst : Option Nat) (rs : List ResultVar) (k : Nat) (vs : Array Value) (Q : Exit → St → Prop) : Exit → St → Prop
 | .normal, s | .ret, s => ∃ r e', resS C.P s rs = some r ∧ s.obs[k]? = some (.frame vs e') ∧ AO C ops rest ⟨putO dst r e', s.obs.set k .dead⟩ Q
 | _, _ => False

section
variable {C : Ctx} {Q : Exit → St → Prop} {ops : Array Oper} {rest : List Oper} {o : Oper} {e : List (Nat × SV)} {obs : List Ob} {d : Nat}
theorem inlret {rs : List ResultVar} {k : Nat} {vs : Array Value} {s : St} {dst : Option Nat} {r : SV} {e' : List (Nat × SV)} {ob' : List Ob} (h1 : resS C.P s rs = some r) (h2 : s.obs[k]? = some (.frame vs e')) (h4 : s.obs.set k .dead = ob')
  (h3 : AO C ops rest ⟨putO dst r e', ob'⟩ Q) : InlQ C ops rest dst rs k vs Q .ret s := ⟨r, e', h1, h2, h4 ▸ h3⟩
theorem inlend {rs : List ResultVar} {k : Nat} {vs : Array Value} {s : St} {dst : Option Nat} {r : SV} {e' : List (Nat × SV)} {ob' : List Ob} (h1 : resS C.P s rs = some r) (h2 : s.obs[k]? = some (.frame vs e')) (h4 : s.obs.set k .dead = ob')
  (h3 : AO C ops rest ⟨putO dst r e', ob'⟩ Q) : InlQ C ops rest dst rs k vs Q .normal s := ⟨r, e', h1, h2, h4 ▸ h3⟩

/-- A call into a function's body; ks: the caller's slots that are kept. -/
theorem AOp.inl {f : FuncId} {fn : Func} {c : Code} {xs : List Operand} {ts : Array TypeId} {ys : List SV} {n : Nat} {rs : List ResultVar} {e1 : List (Nat × SV)} (ks : List Nat) (he : enters C.P f = true) (hf : C.P.funcs[f]? = some fn) (hb : fn.body = some c) (hnt : fn.ntmps = n) (hrs : fn.results = rs.toArray)
  (ho : o.op = .call { callee := .value (.func f), args := xs.toArray, argTypes := ts }) (hdn : match o.dst with | some d => d < C.n | none => True) (hx : mapO (opS ⟨e, obs⟩) xs = some ys) (hl : ys.length ≤ n) (hk : Vm.keep ks e = some e1)
  (h : ∀ vs, AC (C.sub n) c ⟨enumS 0 ys, obs ++ [.frame vs e1]⟩ (InlQ C ops rest o.dst rs obs.length vs Q)) : AOp C ops rest o ⟨e, obs⟩ Q := fun Ω a w hr => by
 obtain ⟨hlen, hi⟩ := mapO_get hx
 subst hnt
 have hrl : fn.results.toList = rs := by rw [hrs]
 unfold Oper.wp
 rw [run_call he ho, Oper.upon_enter, List.map_toArray]
 obtain ⟨hm, hok⟩ := hr.mem.frame a.tmps e1 (fun t x hx => hr.env t x (keep_get hk hx))
 refine (calls_of_wp hf hb (R := fun ed w' => ∃ (v : Value) (s : St) (Ω' : List Value), ed = .returned v ∧ Mem C s.obs Ω' w' ∧ ∃ r e', RepS w' (okB C s.obs Ω' w') Ω' r v ∧ s.obs[obs.length]? = some (.frame a.tmps e') ∧ AO C ops rest ⟨putO o.dst r e', s.obs.set obs.length .dead⟩ Q) ?_).mono fun ed w' ⟨v, s, Ω', hed, hm', r, e', hrep, hfr, hao⟩ => ?_
 ·have hrel : Rel (C.sub fn.ntmps) ⟨enumS 0 ys, obs ++ [.frame a.tmps e1]⟩ (Ω ++ [undef]) { tmps := (xs.map a.eval).toArray ++ Array.replicate (fn.ntmps - (xs.map a.eval).toArray.size) undef, defers := [] } w := by
   refine ⟨rfl, by simp; omega, fun t x hx => ?_, hm.ctx⟩
   obtain ⟨_, hy⟩ := enumS_get ys 0 t x hx
   rw [Nat.sub_zero] at hy
   have hlt := (List.getElem?_eq_some_iff.1 hy).1
   have hxt : xs[t]? = some xs[t] := List.getElem?_eq_getElem (by omega)
   refine ⟨a.eval xs[t], ?_, ?_⟩
   ·rw [Array.getElem?_append_left (by simp; omega)]
    simp [hxt]
   ·exact (hr.eval (hi t _ _ hxt hy)).mono (fun b hb => ⟨hok b hb, rfl⟩) (fun o v e => get_left e)
  refine wp_mono (h a.tmps _ _ w hrel) fun ed a' w' ⟨s, Ω', hr', hq⟩ => ?_
  have fin : (∃ r e', resS C.P s rs = some r ∧ s.obs[obs.length]? = some (.frame a.tmps e') ∧ AO C ops rest ⟨putO o.dst r e', s.obs.set obs.length .dead⟩ Q) →
    a'.defers = [] ∧ ∃ v, (results fn a'.tmps).run C.P w' = .ok v w' ∧ ∃ (v_1 : Value) (s : St) (Ω' : List Value), Ending.returned v = Ending.returned v_1 ∧ Mem C s.obs Ω' w' ∧ ∃ r e', RepS w' (okB C s.obs Ω' w') Ω' r v_1 ∧ s.obs[obs.length]? = some (.frame a.tmps e') ∧ AO C ops rest ⟨putO o.dst r e', s.obs.set obs.length .dead⟩ Q := by
   intro ⟨r, e', hres, hfr, hao⟩
   rw [← hrl] at hres
   obtain ⟨v, hv, hrep⟩ := resS_rep hr' hres
   exact ⟨hr'.defers, v, hv, v, s, Ω', rfl, hr'.mem.ctx', r, e', hrep, hfr, hao⟩
  cases ed with
  | normal => exact fin hq
  | ret => exact fin hq
  | _ => exact hq.elim
 ·subst hed
  obtain ⟨hmk, hokk⟩ := hm'.kill obs.length
  have hfrob : ∃ h, Ω'[obs.length]? = some h := ⟨_, List.getElem?_eq_getElem (by have := (List.getElem?_eq_some_iff.1 hfr).1; have := hm'.len; omega)⟩
  obtain ⟨hh, hΩh⟩ := hfrob
  have hF := hm'.obj _ _ _ hfr hΩh
  have hbase : Rel C ⟨e', s.obs.set obs.length .dead⟩ Ω' a w' :=
   ⟨hr.defers, hr.size, fun t x hx => let ⟨v, hv, hrp⟩ := hF.2 t x hx; ⟨v, hv, hrp.mono (fun b hb => ⟨hokk b hb, rfl⟩) (fun _ _ e => e)⟩, hmk⟩
  cases hd : o.dst with
  | none =>
   rw [hd] at hao
   exact hao Ω' _ w' hbase
  | some d =>
   rw [hd] at hao hdn
   exact hao Ω' _ w' (hbase.put hdn (hrep.mono (fun b hb => ⟨hokk b hb, rfl⟩) (fun _ _ e => e)))

end
end Go.Vm

/- Values of interfaces: they are made, told apart, and their methods called. -/
namespace Go.Vm
set_option linter.unusedVariables false

/-- Type t is no interface. -/
def concT (P : Program) (t : TypeId) : Bool := match P.underlying t with
 | some (.interface _) => false
 | some _ => true
 | none => false
theorem run_makeIfc {P : Program} {t : TypeId} (h : concT P t = true) (x : Value) (w : World) : (Instr.makeInterface t x).run P w = .ok (.iface t x) w := by
 unfold concT at h
 split at h
 ·cases h
 ·rename_i d hd hne
  unfold Instr.makeInterface
  rw [Sem.run_bind, run_underlying hne, Result.andThen_ok]
  split
  ·rename_i q; exact (hd q rfl).elim
  ·rfl
 ·cases h

/-- Does a value of the dynamic type t pass as one of type u? -/
def passT (P : Program) (t u : TypeId) : Option Bool := match P.underlying u with
 | some (.interface want) => match P.info? t with
  | some i => some (Instr.missingMethod want i.methods).isNone
  | none => none
 | some _ => some (t == u)
 | none => none
/-- What an interface's slot holds. -/
def ifcS : SV → Option (TypeId × SV)
 | .ifc t x => some (t, x)
 | .d (.ifc t x) => some (t, .d x)
 | _ => none
theorem RepS.ifcV {w : World} {ok : Nat → Prop} {Ω : List Value} {s x : SV} {t : TypeId} {v : Value} (h : RepS w ok Ω s v) (hs : ifcS s = some (t, x)) : ∃ u, v = .iface t u ∧ RepS w ok Ω x u := by
 cases h with
 | ifc t' y u hy => cases hs; exact ⟨u, rfl, hy⟩
 | d y u hd =>
  cases hd with
  | ifc t' y' u' h' => cases hs; exact ⟨u', rfl, .d _ _ h'⟩
  | _ => cases hs
 | _ => cases hs

/-! ### methods -/
theorem fieldOff_spec {P : Program} {t i k : Nat} (h : fieldOff P t i = some k) : ∃ (fs : Array Field) (f : Field) (j : TypeInfo), P.underlying t = some (.struct fs) ∧ fs[i]? = some f ∧ P.info? f.type = some j ∧ ¬ j.size = 0 ∧ f.offset = k := by
 unfold fieldOff at h
 split at h
 ·rename_i fs hu
  split at h
  ·rename_i f hf
   split at h
   ·rename_i j hj
    split at h
    ·cases h
    ·rename_i hs; cases h; exact ⟨fs, f, j, hu, hf, hj, hs, rfl⟩
   ·cases h
  ·cases h
 ·cases h
def fieldTy (P : Program) (t : TypeId) (i : Nat) : Option TypeId := match P.underlying t with
 | some (.struct fs) => (fs[i]?).map (·.type)
 | _ => none
/-- The place of an embedded part, behind a pointer: its type and its distance. -/
def stepsT (P : Program) : List FieldStep → TypeId → Nat → Option (TypeId × Nat)
 | [], t, k => some (t, k)
 | s :: r, _, k => if s.deref then none else match fieldOff P s.struct s.index, fieldTy P s.struct s.index with
  | some j, some u => stepsT P r u (k + j)
  | _, _ => none
theorem run_steps {P : Program} : ∀ (l : List FieldStep) (t : TypeId) (k : Nat) {u : TypeId} {j : Nat} (b off : Nat) (w : World), stepsT P l t k = some (u, j) →
  (follow l t (.var ⟨b, off + k, none⟩)).run P w = .ok (u, .var ⟨b, off + j, none⟩) w
 | [], t, k, u, j, b, off, w, h => by cases h; rfl
 | s :: r, t, k, u, j, b, off, w, h => by
  simp only [stepsT] at h
  split at h
  ·cases h
  ·rename_i hd
   split at h
   ·rename_i j' u' h1 h2
    obtain ⟨fs, f, i, hu, hf, hi, hs, ho⟩ := fieldOff_spec h1
    have hty : u' = f.type := by
     unfold fieldTy at h2
     rw [hu] at h2
     simp only [hf, Option.map_some] at h2
     exact (Option.some.inj h2).symm
    subst hty
    have ih := run_steps r f.type (k + j') b off w h
    have e : off + k + f.offset = off + (k + j') := by omega
    unfold follow
    simp only [Sem.run_bind, run_underlying hu, Result.andThen_ok, hf, hd, Bool.false_eq_true, if_false, fieldPlace, sizeOf, typeInfo, run_program, hi, Sem.run_pure, hs, Addr.add_of, e]
    exact ih
   ·cases h
/-- The function that a method's name leads to, and how the receiver is found: itself, or so far behind the pointer. -/
def methT (P : Program) (t : TypeId) (name : String) : Option (FuncId × Option Nat) :=
 if P.types.size + Made.depth = 0 then none else
 match P.info? t with
 | some i => match i.methods.find? (·.name == name) with
  | some m => match m.func with
   | some (f, pr) => match m.path.toList with
    | [] => match P.underlying t with
     | some (.pointer _) => if pr then some (f, none) else none
     | some _ => if pr then none else some (f, none)
     | none => none
    | s :: r => if s.deref && pr then match fieldOff P s.struct s.index, fieldTy P s.struct s.index with
      | some k, some u => match stepsT P r u k with
       | some (u2, j) => match P.underlying u2 with
        | some (.pointer _) => none
        | some _ => some (f, some j)
        | none => none
       | none => none
      | _, _ => none
     else none
   | none => none
  | none => none
 | none => none
/-- The receiver. -/
def recvS (sv : SV) : Option Nat → Option SV
 | none => some sv
 | some k => match sv with
  | .ptr o off => some (.ptr o (off + k))
  | .d (.pt cells) => some (.ep cells k)
  | .ep cells i => some (.ep cells (i + k))
  | _ => none
theorem run_method {P : Program} {t : TypeId} {name : String} {f : FuncId} {how : Option Nat} (h : methT P t name = some (f, how)) {w : World} {ok : Nat → Prop} {Ω : List Value} {sv rv : SV} {v : Value} (hv : RepS w ok Ω sv v) (hr : recvS sv how = some rv) (w' : World) :
  ∃ u, (method (P.types.size + Made.depth) t v name).run P w' = .ok (f, u) w' ∧ RepS w ok Ω rv u := by
 unfold methT at h
 split at h
 ·cases h
 ·rename_i hfuel
  obtain ⟨n, hn⟩ : ∃ n, P.types.size + Made.depth = n + 1 := ⟨P.types.size + Made.depth - 1, by omega⟩
  rw [hn]
  split at h
  ·rename_i i hi
   split at h
   ·rename_i m hm
    split at h
    ·rename_i f' pr hfn
     split at h
     ·rename_i hpath
      -- the value itself
      have key : ∀ d, P.underlying t = some d → (∀ q, d = .pointer q → pr = true) → ((∀ q, d ≠ .pointer q) → pr = false) → f' = f → how = none → ∃ u, (method (n + 1) t v name).run P w' = .ok (f, u) w' ∧ RepS w ok Ω rv u := by
       intro d hd hp hnp hf hh
       subst hf hh
       cases hr
       refine ⟨v, ?_, hv⟩
       unfold method
       simp only [Sem.run_bind, typeInfo, run_program, hi, Result.andThen_ok, Sem.run_pure, hm, hpath, follow, hfn, receiverAt, run_underlying hd]
       cases d with
       | pointer q => rw [hp q rfl]; rfl
       | _ => rw [hnp (fun q e => by cases e)]; rfl
      split at h
      ·rename_i q hd
       split at h
       ·rename_i hpr; cases h
        exact key _ hd (fun _ _ => hpr) (fun hc => absurd rfl (hc q)) rfl rfl
       ·cases h
      ·rename_i d hne hd
       split at h
       ·cases h
       ·rename_i hpr; cases h
        exact key _ hd (fun q e => (hne q e).elim) (fun _ => by simpa using hpr) rfl rfl
      ·cases h
     ·rename_i s r hpath
      split at h
      ·rename_i hsd
       rw [Bool.and_eq_true] at hsd
       obtain ⟨hder, hpr⟩ := hsd
       split at h
       ·rename_i k u1 h1 h2
        split at h
        ·rename_i u2 j hst
         obtain ⟨fs, fl, i1, hu, hf, hi1, hs, ho⟩ := fieldOff_spec h1
         have hty : u1 = fl.type := by
          unfold fieldTy at h2
          rw [hu] at h2
          simp only [hf, Option.map_some] at h2
          exact (Option.some.inj h2).symm
         subst hty
         -- the address
         have haddr : f' = f ∧ how = some j ∧ (∃ d, P.underlying u2 = some d ∧ ∀ q, d ≠ .pointer q) := by
          split at h
          ·cases h
          ·rename_i d hne hd; cases h; exact ⟨rfl, rfl, _, hd, fun q e => hne q e⟩
          ·cases h
         obtain ⟨rfl, rfl, d, hd, hdn⟩ := haddr
         have fin : ∀ b off, v = .pointer (some ⟨b, off, none⟩) → (method (n + 1) t v name).run P w' = .ok (f', .pointer (some ⟨b, off + j, none⟩)) w' := by
          intro b off hvv
          subst hvv
          have hrun := run_steps r fl.type k b off w' hst
          have e : off + fl.offset = off + k := by omega
          unfold method
          simp only [Sem.run_bind, typeInfo, run_program, hi, Result.andThen_ok, Sem.run_pure, hm, hpath, follow, run_underlying hu, hf, hder, if_true, Place.get, asAddr, fieldPlace, sizeOf, hi1, hs, if_false, Addr.add_of, e, hrun, hfn, receiverAt, run_underlying hd, hpr]
          all_goals (cases d <;> first | rfl | exact absurd rfl (hdn _))
         cases hv with
         | ptr o off b hb => cases hr; exact ⟨_, fin b off rfl, .ptr o _ b hb⟩
         | ptrG o off b len cap hb => cases hr; exact ⟨_, fin b off rfl, .ptrG o _ b len cap hb⟩
         | ep b off i2 cells vals hb hc hrr =>
          cases hr
          refine ⟨_, fin b (off + i2) rfl, ?_⟩
          rw [Nat.add_assoc]
          exact .ep b off (i2 + j) cells vals hb hc hrr
         | d y u hyd =>
          cases hyd with
          | pt b off cells vals hb hc hrr => cases hr; exact ⟨_, fin b off rfl, .ep b off j cells vals hb hc hrr⟩
          | _ => cases hr
         | _ => cases hr
        ·cases h
       ·cases h
      ·cases h
    ·cases h
   ·cases h
  ·cases h

section
variable {C : Ctx} {Q : Exit → St → Prop} {ops : Array Oper} {rest : List Oper} {o : Oper} {e : List (Nat × SV)} {obs : List Ob} {d : Nat}
theorem AOp.makeIfc {t : TypeId} {x : Operand} {sv : SV} (ho : o.op = .makeInterface t x) (hd : o.dst = some d) (hn : d < C.n) (hx : opS ⟨e, obs⟩ x = some sv) (ht : concT C.P t = true)
  (h : AO C ops rest ⟨(d, .ifc t sv) :: e, obs⟩ Q) : AOp C ops rest o ⟨e, obs⟩ Q :=
 AOp.value hd hn (fun Ω a w hr => ⟨_, by simp only [execOp, ho, run_makeIfc ht, Sem.run_bind, Result.andThen_ok, Sem.run_pure], .ifc t _ _ (hr.eval hx)⟩) h
/-- The operation enters function f with what ys stand for. -/
def EntersS (C : Ctx) (o : Oper) (s : St) (f : FuncId) (ys : List SV) : Prop := ∀ Ω a w, Rel C s Ω a w → ∃ vs : List Value, (execOp a.eval o).run C.P w = .ok (.enter f vs.toArray) w ∧ vs.length = ys.length ∧
 ∀ (i : Nat) y v, ys[i]? = some y → vs[i]? = some v → RepS w (okB C s.obs Ω w) Ω y v
theorem EntersS.call {f : FuncId} {xs : List Operand} {ts : Array TypeId} {ys : List SV} (he : enters C.P f = true) (ho : o.op = .call { callee := .value (.func f), args := xs.toArray, argTypes := ts }) (hx : mapO (opS ⟨e, obs⟩) xs = some ys) : EntersS C o ⟨e, obs⟩ f ys := fun Ω a w hr => by
 obtain ⟨hlen, hi⟩ := mapO_get hx
 refine ⟨xs.map a.eval, by rw [run_call he ho, List.map_toArray], by simp [hlen], fun i y v hy hv => ?_⟩
 simp only [List.getElem?_map, Option.map_eq_some_iff] at hv
 obtain ⟨x, hxi, rfl⟩ := hv
 exact hr.eval (hi i x y hxi hy)
theorem EntersS.meth {x : Operand} {name : String} {xs : List Operand} {ts : Array TypeId} {ys : List SV} {f : FuncId} {t : TypeId} {how : Option Nat} {sv y rv : SV} (he : enters C.P f = true) (ho : o.op = .call { callee := .invoke x name, args := xs.toArray, argTypes := ts }) (hr0 : opS ⟨e, obs⟩ x = some sv)
  (hs : ifcS sv = some (t, y)) (hm : methT C.P t name = some (f, how)) (hrv : recvS y how = some rv) (hx : mapO (opS ⟨e, obs⟩) xs = some ys) : EntersS C o ⟨e, obs⟩ f (rv :: ys) := fun Ω a w hr => by
 obtain ⟨hlen, hi⟩ := mapO_get hx
 obtain ⟨v, hv, hrep⟩ := (hr.eval hr0).ifcV hs
 obtain ⟨u, hu, hru⟩ := run_method hm hrep hrv w
 refine ⟨u :: xs.map a.eval, ?_, by simp [hlen], fun i z q hz hq => ?_⟩
 ·have e1 : (#[Value.iface t v] ++ (xs.map a.eval).toArray).extract 1 (#[Value.iface t v] ++ (xs.map a.eval).toArray).size = (xs.map a.eval).toArray := by
   simp
   exact List.take_of_length_le (by simp)
  have e2 : (#[Value.iface t v] ++ (xs.map a.eval).toArray)[0]? = some (Value.iface t v) := by simp
  simp only [execOp, ho, resolve, Sem.run_bind, Sem.run_pure, Result.andThen_ok, invoke, List.map_toArray, hv, e1, e2, callMethod, run_program, hu, run_enters he]
  simp
 ·cases i with
  | zero => simp at hz hq; subst hz; subst hq; exact hru
  | succ i =>
   simp only [List.getElem?_cons_succ, List.getElem?_map, Option.map_eq_some_iff] at hz hq
   obtain ⟨x, hxi, rfl⟩ := hq
   exact hr.eval (hi i x z hxi hz)

/-- A call into a function's body; ks: the caller's slots that are kept. -/
theorem AOp.inlE {f : FuncId} {fn : Func} {c : Code} {ys : List SV} {n : Nat} {rs : List ResultVar} {e1 : List (Nat × SV)} (ks : List Nat) (hE : EntersS C o ⟨e, obs⟩ f ys) (hf : C.P.funcs[f]? = some fn) (hb : fn.body = some c) (hnt : fn.ntmps = n) (hrs : fn.results = rs.toArray)
  (hdn : match o.dst with | some d => d < C.n | none => True) (hl : ys.length ≤ n) (hk : Vm.keep ks e = some e1)
  (h : ∀ vs, AC (C.sub n) c ⟨enumS 0 ys, obs ++ [.frame vs e1]⟩ (InlQ C ops rest o.dst rs obs.length vs Q)) : AOp C ops rest o ⟨e, obs⟩ Q := fun Ω a w hr => by
 obtain ⟨zs, hrun, hlen, hi⟩ := hE Ω a w hr
 subst hnt
 have hrl : fn.results.toList = rs := by rw [hrs]
 unfold Oper.wp
 rw [hrun, Oper.upon_enter]
 obtain ⟨hm, hok⟩ := hr.mem.frame a.tmps e1 (fun t x hx => hr.env t x (keep_get hk hx))
 refine (calls_of_wp hf hb (R := fun ed w' => ∃ (v : Value) (s : St) (Ω' : List Value), ed = .returned v ∧ Mem C s.obs Ω' w' ∧ ∃ r e', RepS w' (okB C s.obs Ω' w') Ω' r v ∧ s.obs[obs.length]? = some (.frame a.tmps e') ∧ AO C ops rest ⟨putO o.dst r e', s.obs.set obs.length .dead⟩ Q) ?_).mono fun ed w' ⟨v, s, Ω', hed, hm', r, e', hrep, hfr, hao⟩ => ?_
 ·have hrel : Rel (C.sub fn.ntmps) ⟨enumS 0 ys, obs ++ [.frame a.tmps e1]⟩ (Ω ++ [undef]) { tmps := zs.toArray ++ Array.replicate (fn.ntmps - zs.toArray.size) undef, defers := [] } w := by
   refine ⟨rfl, by simp; omega, fun t x hx => ?_, hm.ctx⟩
   obtain ⟨_, hy⟩ := enumS_get ys 0 t x hx
   rw [Nat.sub_zero] at hy
   have hlt := (List.getElem?_eq_some_iff.1 hy).1
   have hzt : zs[t]? = some zs[t] := List.getElem?_eq_getElem (by omega)
   refine ⟨zs[t], ?_, ?_⟩
   ·rw [Array.getElem?_append_left (by simp; omega)]
    simp
   ·exact (hi t _ _ hy hzt).mono (fun b hb => ⟨hok b hb, rfl⟩) (fun o v e => get_left e)
  refine wp_mono (h a.tmps _ _ w hrel) fun ed a' w' ⟨s, Ω', hr', hq⟩ => ?_
  have fin : (∃ r e', resS C.P s rs = some r ∧ s.obs[obs.length]? = some (.frame a.tmps e') ∧ AO C ops rest ⟨putO o.dst r e', s.obs.set obs.length .dead⟩ Q) →
    a'.defers = [] ∧ ∃ v, (results fn a'.tmps).run C.P w' = .ok v w' ∧ ∃ (v_1 : Value) (s : St) (Ω' : List Value), Ending.returned v = Ending.returned v_1 ∧ Mem C s.obs Ω' w' ∧ ∃ r e', RepS w' (okB C s.obs Ω' w') Ω' r v_1 ∧ s.obs[obs.length]? = some (.frame a.tmps e') ∧ AO C ops rest ⟨putO o.dst r e', s.obs.set obs.length .dead⟩ Q := by
   intro ⟨r, e', hres, hfr, hao⟩
   rw [← hrl] at hres
   obtain ⟨v, hv, hrep⟩ := resS_rep hr' hres
   exact ⟨hr'.defers, v, hv, v, s, Ω', rfl, hr'.mem.ctx', r, e', hrep, hfr, hao⟩
  cases ed with
  | normal => exact fin hq
  | ret => exact fin hq
  | _ => exact hq.elim
 ·subst hed
  obtain ⟨hmk, hokk⟩ := hm'.kill obs.length
  obtain ⟨hh, hΩh⟩ : ∃ h, Ω'[obs.length]? = some h := ⟨_, List.getElem?_eq_getElem (by have := (List.getElem?_eq_some_iff.1 hfr).1; have := hm'.len; omega)⟩
  have hF := hm'.obj _ _ _ hfr hΩh
  have hbase : Rel C ⟨e', s.obs.set obs.length .dead⟩ Ω' a w' :=
   ⟨hr.defers, hr.size, fun t x hx => let ⟨v, hv, hrp⟩ := hF.2 t x hx; ⟨v, hv, hrp.mono (fun b hb => ⟨hokk b hb, rfl⟩) (fun _ _ e => e)⟩, hmk⟩
  cases hd : o.dst with
  | none =>
   rw [hd] at hao
   exact hao Ω' _ w' hbase
  | some d =>
   rw [hd] at hao hdn
   exact hao Ω' _ w' (hbase.put hdn (hrep.mono (fun b hb => ⟨hokk b hb, rfl⟩) (fun _ _ e => e)))

/-- A call with data, of whatever kind. -/
theorem AOp.callE {f : FuncId} {ys : List D} {zs : List SV} {R : D → Prop} (hE : EntersS C o ⟨e, obs⟩ f zs) (hd : o.dst = some d) (hn : d < C.n) (hm : C.may = C.may)
  (hx : mapO (dataS 9) zs = some ys) (hF : FnD C.P f ys R) (h : ∀ r, R r → AO C ops rest ⟨(d, .d r) :: e, obs⟩ Q) : AOp C ops rest o ⟨e, obs⟩ Q := fun Ω a w hr => by
 obtain ⟨hl, hi⟩ := mapO_get hx
 obtain ⟨vs, hrun, hlen, hv⟩ := hE Ω a w hr
 unfold Oper.wp
 rw [hrun, Oper.upon_enter]
 refine (hF.2 w (okB C obs Ω w) vs (hr.mem.fr.holds hm) (fun b hb => hb.2.1) (by omega) fun i y v hy hvi => ?_).mono fun ed w' ⟨v, r, he, hR, hb, hrep⟩ => ?_
 ·have hlt := (List.getElem?_eq_some_iff.1 hy).1
  have hz : zs[i]? = some zs[i] := List.getElem?_eq_getElem (by omega)
  exact dataS_rep 9 (hi i _ _ hz hy) (hv i _ _ hz hvi)
 ·subst he
  rw [hd]
  refine h r hR Ω _ w' ((hr.below hb).put hn (.d _ _ (hrep.mono fun b hk => ⟨?_, rfl⟩)))
  rcases hk.1 with hk1 | hk1
  ·exact ((hr.mem.below hb).2 b hk1).1
  ·refine ⟨.inr (.inl (Nat.le_trans hr.mem.fr.size hk1)), hk.2, fun o' ob k e1 l e2 hbk => ?_⟩
   have := (hr.mem.obj o' ob k e1 e2).lt l hbk
   omega
end
/-- Is it a pointer, and the nil one? -/
def isNilP : SV → Option Bool
 | .ptr _ _ => some false
 | .ep _ _ => some false
 | .d (.pt _) => some false
 | .d (.v (.pointer none)) => some true
 | _ => none
section
variable {C : Ctx} {Q : Exit → St → Prop} {ops : Array Oper} {rest : List Oper} {o : Oper} {e : List (Nat × SV)} {obs : List Ob} {d : Nat} {t ty : TypeId} {x y : Operand}
/-- The type of what a package variable holds. -/
def errT (W : World) (g : Nat) : TypeId := match W.cell? ⟨g, 0, none⟩ with
 | some (.iface t _) => t
 | _ => 0
theorem eqGuard_nil (b : BinOp) (t : TypeId) (x : Operand) (P : Program) (w : World) : (eqGuard b t x (.const .nilIface) .nilIface .nilIface).run P w = .ok () w := by
 unfold eqGuard
 cases b <;> simp
theorem AOp.nilNeq (ho : o.op = .binOp .neq t x (.const .nilIface) ty) (hd : o.dst = some d) (hn : d < C.n) (hx : opS ⟨e, obs⟩ x = some (.d (.v .nilIface))) (ht : C.P.underlying t = some (.interface (C.P.methodsAt t)))
  (h : AO C ops rest ⟨(d, .d (dbool false)) :: e, obs⟩ Q) : AOp C ops rest o ⟨e, obs⟩ Q :=
 AOp.value hd hn (fun Ω a w hr => by
  have hv := hr.evalV hx
  refine ⟨.bool false, ?_, .d _ _ (.v _)⟩
  have hy : a.eval (.const .nilIface) = .nilIface := rfl
  simp only [execOp, ho, hv, hy, eqGuard_nil, Sem.run_bind, Sem.run_pure, Result.andThen_ok, run_neq_nil_nil w t ht]) h
end
end Go.Vm

/- Functions that give a slice which is new: it becomes one of the caller's own. -/
namespace Go.Vm
set_option linter.unusedVariables false
def D.isV : D → Bool
 | .v _ => true
 | _ => false
/-- Function f, called with data args, gives a slice of its own making that holds some cells with R cells; nothing that was there has turned. -/
def FnN (P : Program) (f : FuncId) (args : List D) (el sz : Nat) (R : List D → Prop) : Prop :=
 enters P f = true ∧ ∀ (W : World) (ok : Nat → Prop) (vs : List Value), HoldsG W → (∀ b, ok b → b < W.heap.size) → vs.length = args.length →
  (∀ (i : Nat) x v, args[i]? = some x → vs[i]? = some v → RepD W ok x v) →
  Calls P f vs.toArray W fun e w' => ∃ v cells n xs, e = .returned v ∧ R cells ∧ RowKit.Below W.heap.size W w' ∧ w'.ownsRow 0 el sz v n xs ∧ (∀ b, blk v = some b → W.heap.size ≤ b) ∧ xs.length = cells.length ∧
   ∀ (i : Nat) x y, cells[i]? = some x → xs[i]? = some y → x = .v y
def RetN (rs : List ResultVar) (el sz : Nat) (R : List D → Prop) : Exit → St → Prop
 | .normal, s => ∃ t p cells, rs = [.tmp t] ∧ get s.env t = some (.own p) ∧ s.obs[p]? = some (.grow el sz cells) ∧ cells.all D.isV = true ∧ R cells
 | .ret, s => ∃ t p cells, rs = [.tmp t] ∧ get s.env t = some (.own p) ∧ s.obs[p]? = some (.grow el sz cells) ∧ cells.all D.isV = true ∧ R cells
 | _, _ => False
theorem FnN.of {P : Program} {f : FuncId} {fn : Func} {c : Code} {args : List D} {el sz : Nat} {R : List D → Prop} {n : Nat} {rs : List ResultVar} (he : enters P f = true) (hf : P.funcs[f]? = some fn) (hb : fn.body = some c) (hnt : fn.ntmps = n) (hrs : fn.results = rs.toArray) (hn : args.length ≤ n)
  (h : ∀ (W : World) (ok : Nat → Prop), AC ⟨P, W, ok, [], n, []⟩ c ⟨enumD 0 args, []⟩ (RetN rs el sz R)) : FnN P f args el sz R := by
 subst hnt
 refine ⟨he, fun W ok vs hG hok hl hrep => calls_of_wp hf hb ?_⟩
 have hrel : Rel ⟨P, W, ok, [], fn.ntmps, []⟩ ⟨enumD 0 args, []⟩ [] { tmps := vs.toArray ++ Array.replicate (fn.ntmps - vs.toArray.size) undef, defers := [] } W := by
  refine ⟨rfl, by simp; omega, fun t x hx => ?_, ⟨rfl, fun o ob h e1 => by simp at e1, fun i j a b p q x _ e1 => by simp at e1, fun o ob p b e1 => by simp at e1, ⟨rfl, rfl, rfl, Nat.le_refl _, fun _ _ _ => rfl, hG, fun b h => by cases h⟩⟩⟩
  obtain ⟨y, rfl, _, hy⟩ := enumD_get args 0 t x hx
  rw [Nat.sub_zero] at hy
  have hlt := (List.getElem?_eq_some_iff.1 hy).1
  have hv : vs[t]? = some vs[t] := List.getElem?_eq_getElem (by omega)
  refine ⟨vs[t], ?_, .d _ _ ((hrep t _ _ hy hv).mono fun b hb => ⟨⟨.inl hb, hok b hb, fun o ob h e1 => by simp at e1⟩, rfl⟩)⟩
  rw [Array.getElem?_append_left (by simp; omega)]
  simp
 refine wp_mono (h W ok _ _ W hrel) fun ed a w ⟨s, Ω, hr, hq⟩ => ?_
 have fin : (∃ t p cells, rs = [.tmp t] ∧ get s.env t = some (.own p) ∧ s.obs[p]? = some (.grow el sz cells) ∧ cells.all D.isV = true ∧ R cells) → a.defers = [] ∧ ∃ v, (results fn a.tmps).run P w = .ok v w ∧
   ∃ v_1 cells n xs, Ending.returned v = Ending.returned v_1 ∧ R cells ∧ RowKit.Below W.heap.size W w ∧ w.ownsRow 0 el sz v_1 n xs ∧ (∀ b, blk v_1 = some b → W.heap.size ≤ b) ∧ xs.length = cells.length ∧
   ∀ (i : Nat) x y, cells[i]? = some x → xs[i]? = some y → x = .v y := by
  intro ⟨t, p, cells, hrt, hg, hp, hV, hR⟩
  obtain ⟨v, hv, hrep⟩ := hr.env t _ hg
  cases hrep with
  | own _ _ hΩ _ =>
   obtain ⟨m, xs, how, hxl, hrr⟩ := hr.mem.obj p _ _ hp hΩ
   refine ⟨hr.defers, v, ?_, v, cells, m, xs, rfl, hR, ⟨hr.mem.fr.os, hr.mem.fr.tape, hr.mem.fr.output, hr.mem.fr.size, fun b hb => hr.mem.fr.block b hb (by simp)⟩, how, fun b hbk => ?_, hxl, fun i x y hx hy => ?_⟩
   ·rw [results_eq, hrs, hrt, List.mapM_toArray]
    have : a.tmps.getD t undef = v := by simp [Array.getD_eq_getD_getElem?, hv]
    simp [resSem, this]
   ·rcases hr.mem.new p _ _ b hp rfl hΩ hbk with h1 | h1
    ·exact h1
    ·simp at h1
   ·have := List.all_eq_true.1 hV x (List.mem_of_getElem? hx)
    have hd := hrr i x y hx hy
    cases x with
    | v u => cases hd; rfl
    | _ => cases this
 cases ed with
 | normal => exact fin hq
 | ret => exact fin hq
 | _ => exact hq.elim
section
variable {C : Ctx} {Q : Exit → St → Prop} {ops : Array Oper} {rest : List Oper} {o : Oper} {e : List (Nat × SV)} {obs : List Ob} {d : Nat}
end
end Go.Vm
namespace Go.Vm
set_option linter.unusedVariables false
/-- Function f, called with data args, gives a pointer to a block of its own making that holds some cells with R cells; nothing that was there has turned. -/
def FnA (P : Program) (f : FuncId) (args : List D) (ty : Nat) (R : List D → Prop) : Prop :=
 enters P f = true ∧ ∀ (W : World) (ok : Nat → Prop) (vs : List Value), HoldsG W → (∀ b, ok b → b < W.heap.size) → vs.length = args.length →
  (∀ (i : Nat) x v, args[i]? = some x → vs[i]? = some v → RepD W ok x v) →
  Calls P f vs.toArray W fun e w' => ∃ (b : Nat) (cells : List D) (us : List Value), e = .returned (.pointer (some ⟨b, 0, none⟩)) ∧ R cells ∧ RowKit.Below W.heap.size W w' ∧ W.heap.size ≤ b ∧ w'.heap[b]? = some (.cells us.toArray ty (0, 0)) ∧ us.length = cells.length ∧ (∀ y, y ∈ us → y.oneCell' = true) ∧
   ∀ (i : Nat) x y, cells[i]? = some x → us[i]? = some y → RepD w' (fun k => (ok k ∨ W.heap.size ≤ k) ∧ k < w'.heap.size ∧ k ≠ b) x y
def RetA (rs : List ResultVar) (ty : Nat) (R : List D → Prop) : Exit → St → Prop
 | .normal, s => ∃ t p cells ds, rs = [.tmp t] ∧ get s.env t = some (.ptr p 0) ∧ s.obs[p]? = some (.fix ty cells) ∧ mapO (dataS 9) cells = some ds ∧ R ds
 | .ret, s => ∃ t p cells ds, rs = [.tmp t] ∧ get s.env t = some (.ptr p 0) ∧ s.obs[p]? = some (.fix ty cells) ∧ mapO (dataS 9) cells = some ds ∧ R ds
 | _, _ => False
theorem FnA.of {P : Program} {f : FuncId} {fn : Func} {c : Code} {args : List D} {ty : Nat} {R : List D → Prop} {n : Nat} {rs : List ResultVar} (he : enters P f = true) (hf : P.funcs[f]? = some fn) (hb : fn.body = some c) (hnt : fn.ntmps = n) (hrs : fn.results = rs.toArray) (hn : args.length ≤ n)
  (h : ∀ (W : World) (ok : Nat → Prop), AC ⟨P, W, ok, [], n, []⟩ c ⟨enumD 0 args, []⟩ (RetA rs ty R)) : FnA P f args ty R := by
 subst hnt
 refine ⟨he, fun W ok vs hG hok hl hrep => calls_of_wp hf hb ?_⟩
 have hrel : Rel ⟨P, W, ok, [], fn.ntmps, []⟩ ⟨enumD 0 args, []⟩ [] { tmps := vs.toArray ++ Array.replicate (fn.ntmps - vs.toArray.size) undef, defers := [] } W := by
  refine ⟨rfl, by simp; omega, fun t x hx => ?_, ⟨rfl, fun o ob h e1 => by simp at e1, fun i j a b p q x _ e1 => by simp at e1, fun o ob p b e1 => by simp at e1, ⟨rfl, rfl, rfl, Nat.le_refl _, fun _ _ _ => rfl, hG, fun b h => by cases h⟩⟩⟩
  obtain ⟨y, rfl, _, hy⟩ := enumD_get args 0 t x hx
  rw [Nat.sub_zero] at hy
  have hlt := (List.getElem?_eq_some_iff.1 hy).1
  have hv : vs[t]? = some vs[t] := List.getElem?_eq_getElem (by omega)
  refine ⟨vs[t], ?_, .d _ _ ((hrep t _ _ hy hv).mono fun b hb => ⟨⟨.inl hb, hok b hb, fun o ob h e1 => by simp at e1⟩, rfl⟩)⟩
  rw [Array.getElem?_append_left (by simp; omega)]
  simp
 refine wp_mono (h W ok _ _ W hrel) fun ed a w ⟨s, Ω, hr, hq⟩ => ?_
 have fin : (∃ t p cells ds, rs = [.tmp t] ∧ get s.env t = some (.ptr p 0) ∧ s.obs[p]? = some (.fix ty cells) ∧ mapO (dataS 9) cells = some ds ∧ R ds) → a.defers = [] ∧ ∃ v, (results fn a.tmps).run P w = .ok v w ∧
   ∃ (b : Nat) (cells : List D) (us : List Value), Ending.returned v = Ending.returned (.pointer (some ⟨b, 0, none⟩)) ∧ R cells ∧ RowKit.Below W.heap.size W w ∧ W.heap.size ≤ b ∧ w.heap[b]? = some (.cells us.toArray ty (0, 0)) ∧ us.length = cells.length ∧ (∀ y, y ∈ us → y.oneCell' = true) ∧
   ∀ (i : Nat) x y, cells[i]? = some x → us[i]? = some y → RepD w (fun k => (ok k ∨ W.heap.size ≤ k) ∧ k < w.heap.size ∧ k ≠ b) x y := by
  intro ⟨t, p, cells, ds, hrt, hg, hp, hV, hR⟩
  obtain ⟨v, hv, hrep⟩ := hr.env t _ hg
  obtain ⟨b, vs', hΩ, hw, hvl, hrr, h1, hvb⟩ : ∃ (b : Nat) (vs' : List Value), Ω[p]? = some (.pointer (some ⟨b, 0, none⟩)) ∧ w.heap[b]? = some (.cells vs'.toArray ty (0, 0)) ∧ vs'.length = cells.length ∧
    (∀ (i : Nat) x y, cells[i]? = some x → vs'[i]? = some y → RepS w (okB _ s.obs Ω w) Ω x y) ∧ (∀ y, y ∈ vs' → y.oneCell' = true) ∧ v = .pointer (some ⟨b, 0, none⟩) := by
   obtain ⟨b, vs', hev, hΩ, hw, hl', hrr', h1'⟩ := hr.fix hp hrep
   exact ⟨b, vs', hΩ, hw, hl', hrr', h1', by rw [hev]⟩
  subst hvb
  obtain ⟨hdl, hdi⟩ := mapO_get hV
  refine ⟨hr.defers, _, ?_, b, ds, vs', rfl, hR, ⟨hr.mem.fr.os, hr.mem.fr.tape, hr.mem.fr.output, hr.mem.fr.size, fun b hb => hr.mem.fr.block b hb (by simp)⟩, ?_, hw, by omega, h1, fun i x y hx hy => ?_⟩
  ·rw [results_eq, hrs, hrt, List.mapM_toArray]
   have : a.tmps.getD t undef = .pointer (some ⟨b, 0, none⟩) := by simp [Array.getD_eq_getD_getElem?, hv]
   simp [resSem, this]
  ·rcases hr.mem.new p _ _ b hp rfl hΩ rfl with h1 | h1
   ·exact h1
   ·simp at h1
  ·have hil : i < cells.length := by have := (List.getElem?_eq_some_iff.1 hx).1; omega
   have hci : cells[i]? = some cells[i] := List.getElem?_eq_getElem hil
   have hd := hdi i _ _ hci hx
   exact (dataS_rep 9 hd (hrr i _ y hci hy)).mono fun k hk => ⟨⟨hk.1.elim .inl (fun h => h.elim .inr (fun h => by cases h)), hk.2.1, fun e => hk.2.2 p _ _ hp rfl hΩ (by rw [e]; rfl)⟩, rfl⟩
 cases ed with
 | normal => exact fin hq
 | ret => exact fin hq
 | _ => exact hq.elim
section
variable {C : Ctx} {Q : Exit → St → Prop} {ops : Array Oper} {rest : List Oper} {o : Oper} {e : List (Nat × SV)} {obs : List Ob} {d : Nat}
theorem AC.dec {c : Code} {s : St} (b : Bool) (hy : b = true → AC C c s Q) (hn : b = false → AC C c s Q) : AC C c s Q := by
 cases b with
 | true => exact hy rfl
 | false => exact hn rfl
end
end Go.Vm

/- What the row's condition on package variables tells of their cells. -/
namespace Go.Vm
open Go.Lib
end Go.Vm

/- Panics that are recovered: a function that panics; one that defers a closure, which recovers. -/
set_option linter.unusedVariables false
namespace Go.Vm
/-- A panic that is under way: with a value, not nil. -/
def PanC (ch : List PanicEntry) : Prop := ∃ t u, ch = [{ v := .iface t u, recovered := false }]
/-- Function f, called with data args, panics; nothing that was there has turned. -/
def FnP (P : Program) (f : FuncId) (args : List D) : Prop :=
 enters P f = true ∧ ∀ (W : World) (ok : Nat → Prop) (vs : List Value), HoldsG W → (∀ b, ok b → b < W.heap.size) → vs.length = args.length →
  (∀ (i : Nat) x v, args[i]? = some x → vs[i]? = some v → RepD W ok x v) →
  Calls P f vs.toArray W fun e w' => (∃ ch, e = .panicked ch ∧ PanC ch) ∧ RowKit.Below W.heap.size W w'
def PanQ : Exit → St → Prop
 | .panic ch, s => PanC ch
 | _, _ => False
theorem rel_start {P : Program} {n : Nat} {args : List D} {W : World} {ok : Nat → Prop} {vs : List Value} (hn : args.length ≤ n) (hG : HoldsG W) (hok : ∀ b, ok b → b < W.heap.size) (hl : vs.length = args.length)
  (hrep : ∀ (i : Nat) x v, args[i]? = some x → vs[i]? = some v → RepD W ok x v) : Rel ⟨P, W, ok, [], n, []⟩ ⟨enumD 0 args, []⟩ [] { tmps := vs.toArray ++ Array.replicate (n - vs.toArray.size) undef, defers := [] } W := by
 refine ⟨rfl, by simp; omega, fun t x hx => ?_, ⟨rfl, fun o ob h e1 => by simp at e1, fun i j a b p q x _ e1 => by simp at e1, fun o ob p b e1 => by simp at e1, ⟨rfl, rfl, rfl, Nat.le_refl _, fun _ _ _ => rfl, hG, fun b h => by cases h⟩⟩⟩
 obtain ⟨y, rfl, _, hy⟩ := enumD_get args 0 t x hx
 rw [Nat.sub_zero] at hy
 have hlt := (List.getElem?_eq_some_iff.1 hy).1
 have hv : vs[t]? = some vs[t] := List.getElem?_eq_getElem (by omega)
 refine ⟨vs[t], ?_, .d _ _ ((hrep t _ _ hy hv).mono fun b hb => ⟨⟨.inl hb, hok b hb, fun o ob h e1 => by simp at e1⟩, rfl⟩)⟩
 rw [Array.getElem?_append_left (by simp; omega)]
 simp
theorem FnP.of {P : Program} {f : FuncId} {fn : Func} {c : Code} {args : List D} {n : Nat} (he : enters P f = true) (hf : P.funcs[f]? = some fn) (hb : fn.body = some c) (hnt : fn.ntmps = n) (hn : args.length ≤ n)
  (h : ∀ (W : World) (ok : Nat → Prop), AC ⟨P, W, ok, [], n, []⟩ c ⟨enumD 0 args, []⟩ PanQ) : FnP P f args := by
 subst hnt
 refine ⟨he, fun W ok vs hG hok hl hrep => calls_of_wp hf hb ?_⟩
 refine wp_mono (h W ok _ _ W (rel_start hn hG hok hl hrep)) fun ed a w ⟨s, Ω, hr, hq⟩ => ?_
 cases ed with
 | panic ch => exact ⟨hr.defers, ⟨ch, rfl, hq⟩, ⟨hr.mem.fr.os, hr.mem.fr.tape, hr.mem.fr.output, hr.mem.fr.size, fun b hb => hr.mem.fr.block b hb (by simp)⟩⟩
 | _ => exact hq.elim
section
variable {C : Ctx} {Q : Exit → St → Prop} {ops : Array Oper} {rest : List Oper} {o : Oper} {e : List (Nat × SV)} {obs : List Ob} {d : Nat}
theorem AOp.panic {x : Operand} {t : TypeId} {y : SV} (ho : o.op = .panic x) (hx : opS ⟨e, obs⟩ x = some (.ifc t y)) (h : ∀ ch, PanC ch → Q (.panic ch) ⟨e, obs⟩) : AOp C ops rest o ⟨e, obs⟩ Q := fun Ω a w hr => by
 have hv := hr.eval hx
 generalize hev : a.eval x = v at hv
 cases hv with
 | ifc _ _ u hu =>
  have r1 : (execOp a.eval o).run C.P w = .halt (.panic (.iface t u)) w := by
   simp only [execOp, ho, hev, Sem.run_bind, run_panic_iface]
   rfl
  unfold Oper.wp
  rw [r1]
  exact ⟨⟨e, obs⟩, Ω, hr, h _ ⟨t, u, rfl⟩⟩
end
/-- The code c, in which function g is deferred; Q vs: what holds behind it, vs being what g has captured. -/
def AWP (C : Ctx) (g : Nat) (c : Code) (s : St) (Q : Array Value → Exit → St → Prop) : Prop :=
 ∀ Ω a w, Rel C s Ω a w → c.wp C.P (fun e a w => ∃ vs, Lift { C with dfs := [⟨.fn (.func g) vs, #[]⟩] } (Q vs) e a w) a w
theorem AWP.seq {C : Ctx} {g : Nat} {x y : Code} {s : St} {Q : Array Value → Exit → St → Prop} (h : AC C x s (fun e s' => e = .normal ∧ AWP C g y s' Q)) : AWP C g (.seq x y) s Q := fun Ω a w hr =>
 wp_seq (wp_mono (h Ω a w hr) fun e a w ⟨s, Ω, hr, he, hq⟩ => by
  subst he
  exact hq Ω a w hr)
/-- The closure is made and deferred; what it has captured is kept in sight. -/
theorem AWP.defer {C : Ctx} {g id d : Nat} {o1 o2 : Oper} {y : Code} {e : List (Nat × SV)} {obs : List Ob} {Q : Array Value → Exit → St → Prop} {caps : List Operand} (hC : C.dfs = []) (h1 : o1.op = .makeFunc (.func g) #[] caps.toArray) (hd : o1.dst = some d) (hn : d < C.n) (hg1 : o1.guard = none)
  (h2 : o2.op = .defer { callee := .value (.tmp d), args := #[], argTypes := #[] }) (hd2 : o2.dst = none) (hg2 : o2.guard = none)
  {cs : List SV} (hcs : mapO (opS ⟨e, obs⟩) caps = some cs) (h : ∀ vs : Array Value, vs.size = caps.length → AC { C with dfs := [⟨.fn (.func g) vs, #[]⟩] } y ⟨e, obs ++ [.frame vs (enumS 0 cs)]⟩ (Q vs)) (hfree : get e d = none) : AWP C g (.seq (.region id [o1, o2].toArray false) y) ⟨e, obs⟩ Q := by
 intro Ω a w hr
 refine wp_seq (wp_region_lit ?_)
 unfold wpList
 rw [if_pos (by simp [Region.wanted, hg1])]
 refine .inl ?_
 have r1 : (execOp a.eval o1).run C.P w = .ok (.value (.func (.func g) #[] (caps.map a.eval).toArray)) w := by
  simp [execOp, h1, Instr.makeFunc]
 unfold Oper.wp
 rw [r1, Oper.upon_value, hd]
 unfold wpList
 rw [if_pos (by simp [Region.wanted, hg2])]
 refine .inl ?_
 have hv : (a.put (some d) (.func (.func g) #[] (caps.map a.eval).toArray)).eval (.tmp d) = .func (.func g) #[] (caps.map a.eval).toArray := by
  have := Act.put_get (a := a) (d := d) (v := .func (.func g) #[] (caps.map a.eval).toArray) (by rw [hr.size]; exact hn)
  simp [Act.eval, Act.put, Array.getD_eq_getD_getElem?, hr.size, hn]
 have r2 : (execOp (a.put (some d) (.func (.func g) #[] (caps.map a.eval).toArray)).eval o2).run C.P w = .ok (.defer ⟨.fn (.func g) (caps.map a.eval).toArray, #[]⟩) w := by
  simp [execOp, h2, resolve, hv, Deferred.ofValue]
 unfold Oper.wp
 rw [r2]
 simp only [Oper.upon, hd2]
 obtain ⟨hl, hi⟩ := mapO_get hcs
 obtain ⟨hm, hok⟩ := hr.mem.frame (caps.map a.eval).toArray (enumS 0 cs) (fun t x hx => by
  obtain ⟨_, hy⟩ := enumS_get cs 0 t x hx
  rw [Nat.sub_zero] at hy
  have hlt := (List.getElem?_eq_some_iff.1 hy).1
  have hxt : caps[t]? = some caps[t] := List.getElem?_eq_getElem (by omega)
  exact ⟨a.eval caps[t], by simp [hxt], hr.eval (hi t _ _ hxt hy)⟩)
 have hrel : Rel { C with dfs := [⟨.fn (.func g) (caps.map a.eval).toArray, #[]⟩] } ⟨e, obs ++ [.frame (caps.map a.eval).toArray (enumS 0 cs)]⟩ (Ω ++ [undef]) { (a.put (some d) (.func (.func g) #[] (caps.map a.eval).toArray)) with defers := ⟨.fn (.func g) (caps.map a.eval).toArray, #[]⟩ :: a.defers } w := by
  refine ⟨by rw [hr.defers, hC], by simp [Act.put, hr.size], fun t x hx => ?_, ⟨hm.len, hm.obj, hm.sep, hm.new, ⟨hm.fr.os, hm.fr.tape, hm.fr.output, hm.fr.size, hm.fr.block, hm.fr.glob, hm.fr.gmay⟩⟩⟩
  obtain ⟨v, hv, hrp⟩ := hr.env t x hx
  refine ⟨v, ?_, hrp.mono (fun b hb => ⟨hok b hb, rfl⟩) (fun o v e => get_left e)⟩
  show (a.put (some d) _).tmps[t]? = some v
  rw [Act.put_get (by rw [hr.size]; exact hn)]
  have : t ≠ d := fun e => by rw [e, hfree] at hx; cases hx
  rw [if_neg (Ne.symm this)]; exact hv
 exact wp_mono (h _ (by simp) _ _ w hrel) fun e a w hq => ⟨_, hq⟩
/-- Behind the closure's end. -/
def EndQ (P : Program) (rs : List ResultVar) (k : Nat) (tm : Array Value) (R : D → Prop) : Exit → St → Prop
 | .normal, s | .ret, s => ∃ r e', s.obs[k]? = some (Ob.frame tm e') ∧ resD P ⟨e', s.obs.set k .dead⟩ rs = some r ∧ R r
 | _, _ => False
/-- Behind a panic: the closure's other code c2 is gone through, its test (slots d0, d1) passed. -/
def CatchQ (C : Ctx) (ng d0 d1 : Nat) (c2 : Code) (rs : List ResultVar) (R : D → Prop) (vs : Array Value) : Exit → St → Prop
 | .panic ch, s => PanC ch ∧ ∃ (k : Nat) (cs : List SV), s.obs[k]? = some (Ob.frame vs (enumS 0 cs)) ∧ (vs.size = cs.length ∧ cs.length ≤ ng) ∧ ∀ tm, AC (C.sub ng) c2 ⟨(d1, .d (dbool true)) :: (d0, .any) :: enumS 0 cs, s.obs ++ [.frame tm s.env]⟩ (EndQ C.P rs s.obs.length tm R)
 | _, _ => False
end Go.Vm

/- Arrays: of the call's own, and as data; loops gone through round by round. -/
set_option linter.unusedVariables false
namespace Go.Vm
/-- A loop, from the head of its body on. -/
def ACL (C : Ctx) (c : Code) (s : St) (Q : Exit → St → Prop) : Prop := ∀ Ω a w, Rel C s Ω a w → ∀ b k cs,
 ∃ e a' w', Lift C Q e a' w' ∧ Arrives C.P (lone (b.at a (.code c :: .inLoop c :: k)) cs w) b k cs e a' w'
def LoopUQ (C : Ctx) (c : Code) (Q : Exit → St → Prop) : Exit → St → Prop
 | .normal, s => ACL C c s Q
 | e, s => Q e s
section
variable {C : Ctx} {s : St} {Q : Exit → St → Prop}
/-- One round of a loop. -/
theorem ACL.round {c : Code} (h : AC C c s (LoopUQ C c Q)) : ACL C c s Q := by
 intro Ω a w hr b k cs
 obtain ⟨e, a₁, w₁, ⟨s₁, Ω₁, hr₁, hq⟩, harr⟩ := h Ω a w hr b (.inLoop c :: k) cs
 cases e with
 | normal =>
  obtain ⟨e₂, a₂, w₂, hq₂, harr₂⟩ := hq Ω₁ a₁ w₁ hr₁ b k cs
  exact ⟨e₂, a₂, w₂, hq₂, .of_steps (Steps.trans harr (.one step_inLoop)) harr₂⟩
 | exit id => exact ⟨_, a₁, w₁, ⟨s₁, Ω₁, hr₁, hq⟩, .pass (x := .inLoop c) rfl (fun _ _ => .inl (by simp)) harr⟩
 | goto l => exact ⟨_, a₁, w₁, ⟨s₁, Ω₁, hr₁, hq⟩, .pass (x := .inLoop c) rfl (fun _ _ => .inl (by simp)) harr⟩
 | ret => exact ⟨_, a₁, w₁, ⟨s₁, Ω₁, hr₁, hq⟩, .pass (x := .inLoop c) rfl (fun _ _ => .inl (by simp)) harr⟩
 | panic ch => exact ⟨_, a₁, w₁, ⟨s₁, Ω₁, hr₁, hq⟩, .pass (x := .inLoop c) rfl (fun _ _ => .inl (by simp)) harr⟩
 | outgrown => exact ⟨_, a₁, w₁, ⟨s₁, Ω₁, hr₁, hq⟩, .pass (x := .inLoop c) rfl (fun _ _ => .inl (by simp)) harr⟩
end
section
variable {C : Ctx} {Q : Exit → St → Prop} {ops : Array Oper} {rest : List Oper} {o : Oper} {e : List (Nat × SV)} {obs : List Ob} {d : Nat}
/-- The address of an element of an own array. -/
theorem AOp.indexArrO {t n el sz p off : Nat} {x ix : Operand} {k : IntKind} {i : Int} (ho : o.op = .indexAddr t x ix) (hd : o.dst = some d) (hn : d < C.n) (hx : opS ⟨e, obs⟩ x = some (.ptr p off)) (hi : opS ⟨e, obs⟩ ix = some (.d (.v (.int k i)))) (ht : arrT C.P t = some (n, el, sz)) (h0 : 0 ≤ i) (h1 : i < n)
  {q : Nat} (hq : off + i.toNat * sz = q) (h : AO C ops rest ⟨(d, .ptr p q) :: e, obs⟩ Q) : AOp C ops rest o ⟨e, obs⟩ Q :=
 AOp.value hd hn (fun Ω a w hr => by
  subst hq
  have hv := hr.eval hx
  have hi := hr.evalV hi
  generalize hev : a.eval x = v at hv
  cases hv with
  | ptr _ _ b hob => exact ⟨_, by simp only [execOp, ho, hev, hi, run_indexArr ht k i b off h0 h1, Sem.run_bind, Sem.run_pure, Result.andThen_ok], .ptr _ _ b hob⟩
  | ptrG _ _ b len cap hob => exact ⟨_, by simp only [execOp, ho, hev, hi, run_indexArr ht k i b off h0 h1, Sem.run_bind, Sem.run_pure, Result.andThen_ok], .ptrG _ _ b len cap hob⟩) h
end
section
variable {H : Type} {enc : TypeId × Value → H} {P : Program} {W : World}
end
end Go.Vm

/- Errors in package variables, compared; method values that only are looked at; parts of slices of the call's own; package variables without cells. -/
set_option linter.unusedVariables false
namespace Go.Vm
section
variable {C : Ctx} {Q : Exit → St → Prop} {ops : Array Oper} {rest : List Oper} {o : Oper} {e : List (Nat × SV)} {obs : List Ob} {d : Nat} {t ty : TypeId} {x y : Operand}
/-- What a package variable of one cell holds at first. -/
def errV (W : World) (g : Nat) : Value := (W.cell? ⟨g, 0, none⟩).getD .nilIface
/-- A package variable that holds some float. -/
theorem AOp.loadF {g : Nat} (ho : o.op = .load t (.global g)) (hd : o.dst = some d) (hn : d < C.n) (hm : C.may = C.may) (ht : aggT C.P t = some false) (hg : g ∈ GlobsF)
  (h : ∀ x, AO C ops rest ⟨(d, .d (dfl x)) :: e, obs⟩ Q) : AOp C ops rest o ⟨e, obs⟩ Q := fun Ω a w hr => by
 obtain ⟨hlt, x, hc0⟩ := hr.mem.fr.glob.2.2.2 g hg
 refine AOp.value (x := .d (dfl x)) hd hn (fun Ω a w hr => ?_) (h x) Ω a w hr
 have hc : w.cell? ⟨g, 0, none⟩ = some (.float .f64 x) := by rw [← hc0]; exact cell_heap (hr.mem.fr.block g hlt (fun hb => hr.mem.fr.gmay _ hb (.inr (.inr (.inr hg)))))
 refine ⟨.float .f64 x, ?_, .d _ _ (.v _)⟩
 have hev : a.eval (.global g) = .pointer (some ⟨g, 0, none⟩) := rfl
 simp only [execOp, ho, hev, Instr.loadAt, Instr.sureAddr, Sem.run_bind, Sem.run_pure, Result.andThen_ok, run_load1 ht hc]
/-- The method is one of the type's own; it is not called through nil. -/
def nilT (P : Program) (t : TypeId) (name : String) : Bool := match P.info? t with
 | some i => match i.methods.find? (·.name == name) with
  | some m => m.path.toList.isEmpty && match m.func with
   | some (_, true) => true
   | some (_, false) => match P.underlying t with
    | some (.pointer _) => false
    | some _ => true
    | none => false
   | none => false
  | none => false
 | none => false
end
section
open Go.Lib
end
end Go.Vm

/- Regions that draw their order, with one operation (a call gone through in place) for which all ahead of it wait, and which all behind it wait for. -/
set_option linter.unusedVariables false
namespace Go.Vm
section
variable {C : Ctx} {ops : Array Oper} {obs : List Ob} {md : Region.Mode}
/-- What is listed at the end: then only the call is ready; behind it the others come in the text's order. -/
def callE (ops : Array Oper) (n : Nat) (listed : Array Bool) : Bool := (Region.ready .any ops listed == [n]) && Region.lexHead .any ops 0 (ops.size - (n + 1)) (n + 1) (listed.setIfInBounds n true)
def lexC (ops : Array Oper) (n : Nat) : Nat → Nat → Array Bool → Bool
 | 0, _, listed => callE ops n listed
 | f + 1, k, listed => (Region.ready .any ops listed).contains k && Region.free .any ops listed k && lexC ops n f (k + 1) (listed.setIfInBounds k true)
/-- The others wait for all of the first n. -/
def waitB (ops : Array Oper) (n : Nat) : Bool := (List.range ops.size).all fun t => decide (t < n) || (List.range n).all (ancB .any ops ops.size t)
def drawCB (ops : Array Oper) (n : Nat) : Bool := decide (n < ops.size) && waitB ops n && lexC ops n n 0 (Array.replicate ops.size false)
/-- Behind the call: the others, in whatever order. -/
def CallQ (C : Ctx) (ops : Array Oper) (l : List Oper) (Q : Exit → St → Prop) : Exit → St → Prop
 | .normal, s => AD C ops l s (fun s' => AO C ops [] s' Q)
 | e, s => Q e s
end
end Go.Vm

/- Function values that have captured something: made, kept in a slice literal, called. -/
set_option linter.unusedVariables false
namespace Go.Vm
section
variable {C : Ctx} {Q : Exit → St → Prop} {ops : Array Oper} {rest : List Oper} {o : Oper} {e : List (Nat × SV)} {obs : List Ob} {d : Nat} {t ty : TypeId} {x y : Operand}
/-- A call of a function value that has captured something. -/
theorem EntersS.clo {f : FuncId} {x : Operand} {xs : List Operand} {ts : Array TypeId} {ys caps : List SV} (he : enters C.P f = true) (ho : o.op = .call { callee := .value x, args := xs.toArray, argTypes := ts }) (hc : opS ⟨e, obs⟩ x = some (.fv (.func f) [] caps)) (hx : mapO (opS ⟨e, obs⟩) xs = some ys) :
  EntersS C o ⟨e, obs⟩ f (ys ++ caps) := fun Ω a w hr => by
 obtain ⟨hlen, hi⟩ := mapO_get hx
 have hv := hr.eval hc
 generalize hev : a.eval x = v at hv
 cases hv with
 | fv _ _ _ fs cs hf hcl hfr hcr =>
  have hfs : fs = [] := List.length_eq_zero_iff.1 (by simpa using hf)
  subst hfs
  refine ⟨xs.map a.eval ++ cs, ?_, by simp [hlen, hcl], fun i z v hz hv => ?_⟩
  ·simp only [execOp, ho, resolve, hev, Deferred.ofValue, Sem.run_bind, Sem.run_pure, Result.andThen_ok, invoke, List.map_toArray, run_enters he]
   simp
  ·have hxl : (xs.map a.eval).length = ys.length := by simp [hlen]
   rcases Nat.lt_or_ge i ys.length with h | h
   ·rw [List.getElem?_append_left h] at hz
    rw [List.getElem?_append_left (by omega)] at hv
    simp only [List.getElem?_map, Option.map_eq_some_iff] at hv
    obtain ⟨q, hq, rfl⟩ := hv
    exact hr.eval (hi i q z hq hz)
   ·rw [List.getElem?_append_right h] at hz
    rw [List.getElem?_append_right (by omega), hxl] at hv
    exact hcr _ _ _ hz hv
end
section
variable {C : Ctx} {Q : Exit → St → Prop} {ops : Array Oper} {rest : List Oper} {o : Oper} {e : List (Nat × SV)} {obs : List Ob} {d : Nat}
end
/-- One of two ways, of which it may be open which: then both give the same. -/
noncomputable def agr {R : Type} (n i : Bool) (x y : Option R) : Option R := cond n (cond i x y) (x.bind fun r => y.bind fun r' => @ite _ (r = r') (Classical.propDecidable _) (some r) none)
/-- A pointer to a struct, in an interface value. -/
structure IfcV where
 mk ::
 (dt : TypeId)
 (cells : List D)
abbrev eIfc (x : IfcV) : D := .ifc x.dt (.pt x.cells)
/-- What cells are told of. -/
noncomputable def decodeD {α : Type} (c : α → List D) (l : List D) : Option α := @dite _ (∃ y, c y = l) (Classical.propDecidable _) (fun h => some (Classical.choose h)) (fun _ => none)
end Go.Vm

/- Constructors that are handed a slice of the caller's own, and keep it in the new block. -/
set_option linter.unusedVariables false
namespace Go.Vm
section
variable {C : Ctx} {Q : Exit → St → Prop} {ops : Array Oper} {rest : List Oper} {o : Oper} {e : List (Nat × SV)} {obs : List Ob} {d : Nat} {t ty : TypeId} {x y : Operand}
/-- An argument: data; or the own slice p. -/
def argT (p : Nat) (s : St) (x : Operand) : Option (Option D) := match opS s x with
 | some (.own q) => if q = p then some none else none
 | some y => (dataS 9 y).map some
 | none => none
def thruS (p : Nat) : Option D → SV
 | some y => .d y
 | none => .own p
end
end Go.Vm

/- Functions that are handed objects of their caller's own: what they do to them (FnH), and their calls. -/
set_option linter.unusedVariables false
set_option linter.unusedSimpArgs false
namespace Go.Vm
/- The objects are named anew. -/
mutual
def SV.ren (ρ : Nat → Nat) : SV → SV
 | .d x => .d x
 | .ptr o k => .ptr (ρ o) k
 | .sl o a b c e => .sl (ρ o) a b c e
 | .own o => .own (ρ o)
 | .pre o k => .pre (ρ o) k
 | .full a b => .full a b
 | .ep a b => .ep a b
 | .any => .any
 | .ag l => .ag (SV.renL ρ l)
 | .tu l => .tu (SV.renL ρ l)
 | .ifc t x => .ifc t (SV.ren ρ x)
 | .fv f a b => .fv f (SV.renL ρ a) (SV.renL ρ b)
termination_by structural x => x
def SV.renL (ρ : Nat → Nat) : List SV → List SV
 | [] => []
 | x :: r => SV.ren ρ x :: SV.renL ρ r
termination_by structural x => x
end
theorem SV.renL_eq (ρ : Nat → Nat) : ∀ l : List SV, SV.renL ρ l = l.map (SV.ren ρ)
 | [] => rfl
 | x :: r => by rw [SV.renL, SV.renL_eq ρ r]; rfl
def Ob.ren (ρ : Nat → Nat) : Ob → Ob
 | .fix t c => .fix t (c.map (SV.ren ρ))
 | .grow a b c => .grow a b c
 | .dead => .dead
 | .frame _ _ => .dead
inductive RenO (ρ : Nat → Nat) : List Ob → List Ob → Prop
 | nil : RenO ρ [] []
 | cons {a b : Ob} {l r : List Ob} (h : a.ren ρ = b) (t : RenO ρ l r) : RenO ρ (a :: l) (b :: r)
theorem RenO.eq {ρ : Nat → Nat} {a b : List Ob} (h : RenO ρ a b) : b = a.map (Ob.ren ρ) := by
 induction h with
 | nil => rfl
 | cons h t ih => rw [List.map_cons, h, ih]
theorem RepS.renIn {w : World} {ok ok' : Nat → Prop} {Ω Ω' : List Value} {ρ : Nat → Nat} {k : Nat} (hok : ∀ b, ok b → ok' b) (hΩ : ∀ i v, i < k → Ω[ρ i]? = some v → Ω'[i]? = some v) {x : SV} {v : Value} (hr : RepS w ok Ω x v) :
  ∀ {y : SV}, y.ren ρ = x → y.under k = true → RepS w ok' Ω' y v := by
 have hd' : ∀ {z : D} {u : Value}, RepD w ok z u → RepD w ok' z u := fun h => h.mono fun b hb => ⟨hok b hb, rfl⟩
 induction hr with
 | any v => intro y e hu; cases y <;> first | exact .any v | cases e
 | d x v hd => intro y e hu; cases y <;> first | (cases e; exact .d x v (hd' hd)) | cases e
 | ptr o off b ho => intro y e hu; cases y <;> first | (cases e; exact .ptr _ off b (hΩ _ _ (of_decide_eq_true hu) ho)) | cases e
 | ptrG o off b len cap ho => intro y e hu; cases y <;> first | (cases e; exact .ptrG _ off b len cap (hΩ _ _ (of_decide_eq_true hu) ho)) | cases e
 | sl o sz off len cap b ho => intro y e hu; cases y <;> first | (cases e; exact .sl _ sz off len cap b (hΩ _ _ (of_decide_eq_true hu) ho)) | cases e
 | own o v ho h1 => intro y e hu; cases y <;> first | (cases e; exact .own _ v (hΩ _ _ (of_decide_eq_true hu) ho) h1) | cases e
 | pre o k n cap a ho hk => intro y e hu; cases y <;> first | (cases e; exact .pre _ k n cap a (hΩ _ _ (of_decide_eq_true hu) ho) hk) | cases e
 | full sz cells a n hd => intro y e hu; cases y <;> first | (cases e; exact .full sz cells a n (hd' hd)) | cases e
 | ep b off i cells vals hb hcell hr => intro y e hu; cases y <;> first | (cases e; exact .ep b off i cells vals (hok b hb) hcell (fun j x hj => hd' (hr j x hj))) | cases e
 | ag cells vs hl _ ih =>
  intro y e hu
  cases y with
  | ag l =>
   simp only [SV.ren, SV.ag.injEq] at e
   rw [SV.renL_eq] at e
   subst e
   refine .ag l vs (by rw [hl, List.length_map]) fun i x y hx hy => ih i _ y (by rw [List.getElem?_map, hx]; rfl) hy rfl (SV.underL_get hu hx)
  | _ => cases e
 | tu cells vs hl _ ih =>
  intro y e hu
  cases y with
  | tu l =>
   simp only [SV.ren, SV.tu.injEq] at e
   rw [SV.renL_eq] at e
   subst e
   refine .tu l vs (by rw [hl, List.length_map]) fun i x y hx hy => ih i _ y (by rw [List.getElem?_map, hx]; rfl) hy rfl (SV.underL_get hu hx)
  | _ => cases e
 | ifc t x u _ ih =>
  intro y e hu
  cases y with
  | ifc t' x' => simp only [SV.ren, SV.ifc.injEq] at e; obtain ⟨rfl, e⟩ := e; exact .ifc _ _ u (ih e hu)
  | _ => cases e
 | fv fn first caps fs cs hf hc _ _ ih1 ih2 =>
  intro y e hu
  cases y with
  | fv f' a b =>
   simp only [SV.ren, SV.fv.injEq] at e
   rw [SV.renL_eq, SV.renL_eq] at e
   obtain ⟨rfl, rfl, rfl⟩ := e
   have hb2 : SV.underL k a = true ∧ SV.underL k b = true := by simpa only [SV.under, Bool.and_eq_true] using hu
   exact .fv _ a b fs cs (by rw [hf, List.length_map]) (by rw [hc, List.length_map]) (fun i x y hx hy => ih1 i _ y (by rw [List.getElem?_map, hx]; rfl) hy rfl (SV.underL_get hb2.1 hx)) (fun i x y hx hy => ih2 i _ y (by rw [List.getElem?_map, hx]; rfl) hy rfl (SV.underL_get hb2.2 hx))
  | _ => cases e
theorem RepS.renOut {w : World} {ok ok' : Nat → Prop} {Ω Ω' : List Value} {ρ : Nat → Nat} (hok : ∀ b, ok b → ok' b) (hΩ : ∀ i v, Ω[i]? = some v → Ω'[ρ i]? = some v) {x : SV} {v : Value} (hr : RepS w ok Ω x v) :
  RepS w ok' Ω' (x.ren ρ) v := by
 have hd' : ∀ {z : D} {u : Value}, RepD w ok z u → RepD w ok' z u := fun h => h.mono fun b hb => ⟨hok b hb, rfl⟩
 have key : ∀ {l : List SV} {vs : List Value}, (∀ (i : Nat) x y, l[i]? = some x → vs[i]? = some y → RepS w ok' Ω' (x.ren ρ) y) → ∀ (i : Nat) x y, (SV.renL ρ l)[i]? = some x → vs[i]? = some y → RepS w ok' Ω' x y := fun {l vs} h i x y hx hy => by
  rw [SV.renL_eq, List.getElem?_map, Option.map_eq_some_iff] at hx
  obtain ⟨z, hz, rfl⟩ := hx
  exact h i z y hz hy
 induction hr with
 | any v => exact .any v
 | d x v hd => exact .d x v (hd' hd)
 | ptr o off b ho => exact .ptr _ off b (hΩ _ _ ho)
 | ptrG o off b len cap ho => exact .ptrG _ off b len cap (hΩ _ _ ho)
 | sl o sz off len cap b ho => exact .sl _ sz off len cap b (hΩ _ _ ho)
 | own o v ho h1 => exact .own _ v (hΩ _ _ ho) h1
 | pre o k n cap a ho hk => exact .pre _ k n cap a (hΩ _ _ ho) hk
 | full sz cells a n hd => exact .full sz cells a n (hd' hd)
 | ep b off i cells vals hb hcell hr => exact .ep b off i cells vals (hok b hb) hcell (fun j x hj => hd' (hr j x hj))
 | ag cells vs hl _ ih => exact .ag _ vs (by rw [SV.renL_eq, List.length_map]; exact hl) (key ih)
 | tu cells vs hl _ ih => exact .tu _ vs (by rw [SV.renL_eq, List.length_map]; exact hl) (key ih)
 | ifc t x u _ ih => exact .ifc t _ u ih
 | fv fn first caps fs cs hf hc _ _ ih1 ih2 => exact .fv fn _ _ fs cs (by rw [SV.renL_eq, List.length_map]; exact hf) (by rw [SV.renL_eq, List.length_map]; exact hc) (key ih1) (key ih2)

/-! ### The contract -/
abbrev hctx (P : Program) (W : World) (ok : Nat → Prop) (may : List Nat) (n : Nat) : Ctx := ⟨P, W, ok, may, n, []⟩
/-- Function f, handed ys and the objects pre (which ys and they themselves name by their place), gives some result and leaves some objects; those at pins stay where they are. -/
def FnH (P : Program) (f : FuncId) (ys : List SV) (pre : List Ob) (pins : List Nat) (R : SV → List Ob → Prop) : Prop :=
 enters P f = true ∧ ∀ (W : World) (ok : Nat → Prop) (may : List Nat) (Ω vs : List Value), Mem (hctx P W ok may 0) pre Ω W → (∀ b, ok b → b < W.heap.size) → vs.length = ys.length →
  (∀ (i : Nat) y v, ys[i]? = some y → vs[i]? = some v → RepS W (okB (hctx P W ok may 0) pre Ω W) Ω y v) →
  Calls P f vs.toArray W fun e w' => ∃ v r post Ω', e = .returned v ∧ R r post ∧ post.length = pre.length ∧ r.under pre.length = true ∧ post.all (Ob.under pre.length) = true ∧ Mem (hctx P W ok may 0) post Ω' w' ∧
   RepS w' (okB (hctx P W ok may 0) post Ω' w') Ω' r v ∧ ∀ i, i ∈ pins → Ω'[i]? = Ω[i]?
theorem FnH.mono {P : Program} {f : FuncId} {ys : List SV} {pre : List Ob} {pins : List Nat} {R R' : SV → List Ob → Prop} (h : FnH P f ys pre pins R) (hR : ∀ r post, R r post → R' r post) : FnH P f ys pre pins R' :=
 ⟨h.1, fun W ok may Ω vs h0 h1 h2 h3 => (h.2 W ok may Ω vs h0 h1 h2 h3).mono fun e w' ⟨v, r, post, Ω', he, hr, rest⟩ => ⟨v, r, post, Ω', he, hR r post hr, rest⟩⟩

/-- What is held as data, in objects behind the k-th. -/
def viewH (k : Nat) : Nat → List Ob → SV → Option D
 | 0, _, _ => none
 | n + 1, obs, x => match x with
  | .d y => some y
  | .ptr p off => if p ≤ k then none else match obs[p]? with
   | some (.fix ty cells) => (mapO (viewH k n obs) (cells.drop off)).map .pt
   | _ => none
  | .own p => if p ≤ k then none else match obs[p]? with
   | some (.grow ty sz cells) => some (.ds sz cells)
   | _ => none
  | .sl p sz off len cap => if p ≤ k then none else match obs[p]? with
   | some (.fix ty cells) => if off + len * sz ≤ cells.length ∧ len ≤ cap then (mapO (viewH k n obs) ((cells.drop off).take (len * sz))).map (.ds sz) else none
   | _ => none
  | .ep cells i => some (.pt (cells.drop i))
  | .ag l => (mapO (viewH k n obs) l).map .ag
  | .tu l => (mapO (viewH k n obs) l).map .tu
  | .ifc t x => (viewH k n obs x).map (.ifc t)
  | .fv (.func f) [] l => (mapO (viewH k n obs) l).map (.clo f)
  | .fv _ _ _ => none
  | .pre _ _ => none
  | .full sz cells => some (.ds sz cells)
  | .any => none
theorem take_lt {α : Type} {l : List α} {k i : Nat} {x : α} (h : (l.take k)[i]? = some x) : i < k ∧ l[i]? = some x := by
 rw [List.getElem?_take] at h
 split at h
 ·exact ⟨by assumption, h⟩
 ·cases h
theorem viewH_rep {C : Ctx} {obs : List Ob} {Ω : List Value} {w : World} {k : Nat} (hm : Mem C obs Ω w) : ∀ (n : Nat) {x : SV} {v : Value} {y : D}, viewH k n obs x = some y → RepS w (okB C obs Ω w) Ω x v → RepD w (okB C (obs.take k) (Ω.take k) w) y v := by
 have hok : ∀ b, okB C obs Ω w b → okB C (obs.take k) (Ω.take k) w b := fun b h => ⟨h.1, h.2.1, fun i ob p e1 l e2 => h.2.2 i ob p (take_lt e1).2 l (take_lt e2).2⟩
 have hnew : ∀ {p : Nat} {ob : Ob} {h : Value} {b : Nat}, ¬ p ≤ k → obs[p]? = some ob → ob.live = true → Ω[p]? = some h → blk h = some b → okB C (obs.take k) (Ω.take k) w b := fun {p ob h b} hp e1 l e2 hb => by
  refine ⟨.inr ?_, (hm.obj p ob h e1 e2).lt l hb, fun i ob' q f1 l2 f2 => ?_⟩
  ·rcases hm.new p ob h b e1 l e2 hb with h | h
   ·exact .inl h
   ·exact .inr h
  ·obtain ⟨hi, f1⟩ := take_lt f1
   exact hm.sep p i ob ob' h q b (by omega) e1 f1 l l2 e2 (take_lt f2).2 hb
 intro n
 induction n with
 | zero => intro x v y h; cases h
 | succ n ih =>
  intro x v y h hr
  cases hr with
  | any => cases h
  | pre => cases h
  | full sz cells a n hd => cases h; exact hd.mono fun b hb => ⟨hok b hb, rfl⟩
  | d x v hd => cases h; exact hd.mono fun b hb => ⟨hok b hb, rfl⟩
  | ptr p off b hb =>
   simp only [viewH] at h
   split at h
   ·cases h
   rename_i hpk
   split at h
   ·rename_i ty cells hp
    obtain ⟨ys, hy, rfl⟩ := Option.map_eq_some_iff.1 h
    obtain ⟨hl, hi⟩ := mapO_get hy
    obtain ⟨b', vs, he, hw, hvl, hrr, h1⟩ := hm.obj p _ _ hp hb
    cases he
    refine .pt b off ys (fun i => (vs.drop off).getD i undef) (hnew hpk hp rfl hb rfl) (fun i hi' => ?_) (fun i z hz => ?_)
    ·have hlt : off + i < vs.length := by simp at hl; omega
     rw [cell_of_row w b (off + i) _ ty (0, 0) hw]; simp [hlt]
    ·have hlt := (List.getElem?_eq_some_iff.1 hz).1
     have hlt2 : off + i < cells.length := by simp at hl; omega
     have hc : (cells.drop off)[i]? = some cells[off + i] := by rw [List.getElem?_drop]; exact List.getElem?_eq_getElem hlt2
     have hv : vs[off + i]? = some vs[off + i] := List.getElem?_eq_getElem (by omega)
     have e : (vs.drop off).getD i undef = vs[off + i] := by simp [hv]
     rw [e]
     exact ih (hi i _ _ hc hz) (hrr (off + i) _ _ (List.getElem?_eq_getElem hlt2) hv)
   ·cases h
  | ptrG p off b len cap hb =>
   simp only [viewH] at h
   split at h
   ·cases h
   split at h
   ·rename_i ty cells hp
    obtain ⟨b', vs, he, _⟩ := hm.obj p _ _ hp hb
    cases he
   ·cases h
  | sl p sz off len cap b hb =>
   simp only [viewH] at h
   split at h
   ·cases h
   rename_i hpk
   split at h
   ·rename_i ty cells hp
    split at h
    ·rename_i hle
     obtain ⟨ys, hy, rfl⟩ := Option.map_eq_some_iff.1 h
     obtain ⟨hl, hi⟩ := mapO_get hy
     obtain ⟨b', vs, he, hw, hvl, hrr, h1⟩ := hm.obj p _ _ hp hb
     cases he
     have hyl : ys.length = len * sz := by rw [hl]; simp; omega
     refine .ds sz b off len cap ys (fun i => (vs.drop off).getD i undef) hyl hle.2 (hnew hpk hp rfl hb rfl) (fun i hi' => ?_) (fun i z hz => ?_)
     ·have hlt : off + i < vs.length := by omega
      rw [cell_of_row w b (off + i) _ ty (0, 0) hw]; simp [hlt]
     ·have hlt := (List.getElem?_eq_some_iff.1 hz).1
      have hlt2 : off + i < cells.length := by omega
      have hc : ((cells.drop off).take (len * sz))[i]? = some cells[off + i] := by rw [List.getElem?_take, if_pos (by omega), List.getElem?_drop]; exact List.getElem?_eq_getElem hlt2
      have hv : vs[off + i]? = some vs[off + i] := List.getElem?_eq_getElem (by omega)
      have e : (vs.drop off).getD i undef = vs[off + i] := by simp [hv]
      rw [e]
      exact ih (hi i _ _ hc hz) (hrr (off + i) _ _ (List.getElem?_eq_getElem hlt2) hv)
    ·cases h
   ·cases h
  | own p v hb hb1 =>
   simp only [viewH] at h
   split at h
   ·cases h
   rename_i hpk
   split at h
   ·rename_i ty sz cells hp
    cases h
    obtain ⟨m, xs, how, hxl, hrr⟩ := hm.obj p _ _ hp hb
    rcases how.2 with ⟨rfl, h0⟩ | ⟨g, cap, cur, rfl, hbg, hg, hnc, hcm, hcs, htake⟩
    ·have : cells = [] := by
      have h2 := how.1; subst h0; rw [Nat.zero_mul] at h2
      exact List.eq_nil_of_length_eq_zero (by omega)
     subst this
     exact .nil sz none 0
    ·refine .ds sz g 0 m cap cells (fun i => xs.getD i undef) (by rw [← hxl, how.1]) hnc (hnew hpk hp rfl hb rfl) (fun i hi => ?_) (fun i z hz => ?_)
     ·have hlt : i < xs.length := by omega
      have hx : xs[i]? = some xs[i] := List.getElem?_eq_getElem hlt
      have := how.cells (g := g) rfl i _ hx
      rw [Addr.add_of] at this
      rw [this]; simp [hx]
     ·have hlt := (List.getElem?_eq_some_iff.1 hz).1
      have hx : xs[i]? = some xs[i] := List.getElem?_eq_getElem (by omega)
      have e : xs.getD i undef = xs[i] := by simp [hx]
      rw [e]
      exact (hrr i _ _ hz hx).mono fun b hb => ⟨hok b hb, rfl⟩
   ·cases h
  | ep b off i cells vals hb hc hrr =>
   cases h
   refine .pt b (off + i) _ (fun j => vals (i + j)) (hok b hb) (fun j hj => ?_) (fun j z hz => ?_)
   ·rw [Nat.add_assoc]; exact hc (i + j) (by simp at hj; omega)
   ·rw [List.getElem?_drop] at hz; exact (hrr _ _ hz).mono fun b hb => ⟨hok b hb, rfl⟩
  | ag cells vs hl hrr =>
   simp only [viewH] at h
   obtain ⟨ys, hy, rfl⟩ := Option.map_eq_some_iff.1 h
   obtain ⟨hl2, hi⟩ := mapO_get hy
   refine .ag ys vs (by omega) fun i p q hp hq => ?_
   have hlt := (List.getElem?_eq_some_iff.1 hp).1
   have hc : cells[i]? = some cells[i] := List.getElem?_eq_getElem (by omega)
   exact ih (hi i _ _ hc hp) (hrr i _ _ hc hq)
  | tu cells vs hl hrr =>
   simp only [viewH] at h
   obtain ⟨ys, hy, rfl⟩ := Option.map_eq_some_iff.1 h
   obtain ⟨hl2, hi⟩ := mapO_get hy
   refine .tu ys vs (by omega) fun i p q hp hq => ?_
   have hlt := (List.getElem?_eq_some_iff.1 hp).1
   have hc : cells[i]? = some cells[i] := List.getElem?_eq_getElem (by omega)
   exact ih (hi i _ _ hc hp) (hrr i _ _ hc hq)
  | ifc t x u hx =>
   simp only [viewH] at h
   obtain ⟨z, hz, rfl⟩ := Option.map_eq_some_iff.1 h
   exact .ifc t z u (ih hz hx)
  | fv fn first caps fs cs hf hc h1 h2 =>
   cases fn <;> first | (cases h; done) | skip
   cases first with
   | cons _ _ => cases h
   | nil =>
    have hfs : fs = [] := List.length_eq_zero_iff.1 (by simpa using hf)
    subst hfs
    simp only [viewH] at h
    obtain ⟨ys, hy, rfl⟩ := Option.map_eq_some_iff.1 h
    obtain ⟨hl2, hi⟩ := mapO_get hy
    refine .clo _ ys cs (by omega) fun i p q hp hq => ?_
    have hlt := (List.getElem?_eq_some_iff.1 hp).1
    have hc : caps[i]? = some caps[i] := List.getElem?_eq_getElem (by omega)
    exact ih (hi i _ _ hc hp) (h2 i _ _ hc hq)
/-- What a result is behind the end: data, or what names objects that were handed. -/
def finH (k : Nat) (obs : List Ob) (x : SV) : Option SV := match viewH k 9 obs x with
 | some y => some (.d y)
 | none => if x.under k = true then some x else none
def resH (P : Program) (k : Nat) (s : St) (rs : List ResultVar) : Option SV :=
 match mapO (fun r => match resV P s r with | some x => finH k s.obs x | none => none) rs with
 | some [y] => some y
 | some ys => some (.tu ys)
 | none => none
theorem finH_rep {C : Ctx} {obs : List Ob} {Ω : List Value} {w : World} {k : Nat} (hm : Mem C obs Ω w) {x y : SV} {v : Value} (h : finH k obs x = some y) (hr : RepS w (okB C obs Ω w) Ω x v) : RepS w (okB C (obs.take k) (Ω.take k) w) (Ω.take k) y v ∧ y.under k = true := by
 have hok : ∀ b, okB C obs Ω w b → okB C (obs.take k) (Ω.take k) w b := fun b h => ⟨h.1, h.2.1, fun i ob p e1 l e2 => h.2.2 i ob p (take_lt e1).2 l (take_lt e2).2⟩
 unfold finH at h
 split at h
 ·rename_i z hz
  cases h
  exact ⟨.d _ _ (viewH_rep hm 9 hz hr), rfl⟩
 ·split at h
  ·rename_i hu
   cases h
   exact ⟨hr.take hok hu, hu⟩
  ·cases h
theorem underL_of {k : Nat} : ∀ {l : List SV}, (∀ x, x ∈ l → x.under k = true) → SV.underL k l = true
 | [], _ => rfl
 | x :: r, h => by simp only [SV.underL, Bool.and_eq_true]; exact ⟨h x (by simp), underL_of fun y hy => h y (by simp [hy])⟩
theorem resH_rep {C : Ctx} {s : St} {Ω : List Value} {a : Act} {w : World} {k : Nat} (hr : Rel C s Ω a w) {fn : Func} {y : SV} (h : resH C.P k s fn.results.toList = some y) :
  ∃ v, (results fn a.tmps).run C.P w = .ok v w ∧ RepS w (okB C (s.obs.take k) (Ω.take k) w) (Ω.take k) y v ∧ y.under k = true := by
 have key : ∀ (l : List ResultVar) (ys : List SV), mapO (fun r => match resV C.P s r with | some x => finH k s.obs x | none => none) l = some ys →
   ∃ vs : List Value, (l.mapM (resSem a.tmps)).run C.P w = .ok vs w ∧ vs.length = ys.length ∧
    ∀ (i : Nat) p q, ys[i]? = some p → vs[i]? = some q → RepS w (okB C (s.obs.take k) (Ω.take k) w) (Ω.take k) p q ∧ p.under k = true := by
  intro l
  induction l with
  | nil => intro ys h; cases h; exact ⟨[], rfl, rfl, fun i p q hp => by simp at hp⟩
  | cons r l ih =>
   intro ys h
   simp only [mapO] at h
   split at h
   ·rename_i y hy
    split at h
    ·rename_i t ht
     cases h
     obtain ⟨vs, hrun, hl, hrr⟩ := ih t ht
     split at hy
     ·rename_i x hx
      obtain ⟨v, hv, hrep⟩ := resV_rep hr hx
      refine ⟨v :: vs, ?_, by simp [hl], fun i p q hp hq => ?_⟩
      ·simp [List.mapM_cons, hv, hrun]
      ·cases i with
       | zero => simp at hp hq; subst hp; subst hq; exact finH_rep hr.mem hy hrep
       | succ i => simp at hp hq; exact hrr i p q hp hq
     ·cases hy
    ·cases h
   ·cases h
 unfold resH at h
 split at h
 ·rename_i y' hys
  cases h
  obtain ⟨vs, hrun, hl, hrr⟩ := key _ _ hys
  match vs, hl with
  | [v], _ =>
   refine ⟨v, ?_, hrr 0 _ _ rfl rfl⟩
   rw [results_eq]
   rw [← Array.toArray_toList (xs := fn.results), List.mapM_toArray]
   simp [hrun]
 ·rename_i ys hne hys
  cases h
  obtain ⟨vs, hrun, hl, hrr⟩ := key _ _ hys
  refine ⟨.tuple vs.toArray, ?_, .tu ys vs hl fun i p q hp hq => (hrr i p q hp hq).1, underL_of fun x hx => ?_⟩
  ·have h1 : ¬ vs.length = 1 := fun e => by
    rw [hl] at e
    match ys, e with
    | [y], _ => exact hne y rfl
   rw [results_eq]
   rw [← Array.toArray_toList (xs := fn.results), List.mapM_toArray]
   simp [hrun, h1]
  ·obtain ⟨i, hi, hx⟩ := List.mem_iff_getElem.1 hx
   have hlt : i < vs.length := by omega
   exact (hrr i x vs[i] (by rw [List.getElem?_eq_getElem hi, hx]) (List.getElem?_eq_getElem hlt)).2
 ·cases h
/-- Where the handed objects stand, as slots of a frame. -/
def pinE : Nat → List Ob → List (Nat × SV)
 | _, [] => []
 | i, .fix _ _ :: r => (i, .ptr i 0) :: pinE (i + 1) r
 | i, .grow _ _ _ :: r => (i, .own i) :: pinE (i + 1) r
 | i, _ :: r => pinE (i + 1) r
theorem pinE_get : ∀ (l : List Ob) (i t : Nat) (x : SV), get (pinE i l) t = some x → i ≤ t ∧ ((x = .ptr t 0 ∧ ∃ ty c, l[t - i]? = some (.fix ty c)) ∨ (x = .own t ∧ ∃ ty s c, l[t - i]? = some (.grow ty s c)))
 | [], i, t, x, h => by cases h
 | ob :: r, i, t, x, h => by
  have nx : get (pinE (i + 1) r) t = some x → i ≤ t ∧ ((x = .ptr t 0 ∧ ∃ ty c, (ob :: r)[t - i]? = some (.fix ty c)) ∨ (x = .own t ∧ ∃ ty s c, (ob :: r)[t - i]? = some (.grow ty s c))) := fun h => by
   obtain ⟨hle, h2⟩ := pinE_get r (i + 1) t x h
   have e : t - i = (t - (i + 1)) + 1 := by omega
   rw [e]
   exact ⟨by omega, by simpa using h2⟩
  cases ob with
  | fix ty c =>
   simp only [pinE, get] at h
   split at h
   ·rename_i e; subst e; cases h; exact ⟨Nat.le_refl _, .inl ⟨rfl, ty, c, by simp⟩⟩
   ·exact nx h
  | grow ty s c =>
   simp only [pinE, get] at h
   split at h
   ·rename_i e; subst e; cases h; exact ⟨Nat.le_refl _, .inr ⟨rfl, ty, s, c, by simp⟩⟩
   ·exact nx h
  | dead => exact nx h
  | frame a b => exact nx h
def pinB (k : Nat) (env : List (Nat × SV)) (obs : List Ob) (i : Nat) : Bool := decide (i < k) && match get env i with
 | some (.ptr j 0) => decide (j = i) && match obs[i]? with
  | some (.fix _ _) => true
  | _ => false
 | some (.own j) => decide (j = i)
 | _ => false
/-- Behind the end of a function that was handed objects. -/
def RetH (P : Program) (rs : List ResultVar) (k : Nat) (pv : Array Value) (pins : List Nat) (R : SV → List Ob → Prop) : Exit → St → Prop
 | .normal, s => ∃ r env, resH P k s rs = some r ∧ s.obs[k]? = some (.frame pv env) ∧ pins.all (pinB k env s.obs) = true ∧ (s.obs.take k).all (Ob.under k) = true ∧ R r (s.obs.take k)
 | .ret, s => ∃ r env, resH P k s rs = some r ∧ s.obs[k]? = some (.frame pv env) ∧ pins.all (pinB k env s.obs) = true ∧ (s.obs.take k).all (Ob.under k) = true ∧ R r (s.obs.take k)
 | _, _ => False
theorem reth {P : Program} {s : St} {rs : List ResultVar} {k : Nat} {pv : Array Value} {pins : List Nat} {R : SV → List Ob → Prop} {r : SV} {env : List (Nat × SV)} {post : List Ob} (h1 : resH P k s rs = some r) (h2 : s.obs[k]? = some (.frame pv env)) (h3 : pins.all (pinB k env s.obs) = true)
  (h4 : s.obs.take k = post) (h5 : post.all (Ob.under k) = true) (h6 : R r post) : RetH P rs k pv pins R .ret s := by subst h4; exact ⟨r, env, h1, h2, h3, h5, h6⟩
theorem FnH.of {P : Program} {f : FuncId} {fn : Func} {c : Code} {ys : List SV} {pre : List Ob} {pins : List Nat} {R : SV → List Ob → Prop} {n : Nat} {rs : List ResultVar} (he : enters P f = true) (hf : P.funcs[f]? = some fn) (hb : fn.body = some c) (hnt : fn.ntmps = n) (hrs : fn.results = rs.toArray) (hn : ys.length ≤ n)
  (h : ∀ (W : World) (ok : Nat → Prop) (may : List Nat) (pv : Array Value), AC (hctx P W ok may n) c ⟨enumS 0 ys, pre ++ [.frame pv (pinE 0 pre)]⟩ (RetH P rs pre.length pv pins R)) : FnH P f ys pre pins R := by
 subst hnt
 have hrl : fn.results.toList = rs := by rw [hrs]
 subst hrl
 refine ⟨he, fun W ok may Ω vs hm hokl hl hrep => calls_of_wp hf hb ?_⟩
 have hm' : Mem (hctx P W ok may fn.ntmps) pre Ω W := ⟨hm.len, hm.obj, hm.sep, hm.new, ⟨hm.fr.os, hm.fr.tape, hm.fr.output, hm.fr.size, hm.fr.block, hm.fr.glob, hm.fr.gmay⟩⟩
 obtain ⟨hmf, hokf⟩ := hm'.frame Ω.toArray (pinE 0 pre) fun t x hx => by
  obtain ⟨_, h2⟩ := pinE_get pre 0 t x hx
  rw [Nat.sub_zero] at h2
  rcases h2 with ⟨rfl, ty, c, h3⟩ | ⟨rfl, ty, s, c, h3⟩
  ·have hlt := (List.getElem?_eq_some_iff.1 h3).1
   have hΩ : Ω[t]? = some (Ω[t]'(by have := hm.len; omega)) := List.getElem?_eq_getElem _
   obtain ⟨b, us, hb2, _⟩ := hm'.obj t _ _ h3 hΩ
   rw [hb2] at hΩ
   exact ⟨_, by simpa using hΩ, .ptr t 0 b hΩ⟩
  ·have hlt := (List.getElem?_eq_some_iff.1 h3).1
   have hΩ : Ω[t]? = some (Ω[t]'(by have := hm.len; omega)) := List.getElem?_eq_getElem _
   obtain ⟨m, xs, how, _⟩ := hm'.obj t _ _ h3 hΩ
   exact ⟨_, by simp, .own t _ hΩ (by rcases how.2 with ⟨h, _⟩ | ⟨g, cap, cur, h, _⟩ <;> rw [h] <;> rfl)⟩
 have hrel : Rel (hctx P W ok may fn.ntmps) ⟨enumS 0 ys, pre ++ [.frame Ω.toArray (pinE 0 pre)]⟩ (Ω ++ [undef]) { tmps := vs.toArray ++ Array.replicate (fn.ntmps - vs.toArray.size) undef, defers := [] } W := by
  refine ⟨rfl, by simp; omega, fun t x hx => ?_, hmf⟩
  obtain ⟨_, hy⟩ := enumS_get ys 0 t x hx
  rw [Nat.sub_zero] at hy
  have hlt := (List.getElem?_eq_some_iff.1 hy).1
  have hv : vs[t]? = some vs[t] := List.getElem?_eq_getElem (by omega)
  refine ⟨vs[t], ?_, (hrep t _ _ hy hv).mono (fun b hb => ⟨hokf b hb, rfl⟩) (fun o v e => get_left e)⟩
  rw [Array.getElem?_append_left (by simp; omega)]
  simp
 refine wp_mono (h W ok may _ _ _ W hrel) fun ed a w ⟨s, Ω', hr, hq⟩ => ?_
 have fin : (∃ r env, resH P pre.length s fn.results.toList = some r ∧ s.obs[pre.length]? = some (.frame Ω.toArray env) ∧ pins.all (pinB pre.length env s.obs) = true ∧ (s.obs.take pre.length).all (Ob.under pre.length) = true ∧ R r (s.obs.take pre.length)) → a.defers = [] ∧ ∃ v, (results fn a.tmps).run P w = .ok v w ∧
   ∃ v_1 r post Ω'', Ending.returned v = Ending.returned v_1 ∧ R r post ∧ post.length = pre.length ∧ r.under pre.length = true ∧ post.all (Ob.under pre.length) = true ∧ Mem (hctx P W ok may 0) post Ω'' w ∧ RepS w (okB (hctx P W ok may 0) post Ω'' w) Ω'' r v_1 ∧ ∀ i, i ∈ pins → Ω''[i]? = Ω[i]? := by
  intro ⟨r, env, h1, h2, h3, h4, h5⟩
  obtain ⟨v, hv, hrv, hu⟩ := resH_rep (C := hctx P W ok may fn.ntmps) hr h1
  obtain ⟨hmt, _⟩ := hr.mem.take pre.length h4
  have hlen2 := (List.getElem?_eq_some_iff.1 h2).1
  refine ⟨hr.defers, v, hv, v, r, s.obs.take pre.length, Ω'.take pre.length, rfl, h5, by simp; omega, hu, h4, ⟨hmt.len, hmt.obj, hmt.sep, hmt.new, ⟨hmt.fr.os, hmt.fr.tape, hmt.fr.output, hmt.fr.size, hmt.fr.block, hmt.fr.glob, hmt.fr.gmay⟩⟩, hrv, fun i hi => ?_⟩
  have hp := List.all_eq_true.1 h3 i hi
  unfold pinB at hp
  simp only [Bool.and_eq_true, decide_eq_true_eq] at hp
  obtain ⟨hik, hp⟩ := hp
  rw [List.getElem?_take, if_pos hik]
  obtain ⟨hh, hΩh⟩ : ∃ h, Ω'[pre.length]? = some h := ⟨_, List.getElem?_eq_getElem (by have := hr.mem.len; omega)⟩
  have hF := hr.mem.obj _ _ _ h2 hΩh
  split at hp
  ·rename_i j hg
   simp only [Bool.and_eq_true, decide_eq_true_eq] at hp
   obtain ⟨rfl, hp⟩ := hp
   split at hp
   ·rename_i ty c hob
    obtain ⟨u, hu1, hu2⟩ := hF.2 j _ hg
    have hΩj : Ω[j]? = some u := by simpa using hu1
    rw [hΩj]
    cases hu2 with
    | ptr _ _ b hb => exact hb
    | ptrG _ _ b len cap hb =>
     obtain ⟨b', us, he', _⟩ := hr.mem.obj j _ _ hob hb
     cases he'
   ·cases hp
  ·rename_i j hg
   obtain rfl : j = i := by simpa using hp
   obtain ⟨u, hu1, hu2⟩ := hF.2 j _ hg
   have hΩj : Ω[j]? = some u := by simpa using hu1
   rw [hΩj]
   cases hu2 with
   | own _ _ hb _ => exact hb
  ·cases hp
 cases ed with
 | normal => exact fin hq
 | ret => exact fin hq
 | _ => exact hq.elim

/-! ### The call -/
/-- Places of a list get new entries. -/
def setL {α : Type} : List α → List Nat → List α → List α
 | l, [], _ => l
 | l, _ :: _, [] => l
 | l, i :: is, x :: xs => setL (l.set i x) is xs
theorem setL_len {α : Type} : ∀ (l : List α) (is : List Nat) (xs : List α), (setL l is xs).length = l.length
 | l, [], xs => by simp only [setL]
 | l, i :: is, [] => rfl
 | l, i :: is, x :: xs => by rw [setL, setL_len]; simp
theorem setL_other {α : Type} : ∀ (l : List α) (is : List Nat) (xs : List α) {j : Nat}, j ∉ is → (setL l is xs)[j]? = l[j]?
 | l, [], xs, j, h => by simp only [setL]
 | l, i :: is, [], j, h => rfl
 | l, i :: is, x :: xs, j, h => by
  rw [setL, setL_other _ _ _ (fun hm => h (by simp [hm])), List.getElem?_set_ne (fun e => h (by simp [e]))]
theorem setL_at {α : Type} : ∀ (l : List α) (is : List Nat) (xs : List α), is.Nodup → is.length = xs.length → (∀ i, i ∈ is → i < l.length) → ∀ {k j : Nat}, is[k]? = some j → (setL l is xs)[j]? = xs[k]?
 | l, [], _, _, _, _, k, j, h => by simp at h
 | l, i :: is, [], _, hl, _, k, j, h => by simp at hl
 | l, i :: is, x :: xs, hn, hl, hb, k, j, h => by
  rw [List.nodup_cons] at hn
  cases k with
  | zero =>
   simp at h
   subst h
   rw [setL, setL_other _ _ _ hn.1, List.getElem?_set_self (hb i (by simp))]
   rfl
  | succ k =>
   simp at h
   rw [setL]
   have := setL_at (l.set i x) is xs hn.2 (by simpa using hl) (fun j hj => by simp; exact hb j (by simp [hj])) h
   rw [this]; simp
theorem setL_elim {α : Type} {l : List α} {is : List Nat} {xs : List α} (hn : is.Nodup) (hl : is.length = xs.length) (hb : ∀ i, i ∈ is → i < l.length) {j : Nat} {y : α} (h : (setL l is xs)[j]? = some y) : (∃ k : Nat, is[k]? = some j ∧ xs[k]? = some y) ∨ (j ∉ is ∧ l[j]? = some y) := by
 by_cases hj : j ∈ is
 ·obtain ⟨k, hk⟩ := List.mem_iff_getElem?.1 hj
  exact .inl ⟨k, hk, by rw [← setL_at l is xs hn hl hb hk]; exact h⟩
 ·exact .inr ⟨hj, by rw [← setL_other l is xs hj]; exact h⟩
/-- The slots that lead to none of some objects. -/
def dropL (qs : List Nat) (e : List (Nat × SV)) : List (Nat × SV) := qs.foldl (fun e q => dropO q [] e) e
theorem dropL_get {qs : List Nat} : ∀ {e : List (Nat × SV)} {t : Nat} {x : SV}, get (dropL qs e) t = some x → get e t = some x ∧ ∀ q, q ∈ qs → x.noO q = true := by
 induction qs with
 | nil => intro e t x h; exact ⟨h, fun q hq => by simp at hq⟩
 | cons q qs ih =>
  intro e t x h
  obtain ⟨h1, h2⟩ := ih (e := dropO q [] e) h
  obtain ⟨_, h3, h4⟩ := dropO_get h1
  exact ⟨h3, fun p hp => by
   rcases List.mem_cons.1 hp with rfl | hp
   ·exact h4
   ·exact h2 p hp⟩
/-- What holds of a value, if none of some objects' heads that it names has turned. -/
theorem RepS.noL {w w' : World} {ok ok' : Nat → Prop} {Ω Ω' : List Value} {qs : List Nat} (h : ∀ b, ok b → ok' b ∧ w'.heap[b]? = w.heap[b]?) (hΩ : ∀ i v, i ∉ qs → Ω[i]? = some v → Ω'[i]? = some v) {x : SV} {v : Value} (hr : RepS w ok Ω x v) :
  (∀ q, q ∈ qs → x.noO q = true) → RepS w' ok' Ω' x v := by
 have ht : ∀ {o : Nat} {v : Value}, (∀ q, q ∈ qs → (o != q) = true) → Ω[o]? = some v → Ω'[o]? = some v := fun {o v} ho e => hΩ o v (fun hm => by simpa using ho o hm) e
 induction hr with
 | any v => intro hx; exact .any v
 | d x v hd => intro hx; exact .d x v (hd.mono h)
 | ptr o off b ho => intro hx; exact .ptr o off b (ht hx ho)
 | ptrG o off b len cap ho => intro hx; exact .ptrG o off b len cap (ht hx ho)
 | sl o sz off len cap b ho => intro hx; exact .sl o sz off len cap b (ht hx ho)
 | own o v ho h1 => intro hx; exact .own o v (ht hx ho) h1
 | pre o k n cap a ho hk => intro hx; exact .pre o k n cap a (ht hx ho) hk
 | full sz cells a n hd => intro hx; exact .full sz cells a n (hd.mono h)
 | ep b off i cells vals hb hcell hr =>
  intro hx
  exact .ep b off i cells vals (h b hb).1 (fun j hj => by rw [cell_heap (h b hb).2]; exact hcell j hj) (fun j x hj => (hr j x hj).mono h)
 | ag cells vs hl _ ih => intro hx; exact .ag cells vs hl fun i x y hx' hy => ih i x y hx' hy fun q hq => SV.noOL_get (hx q hq) hx'
 | tu cells vs hl _ ih => intro hx; exact .tu cells vs hl fun i x y hx' hy => ih i x y hx' hy fun q hq => SV.noOL_get (hx q hq) hx'
 | ifc t x u _ ih => intro hx; exact .ifc t x u (ih hx)
 | fv fn first caps fs cs hf hc _ _ ih1 ih2 =>
  intro hx
  have hb2 : ∀ q, q ∈ qs → SV.noOL q first = true ∧ SV.noOL q caps = true := fun q hq => by simpa only [SV.noO, Bool.and_eq_true] using hx q hq
  exact .fv fn first caps fs cs hf hc (fun i x y hx' hy => ih1 i x y hx' hy fun q hq => SV.noOL_get (hb2 q hq).1 hx') (fun i x y hx' hy => ih2 i x y hx' hy fun q hq => SV.noOL_get (hb2 q hq).2 hx')
def hnd (hs : List Nat) (i : Nat) : Nat := hs.getD i 0
def getL {α : Type} (l : List α) (is : List Nat) : Option (List α) := mapO (fun i => l[i]?) is
theorem nodup_inj {α : Type} : ∀ {l : List α}, l.Nodup → ∀ {i j : Nat} (hi : i < l.length) (hj : j < l.length), l[i] = l[j] → i = j
 | [], _, i, _, hi, _, _ => by simp at hi
 | x :: r, h, i, j, hi, hj, e => by
  rw [List.nodup_cons] at h
  cases i with
  | zero =>
   cases j with
   | zero => rfl
   | succ j => simp at e; exact absurd (e ▸ List.getElem_mem _) h.1
  | succ i =>
   cases j with
   | zero => simp at e; exact absurd (e ▸ List.getElem_mem _) h.1
   | succ j => simp at e; rw [nodup_inj h.2 (by simpa using hi) (by simpa using hj) e]
/-- An object that can be handed. -/
def Ob.solid : Ob → Bool
 | .fix _ _ => true
 | .grow _ _ _ => true
 | _ => false
theorem Ob.solid_ren {ob : Ob} {ρ : Nat → Nat} (h : ob.solid = true) : (ob.ren ρ).live = true := by cases ob <;> first | rfl | cases h
theorem Ob.live_ren {ob : Ob} {ρ : Nat → Nat} (h : (ob.ren ρ).live = true) : ob.live = true := by cases ob <;> first | rfl | cases h
def mayOf (Ω : List Value) (hs : List Nat) : List Nat := hs.filterMap fun i => (Ω[i]?).bind blk
theorem mayOf_mem {Ω : List Value} {hs : List Nat} {b : Nat} (h : b ∈ mayOf Ω hs) : ∃ i v, i ∈ hs ∧ Ω[i]? = some v ∧ blk v = some b := by
 obtain ⟨i, hi, h2⟩ := List.mem_filterMap.1 h
 obtain ⟨v, hv, h3⟩ := Option.bind_eq_some_iff.1 h2
 exact ⟨i, v, hi, hv, h3⟩
theorem mayOf_of {Ω : List Value} {hs : List Nat} {b i : Nat} {v : Value} (h : i ∈ hs) (hv : Ω[i]? = some v) (hb : blk v = some b) : b ∈ mayOf Ω hs :=
 List.mem_filterMap.2 ⟨i, h, by rw [hv]; exact hb⟩
/-- What a call knows of the objects that it hands on. -/
structure Handed (obs : List Ob) (hs : List Nat) (pre : List Ob) : Prop where
 nd : hs.Nodup
 len : pre.length = hs.length
 at_ : ∀ (k i : Nat) ob, hs[k]? = some i → pre[k]? = some ob → obs[i]? = some (ob.ren (hnd hs))
 solid : ∀ (k : Nat) ob, pre[k]? = some ob → ob.solid = true
 und : ∀ (k : Nat) ob, pre[k]? = some ob → ob.under hs.length = true
theorem Handed.get {obs : List Ob} {hs : List Nat} {pre : List Ob} (H : Handed obs hs pre) {k : Nat} {ob : Ob} (h : pre[k]? = some ob) : ∃ i, hs[k]? = some i ∧ i ∈ hs ∧ obs[i]? = some (ob.ren (hnd hs)) := by
 have hlt := (List.getElem?_eq_some_iff.1 h).1
 have hk : k < hs.length := by rw [← H.len]; exact hlt
 exact ⟨hs[k], List.getElem?_eq_getElem hk, List.getElem_mem hk, H.at_ k _ ob (List.getElem?_eq_getElem hk) h⟩
theorem Handed.mem {obs : List Ob} {hs : List Nat} {pre : List Ob} (H : Handed obs hs pre) {i : Nat} (h : i ∈ hs) : ∃ (k : Nat) (ob : Ob), hs[k]? = some i ∧ pre[k]? = some ob ∧ obs[i]? = some (ob.ren (hnd hs)) ∧ ob.solid = true := by
 obtain ⟨k, hk⟩ := List.mem_iff_getElem?.1 h
 have hlt := (List.getElem?_eq_some_iff.1 hk).1
 have hp : pre[k]? = some (pre[k]'(by rw [H.len]; exact hlt)) := List.getElem?_eq_getElem _
 exact ⟨k, _, hk, hp, H.at_ k i _ hk hp, H.solid k _ hp⟩
theorem Handed.inj {obs : List Ob} {hs : List Nat} {pre : List Ob} (H : Handed obs hs pre) {k l i : Nat} (h : hs[k]? = some i) (h2 : hs[l]? = some i) : k = l := by
 obtain ⟨hk, e⟩ := List.getElem?_eq_some_iff.1 h
 obtain ⟨hl, e2⟩ := List.getElem?_eq_some_iff.1 h2
 exact nodup_inj H.nd hk hl (e.trans e2.symm)
section
variable {C : Ctx} {obs : List Ob} {Ω : List Value} {w : World} {hs : List Nat} {pre : List Ob}
def headsOf (Ω : List Value) (hs : List Nat) : List Value := hs.map fun i => Ω.getD i undef
theorem headsOf_get {obs : List Ob} (hlen : obs.length = Ω.length) (hb : ∀ i, i ∈ hs → i < obs.length) {k : Nat} {v : Value} : (headsOf Ω hs)[k]? = some v ↔ ∃ i, hs[k]? = some i ∧ Ω[i]? = some v := by
 unfold headsOf
 rw [List.getElem?_map]
 constructor
 ·intro h
  obtain ⟨i, hi, h2⟩ := Option.map_eq_some_iff.1 h
  have := hb i (List.mem_of_getElem? hi)
  refine ⟨i, hi, ?_⟩
  rw [List.getD_eq_getElem?_getD, List.getElem?_eq_getElem (by omega)] at h2
  rw [List.getElem?_eq_getElem (by omega), ← h2]; rfl
 ·rintro ⟨i, hi, h2⟩
  rw [hi, Option.map_some, List.getD_eq_getElem?_getD, h2]; rfl
theorem Handed.lt (H : Handed obs hs pre) {i : Nat} (h : i ∈ hs) : i < obs.length := by
 obtain ⟨k, ob, _, _, h3, _⟩ := H.mem h
 exact (List.getElem?_eq_some_iff.1 h3).1
/-- A block that may be written is one of the handed objects. -/
theorem Handed.may_new (H : Handed obs hs pre) (hm : Mem C obs Ω w) {b : Nat} (h : b ∈ mayOf Ω hs) : (C.W.heap.size ≤ b ∨ b ∈ C.may) ∧ b < w.heap.size := by
 obtain ⟨i, v, hi, hv, hb⟩ := mayOf_mem h
 obtain ⟨k, ob, _, _, h3, h4⟩ := H.mem hi
 exact ⟨hm.new i _ v b h3 (Ob.solid_ren h4) hv hb, (hm.obj i _ v h3 hv).lt (Ob.solid_ren h4) hb⟩
theorem Handed.may_ok (H : Handed obs hs pre) (hm : Mem C obs Ω w) {b : Nat} (h : okB C obs Ω w b) : b ∉ mayOf Ω hs := fun hb => by
 obtain ⟨i, v, hi, hv, hb⟩ := mayOf_mem hb
 obtain ⟨k, ob, _, _, h3, h4⟩ := H.mem hi
 exact h.2.2 i _ v h3 (Ob.solid_ren h4) hv hb
theorem Handed.may_other (H : Handed obs hs pre) (hm : Mem C obs Ω w) {i b : Nat} {ob : Ob} {v : Value} (hi : i ∉ hs) (ho : obs[i]? = some ob) (hl : ob.live = true) (hv : Ω[i]? = some v) (hb : blk v = some b) : b ∉ mayOf Ω hs := fun hb2 => by
 obtain ⟨j, u, hj, hu, hb2⟩ := mayOf_mem hb2
 obtain ⟨k, ob2, _, _, h3, h4⟩ := H.mem hj
 exact hm.sep i j ob _ v u b (fun e => hi (e ▸ hj)) ho h3 hl (Ob.solid_ren h4) hv hu hb hb2
theorem Handed.enter (H : Handed obs hs pre) (hm : Mem C obs Ω w) : Mem (hctx C.P w (okB C obs Ω w) (mayOf Ω hs) 0) pre (headsOf Ω hs) w ∧ ∀ b, okB C obs Ω w b → okB (hctx C.P w (okB C obs Ω w) (mayOf Ω hs) 0) pre (headsOf Ω hs) w b := by
 have hg : ∀ {k : Nat} {v : Value}, (headsOf Ω hs)[k]? = some v ↔ ∃ i, hs[k]? = some i ∧ Ω[i]? = some v := headsOf_get hm.len fun i hi => H.lt hi
 have hok : ∀ b, okB C obs Ω w b → okB (hctx C.P w (okB C obs Ω w) (mayOf Ω hs) 0) pre (headsOf Ω hs) w b := fun b hb => ⟨.inl hb, hb.2.1, fun k ob v e1 l e2 => by
  obtain ⟨i, hi, hv⟩ := hg.1 e2
  exact hb.2.2 i _ v (H.at_ k i ob hi e1) (Ob.solid_ren (H.solid k ob e1)) hv⟩
 have hΩ : ∀ i v, i < hs.length → Ω[hnd hs i]? = some v → (headsOf Ω hs)[i]? = some v := fun i v hi hv => by
  refine hg.2 ⟨hs[i], List.getElem?_eq_getElem hi, ?_⟩
  unfold hnd at hv
  rw [List.getD_eq_getElem?_getD, List.getElem?_eq_getElem hi] at hv
  exact hv
 refine ⟨⟨by simp [headsOf, H.len], fun k ob v e1 e2 => ?_, fun i j a b p q x hij e1 e2 l1 l2 e3 e4 hp hq => ?_, fun k ob v b e1 l e2 hb => ?_, ?_⟩, hok⟩
 ·obtain ⟨i, hi, hv⟩ := hg.1 e2
  have hO := hm.obj i _ v (H.at_ k i ob hi e1) hv
  have hu := H.und k ob e1
  cases ob with
  | fix ty c =>
   obtain ⟨b, vs, rfl, hw, hl, hr, h1⟩ := hO
   refine ⟨b, vs, rfl, hw, by rw [hl, List.length_map], fun j x y hx hy => ?_, h1⟩
   exact (hr j (x.ren (hnd hs)) y (by rw [List.getElem?_map, hx]; rfl) hy).renIn hok hΩ rfl (List.all_eq_true.1 (show c.all (SV.under hs.length) = true from hu) x (List.mem_of_getElem? hx))
  | grow ty sz c =>
   obtain ⟨n, xs, ho, hl, hr⟩ := hO
   exact ⟨n, xs, ho, hl, fun j x y hx hy => (hr j x y hx hy).mono fun b hb => ⟨hok b hb, rfl⟩⟩
  | dead => trivial
  | frame a b => have := H.solid k _ e1; cases this
 ·obtain ⟨i', hi', hv⟩ := hg.1 e3
  obtain ⟨j', hj', hv2⟩ := hg.1 e4
  exact hm.sep i' j' _ _ p q x (fun e => hij (H.inj hi' (by rw [e]; exact hj'))) (H.at_ i i' a hi' e1) (H.at_ j j' b hj' e2) (Ob.solid_ren (H.solid i a e1)) (Ob.solid_ren (H.solid j b e2)) hv hv2 hp hq
 ·obtain ⟨i, hi, hv⟩ := hg.1 e2
  exact .inr (mayOf_of (List.mem_of_getElem? hi) hv hb)
 ·refine ⟨rfl, rfl, rfl, Nat.le_refl _, fun _ _ _ => rfl, hm.fr.holds rfl, fun b hb hgl => ?_⟩
  obtain ⟨h1, _⟩ := H.may_new hm hb
  rcases h1 with h1 | h1
  ·rcases hgl with ⟨p, hp, rfl⟩ | hp | hp | hp
   ·have := (hm.fr.glob.1 p hp).1; omega
   ·have := (hm.fr.glob.2.1 b hp).1; omega
   ·have := (hm.fr.glob.2.2.1 b hp).1; omega
   ·have := (hm.fr.glob.2.2.2 b hp).1; omega
  ·exact hm.fr.gmay b h1 hgl
/-- Behind the call. -/
theorem Handed.leave (H : Handed obs hs pre) {e : List (Nat × SV)} {a : Act} (hr : Rel C ⟨e, obs⟩ Ω a w) {post post' : List Ob} {Ω' : List Value} {w' : World} {pins unp : List Nat} (hlen : post.length = pre.length) (hpp : RenO (hnd hs) post post')
  (hm' : Mem (hctx C.P w (okB C obs Ω w) (mayOf Ω hs) 0) post Ω' w') (hpins : ∀ i, i ∈ pins → Ω'[i]? = (headsOf Ω hs)[i]?) (hunp : ∀ (k i : Nat), hs[k]? = some i → k ∈ pins ∨ i ∈ unp) (hno : ∀ i ob, i ∉ hs → obs[i]? = some ob → ∀ q, q ∈ unp → ob.noO q = true) :
  Rel C ⟨dropL unp e, setL obs hs post'⟩ (setL Ω hs Ω') a w' ∧ ∀ {r : SV} {v : Value}, RepS w' (okB (hctx C.P w (okB C obs Ω w) (mayOf Ω hs) 0) post Ω' w') Ω' r v → RepS w' (okB C (setL obs hs post') (setL Ω hs Ω') w') (setL Ω hs Ω') (r.ren (hnd hs)) v := by
 have hm := hr.mem
 have hpe := hpp.eq
 subst hpe
 have hol : obs.length = Ω.length := hm.len
 have hl1 : hs.length = (post.map (Ob.ren (hnd hs))).length := by rw [List.length_map, hlen, H.len]
 have hl2 : hs.length = Ω'.length := by rw [← hm'.len, hlen, H.len]
 have hb1 : ∀ i, i ∈ hs → i < obs.length := fun i hi => H.lt hi
 have hb2 : ∀ i, i ∈ hs → i < Ω.length := fun i hi => by rw [← hol]; exact H.lt hi
 have e1 : ∀ {j : Nat} {y : Ob}, (setL obs hs (post.map (Ob.ren (hnd hs))))[j]? = some y → (∃ (k : Nat) (ob : Ob), hs[k]? = some j ∧ post[k]? = some ob ∧ y = ob.ren (hnd hs)) ∨ (j ∉ hs ∧ obs[j]? = some y) := fun {j y} h => by
  rcases setL_elim H.nd hl1 hb1 h with ⟨k, h1, h2⟩ | h
  ·rw [List.getElem?_map] at h2
   obtain ⟨ob, h3, h4⟩ := Option.map_eq_some_iff.1 h2
   exact .inl ⟨k, ob, h1, h3, h4.symm⟩
  ·exact .inr h
 have e2 : ∀ {j : Nat} {y : Value}, (setL Ω hs Ω')[j]? = some y → (∃ (k : Nat), hs[k]? = some j ∧ Ω'[k]? = some y) ∨ (j ∉ hs ∧ Ω[j]? = some y) := fun h => setL_elim H.nd hl2 hb2 h
 have hk2 : ∀ {j k : Nat} {y : Value}, hs[k]? = some j → (setL Ω hs Ω')[j]? = some y → Ω'[k]? = some y := fun {j k y} h1 h2 => by rw [← setL_at Ω hs Ω' H.nd hl2 hb2 h1]; exact h2
 have hn2 : ∀ {j : Nat} {y : Value}, j ∉ hs → (setL Ω hs Ω')[j]? = some y → Ω[j]? = some y := fun {j y} h1 h2 => by rw [← setL_other Ω hs Ω' h1]; exact h2
 have hsz : w.heap.size ≤ w'.heap.size := hm'.fr.size
 -- what is readable inside is readable outside
 have ok1 : ∀ b, okB (hctx C.P w (okB C obs Ω w) (mayOf Ω hs) 0) post Ω' w' b → okB C (setL obs hs (post.map (Ob.ren (hnd hs)))) (setL Ω hs Ω') w' b := fun b hb => by
  refine ⟨?_, hb.2.1, fun j ob v f1 l f2 hbk => ?_⟩
  ·rcases hb.1 with h1 | h1 | h1
   ·exact h1.1
   ·exact .inr (.inl (Nat.le_trans hm.fr.size h1))
   ·exact (H.may_new hm h1).1.elim (fun h => .inr (.inl h)) (fun h => .inr (.inr h))
  ·rcases e1 f1 with ⟨k, ob', g1, g2, rfl⟩ | ⟨g1, g2⟩
   ·exact hb.2.2 k ob' v g2 (Ob.live_ren l) (hk2 g1 f2) hbk
   ·have hv := hn2 g1 f2
    have hlt := (hm.obj j ob v g2 hv).lt l hbk
    rcases hb.1 with h1 | h1 | h1
    ·exact h1.2.2 j ob v g2 l hv hbk
    ·have h1 : w.heap.size ≤ b := h1
     omega
    ·exact H.may_other hm g1 g2 l hv hbk h1
 have ok0 : ∀ b, okB C obs Ω w b → okB (hctx C.P w (okB C obs Ω w) (mayOf Ω hs) 0) post Ω' w' b ∧ w'.heap[b]? = w.heap[b]? := fun b hb => by
  have hnm := H.may_ok hm hb
  refine ⟨⟨.inl hb, Nat.lt_of_lt_of_le hb.2.1 hsz, fun k ob v f1 l f2 hbk => ?_⟩, hm'.fr.block b hb.2.1 hnm⟩
  rcases hm'.new k ob v b f1 l f2 hbk with h1 | h1
  ·have h1 : w.heap.size ≤ b := h1
   have := hb.2.1
   omega
  ·exact hnm h1
 have ok2 : ∀ b, okB C obs Ω w b → okB C (setL obs hs (post.map (Ob.ren (hnd hs)))) (setL Ω hs Ω') w' b ∧ w'.heap[b]? = w.heap[b]? := fun b hb => ⟨ok1 b (ok0 b hb).1, (ok0 b hb).2⟩
 have hΩ1 : ∀ i v, Ω'[i]? = some v → (setL Ω hs Ω')[hnd hs i]? = some v := fun i v h => by
  have hlt := (List.getElem?_eq_some_iff.1 h).1
  have hi : i < hs.length := by omega
  have h2 : hs[i]? = some hs[i] := List.getElem?_eq_getElem hi
  have e : hnd hs i = hs[i] := by unfold hnd; rw [List.getD_eq_getElem?_getD, h2]; rfl
  rw [e, setL_at Ω hs Ω' H.nd hl2 hb2 h2]
  exact h
 have hΩ2 : ∀ i v, i ∉ unp → Ω[i]? = some v → (setL Ω hs Ω')[i]? = some v := fun i v hi hv => by
  by_cases hm2 : i ∈ hs
  ·obtain ⟨k, hk⟩ := List.mem_iff_getElem?.1 hm2
   rw [setL_at Ω hs Ω' H.nd hl2 hb2 hk]
   rcases hunp k i hk with h | h
   ·rw [hpins k h]
    exact (headsOf_get hol hb1).2 ⟨i, hk, hv⟩
   ·exact absurd h hi
  ·rw [setL_other Ω hs Ω' hm2]; exact hv
 refine ⟨⟨hr.defers, hr.size, fun t x hx => ?_, ⟨by rw [setL_len, setL_len]; exact hol, fun j ob v f1 f2 => ?_, fun i j x y p q b hij f1 f2 l1 l2 f3 f4 hp hq => ?_, fun j ob v b f1 l f2 hb => ?_, ?_⟩⟩, fun h => h.renOut ok1 hΩ1⟩
 ·obtain ⟨hx1, hx2⟩ := dropL_get hx
  obtain ⟨v, hv, hrep⟩ := hr.env t x hx1
  exact ⟨v, hv, hrep.noL ok2 hΩ2 hx2⟩
 ·rcases e1 f1 with ⟨k, ob', g1, g2, rfl⟩ | ⟨g1, g2⟩
  ·have hO := hm'.obj k ob' v g2 (hk2 g1 f2)
   cases ob' with
   | dead => trivial
   | frame a b => trivial
   | grow ty sz c =>
    obtain ⟨n, xs, ho, hl, hrr⟩ := hO
    exact ⟨n, xs, ho, hl, fun j x y hx hy => (hrr j x y hx hy).mono fun b hb => ⟨ok1 b hb, rfl⟩⟩
   | fix ty c =>
    obtain ⟨b, vs, rfl, hw, hl, hrr, h1⟩ := hO
    refine ⟨b, vs, rfl, hw, by rw [hl, List.length_map], fun j x y hx hy => ?_, h1⟩
    rw [List.getElem?_map] at hx
    obtain ⟨z, hz, rfl⟩ := Option.map_eq_some_iff.1 hx
    exact (hrr j z y hz hy).renOut ok1 hΩ1
  ·have hv := hn2 g1 f2
   have hO := hm.obj j ob v g2 hv
   have hn := hno j ob g1 g2
   have hblk : ∀ b, blk v = some b → ob.live = true → w'.heap[b]? = w.heap[b]? := fun b hb l => hm'.fr.block b (hO.lt l hb) (H.may_other hm g1 g2 l hv hb)
   cases ob with
   | dead => trivial
   | frame vs env => exact ⟨hO.1, fun t x hx => let ⟨u, hu, hrr⟩ := hO.2 t x hx; ⟨u, hu, hrr.noL ok2 hΩ2 fun q hq => List.all_eq_true.1 (show env.all (fun q' => q'.2.noO q) = true from hn q hq) (t, x) (get_mem hx)⟩⟩
   | grow ty sz c =>
    obtain ⟨n, xs, ho, hl, hrr⟩ := hO
    refine ⟨n, xs, ⟨ho.1, ?_⟩, hl, fun j x y hx hy => (hrr j x y hx hy).mono ok2⟩
    rcases ho.2 with hn | ⟨g, cap, cur, rfl, h0, hg, rest⟩
    ·exact .inl hn
    ·exact .inr ⟨g, cap, cur, rfl, h0, (hblk g rfl rfl).trans hg, rest⟩
   | fix ty c =>
    obtain ⟨b, vs, rfl, hw, hl, hrr, h1⟩ := hO
    exact ⟨b, vs, rfl, (hblk b rfl rfl).trans hw, hl, fun j x y hx hy => (hrr j x y hx hy).noL ok2 hΩ2 fun q hq => List.all_eq_true.1 (show c.all (SV.noO q) = true from hn q hq) x (List.mem_of_getElem? hx), h1⟩
 ·have mix : ∀ {k i j : Nat} {ob' : Ob} {y : Ob} {p q : Value}, hs[k]? = some i → post[k]? = some ob' → (ob'.ren (hnd hs)).live = true → j ∉ hs → obs[j]? = some y → y.live = true → Ω'[k]? = some p → Ω[j]? = some q → blk p = some b → blk q ≠ some b := fun {k i j ob' y p q} h1 h2 h3 h4 h5 h6 h7 h8 h9 h10 => by
   have hlt := (hm.obj j y q h5 h8).lt h6 h10
   rcases hm'.new k ob' p b h2 (Ob.live_ren h3) h7 h9 with h | h
   ·have h : w.heap.size ≤ b := h
    omega
   ·exact H.may_other hm h4 h5 h6 h8 h10 h
  rcases e1 f1 with ⟨k, ob', g1, g2, rfl⟩ | ⟨g1, g2⟩ <;> rcases e1 f2 with ⟨k2, ob2, g3, g4, rfl⟩ | ⟨g3, g4⟩
  ·exact hm'.sep k k2 ob' ob2 p q b (fun e => hij (by rw [e, g3] at g1; exact (Option.some.inj g1).symm)) g2 g4 (Ob.live_ren l1) (Ob.live_ren l2) (hk2 g1 f3) (hk2 g3 f4) hp hq
  ·exact mix g1 g2 l1 g3 g4 l2 (hk2 g1 f3) (hn2 g3 f4) hp hq
  ·exact mix g3 g4 l2 g1 g2 l1 (hk2 g3 f4) (hn2 g1 f3) hq hp
  ·exact hm.sep i j x y p q b hij g2 g4 l1 l2 (hn2 g1 f3) (hn2 g3 f4) hp hq
 ·rcases e1 f1 with ⟨k, ob', g1, g2, rfl⟩ | ⟨g1, g2⟩
  ·rcases hm'.new k ob' v b g2 (Ob.live_ren l) (hk2 g1 f2) hb with h | h
   ·exact .inl (Nat.le_trans hm.fr.size h)
   ·exact (H.may_new hm h).1
  ·exact hm.new j ob v b g2 l (hn2 g1 f2) hb
 ·refine ⟨hm'.fr.os.trans hm.fr.os, hm'.fr.tape.trans hm.fr.tape, hm'.fr.output.trans hm.fr.output, Nat.le_trans hm.fr.size hsz, fun b h1 h2 => ?_, hm.fr.glob, hm.fr.gmay⟩
  rw [← hm.fr.block b h1 h2]
  refine hm'.fr.block b (Nat.lt_of_lt_of_le h1 hm.fr.size) fun h3 => ?_
  rcases (H.may_new hm h3).1 with h | h
  ·omega
  ·exact h2 h
end
def nodupB : List Nat → Bool
 | [] => true
 | x :: r => !r.contains x && nodupB r
theorem nodupB_spec : ∀ {l : List Nat}, nodupB l = true → l.Nodup
 | [], _ => List.nodup_nil
 | x :: r, h => by
  simp only [nodupB, Bool.and_eq_true, Bool.not_eq_true', List.contains_eq_mem, decide_eq_false_iff_not] at h
  exact List.nodup_cons.2 ⟨h.1, nodupB_spec h.2⟩
/-- None of the other objects leads to those whose head turns. -/
inductive NoOs (hs unp : List Nat) : Nat → List Ob → Prop
 | nil {i : Nat} : NoOs hs unp i []
 | cons {i : Nat} {ob : Ob} {r : List Ob} (h : hs.contains i = true ∨ unp.all (fun q => ob.noO q) = true) (t : NoOs hs unp (i + 1) r) : NoOs hs unp i (ob :: r)
theorem NoOs.get {hs unp : List Nat} : ∀ {i : Nat} {l : List Ob}, NoOs hs unp i l → ∀ {j : Nat} {ob : Ob}, l[j]? = some ob → i + j ∉ hs → ∀ q, q ∈ unp → ob.noO q = true
 | i, _, .nil, j, ob, h => by simp at h
 | i, _, .cons h t, j, ob, hj => by
  cases j with
  | zero =>
   simp at hj; subst hj
   intro hn q hq
   rcases h with h | h
   ·exact absurd (by simpa using h) hn
   ·exact List.all_eq_true.1 h q hq
  | succ j =>
   intro hn q hq
   exact t.get (by simpa using hj) (by rw [show i + 1 + j = i + (j + 1) by omega]; exact hn) q hq
theorem noOs_nil (hs : List Nat) : ∀ (i : Nat) (l : List Ob), NoOs hs [] i l
 | i, [] => .nil
 | i, ob :: r => .cons (.inr rfl) (noOs_nil hs (i + 1) r)
inductive Unders (k : Nat) : List Ob → Prop
 | nil : Unders k []
 | cons {ob : Ob} {r : List Ob} (h : ob.solid = true ∧ ob.under k = true) (t : Unders k r) : Unders k (ob :: r)
theorem Unders.get {k : Nat} : ∀ {l : List Ob}, Unders k l → ∀ {j : Nat} {ob : Ob}, l[j]? = some ob → ob.solid = true ∧ ob.under k = true
 | _, .nil, j, ob, h => by simp at h
 | _, .cons h t, j, ob, hj => by
  cases j with
  | zero => simp at hj; subst hj; exact h
  | succ j => exact t.get (by simpa using hj)
inductive SVH : List SV → List SV → Prop
 | nil : SVH [] []
 | cons {x y : SV} {xs ys : List SV} (h : SVLe x y) (t : SVH xs ys) : SVH (x :: xs) (y :: ys)
theorem SVH.get {xs ys : List SV} (h : SVH xs ys) : xs.length = ys.length ∧ ∀ {i : Nat} {y : SV}, ys[i]? = some y → ∃ x, xs[i]? = some x ∧ SVLe x y := by
 induction h with
 | nil => exact ⟨rfl, fun h => by simp at h⟩
 | cons h t ih =>
  refine ⟨by simp [ih.1], fun {i y} h1 => ?_⟩
  cases i with
  | zero => simp at h1; subst h1; exact ⟨_, rfl, h⟩
  | succ i => simp at h1; simpa using ih.2 h1
section
variable {C : Ctx} {Q : Exit → St → Prop} {ops : Array Oper} {rest : List Oper} {o : Oper} {e : List (Nat × SV)} {obs : List Ob} {d : Nat}
/-- A call that hands on objects of the call's own (hs: which; unp: those whose head may turn). -/
theorem AOp.callH {f : FuncId} {ys xs : List SV} {hs pins unp : List Nat} {pre pre' : List Ob} {R : SV → List Ob → Prop} {e' : List (Nat × SV)} (hE : EntersS C o ⟨e, obs⟩ f xs) (hF : FnH C.P f ys pre pins R) (hdn : match o.dst with | some d => d < C.n | none => True)
  (hys : SVH xs (SV.renL (hnd hs) ys)) (hyu : SV.underL hs.length ys = true) (hnd' : nodupB hs = true) (hgl : getL obs hs = some pre') (hro : RenO (hnd hs) pre pre') (hun : Unders hs.length pre) (hup : (List.range hs.length).all (fun k => pins.contains k || unp.contains (hnd hs k)) = true)
  (hno : NoOs hs unp 0 obs) (he : dropL unp e = e') (h : ∀ r post, R r post → ∃ r' post', r.ren (hnd hs) = r' ∧ RenO (hnd hs) post post' ∧ AO C ops rest ⟨putO o.dst r' e', setL obs hs post'⟩ Q) : AOp C ops rest o ⟨e, obs⟩ Q := fun Ω a w hr => by
 subst he
 have hpe := hro.eq
 subst hpe
 obtain ⟨hgl1, hgl2⟩ := mapO_get hgl
 rw [List.length_map] at hgl1
 have H : Handed obs hs pre := ⟨nodupB_spec hnd', hgl1, fun k i ob h1 h2 => hgl2 k i _ h1 (by rw [List.getElem?_map, h2]; rfl), fun k ob h => (hun.get h).1, fun k ob h => (hun.get h).2⟩
 obtain ⟨vs, hrun, hvl, hv⟩ := hE Ω a w hr
 obtain ⟨hm, hok⟩ := H.enter hr.mem
 have hΩ : ∀ i v, i < hs.length → Ω[hnd hs i]? = some v → (headsOf Ω hs)[i]? = some v := fun i v hi hv => by
  refine (headsOf_get hr.mem.len fun i hi => H.lt hi).2 ⟨hs[i], List.getElem?_eq_getElem hi, ?_⟩
  unfold hnd at hv
  rw [List.getD_eq_getElem?_getD, List.getElem?_eq_getElem hi] at hv
  exact hv
 obtain ⟨hyl, hyg⟩ := hys.get
 rw [SV.renL_eq] at hyl
 unfold Oper.wp
 rw [hrun, Oper.upon_enter]
 refine (hF.2 w (okB C obs Ω w) (mayOf Ω hs) (headsOf Ω hs) vs hm (fun b hb => hb.2.1) (by rw [hvl, hyl, List.length_map]) fun i y v hy hvi => ?_).mono fun ed w' ⟨v, r, post, Ω', hed, hR, hpl, hru, hpu, hm', hrep, hpin⟩ => ?_
 ·obtain ⟨x, hx, hle⟩ := hyg (i := i) (y := y.ren (hnd hs)) (by rw [SV.renL_eq, List.getElem?_map, hy]; rfl)
  exact (hle _ _ _ _ (hv i x v hx hvi)).renIn hok hΩ rfl (SV.underL_get hyu hy)
 ·subst hed
  obtain ⟨r', post', rfl, hpp, hA⟩ := h r post hR
  obtain ⟨hrel, hres⟩ := H.leave hr hpl hpp hm' hpin (fun k i hk => by
   have hlt := (List.getElem?_eq_some_iff.1 hk).1
   have := List.all_eq_true.1 hup k (List.mem_range.2 hlt)
   have e : hnd hs k = i := by unfold hnd; rw [List.getD_eq_getElem?_getD, hk]; rfl
   rw [e] at this
   simpa [Bool.or_eq_true] using this) (fun i ob h1 h2 q hq => hno.get h2 (by simpa using h1) q hq)
  cases hd : o.dst with
  | none =>
   rw [hd] at hA
   exact hA _ _ w' hrel
  | some d =>
   rw [hd] at hA hdn
   exact hA _ _ w' (hrel.put hdn (hres hrep))
end
end Go.Vm

/- Further operations: the first elements of an own array. -/
set_option linter.unusedVariables false
namespace Go.Vm
open Go.Proofs Go.RowKit
section
variable {C : Ctx} {Q : Exit → St → Prop} {ops : Array Oper} {rest : List Oper} {o : Oper} {e : List (Nat × SV)} {obs : List Ob} {d : Nat}
/-- a[:k], a an own array (or a part of an own block). -/
theorem AOp.sliceArrHi {t n el sz p off k : Nat} {kk : IntKind} {i : Int} {x y : Operand} (ho : o.op = .slice t x none (some y) none) (hd : o.dst = some d) (hn : d < C.n) (hx : opS ⟨e, obs⟩ x = some (.ptr p off)) (hy : opS ⟨e, obs⟩ y = some (.d (.v (.int kk i)))) (ht : arrT C.P t = some (n, el, sz))
  (hfix : ∃ ty cells, obs[p]? = some (.fix ty cells)) (h0 : 0 ≤ i) (hk : i.toNat = k) (hle : k ≤ n) (h : AO C ops rest ⟨(d, .sl p sz off k n) :: e, obs⟩ Q) : AOp C ops rest o ⟨e, obs⟩ Q :=
 AOp.value hd hn (fun Ω a w hr => by
  obtain ⟨ty, cells, hp⟩ := hfix
  have hv := hr.eval hx
  generalize hev : a.eval x = v at hv
  obtain ⟨b, vs, rfl, hΩ, _⟩ := hr.fix hp hv
  obtain ⟨hu, hs⟩ := arrT_spec ht
  have e1 : C.P.arrayLen t = n := by simp [Program.arrayLen, hu]
  have e2 : C.P.elem t = el := by simp [Program.elem, hu]
  refine ⟨.slice (some ⟨b, off, none⟩) k n, ?_, .sl _ _ _ _ _ b hΩ⟩
  have := run_sliceAt_array_h (P := C.P) w t (⟨b, off, none⟩ : Addr) (by rw [e1, e2]; exact hu) kk i h0 (by rw [e1]; omega)
  simp only [execOp, ho, hev, hr.evalV hy, Option.map_some, Option.map_none, Sem.run_bind, this, e1, e2, run_sizeOf hs, Result.andThen_ok, slicedAt, Sem.run_pure, hk]
  have e3 : (if n = 0 then (⟨b, off, none⟩ : Addr) else (⟨b, off, none⟩ : Addr).add (0 * sz)) = ⟨b, off, none⟩ := by
   split
   ·rfl
   ·simp [Addr.add_of]
  rw [e3]; rfl) h
theorem set_same {α : Type} : ∀ {l : List α} {i : Nat} {x : α}, l[i]? = some x → l.set i x = l
 | [], i, x, h => by simp at h
 | y :: r, 0, x, h => by simp at h; subst h; rfl
 | y :: r, i + 1, x, h => by simp at h; rw [List.set_cons_succ, set_same h]
theorem setL_same {α : Type} {l : List α} : ∀ {is : List Nat} {xs : List α}, getL l is = some xs → setL l is xs = l
 | [], xs, h => by simp only [setL]
 | i :: is, xs, h => by
  simp only [getL, mapO] at h
  split at h
  ·rename_i y hy
   split at h
   ·rename_i t ht
    cases h
    rw [setL, set_same hy]
    exact setL_same ht
   ·cases h
  ·cases h
/-- A call that only reads the objects that it is handed. -/
theorem AOp.callR {f : FuncId} {ys xs : List SV} {hs pins : List Nat} {pre pre' : List Ob} {x : D} (hE : EntersS C o ⟨e, obs⟩ f xs) (hF : FnH C.P f ys pre pins (fun r post => r = .d x ∧ post = pre)) (hd : o.dst = some d) (hn : d < C.n)
  (hys : SVH xs (SV.renL (hnd hs) ys)) (hyu : SV.underL hs.length ys = true) (hnd' : nodupB hs = true) (hgl : getL obs hs = some pre') (hro : RenO (hnd hs) pre pre') (hun : Unders hs.length pre) (hup : (List.range hs.length).all (fun k => pins.contains k) = true)
  (h : AO C ops rest ⟨(d, .d x) :: e, obs⟩ Q) : AOp C ops rest o ⟨e, obs⟩ Q :=
 AOp.callH (unp := []) hE hF (by rw [hd]; exact hn) hys hyu hnd' hgl hro hun (by
  rw [List.all_eq_true] at hup ⊢
  intro k hk
  rw [hup k hk]; rfl) (noOs_nil _ _ _) rfl fun r post ⟨h1, h2⟩ => by
   subst h1 h2
   refine ⟨.d x, pre', rfl, hro, ?_⟩
   rw [hd, setL_same hgl]
   exact h
end
end Go.Vm

/- Whole numbers as rows of limbs of 32 bits, the least first. -/
set_option linter.unusedVariables false
namespace Limb
/-- what a row of limbs is worth -/
def val : List Nat → Nat
 | [] => 0
 | x :: r => x + 4294967296 * val r
/-- every limb has 32 bits -/
def ok (l : List Nat) : Prop := ∀ x, x ∈ l → x < 4294967296
/-- no zeros at the end -/
def trim : List Nat → List Nat
 | [] => []
 | x :: r => match trim r with
  | [] => if x = 0 then [] else [x]
  | y :: s => x :: y :: s
/-- a number's limbs -/
def limbs (n : Nat) : List Nat := if h : n = 0 then [] else (n % 4294967296) :: limbs (n / 4294967296)
termination_by n
decreasing_by omega

theorem limbs_zero : limbs 0 = [] := by unfold limbs; simp
theorem limbs_pos {n : Nat} (h : n ≠ 0) : limbs n = (n % 4294967296) :: limbs (n / 4294967296) := by rw [limbs, dif_neg h]
theorem limbs_ok (n : Nat) : ok (limbs n) := by
 induction n using Nat.strongRecOn with
 | _ n ih =>
  by_cases h : n = 0
  ·subst h; rw [limbs_zero]; intro x hx; simp at hx
  ·rw [limbs_pos h]
   intro x hx
   rcases List.mem_cons.1 hx with rfl | hx
   ·omega
   ·exact ih _ (by omega) x hx
theorem val_limbs (n : Nat) : val (limbs n) = n := by
 induction n using Nat.strongRecOn with
 | _ n ih =>
  by_cases h : n = 0
  ·subst h; rw [limbs_zero]; rfl
  ·rw [limbs_pos h, val, ih _ (by omega)]; omega
theorem trim_limbs : ∀ (l : List Nat), ok l → trim l = limbs (val l)
 | [], _ => by rw [val, limbs_zero]; rfl
 | x :: r, h => by
  have hx := h x (by simp)
  have ih := trim_limbs r fun y hy => h y (by simp [hy])
  by_cases h0 : val r = 0
  ·rw [h0, limbs_zero] at ih
   simp only [trim, ih, val, h0]
   by_cases hx0 : x = 0
   ·subst hx0; rw [if_pos rfl]; exact limbs_zero.symm
   ·rw [if_neg hx0, limbs_pos (by omega)]
    have e1 : (x + 4294967296 * 0) % 4294967296 = x := by omega
    have e2 : (x + 4294967296 * 0) / 4294967296 = 0 := by omega
    rw [e1, e2, limbs_zero]
  ·have hne : limbs (val r) ≠ [] := by rw [limbs_pos h0]; simp
   have hv : x + 4294967296 * val r ≠ 0 := by omega
   have e1 : (x + 4294967296 * val r) % 4294967296 = x := by omega
   have e2 : (x + 4294967296 * val r) / 4294967296 = val r := by omega
   rw [val, limbs_pos hv, e1, e2]
   simp only [trim, ih]
   cases hq : limbs (val r) with
   | nil => exact absurd hq hne
   | cons y s => rfl
theorem val_lt {l : List Nat} (h : ok l) : val l < 4294967296 ^ l.length := by
 induction l with
 | nil => simp [val]
 | cons x r ih =>
  have hx := h x (by simp)
  have := ih fun y hy => h y (by simp [hy])
  simp only [val, List.length_cons, Nat.pow_succ]
  omega
theorem val_append (a b : List Nat) : val (a ++ b) = val a + 4294967296 ^ a.length * val b := by
 induction a with
 | nil => simp [val]
 | cons x r ih => simp only [List.cons_append, val, ih, List.length_cons, Nat.pow_succ]; rw [Nat.mul_add, ← Nat.mul_assoc, Nat.mul_comm 4294967296 (4294967296 ^ r.length)]; omega
theorem trim_snoc (l : List Nat) (x : Nat) : trim (l ++ [x]) = if x = 0 then trim l else l ++ [x] := by
 induction l with
 | nil => simp [trim]
 | cons y r ih =>
  simp only [List.cons_append, trim, ih]
  by_cases hx : x = 0
  ·rw [if_pos hx, if_pos hx]
  ·rw [if_neg hx, if_neg hx]
   cases hq : r ++ [x] with
   | nil => simp at hq
   | cons z s => rfl
theorem val_take_any (l : List Nat) (k : Nat) : val (l.take (k + 1)) = val (l.take k) + 4294967296 ^ k * l.getD k 0 := by
 by_cases h : k < l.length
 ·rw [List.take_succ_eq_append_getElem h, val_append]
  simp [val, h, Nat.min_eq_left (Nat.le_of_lt h)]
 ·rw [List.take_of_length_le (by omega), List.take_of_length_le (by omega), List.getD_eq_getElem?_getD, List.getElem?_eq_none (by omega)]; simp
theorem add_step {x y out : List Nat} {k c s : Nat} (ho : out.length = k) (hv : val out + 4294967296 ^ k * c = val (x.take k) + val (y.take k)) (hs : s = x.getD k 0 + c + y.getD k 0) :
  val (out ++ [s % 4294967296]) + 4294967296 ^ (k + 1) * (s / 4294967296) = val (x.take (k + 1)) + val (y.take (k + 1)) := by
 rw [val_append, ho, val_take_any, val_take_any]
 have h1 : val [s % 4294967296] = s % 4294967296 := by simp [val]
 have h2 : s % 4294967296 + 4294967296 * (s / 4294967296) = s := Nat.mod_add_div _ _
 have h3 : 4294967296 ^ (k + 1) * (s / 4294967296) = 4294967296 ^ k * (4294967296 * (s / 4294967296)) := by rw [Nat.pow_succ, Nat.mul_assoc]
 have h4 : 4294967296 ^ k * (s % 4294967296) + 4294967296 ^ k * (4294967296 * (s / 4294967296)) = 4294967296 ^ k * s := by rw [← Nat.mul_add, h2]
 have h5 : 4294967296 ^ k * s = 4294967296 ^ k * x.getD k 0 + 4294967296 ^ k * c + 4294967296 ^ k * y.getD k 0 := by rw [hs, Nat.mul_add, Nat.mul_add]
 rw [h1, h3]
 omega
theorem ok_snoc {l : List Nat} (h : ok l) {s : Nat} : ok (l ++ [s % 4294967296]) := fun x hx => by
 rcases List.mem_append.1 hx with hx | hx
 ·exact h x hx
 ·rw [List.mem_singleton.1 hx]; omega
theorem limbs_len_lt {a b : Nat} (h : (limbs a).length < (limbs b).length) : a < b := by
 induction b using Nat.strongRecOn generalizing a with
 | _ b ih =>
  by_cases hb : b = 0
  ·subst hb; rw [limbs_zero] at h; simp at h
  ·by_cases ha : a = 0
   ·omega
   ·rw [limbs_pos hb, limbs_pos ha] at h
    have := ih (b / 4294967296) (by omega) (a := a / 4294967296) (by simpa using h)
    omega
theorem val_split (l : List Nat) (j : Nat) (h : j < l.length) : val l = val (l.take j) + 4294967296 ^ j * (l.getD j 0 + 4294967296 * val (l.drop (j + 1))) := by
 have e : l = l.take j ++ (l.getD j 0 :: l.drop (j + 1)) := by
  rw [List.getD_eq_getElem?_getD, List.getElem?_eq_getElem h, Option.getD_some, List.getElem_cons_drop, List.take_append_drop]
 have h1 : val l = val (l.take j ++ (l.getD j 0 :: l.drop (j + 1))) := congrArg val e
 rw [h1, val_append, val]
 simp [Nat.min_eq_left (Nat.le_of_lt h)]
theorem ok_take {l : List Nat} (h : ok l) (j : Nat) : ok (l.take j) := fun x hx => h x (List.mem_of_mem_take hx)
theorem cmp_at {x y : List Nat} (hx : ok x) (hy : ok y) {j : Nat} (h1 : j < x.length) (h2 : j < y.length) (hd : x.drop (j + 1) = y.drop (j + 1)) (hlt : x.getD j 0 < y.getD j 0) : val x < val y := by
 rw [val_split x j h1, val_split y j h2, hd]
 have h3 := val_lt (ok_take hx j)
 rw [List.length_take, Nat.min_eq_left (by omega)] at h3
 have h4 : 4294967296 ^ j * (x.getD j 0 + 4294967296 * val (y.drop (j + 1)) + 1) ≤ 4294967296 ^ j * (y.getD j 0 + 4294967296 * val (y.drop (j + 1))) := Nat.mul_le_mul_left _ (by omega)
 rw [Nat.mul_add _ _ 1, Nat.mul_one] at h4
 omega
end Limb

/- Whole numbers within a bound, as tested by truncation and absolute value. -/
set_option linter.unusedVariables false
set_option linter.unusedSimpArgs false
namespace Flt
open Go Ieee Go.Vm
def wT (K x : Nat) : Bool := feq x (truncN x) && !(fgt (fabs x) K)
theorem fgt_val {x y : Nat} {p q : Rat} (hx : V x = some p) (hy : V y = some q) : fgt x y = decide (q < p) := order_gt hx hy
theorem read_fabs (x : Nat) (s : Bool) (h : double.read x = .infinity s) : double.read (fabs x) = .infinity false := by
 unfold fabs Format.read at *
 rw [double_sw] at *
 simp only [Nat.mod_mod] at *
 have e : (x % 9223372036854775808 / 9223372036854775808 % 2 == 1) = false := by
  have : x % 9223372036854775808 / 9223372036854775808 = 0 := Nat.div_eq_of_lt (Nat.mod_lt _ (by omega))
  rw [this]; rfl
 rw [e]
 generalize (x / 9223372036854775808 % 2 == 1) = s' at h
 split at h
 ·cases h
 ·rename_i h1
  rw [if_neg h1]
  split at h
  ·cases h
  ·rename_i h2
   rw [if_neg h2]
   split at h
   ·rename_i h3; rw [if_pos h3]
   ·cases h
theorem wT_fin {K x : Nat} {k : Rat} (hk : V K = some k) (h : wT K x = true) : ∃ q, V x = some q := by
 unfold wT at h
 simp only [Bool.and_eq_true, Bool.not_eq_true'] at h
 obtain ⟨h1, h2⟩ := h
 cases hd : double.read x with
 | number s m e => exact ⟨_, by unfold V; rw [hd]; rfl⟩
 | nan s t =>
  have hn : isNan x = true := by show (double.read x).isNaN = true; rw [hd]; rfl
  unfold Vm.feq at h1
  rw [show double.order x (truncN x) = none from order_nan' hn] at h1
  cases h1
 | infinity s =>
  obtain ⟨s2, m, i, hr, _⟩ := V_num hk
  unfold Vm.fgt Format.order at h2
  rw [read_fabs x s hd, hr] at h2
  cases s2 <;> simp [Datum.order] at h2
theorem wT_int {K x : Nat} {k : Int} (hk : I K k) (hk0 : 0 ≤ k) (hk1 : k ≤ 4503599627370496) (hn : I (fneg K) (-k)) (h : wT K x = true) : ∃ n, I x n ∧ -k ≤ n ∧ n ≤ k := by
 obtain ⟨q, hq⟩ := wT_fin hk h
 unfold wT at h
 simp only [Bool.and_eq_true, Bool.not_eq_true'] at h
 obtain ⟨h1, h2⟩ := h
 have hnn : isNan x = false := by
  obtain ⟨s, m, i, hr, _⟩ := V_num hq
  show (double.read x).isNaN = false
  rw [hr]; rfl
 rw [truncN_of hnn] at h1
 rw [fgt_val (fabs_V hq) hk, decide_eq_false_iff_not] at h2
 refine okF_int hk hk0 hk1 hn ?_
 unfold okF inR
 rw [h1, fge_val hq hn, fle_val hq hk]
 have a1 : -q ≤ ab q := by unfold ab; split <;> grind
 have a2 : q ≤ ab q := by unfold ab; split <;> grind
 have h3 : ab q ≤ (k : Rat) := by grind
 rw [Rat.intCast_neg]
 have e1 : decide (-(k : Rat) ≤ q) = true := decide_eq_true (by grind)
 have e2 : decide (q ≤ (k : Rat)) = true := decide_eq_true (by grind)
 rw [e1, e2]; rfl
/-- A word for a whole number, and its opposite. -/
theorem wordI {K : Nat} (k : Int) (h : k.natAbs ≤ 9007199254740992) (e1 : K = ofInt k) (e2 : fneg K = ofInt (-k)) : I K k ∧ I (fneg K) (-k) := by
 rw [e2]; subst e1
 exact ⟨ofInt_int h, ofInt_int (by omega)⟩
theorem xor63 (x : Nat) : (x ^^^ 9223372036854775808) % 9223372036854775808 = x % 9223372036854775808 ∧ ((x ^^^ 9223372036854775808) / 9223372036854775808 % 2 == 1) = !(x / 9223372036854775808 % 2 == 1) := by
 constructor
 ·have := @Nat.xor_mod_two_pow x 9223372036854775808 63
  rw [show (2 : Nat) ^ 63 = 9223372036854775808 from by decide] at this
  rw [this]; simp
 ·have h1 : (x ^^^ 9223372036854775808) / 9223372036854775808 = (x / 9223372036854775808) ^^^ 1 := by
   have := @Nat.shiftRight_xor_distrib 63 x 9223372036854775808
   simp only [Nat.shiftRight_eq_div_pow] at this
   rw [show (2 : Nat) ^ 63 = 9223372036854775808 from by decide] at this
   rw [this]
  rw [h1]
  have h2 := @Nat.xor_mod_two_pow (x / 9223372036854775808) 1 1
  rw [show (2 : Nat) ^ 1 = 2 from by decide] at h2
  rw [h2]
  rcases Nat.mod_two_eq_zero_or_one (x / 9223372036854775808) with h | h <;> rw [h] <;> rfl
theorem fneg_V {x : Nat} {q : Rat} (hx : V x = some q) : V (fneg x) = some (-q) := by
 have e0 : fneg x = x ^^^ 9223372036854775808 := rfl
 rw [e0]
 obtain ⟨e1, e2⟩ := xor63 x
 unfold V Format.read at *
 rw [double_sw] at *
 simp only at *
 rw [e1, e2]
 have key : ∀ (s : Bool) (m : Nat) (i : Int), dval (.number s m i) = some q → dval (.number (!s) m i) = some (-q) := fun s m i h => opp_val (x := .number s m i) h
 generalize (x / 9223372036854775808 % 2 == 1) = s at hx
 split at hx
 ·rename_i h; rw [if_pos h]; exact key _ _ _ hx
 ·rename_i h
  rw [if_neg h]
  split at hx
  ·rename_i h2; rw [if_pos h2]; exact key _ _ _ hx
  ·rename_i h2
   split at hx <;> cases hx
theorem fneg_int {x : Nat} {n : Int} (h : I x n) : I (fneg x) (-n) := by
 unfold I; rw [Rat.intCast_neg]; exact fneg_V h
end Flt
