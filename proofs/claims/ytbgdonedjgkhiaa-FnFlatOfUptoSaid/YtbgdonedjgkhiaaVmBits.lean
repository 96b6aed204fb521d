/- Slice expressions on data; shifts; slices made to be appended to. -/
import Derived.Test.YtbgdonedjgkhiaaVmMake
set_option linter.unusedVariables false
set_option linter.unusedSimpArgs false
namespace Go.Vm
section
variable {C : Ctx} {Q : Exit → St → Prop} {ops : Array Oper} {rest : List Oper} {o : Oper} {e : List (Nat × SV)} {obs : List Ob} {d : Nat} {t ty : TypeId} {x y : Operand}

theorem AOp.ishr {k k' : IntKind} {a z : Int} {n : Nat} (ho : o.op = .binOp .shr t x y ty) (hd : o.dst = some d) (hn : d < C.n) (hx : opS ⟨e, obs⟩ x = some (.d (di k a))) (hy : opS ⟨e, obs⟩ y = some (.d (di k' (n : Int))))
    (hb : n ≤ k.bits) (h0 : 0 ≤ a) (hz : a / 2 ^ n = z) (h : AO C ops rest ⟨(d, .d (di k z)) :: e, obs⟩ Q) : AOp C ops rest o ⟨e, obs⟩ Q :=
  AOp.bin ho hd hn hx hy rfl (fun w => by
    have h1 : ¬ ((n : Int) < 0) := by omega
    have h2 : min n k.bits = n := Nat.min_eq_left hb
    have h3 : a.fdiv (2 ^ n) = z := by rw [← hz]; exact Int.fdiv_eq_ediv_of_nonneg a (Int.le_of_lt (Int.pow_pos (by decide)))
    simp [binOp, Op.shift, h1, h2, h3]) h
theorem AOp.ishl {k k' : IntKind} {a z : Int} {n : Nat} (ho : o.op = .binOp .shl t x y ty) (hd : o.dst = some d) (hn : d < C.n) (hx : opS ⟨e, obs⟩ x = some (.d (di k a))) (hy : opS ⟨e, obs⟩ y = some (.d (di k' (n : Int))))
    (hb : n ≤ k.bits) (hz : k.wrap (a * 2 ^ n) = z) (h : AO C ops rest ⟨(d, .d (di k z)) :: e, obs⟩ Q) : AOp C ops rest o ⟨e, obs⟩ Q :=
  AOp.bin ho hd hn hx hy rfl (fun w => by
    have h1 : ¬ ((n : Int) < 0) := by omega
    have h2 : min n k.bits = n := Nat.min_eq_left hb
    simp [binOp, Op.shift, h1, h2, hz]) h

theorem Rel.begin {Ω : List Value} {a : Act} {w w' : World} (hr : Rel C ⟨e, obs⟩ Ω a w) (hbel : RowKit.Below w.heap.size w w') {el sz n : Nat} {v : Value} {xs : List Value} {cells : List D} (how : w'.ownsRow 0 el sz v n xs)
    (hb : ∀ b, blk v = some b → w.heap.size ≤ b) (hl : xs.length = cells.length) (hc : ∀ (i : Nat) x y, cells[i]? = some x → xs[i]? = some y → RepD w (okB C obs Ω w) x y) :
    Rel C ⟨e, obs ++ [.grow el sz cells]⟩ (Ω ++ [v]) a w' := by
  have hlen : obs.length = Ω.length := hr.mem.len
  have new1 : ∀ {i : Nat} {ob : Ob} {k : Value}, (obs ++ [.grow el sz cells])[i]? = some ob → (Ω ++ [v])[i]? = some k → (obs[i]? = some ob ∧ Ω[i]? = some k) ∨ (i = obs.length ∧ ob = .grow el sz cells ∧ k = v) := fun {i ob k} e1 e2 => by
    rw [List.getElem?_append] at e1 e2
    rw [← hlen] at e2
    split at e1
    · rename_i hi; rw [if_pos hi] at e2; exact .inl ⟨e1, e2⟩
    · rename_i hi
      rw [if_neg hi] at e2
      cases hq : i - obs.length with
      | zero =>
        rw [hq] at e1 e2
        exact .inr ⟨by omega, (Option.some.inj e1).symm, (Option.some.inj e2).symm⟩
      | succ m => rw [hq] at e1; simp at e1
  have hok : ∀ b, okB C obs Ω w b → okB C (obs ++ [.grow el sz cells]) (Ω ++ [v]) w' b ∧ w'.heap[b]? = w.heap[b]? := fun b hk => ⟨⟨hk.1, Nat.lt_of_lt_of_le hk.2.1 hbel.size, fun i ob k e1 l e2 => by
    rcases new1 e1 e2 with ⟨f1, f2⟩ | ⟨_, rfl, rfl⟩
    · exact hk.2.2 i ob k f1 l f2
    · intro he
      have := hb b he
      have := hk.2.1
      omega⟩, hbel.block b hk.2.1⟩
  have hΩ : ∀ (o : Nat) u, Ω[o]? = some u → (Ω ++ [v])[o]? = some u := fun o u h => by
    rw [List.getElem?_append_left (List.getElem?_eq_some_iff.1 h).1]; exact h
  have lt : ∀ {i : Nat} {ob : Ob} {k : Value} {b : Nat}, obs[i]? = some ob → ob.live = true → Ω[i]? = some k → blk k = some b → b < w.heap.size := fun e1 l e2 hbk => (hr.mem.obj _ _ _ e1 e2).lt l hbk
  refine ⟨hr.defers, hr.size, fun q x hq => ?_, ⟨by simp [hlen], fun i ob k e1 e2 => ?_, fun i j x y p q b hij e1 e2 l1 l2 e3 e4 hp => ?_, fun i ob k b e1 l1 e2 hp => ?_, ?_⟩⟩
  · obtain ⟨u, hu, hrep⟩ := hr.env q x hq
    exact ⟨u, hu, hrep.mono hok hΩ⟩
  · rcases new1 e1 e2 with ⟨f1, f2⟩ | ⟨_, rfl, rfl⟩
    · exact (hr.mem.obj i ob k f1 f2).mono hok hΩ (fun b hbk l => hbel.block b (lt f1 l f2 hbk))
    · exact ⟨n, xs, how, hl, fun i x y hx hy => (hc i x y hx hy).mono hok⟩
  · rcases new1 e1 e3 with ⟨f1, f2⟩ | ⟨h1, rfl, rfl⟩
    · rcases new1 e2 e4 with ⟨g1, g2⟩ | ⟨_, rfl, rfl⟩
      · exact hr.mem.sep i j x y p q b hij f1 g1 l1 l2 f2 g2 hp
      · intro he
        have h1 := hb b he
        have h2 := lt f1 l1 f2 hp
        omega
    · rcases new1 e2 e4 with ⟨g1, g2⟩ | ⟨h2, _, _⟩
      · intro he
        have h1 := hb b hp
        have h2 := lt g1 l2 g2 he
        omega
      · omega
  · rcases new1 e1 e2 with ⟨f1, f2⟩ | ⟨_, rfl, rfl⟩
    · exact hr.mem.new i ob k b f1 l1 f2 hp
    · left; exact Nat.le_trans hr.mem.fr.size (hb b hp)
  · exact ⟨hbel.os.trans hr.mem.fr.os, hbel.tape.trans hr.mem.fr.tape, hbel.output.trans hr.mem.fr.output, Nat.le_trans hr.mem.fr.size hbel.size, fun b e1 e2 => (hbel.block b (Nat.lt_of_lt_of_le e1 hr.mem.fr.size)).trans (hr.mem.fr.block b e1 e2), hr.mem.fr.glob⟩

/-- make([]T, 0, c): to be appended to. -/
theorem AOp.makeOwn {el sz bytes c : Nat} {z : Value} (ho : o.op = .makeSlice t x y) (hd : o.dst = some d) (hn : d < C.n)
    (hx : opS ⟨e, obs⟩ x = some (.d (.v (.int .i64 0)))) (hy : opS ⟨e, obs⟩ y = some (.d (.v (.int .i64 (c : Int))))) (ht : elemT C.P t = some (el, sz)) (hi : (C.P.info? el).map (fun i => (i.zero, i.size, i.bytes)) = some (some z, sz, bytes))
    (hb : bytes * c ≤ 281474976710656) (h63 : c ≤ maxLen)
    (h : AO C ops rest ⟨(d, .own obs.length) :: e, obs ++ [.grow el sz []]⟩ Q) : AOp C ops rest o ⟨e, obs⟩ Q := by
  refine AOp.step hd hn (fun Ω a w hr => ?_) h
  obtain ⟨hu, hs⟩ := elemT_spec ht
  obtain ⟨i, hii, hie⟩ : ∃ i, C.P.info? el = some i ∧ (i.zero, i.size, i.bytes) = (some z, sz, bytes) := by
    cases hq : C.P.info? el with
    | none => rw [hq] at hi; cases hi
    | some i => rw [hq] at hi; exact ⟨i, rfl, Option.some.inj hi⟩
  simp only [Prod.mk.injEq] at hie
  obtain ⟨e1, e2, e3⟩ := hie
  obtain ⟨w', hrun, how, hg⟩ := run_make_own (P := C.P) w 0 t el i z sz hu hii e1 e2 .i64 .i64 c (by rw [e3]; exact hb) h63 (Nat.zero_le _)
  have hbel : RowKit.Below w.heap.size w w' := ⟨hg.os, hg.tape, hg.output, hg.size, fun k hk => hg.block k hk (by simp)⟩
  have hrel := hr.begin hbel how (cells := []) (fun b hb => by simp [blk] at hb; exact Nat.le_of_eq hb) rfl (fun i x y hx => by simp at hx)
  refine ⟨.slice (some ⟨w.heap.size, 0, none⟩) 0 c, w', _, ?_, hrel, .own _ _ ?_⟩
  · simp only [execOp, ho, hr.evalV hx, hr.evalV hy, Sem.run_bind, hrun, Result.andThen_ok, Sem.run_pure]
  · have := hr.mem.len
    dsimp only at this
    rw [this, List.getElem?_append_right (Nat.le_refl _)]; simp

/-- x[l:h] of data. -/
theorem RepD.sliced {w : World} {ok : Nat → Prop} {sz n l h : Nat} {cells : List D} {v : Value} (hr : RepD w ok (.ds sz cells) v) (hsz : 0 < sz) (hl : cells.length = n * sz) (h1 : l ≤ h) (h2 : h ≤ n) :
    ∃ a m c, v = .slice a m c ∧ h ≤ c ∧ m = n ∧ RepD w ok (.ds sz ((cells.drop (l * sz)).take ((h - l) * sz))) (.slice (if c = l then a else a.map (·.add (l * sz))) (h - l) (c - l)) := by
  have empty : ∀ (a : Option Addr) (c : Nat), h - l = 0 → RepD w ok (.ds sz ((cells.drop (l * sz)).take ((h - l) * sz))) (.slice a (h - l) c) := fun a c h0 => by
    rw [h0]; simp; exact .nil _ _ _
  cases hr with
  | nil _ a c =>
    have hn : n = 0 := by
      rcases Nat.eq_zero_or_pos n with h | h
      · exact h
      · have := Nat.mul_pos h hsz; simp at hl; omega
    subst hn
    exact ⟨a, 0, c, rfl, by omega, rfl, empty _ _ (by omega)⟩
  | ds _ b off len cap _ vals hl2 hc hb hcell hrr =>
    have hm : len = n := Nat.eq_of_mul_eq_mul_right hsz (by rw [← hl2, hl])
    subst hm
    refine ⟨_, len, cap, rfl, by omega, rfl, ?_⟩
    rcases Nat.eq_zero_or_pos (h - l) with h0 | h0
    · exact empty _ _ h0
    · rw [if_neg (by omega)]
      have hlen : ((cells.drop (l * sz)).take ((h - l) * sz)).length = (h - l) * sz := by
        have : h * sz ≤ len * sz := Nat.mul_le_mul_right _ h2
        have e1 : (h - l) * sz = h * sz - l * sz := Nat.sub_mul _ _ _
        simp; omega
      show RepD w ok _ (.slice (some ((⟨b, off, none⟩ : Addr).add (l * sz))) (h - l) (cap - l))
      rw [Addr.add_of]
      refine .ds _ _ _ _ _ _ (fun i => vals (l * sz + i)) hlen (by omega) hb (fun i hi => ?_) (fun i x hx => ?_)
      · rw [Nat.add_assoc]
        rw [hlen] at hi
        have : h * sz ≤ len * sz := Nat.mul_le_mul_right _ h2
        have e1 : (h - l) * sz = h * sz - l * sz := Nat.sub_mul _ _ _
        exact hcell (l * sz + i) (by omega)
      · rw [List.getElem?_take] at hx
        split at hx
        · rw [List.getElem?_drop] at hx; exact hrr _ _ hx
        · cases hx

theorem elem_of {P : Program} {t el sz : TypeId} (h : elemT P t = some (el, sz)) : P.underlying t = some (.slice (P.elem t)) ∧ (sizeOf (P.elem t)).run P = (sizeOf el).run P := by
  obtain ⟨hu, _⟩ := elemT_spec h
  have : P.elem t = el := by simp [Program.elem, hu]
  rw [this]; exact ⟨hu, rfl⟩
theorem AOp.sliceHi {el sz n hh : Nat} {k : IntKind} {cells : List D} (ho : o.op = .slice t x none (some y) none) (hd : o.dst = some d) (hn : d < C.n) (hx : opS ⟨e, obs⟩ x = some (.d (.ds sz cells))) (hy : opS ⟨e, obs⟩ y = some (.d (di k (hh : Int))))
    (ht : elemT C.P t = some (el, sz)) (hsz : 0 < sz) (hl : cells.length = n * sz) (h2 : hh ≤ n) (h : AO C ops rest ⟨(d, .d (.ds sz (cells.take (hh * sz)))) :: e, obs⟩ Q) : AOp C ops rest o ⟨e, obs⟩ Q :=
  AOp.value hd hn (fun Ω a w hr => by
    have hv := hr.eval hx
    generalize hev : a.eval x = v at hv
    cases hv with
    | d _ _ hv =>
      obtain ⟨ad, m, c, rfl, hc, rfl, hrep⟩ := hv.sliced hsz hl (Nat.zero_le hh) h2
      obtain ⟨hu, hso⟩ := elem_of ht
      refine ⟨_, ?_, .d _ _ (by simpa using hrep)⟩
      have := run_slice_h (P := C.P) w t ad m c hu k (hh : Int) (by omega) (by omega)
      simp only [execOp, ho, hev, hr.evalV hy, Option.map_some, Option.map_none, Sem.run_bind, run_sliceAt_slice w t _ _ _ _ hu, this, hso, run_sizeOf (elemT_spec ht).2, Result.andThen_ok, sliced, Sem.run_pure]
      simp) h
end
end Go.Vm
