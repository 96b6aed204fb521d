/- make of slices; stores at places that turn; own slices in own structs. -/
import Derived.Test.YtbgdonedjgkhiaaVmFin
import Derived.Laws.MakeOwn
import Derived.Laws.OwnMore
set_option linter.unusedVariables false
set_option linter.unusedSimpArgs false
namespace Go.Vm
section
variable {C : Ctx} {Q : Exit → St → Prop} {ops : Array Oper} {rest : List Oper} {o : Oper} {e : List (Nat × SV)} {obs : List Ob} {d : Nat}

/-- One cell is written. -/
theorem AOp.store1 {t : TypeId} {x y : Operand} {p off : Nat} {ty : TypeId} {cells : List SV} {sv s1 : SV} (ho : o.op = .store t x y) (hd : o.dst = none) (hx : opS ⟨e, obs⟩ x = some (.ptr p off)) (hy : opS ⟨e, obs⟩ y = some sv)
    (hs : sizeT C.P t = some 1) (h1 : s1.plain = true) (hl : cellsS sv = [s1]) (hp : obs[p]? = some (.fix ty cells)) (hc : off < cells.length)
    (h : AO C ops rest ⟨e, obs.set p (.fix ty (cells.set off s1))⟩ Q) : AOp C ops rest o ⟨e, obs⟩ Q :=
  AOp.store ho hd hx hy hs (by rw [hl]; simp [h1]) (by rw [hl]; rfl) hp (by omega) (by
    rw [hl]
    have : cells.take off ++ [s1] ++ cells.drop (off + 1) = cells.set off s1 := by
      rw [List.set_eq_take_append_cons_drop, if_pos hc]; simp
    rw [this]; exact h)

/-- make([]T, n), T of one cell. -/
theorem AOp.makeSlice {t el bytes n : Nat} {x y : Operand} {z : Value} (ho : o.op = .makeSlice t x y) (hd : o.dst = some d) (hn : d < C.n)
    (hx : opS ⟨e, obs⟩ x = some (.d (.v (.int .i64 (n : Int))))) (hy : opS ⟨e, obs⟩ y = some (.d (.v (.int .i64 (n : Int))))) (ht : elemT C.P t = some (el, 1)) (hi : (C.P.info? el).map (fun i => (i.zero, i.size, i.bytes)) = some (some z, 1, bytes)) (hz : z.cells = #[z]) (h1 : z.oneCell' = true)
    (hb : bytes * n ≤ 281474976710656) (h63 : n ≤ maxLen)
    (h : AO C ops rest ⟨(d, .sl obs.length 1 0 n n) :: e, obs ++ [.fix el (List.replicate n (.d (.v z)))]⟩ Q) : AOp C ops rest o ⟨e, obs⟩ Q := by
  refine AOp.step hd hn (fun Ω a w hr => ?_) h
  obtain ⟨hu, hs⟩ := elemT_spec ht
  obtain ⟨i, hii, hie⟩ : ∃ i, C.P.info? el = some i ∧ (i.zero, i.size, i.bytes) = (some z, 1, bytes) := by
    cases hq : C.P.info? el with
    | none => rw [hq] at hi; cases hi
    | some i => rw [hq] at hi; exact ⟨i, rfl, Option.some.inj hi⟩
  simp only [Prod.mk.injEq] at hie
  obtain ⟨e1, e2, e3⟩ := hie
  have h63' : (n : Int) ≤ 9223372036854775807 := by simp only [maxLen] at h63; omega
  have hb' : (i.bytes : Int) * (n : Int) ≤ 281474976710656 := by
    rw [e3]
    have h : ((bytes * n : Nat) : Int) ≤ 281474976710656 := by omega
    rwa [Int.natCast_mul] at h
  have hrun := run_make (P := C.P) w t el i z hu hii e1 .i64 .i64 (n : Int) (n : Int) (by omega) (Int.le_refl _) hb' h63'
  have hm : madeCells z.cells ((n : Int).toNat * i.size) = (List.replicate n z).toArray := by
    rw [hz, e2, Int.toNat_natCast, Nat.mul_one]
    apply Array.ext'
    rw [toList_madeCells_one]
  rw [hm, Int.toNat_natCast] at hrun
  have hal := hr.alloc el (List.replicate n (.d (.v z))) (List.replicate n z) (by simp) (fun j x y hx hy => by
    have hj := (List.getElem?_eq_some_iff.1 hx).1
    simp at hj
    rw [List.getElem?_replicate, if_pos hj] at hx hy
    cases hx; cases hy
    exact .d _ _ (.v _)) (fun y hy => by rw [List.eq_of_mem_replicate hy]; exact h1)
  refine ⟨.slice (some ⟨w.heap.size, 0, none⟩) n n, _, _, ?_, hal, .sl _ _ _ _ _ _ ?_⟩
  · simp only [execOp, ho, hr.evalV hx, hr.evalV hy, Sem.run_bind, hrun, Result.andThen_ok, Sem.run_pure]
  · have := hr.mem.len
    dsimp only at this
    rw [this, List.getElem?_append_right (Nat.le_refl _)]; simp
/-- An own slice is stored. -/
theorem AOp.storeOwn {t : TypeId} {x y : Operand} {p off n : Nat} {ty : TypeId} {cells : List SV} {q tyq szq : Nat} {cq : List D} (ho : o.op = .store t x y) (hd : o.dst = none) (hx : opS ⟨e, obs⟩ x = some (.ptr p off)) (hy : opS ⟨e, obs⟩ y = some (.own q)) (hq : obs[q]? = some (.grow tyq szq cq)) {L : List SV} (hL : [SV.own q] = L)
    (hs : sizeT C.P t = some n) (hl : L.length = n) (hp : obs[p]? = some (.fix ty cells)) (hc : off + n ≤ cells.length)
    (h : AO C ops rest ⟨e, obs.set p (.fix ty (cells.take off ++ L ++ cells.drop (off + n)))⟩ Q) : AOp C ops rest o ⟨e, obs⟩ Q := by
  refine AOp.skip hd (fun Ω a w hr => ?_) h
  obtain ⟨b, vs, hev, hΩ, hw, hvl, hrr, hone⟩ := hr.fix hp (hr.eval hx)
  obtain ⟨us, huc, hul, hur, huone⟩ : ∃ us : List Value, (a.eval y).cells = us.toArray ∧ us.length = L.length ∧ (∀ (i : Nat) p r, L[i]? = some p → us[i]? = some r → RepS w (okB C obs Ω w) Ω p r) ∧ ∀ z, z ∈ us → z.oneCell' = true := by
    subst hL
    obtain ⟨m, xs, hΩq, how, _, _⟩ := hr.growV hq (hr.eval hy)
    have hsl : ∃ ad l c, a.eval y = .slice ad l c := by
      rcases how.2 with ⟨h, _⟩ | ⟨g, cap, cur, h, _⟩
      · exact ⟨_, _, _, h⟩
      · exact ⟨_, _, _, h⟩
    obtain ⟨ad, l, c, hsl⟩ := hsl
    refine ⟨[a.eval y], by rw [hsl]; rfl, rfl, fun i p r hp hr2 => ?_, fun z hz => by
      rw [List.mem_singleton] at hz; rw [hz, hsl]; rfl⟩
    cases i with
    | zero => cases hp; cases hr2; exact hr.eval hy
    | succ i => simp at hp
  have hst := run_storeCells_at C.P b off ty us 0 vs.toArray w hw (by simp; omega) huone
  simp only [Nat.add_zero] at hst
  have key := hr.mem.set hp hΩ hw (vs.take off ++ us ++ vs.drop (off + us.length)) (cells' := cells.take off ++ L ++ cells.drop (off + n)) (by simp; omega)
    (fun i x y hx hy => by
      have la : (cells.take off).length = off := by simp; omega
      have lb : (vs.take off).length = off := by simp; omega
      rw [List.append_assoc, List.getElem?_append] at hx hy
      rw [la] at hx
      rw [lb] at hy
      split at hx
      · rename_i hi
        rw [if_pos hi] at hy
        rw [List.getElem?_take, if_pos hi] at hx hy
        exact hrr i x y hx hy
      · rename_i hi
        rw [if_neg hi] at hy
        rw [List.getElem?_append] at hx hy
        split at hx
        · rename_i hj
          rw [if_pos (by omega)] at hy
          exact hur _ x y hx hy
        · rename_i hj
          rw [if_neg (by omega)] at hy
          rw [List.getElem?_drop] at hx hy
          rw [hul, hl] at hy
          rw [hl] at hx
          exact hrr _ x y hx hy)
    (fun y hy => by
      rcases List.mem_append.1 hy with hy | hy
      · rcases List.mem_append.1 hy with hy | hy
        · exact hone y (List.mem_of_mem_take hy)
        · exact huone y hy
      · exact hone y (List.mem_of_mem_drop hy))
  have hrel : Rel C ⟨e, obs.set p (.fix ty (cells.take off ++ L ++ cells.drop (off + n)))⟩ Ω a (w.setRow b (vs.take off ++ us ++ vs.drop (off + us.length)).toArray) :=
    ⟨hr.defers, hr.size, fun t x hx => let ⟨v, hv, hr'⟩ := hr.env t x hx; ⟨v, hv, hr'.mono key.2 (fun _ _ e => e)⟩, key.1⟩
  refine ⟨_, Ω, ?_, hrel⟩
  have hsz : (a.eval y).cells.size = n := by rw [huc]; simp; omega
  have huc' : (a.eval y).cells.toList = us := by rw [huc]
  simp only [execOp, ho, hev, Instr.storeAt, Instr.sureAddr, storeVar, Sem.run_bind, Sem.run_pure, Result.andThen_ok, run_sizeOf hs, hsz, ne_eq, not_true_eq_false, if_false, huc', hst, Sem.run_ite]

def SV.scrub (p : Nat) (x : SV) : SV := if x.noO p = true then x else .any
def Ob.scrub (p : Nat) : Ob → Ob
  | .fix ty cells => .fix ty (cells.map (SV.scrub p))
  | x => x
theorem Rel.scrub {Ω : List Value} {a : Act} {w : World} (hr : Rel C ⟨e, obs⟩ Ω a w) (p : Nat) : Rel C ⟨e, obs.map (Ob.scrub p)⟩ Ω a w := by
  have g1 : ∀ {i : Nat} {ob : Ob}, (obs.map (Ob.scrub p))[i]? = some ob → ∃ ob', obs[i]? = some ob' ∧ ob = ob'.scrub p := fun {i ob} h => by
    rw [List.getElem?_map, Option.map_eq_some_iff] at h
    obtain ⟨x, h1, h2⟩ := h
    exact ⟨x, h1, h2.symm⟩
  have lv : ∀ ob : Ob, (ob.scrub p).live = ob.live := fun ob => by cases ob <;> rfl
  have hok : ∀ b, okB C obs Ω w b → okB C (obs.map (Ob.scrub p)) Ω w b := fun b hb => ⟨hb.1, hb.2.1, fun i ob k e1 l e2 => by
    obtain ⟨ob', h1, rfl⟩ := g1 e1
    exact hb.2.2 i ob' k h1 (by rw [← lv]; exact l) e2⟩
  refine ⟨hr.defers, hr.size, fun t x hx => ?_, ⟨by simp; exact hr.mem.len, fun i ob k e1 e2 => ?_, fun i j x y h k b hij e1 e2 l1 l2 e3 e4 hp => ?_, fun i ob k b e1 l e2 hp => ?_, hr.mem.fr⟩⟩
  · obtain ⟨v, hv, hrep⟩ := hr.env t x hx
    exact ⟨v, hv, hrep.mono (fun b hb => ⟨hok b hb, rfl⟩) (fun _ _ e => e)⟩
  · obtain ⟨ob', h1, rfl⟩ := g1 e1
    have H := (hr.mem.obj i ob' k h1 e2).mono (fun b hb => ⟨hok b hb, rfl⟩) (fun _ _ e => e) (fun _ _ _ => rfl)
    cases ob' with
    | dead => trivial
    | frame vs env => exact H
    | grow ty sz cells => exact H
    | fix ty cells =>
      obtain ⟨b, vs, rfl, hw, hvl, hvr, hone⟩ := H
      refine ⟨b, vs, rfl, hw, by simp [hvl], fun j x y hx hy => ?_, hone⟩
      rw [List.getElem?_map, Option.map_eq_some_iff] at hx
      obtain ⟨z, hz, rfl⟩ := hx
      unfold SV.scrub
      split
      · exact hvr j z y hz hy
      · exact .any _
  · obtain ⟨x', h1, rfl⟩ := g1 e1
    obtain ⟨y', h2, rfl⟩ := g1 e2
    exact hr.mem.sep i j x' y' h k b hij h1 h2 (by rw [← lv]; exact l1) (by rw [← lv]; exact l2) e3 e4 hp
  · obtain ⟨ob', h1, rfl⟩ := g1 e1
    exact hr.mem.new i ob' k b h1 (by rw [← lv]; exact l) e2 hp
/-- In the structs of one's own nothing more is said of slice p. -/
theorem AO.scrub {l : List Oper} (p : Nat) {obs' : List Ob} (he : obs.map (Ob.scrub p) = obs') (h : AO C ops l ⟨e, obs'⟩ Q) : AO C ops l ⟨e, obs⟩ Q :=
  fun Ω a w hr => h Ω a w (by subst he; exact hr.scrub p)
end
end Go.Vm
