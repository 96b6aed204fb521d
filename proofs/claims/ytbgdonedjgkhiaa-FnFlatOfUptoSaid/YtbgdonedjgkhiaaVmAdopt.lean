/- Nil slices in structs of one's own that become slices of one's own; cells of which nothing more is said. -/
import Derived.Test.YtbgdonedjgkhiaaVmPure2
set_option linter.unusedVariables false
set_option linter.unusedSimpArgs false
namespace Go.Vm
section
variable {C : Ctx} {Q : Exit → St → Prop} {ops : Array Oper} {rest : List Oper} {o : Oper} {e : List (Nat × SV)} {obs : List Ob} {d : Nat}
theorem Rel.adopt0 {Ω : List Value} {a : Act} {w : World} (hr : Rel C ⟨e, obs⟩ Ω a w) (el sz : Nat) :
    Rel C ⟨e, obs ++ [.grow el sz []]⟩ (Ω ++ [.slice none 0 0]) a w := by
  have hlen : obs.length = Ω.length := hr.mem.len
  have hok : ∀ b, okB C obs Ω w b → okB C (obs ++ [.grow el sz []]) (Ω ++ [.slice none 0 0]) w b := fun b hb => ⟨hb.1, hb.2.1, fun o ob k e1 l e2 => by
    rw [List.getElem?_append] at e1 e2
    rw [← hlen] at e2
    split at e1
    · rename_i hi; rw [if_pos hi] at e2; exact hb.2.2 o ob k e1 l e2
    · rename_i hi
      rw [if_neg hi] at e2
      have : k = .slice none 0 0 := by
        cases hq : o - obs.length with
        | zero => rw [hq] at e2; exact (Option.some.inj e2).symm
        | succ m => rw [hq] at e2; simp at e2
      subst this
      simp [blk]⟩
  have hΩ : ∀ (o : Nat) v, Ω[o]? = some v → (Ω ++ [.slice none 0 0])[o]? = some v := fun o v h => by
    rw [List.getElem?_append_left (List.getElem?_eq_some_iff.1 h).1]; exact h
  have new1 : ∀ {i : Nat} {ob : Ob} {k : Value}, (obs ++ [.grow el sz []])[i]? = some ob → (Ω ++ [.slice none 0 0])[i]? = some k → (obs[i]? = some ob ∧ Ω[i]? = some k) ∨ (i = obs.length ∧ ob = .grow el sz [] ∧ k = .slice none 0 0) := fun {i ob k} e1 e2 => by
    rw [List.getElem?_append] at e1 e2
    rw [← hlen] at e2
    split at e1
    · rename_i hi; rw [if_pos hi] at e2; exact .inl ⟨e1, e2⟩
    · rename_i hi
      rw [if_neg hi] at e2
      cases hq : i - obs.length with
      | zero =>
        rw [hq] at e1 e2
        exact .inr ⟨by omega, (Option.some.inj e1).symm, (Option.some.inj e2).symm⟩
      | succ m => rw [hq] at e1; simp at e1
  refine ⟨hr.defers, hr.size, fun q x hq => ?_, ⟨by simp [hlen], fun i ob k e1 e2 => ?_, fun i j a b p q x hij e1 e2 l1 l2 e3 e4 hp => ?_, fun i ob p b e1 l1 e2 hp => ?_, hr.mem.fr⟩⟩
  · obtain ⟨v, hv, hrep⟩ := hr.env q x hq
    exact ⟨v, hv, hrep.mono (fun b hb => ⟨hok b hb, rfl⟩) hΩ⟩
  · rcases new1 e1 e2 with ⟨f1, f2⟩ | ⟨_, rfl, rfl⟩
    · exact (hr.mem.obj i ob k f1 f2).mono (fun b hb => ⟨hok b hb, rfl⟩) hΩ (fun _ _ _ => rfl)
    · exact ⟨0, [], World.ownsRow_nil w 0 el sz, rfl, fun i x y hx => by simp at hx⟩
  · rcases new1 e1 e3 with ⟨f1, f2⟩ | ⟨_, rfl, rfl⟩
    · rcases new1 e2 e4 with ⟨g1, g2⟩ | ⟨_, rfl, rfl⟩
      · exact hr.mem.sep i j a b p q x hij f1 g1 l1 l2 f2 g2 hp
      · simp [blk]
    · cases hp
  · rcases new1 e1 e2 with ⟨f1, f2⟩ | ⟨_, rfl, rfl⟩
    · exact hr.mem.new i ob p b f1 l1 f2 hp
    · cases hp
theorem Rel.subOΩ {Ω : List Value} {a : Act} {w : World} (hr : Rel C ⟨e, obs⟩ Ω a w) {p ty : Nat} {cells cells' : List SV} (hp : obs[p]? = some (.fix ty cells)) (hl : cells'.length = cells.length) (hi : ∀ (i : Nat) y, cells'[i]? = some y → ∃ x, cells[i]? = some x ∧ ∀ w ok v, RepS w ok Ω x v → RepS w ok Ω y v) : Rel C ⟨e, obs.set p (.fix ty cells')⟩ Ω a w := by
  have g1 : ∀ {i : Nat} {ob : Ob}, (obs.set p (.fix ty cells'))[i]? = some ob → ∃ ob', obs[i]? = some ob' ∧ ob'.live = ob.live ∧ (ob' = ob ∨ (ob' = .fix ty cells ∧ ob = .fix ty cells')) := fun {i ob} h => by
    rcases get_set h with ⟨rfl, rfl, _⟩ | ⟨_, h⟩
    · exact ⟨_, hp, rfl, .inr ⟨rfl, rfl⟩⟩
    · exact ⟨ob, h, rfl, .inl rfl⟩
  have hok : ∀ b, okB C obs Ω w b → okB C (obs.set p (.fix ty cells')) Ω w b := fun b hb => ⟨hb.1, hb.2.1, fun i ob k e1 l e2 => by
    obtain ⟨ob', h1, h2, _⟩ := g1 e1
    exact hb.2.2 i ob' k h1 (by rw [h2]; exact l) e2⟩
  refine ⟨hr.defers, hr.size, fun t x hx => ?_, ⟨by simp; exact hr.mem.len, fun i ob k e1 e2 => ?_, fun i j x y h k b hij e1 e2 l1 l2 e3 e4 hp => ?_, fun i ob k b e1 l e2 hp => ?_, hr.mem.fr⟩⟩
  · obtain ⟨v, hv, hrep⟩ := hr.env t x hx
    exact ⟨v, hv, hrep.mono (fun b hb => ⟨hok b hb, rfl⟩) (fun _ _ e => e)⟩
  · obtain ⟨ob', h1, _, h3⟩ := g1 e1
    have H := (hr.mem.obj i ob' k h1 e2).mono (fun b hb => ⟨hok b hb, rfl⟩) (fun _ _ e => e) (fun _ _ _ => rfl)
    rcases h3 with rfl | ⟨rfl, rfl⟩
    · exact H
    · obtain ⟨b, vs, rfl, hw, hvl, hvr, hone⟩ := H
      refine ⟨b, vs, rfl, hw, by rw [hvl, hl], fun j x y hx hy => ?_, hone⟩
      obtain ⟨z, hz, hzl⟩ := hi j x hx
      exact hzl _ _ _ (hvr j z y hz hy)
  · obtain ⟨x', h1, q1, _⟩ := g1 e1
    obtain ⟨y', h2, q2, _⟩ := g1 e2
    exact hr.mem.sep i j x' y' h k b hij h1 h2 (by rw [q1]; exact l1) (by rw [q2]; exact l2) e3 e4 hp
  · obtain ⟨x', h1, q1, _⟩ := g1 e1
    exact hr.mem.new i x' k b h1 (by rw [q1]; exact l) e2 hp
theorem AC.adoptO {c : Code} (p j el sz : Nat) {ty : Nat} {cells : List SV} (hp : obs[p]? = some (.fix ty cells)) (hj : cells[j]? = some (.d (.v (.slice none 0 0))))
    (h : AC C c ⟨e, (obs ++ [Ob.grow el sz []]).set p (.fix ty (cells.set j (.own obs.length)))⟩ Q) : AC C c ⟨e, obs⟩ Q := fun Ω a w hr => by
  have h1 := hr.adopt0 el sz
  refine h _ a w (h1.subOΩ (cells := cells) (by rw [List.getElem?_append_left (List.getElem?_eq_some_iff.1 hp).1]; exact hp) (by simp) fun i y hy => ?_)
  rcases get_set hy with ⟨rfl, rfl, _⟩ | ⟨_, hy⟩
  · refine ⟨_, hj, fun w ok v hv => ?_⟩
    have := hv.val
    subst this
    refine .own _ _ ?_
    rw [show obs.length = Ω.length from hr.mem.len, List.getElem?_append_right (Nat.le_refl _)]; simp
  · exact ⟨y, hy, fun _ _ _ h => h⟩
theorem AOp.subO (p : Nat) {ty : Nat} {cells cells' : List SV} (hp : obs[p]? = some (.fix ty cells)) (hle : SVL cells cells') (h : AOp C ops rest o ⟨e, obs.set p (.fix ty cells')⟩ Q) : AOp C ops rest o ⟨e, obs⟩ Q := fun Ω a w hr => h Ω a w (hr.subO hp hle)
theorem AO.subO {l : List Oper} (p : Nat) {ty : Nat} {cells cells' : List SV} (hp : obs[p]? = some (.fix ty cells)) (hle : SVL cells cells') (h : AO C ops l ⟨e, obs.set p (.fix ty cells')⟩ Q) : AO C ops l ⟨e, obs⟩ Q := fun Ω a w hr => h Ω a w (hr.subO hp hle)
end
end Go.Vm
