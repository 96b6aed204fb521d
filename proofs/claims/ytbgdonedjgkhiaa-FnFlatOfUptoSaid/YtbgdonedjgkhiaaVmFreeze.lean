/- A slice of one's own, appended to no more, is data. -/
import Derived.Test.YtbgdonedjgkhiaaVmJoin
set_option linter.unusedVariables false
namespace Go.Vm
section
variable {C : Ctx} {Q : Exit → St → Prop} {ops : Array Oper} {e : List (Nat × SV)} {obs : List Ob}
theorem Rel.freezeOwn {Ω : List Value} {a : Act} {w : World} (hr : Rel C ⟨e, obs⟩ Ω a w) (hm : C.may = []) {t p ty sz : Nat} {cells : List D} (hx : get e t = some (.own p)) (hp : obs[p]? = some (.grow ty sz cells)) :
    Rel C ⟨(t, .d (.ds sz cells)) :: e, obs.set p .dead⟩ Ω a w := by
  obtain ⟨hmem, hok⟩ := hr.mem.kill p
  obtain ⟨v, hv, hrep⟩ := hr.env t _ hx
  obtain ⟨n, xs, hΩ, how, hxl, hrr⟩ := hr.growV hp hrep
  have hd : RepD w (okB C (obs.set p .dead) Ω w) (.ds sz cells) v := by
    rcases how.2 with ⟨rfl, h0⟩ | ⟨g, cap, cur, rfl, _, hg, hnc, _, hcs, hct⟩
    · have : cells = [] := List.eq_nil_of_length_eq_zero (by rw [← hxl, how.1, h0]; simp)
      subst this; exact .nil _ _ _
    · have hcell : ∀ (i : Nat), i < cells.length → xs[i]? = some (xs.getD i undef) := fun i hi => by
        rw [List.getD_eq_getElem?_getD, List.getElem?_eq_getElem (by omega)]; rfl
      refine .ds _ _ _ _ _ _ (fun i => xs.getD i undef) (by rw [← hxl, how.1]) hnc ⟨?_, (Array.getElem?_eq_some_iff.1 hg).1, fun i ob k e1 l e2 => ?_⟩ (fun i hi => ?_) (fun i x hx => ?_)
      · rcases hr.mem.new p _ _ g hp rfl hΩ rfl with h | h
        · exact .inr h
        · rw [hm] at h; cases h
      · rcases get_set e1 with ⟨rfl, rfl, _⟩ | ⟨hi, e1⟩
        · cases l
        · exact hr.mem.sep p i _ _ _ _ g (Ne.symm hi) hp e1 rfl l hΩ e2 rfl
      · rw [Nat.zero_add, cell_of_row w g i cur ty (0, 0) hg]
        have hin : i < n * sz := by have := how.1; omega
        have h1 : xs[i]? = cur.toList[i]? := by rw [← hct, List.getElem?_take, if_pos hin]
        have h2 := hcell i hi
        rw [h1] at h2
        simpa using h2
      · exact (hrr i x _ hx (hcell i (List.getElem?_eq_some_iff.1 hx).1)).mono fun b hb => ⟨hok b hb, rfl⟩
  refine ⟨hr.defers, hr.size, fun q x hq => ?_, hmem⟩
  simp only [get] at hq
  split at hq
  · rename_i h; subst h; cases hq; exact ⟨v, hv, .d _ _ hd⟩
  · obtain ⟨u, hu, hrep⟩ := hr.env q x hq
    exact ⟨u, hu, hrep.mono (fun b hb => ⟨hok b hb, rfl⟩) (fun _ _ e => e)⟩
theorem AO.freeze {l : List Oper} (t p : Nat) {ty sz : Nat} {cells : List D} (hm : C.may = []) (hx : get e t = some (.own p)) (hp : obs[p]? = some (.grow ty sz cells))
    (h : AO C ops l ⟨(t, .d (.ds sz cells)) :: e, obs.set p .dead⟩ Q) : AO C ops l ⟨e, obs⟩ Q := fun Ω a w hr => h _ a w (hr.freezeOwn hm hx hp)
end
end Go.Vm
