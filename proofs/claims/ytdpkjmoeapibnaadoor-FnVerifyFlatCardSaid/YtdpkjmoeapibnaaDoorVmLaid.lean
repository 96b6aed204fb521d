/- What the row's condition on package variables tells of their cells. -/
import Derived.Test.YtdpkjmoeapibnaaDoorVmCore
import Derived.Lib.LaidU8
import Derived.LaidHandle
import Derived.MakeChecks
import Derived.Lay
namespace Go.Vm
open Go.Lib
theorem cell_lt {W : World} {g i : Nat} {v : Value} (h : W.cell? ⟨g, i, none⟩ = some v) : g < W.heap.size := by
  unfold World.cell? at h
  simp only at h
  rcases Nat.lt_or_ge g W.heap.size with h1 | h1
  · exact h1
  · rw [Array.getElem?_eq_none h1] at h; simp at h
theorem laid_float {P : Program} {W : World} {l : List (String × DataW Unit)} {n : String} {k : FloatKind} {b g : Nat} {t : TypeId} (h : laidMet P l W) (hm : (n, .lit (.float k b)) ∈ l) (hg : P.globalNamed n = some g)
    (hty : (P.globals[g]?).map (·.type) = some t) (ht : P.underlying t = some (.float k)) : g < W.heap.size ∧ W.cell? ⟨g, 0, none⟩ = some (.float k b) := by
  obtain ⟨g', t', cs, fuel, p, h1, h2, h3, h4⟩ := laidMet.reads h hm
  obtain rfl := Option.some.inj (hg.symm.trans h1)
  obtain rfl := Option.some.inj (hty.symm.trans h2)
  have hc : cs = #[.float k b] := by
    cases fuel with
    | zero => simp [DataW.trod] at h4
    | succ fuel =>
      simp only [DataW.trod, ht] at h4
      generalize hl : cs.toList = l at *
      have hcs : cs = l.toArray := by rw [← hl]
      rw [hcs]
      split at h4 <;> simp_all
  have hv := World.var?_cell hg h3 0
  subst hc
  exact ⟨cell_lt (by rw [hv]; rfl), by rw [hv]; rfl⟩
theorem laid_err {P : Program} {W : World} {l : List (String × DataW Unit)} {n nm : String} {x : DataW Unit} {g : Nat} {t : TypeId} {ms : Array (String × TypeId)} (h : laidMet P l W) (hm : (n, .iface nm x) ∈ l) (hg : P.globalNamed n = some g)
    (hty : (P.globals[g]?).map (·.type) = some t) (ht : P.underlying t = some (.interface ms)) : g < W.heap.size ∧ ∃ t u, W.cell? ⟨g, 0, none⟩ = some (.iface t u) := by
  obtain ⟨g', t', cs, fuel, p, h1, h2, h3, h4⟩ := laidMet.reads h hm
  obtain rfl := Option.some.inj (hg.symm.trans h1)
  obtain rfl := Option.some.inj (hty.symm.trans h2)
  have hc : ∃ u v, cs = #[.iface u v] := by
    cases fuel with
    | zero => simp [DataW.trod] at h4
    | succ fuel =>
      simp only [DataW.trod, ht] at h4
      generalize hl : cs.toList = l at *
      have hcs : cs = l.toArray := by rw [← hl]
      rw [hcs]
      split at h4
      all_goals first
        | (cases h4; done)
        | skip
      all_goals simp_all
  obtain ⟨u, v, rfl⟩ := hc
  have hv := World.var?_cell hg h3 0
  exact ⟨cell_lt (by rw [hv]; rfl), u, v, by rw [hv]; rfl⟩
end Go.Vm
