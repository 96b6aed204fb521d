/- What the row's condition on package variables tells of their cells. -/
import Derived.Test.YtbgdonedjgkhiaaVmCore
import Derived.Lib.LaidU8
import Derived.LaidHandle
import Derived.MakeChecks
import Derived.Lay
import Derived.OpenShut
namespace Go.Vm
open Go.Lib
theorem cell_lt {W : World} {g i : Nat} {v : Value} (h : W.cell? ⟨g, i, none⟩ = some v) : g < W.heap.size := by
  unfold World.cell? at h
  simp only at h
  rcases Nat.lt_or_ge g W.heap.size with h1 | h1
  · exact h1
  · rw [Array.getElem?_eq_none h1] at h; simp at h
theorem laid_float {P : Program} {W : World} {l : List (String × DataW Unit)} {n : String} {k : FloatKind} {b g : Nat} {t : TypeId} (h : laidMet P l W) (hm : (n, .lit (.float k b)) ∈ l) (hg : P.globalNamed n = some g)
    (hty : (P.globals[g]?).map (·.type) = some t) (ht : P.underlying t = some (.float k)) : g < W.heap.size ∧ W.cell? ⟨g, 0, none⟩ = some (.float k b) := by
  obtain ⟨g', t', cs, fuel, p, h1, h2, h3, h4⟩ := laidMet.reads h hm
  obtain rfl := Option.some.inj (hg.symm.trans h1)
  obtain rfl := Option.some.inj (hty.symm.trans h2)
  have hc : cs = #[.float k b] := by
    cases fuel with
    | zero => simp [DataW.trod] at h4
    | succ fuel =>
      simp only [DataW.trod, ht] at h4
      generalize hl : cs.toList = l at *
      have hcs : cs = l.toArray := by rw [← hl]
      rw [hcs]
      split at h4 <;> simp_all
  have hv := World.var?_cell hg h3 0
  subst hc
  exact ⟨cell_lt (by rw [hv]; rfl), by rw [hv]; rfl⟩
theorem laid_err {P : Program} {W : World} {l : List (String × DataW Unit)} {n nm : String} {x : DataW Unit} {g : Nat} {t : TypeId} {ms : Array (String × TypeId)} (h : laidMet P l W) (hm : (n, .iface nm x) ∈ l) (hg : P.globalNamed n = some g)
    (hty : (P.globals[g]?).map (·.type) = some t) (ht : P.underlying t = some (.interface ms)) : g < W.heap.size ∧ ∃ t u, W.cell? ⟨g, 0, none⟩ = some (.iface t u) := by
  obtain ⟨g', t', cs, fuel, p, h1, h2, h3, h4⟩ := laidMet.reads h hm
  obtain rfl := Option.some.inj (hg.symm.trans h1)
  obtain rfl := Option.some.inj (hty.symm.trans h2)
  have hc : ∃ u v, cs = #[.iface u v] := by
    cases fuel with
    | zero => simp [DataW.trod] at h4
    | succ fuel =>
      simp only [DataW.trod, ht] at h4
      generalize hl : cs.toList = l at *
      have hcs : cs = l.toArray := by rw [← hl]
      rw [hcs]
      split at h4
      all_goals first
        | (cases h4; done)
        | skip
      all_goals simp_all
  obtain ⟨u, v, rfl⟩ := hc
  have hv := World.var?_cell hg h3 0
  exact ⟨cell_lt (by rw [hv]; rfl), u, v, by rw [hv]; rfl⟩
theorem laid_arr {P : Program} {W : World} {l : List (String × DataW Unit)} {n : String} {bs : List Nat} {g m : Nat} {t el : TypeId} (h : laidMet P l W) (hm : (n, .agg (bs.map fun b => .lit (.float .f64 b))) ∈ l) (hg : P.globalNamed n = some g)
    (hty : (P.globals[g]?).map (·.type) = some t) (ht : P.underlying t = some (.array m el)) (hel : P.underlying el = some (.float .f64)) (hc : P.cellsOf el = 1) (k b : Nat) (hk : bs[k]? = some b) : g < W.heap.size ∧ W.cell? ⟨g, k, none⟩ = some (.float .f64 b) := by
  obtain ⟨g', t', cs, fuel, p, h1, h2, h3, h4⟩ := laidMet.reads h hm
  obtain rfl := Option.some.inj (hg.symm.trans h1)
  obtain rfl := Option.some.inj (hty.symm.trans h2)
  obtain ⟨xs, fm, _, ex, hlen, hl, hel'⟩ := DataW.trod_array ht h4
  have e3 := DataW.agg.inj (Prod.mk.inj ex).1
  have hx : (xs.map (·.1))[k]? = some (.lit (.float .f64 b)) := by rw [← e3, List.getElem?_map, hk]; rfl
  rw [List.getElem?_map, Option.map_eq_some_iff] at hx
  obtain ⟨x, hxk, hxb⟩ := hx
  have hkm : k < m := by rw [← hl]; exact (List.getElem?_eq_some_iff.1 hxk).1
  have hd := hel' k hkm
  rw [hxk, hc, Nat.mul_one] at hd
  have hcell : (cs.toList.drop k).take 1 = [.float .f64 b] := by
    cases fm with
    | zero => simp [DataW.trod] at hd
    | succ fm =>
      simp only [DataW.trod, hel] at hd
      generalize hq : (cs.toList.drop k).take 1 = q at *
      split at hd <;> simp_all
      all_goals (obtain ⟨_, rfl⟩ := hd; simp_all)
  have hg0 : cs.toList[k]? = some (.float .f64 b) := by
    have : ((cs.toList.drop k).take 1)[0]? = some (.float .f64 b) := by rw [hcell]; rfl
    rw [List.getElem?_take, if_pos (by omega), List.getElem?_drop] at this
    simpa using this
  have hv := World.var?_cell hg h3 k
  have hcs : cs[k]? = some (.float .f64 b) := by rw [← hg0]; simp
  exact ⟨cell_lt (by rw [hv, hcs]), by rw [hv, hcs]⟩
end Go.Vm
