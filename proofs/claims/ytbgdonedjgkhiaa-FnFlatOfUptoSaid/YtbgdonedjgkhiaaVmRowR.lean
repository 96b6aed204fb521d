/- Arguments whose types lead to themselves. -/
import Derived.Test.YtbgdonedjgkhiaaVmRow
namespace Go.Vm
set_option linter.unusedVariables false
section
variable {P : Program} {W : World} {H : Type} {enc : TypeId × Value → H}
/-- Types of a list lead to none outside it, but for numbers, truth values and strings. -/
def closedT (P : Program) (ts : List TypeId) : Bool := ts.all fun t => match P.underlying t with
  | some .bool | some (.int _) | some (.float _) | some .string => true
  | some (.slice e) => decide (0 < P.cellsOf e) && ts.contains e
  | some (.struct fs) => tiles P 0 fs.toList (P.cellsOf t) && fs.toList.all fun f => ts.contains f.type
  | _ => false
theorem closed_good {ts : List TypeId} (h : closedT P ts = true) : ∀ (n : Nat) (t : TypeId), t ∈ ts → goodT P n t = true := by
  intro n
  induction n with
  | zero => intro t _; rfl
  | succ n ih =>
    intro t ht
    have := List.all_eq_true.1 h t ht
    unfold goodT
    split at this
    · rename_i e; rw [e]
    · rename_i e; rw [e]
    · rename_i e; rw [e]
    · rename_i e; rw [e]
    · rename_i e q; rw [q]
      simp only [Bool.and_eq_true, List.contains_iff_mem] at this ⊢
      exact ⟨this.1, ih _ this.2⟩
    · rename_i fs q; rw [q]
      simp only [Bool.and_eq_true, List.all_eq_true, List.contains_iff_mem] at this ⊢
      exact ⟨this.1, fun f hf => ih _ (this.2 f hf)⟩
    · cases this
theorem arg_structR {base : Nat} {t : TypeId} {v : Value} {d : DataW H} {p : List MemPlace} {fs : Array Field} (ts : List TypeId) (ht : P.underlying t = some (.struct fs)) (hc : closedT P ts = true) (hm : ts.contains t = true) (hval : Value.okWide P W .any base t v)
    (h : DataW.Trod enc P W 0 (fun _ => true) true t v d p) : ∃ n xs, RepD W (fun b => b < W.heap.size) (.ag xs) v ∧ Shape P n t xs := by
  obtain ⟨cs, rfl, _⟩ := WideShapes.okWide_struct ht hval
  obtain ⟨n, hn⟩ := h
  obtain ⟨xs, hr, hs⟩ := trod_shape n t _ _ (closed_good hc n t (by simpa using hm)) hn
  refine ⟨n, xs, ?_, hs⟩
  have := RepD.ag xs (cs.toList) (w := W) (ok := fun b => b < W.heap.size) (by rw [hr.1]; rfl) (fun i x y hx hy => hr.2 i x y hx hy)
  simpa using this
theorem arg_oneR {base : Nat} {t : TypeId} {v : Value} {d : DataW H} {p : List MemPlace} (ts : List TypeId) (hsc : scalarT P t = true) (hc : closedT P ts = true) (hm : ts.contains t = true) (hval : Value.okWide P W .any base t v)
    (h : DataW.Trod enc P W 0 (fun _ => true) true t v d p) : ∃ n x, RepD W (fun b => b < W.heap.size) x v ∧ Shape P n t [x] := by
  have hcs := okWide_scalar hsc hval
  obtain ⟨n, hn⟩ := h
  obtain ⟨xs, hr, hs⟩ := trod_shape n t _ _ (closed_good hc n t (by simpa using hm)) hn
  rw [hcs] at hr
  obtain ⟨hl, hx⟩ := hr
  match xs, hl with
  | [x], _ => exact ⟨n, x, hx 0 _ _ rfl rfl, hs⟩
theorem shape_sliceR {n : Nat} {t e : TypeId} {xs : List D} (hu : P.underlying t = some (.slice e)) (h : Shape P n t xs) :
    ∃ m rows, n = m + 1 ∧ xs = [.ds (P.cellsOf e) (List.flatten rows)] ∧ rows.length ≤ maxLen ∧ ∀ r, r ∈ rows → Shape P m e r := by
  cases n with
  | zero => simp only [Shape] at h
  | succ n => simp only [Shape, hu] at h; obtain ⟨rows, h1, h2, h3⟩ := h; exact ⟨n, rows, rfl, h1, h2, fun r hr => (h3 r hr).1⟩
theorem shape_structR {n : Nat} {t : TypeId} {fs : List Field} {xs : List D} (hu : P.underlying t = some (.struct fs.toArray)) (h : Shape P n t xs) : ∃ m, n = m + 1 ∧ ShapeL P m (fs.map (·.type)) xs := by
  cases n with
  | zero => simp only [Shape] at h
  | succ n => simp only [Shape, hu] at h; exact ⟨n, rfl, h⟩
theorem flat_map {α : Type} (f : α → List D) (l : List α) : (l.map f).flatten = l.flatMap f := by
  rw [List.flatMap_def]
end
end Go.Vm
