/- Arguments of numbers and slices, and the bulk of what is read of them: for rows whose condition bounds it. -/
import Derived.Test.YtbgdonedjgkhiaaVmRow
namespace Go.Vm
set_option linter.unusedVariables false
mutual
def bulkD : D → Nat
  | .v _ => 1
  | .ds _ l => bulkDs l + 1
  | .pt l => bulkDs l + 1
  | .ag l => bulkDs l + 1
  | .ifc _ x => bulkD x + 1
  | .tu l => bulkDs l + 1
  | .clo _ l => bulkDs l + 1
def bulkDs : List D → Nat
  | [] => 0
  | x :: l => bulkD x + bulkDs l
end
theorem bulkDs_app : ∀ a b : List D, bulkDs (a ++ b) = bulkDs a + bulkDs b
  | [], b => by simp [bulkDs]
  | x :: a, b => by simp only [List.cons_append, bulkDs, bulkDs_app a b]; omega
theorem bulkDs_map {α : Type} (f : α → D) : ∀ l : List α, bulkDs (l.map f) = (l.map fun x => bulkD (f x)).sum
  | [] => rfl
  | x :: l => by simp only [List.map_cons, bulkDs, List.sum_cons, bulkDs_map f l]
/-- Numbers, truth values, strings, and slices of such. -/
def goodB (P : Program) : Nat → TypeId → Bool
  | 0, _ => true
  | n + 1, t => match P.underlying t with
    | some .bool | some (.int _) | some (.float _) | some .string => true
    | some (.slice e) => decide (0 < P.cellsOf e) && goodB P n e
    | _ => false
/-- The same, with an end. -/
def goodBS (P : Program) : Nat → TypeId → Bool
  | 0, _ => false
  | n + 1, t => match P.underlying t with
    | some .bool | some (.int _) | some (.float _) | some .string => true
    | some (.slice e) => decide (0 < P.cellsOf e) && goodBS P n e
    | _ => false
theorem goodBS_B {P : Program} : ∀ (k n : Nat) (t : TypeId), goodBS P k t = true → goodB P n t = true := by
  intro k
  induction k with
  | zero => intro n t h; cases h
  | succ k ih =>
    intro n t h
    cases n with
    | zero => rfl
    | succ n =>
      unfold goodBS at h
      unfold goodB
      cases hu : P.underlying t with
      | none => simp [hu] at h
      | some u =>
        cases u with
        | bool => rfl
        | int _ => rfl
        | float _ => rfl
        | string => rfl
        | slice e =>
          simp only [hu, Bool.and_eq_true] at h ⊢
          exact ⟨h.1, ih _ _ h.2⟩
        | _ => simp [hu] at h
variable {H : Type} {enc : TypeId × Value → H} {P : Program} {W : World}
theorem bulk_rows {B : DataW H → Nat} {Bs : List (DataW H) → Nat} (hBc : ∀ d r, Bs (d :: r) = B d + Bs r) : ∀ {rows : List (List D)} {elems : List (DataW H × List MemPlace)}, rows.length = elems.length →
    (∀ (i : Nat) r, rows[i]? = some r → ∃ y, elems[i]? = some y ∧ bulkDs r ≤ B y.1) → bulkDs rows.flatten ≤ Bs (elems.map (·.1))
  | [], es, _, _ => by simp [bulkDs]
  | r :: rows, [], h, _ => by simp at h
  | r :: rows, e :: es, h, hr => by
    obtain ⟨y, h1, h2⟩ := hr 0 r rfl
    cases h1
    have := bulk_rows hBc (rows := rows) (elems := es) (by simpa using h) (fun i x hx => hr (i + 1) x hx)
    rw [List.flatten_cons, bulkDs_app, List.map_cons, hBc]
    omega
theorem trod_bulk {B : DataW H → Nat} {Bs : List (DataW H) → Nat} (hB1 : ∀ d, 1 ≤ B d) (hBs : ∀ es sp, Bs es + 1 ≤ B (.slice es sp)) (hBc : ∀ d r, Bs (d :: r) = B d + Bs r) : ∀ (n : Nat) (t : TypeId) (cs : List Value) (d : DataW H × List MemPlace), goodB P n t = true → DataW.trod enc P W 0 (fun _ => true) true n t cs = some d →
    ∃ xs, RepC W xs cs ∧ Shape P n t xs ∧ bulkDs xs ≤ B d.1 := by
  intro n
  induction n with
  | zero => intro t cs d _ h; cases h
  | succ n ih =>
    intro t cs d hg h
    have single : ∀ (x : D) (v : Value), RepD W (fun b => b < W.heap.size) x v → RepC W [x] [v] := fun x v hr => ⟨rfl, fun i p q hp hq => by
      cases i with
      | zero => cases hp; cases hq; exact hr
      | succ i => simp at hp⟩
    cases hu : P.underlying t with
    | none => simp [goodB, hu] at hg
    | some u =>
      cases u with
      | bool =>
        obtain ⟨b, rfl, _⟩ := DataW.trod_bool hu h
        exact ⟨_, single _ _ (.v _), (by simp only [Shape, hu]; exact ⟨b, rfl⟩), hB1 _⟩
      | int k =>
        obtain ⟨m, rfl, _, hw⟩ := DataW.trod_int hu h
        exact ⟨_, single _ _ (.v _), (by simp only [Shape, hu]; exact ⟨m, rfl, wf_bounds hw⟩), hB1 _⟩
      | float k =>
        obtain ⟨b, rfl, hw⟩ := trod_float hu h
        exact ⟨_, single _ _ (.v _), (by simp only [Shape, hu]; exact ⟨b, rfl, hw⟩), hB1 _⟩
      | string =>
        obtain ⟨s, rfl, _, hw⟩ := DataW.trod_string hu h
        exact ⟨_, single _ _ (.v _), (by simp only [Shape, hu]; exact ⟨s, rfl, hw⟩), hB1 _⟩
      | slice e =>
        simp only [goodB, hu, Bool.and_eq_true, decide_eq_true_eq] at hg
        rcases DataW.trod_slice hu h with ⟨rfl, _⟩ | ⟨a, len, cap, elems, rest, m, he, rfl, hd1, hb, hlc, hcm, hel, hf, _⟩
        · refine ⟨_, single (.ds (P.cellsOf e) []) _ (.nil _ _ _), ?_, by simpa [bulkDs, bulkD] using hB1 _⟩
          simp only [Shape, hu]
          exact ⟨[], rfl, by simp, fun r hr => by simp at hr⟩
        · cases he
          obtain ⟨rows, hrl, hrr⟩ := list_choose (p := fun (i : Nat) (r : List D) => ∃ l, W.cells? 0 (a.add (i * P.cellsOf e)) (P.cellsOf e) = some l ∧ RepC W r l ∧ Shape P n e r ∧ ∃ y, elems[i]? = some y ∧ bulkDs r ≤ B y.1) (List.range len) (fun i hi => by
            have hlt : i < len := by simpa using hi
            have := hf i hlt
            rw [List.getElem?_eq_getElem (by omega)] at this
            rw [Option.bind_eq_some_iff] at this
            obtain ⟨l, h1, h2⟩ := this
            obtain ⟨r, h3, h4, h5⟩ := ih _ _ _ hg.2 h2
            exact ⟨r, l, h1, h3, h4, _, List.getElem?_eq_getElem (by omega), h5⟩)
          simp at hrl
          have hrow : ∀ (i : Nat), i < len → ∃ r l, rows[i]? = some r ∧ W.cells? 0 (a.add (i * P.cellsOf e)) (P.cellsOf e) = some l ∧ RepC W r l ∧ Shape P n e r ∧ ∃ y, elems[i]? = some y ∧ bulkDs r ≤ B y.1 := fun i hi => by
            have h1 : rows[i]? = some rows[i] := List.getElem?_eq_getElem (by omega)
            obtain ⟨l, h2⟩ := hrr i i _ (by simp [hi]) h1
            exact ⟨_, l, h1, h2⟩
          have hall : ∀ r, r ∈ rows → Shape P n e r ∧ r.length = P.cellsOf e := fun r hr => by
            obtain ⟨i, hi⟩ := List.getElem?_of_mem hr
            have hlt := (List.getElem?_eq_some_iff.1 hi).1
            obtain ⟨r', l, h1, h2, h3, h4, _⟩ := hrow i (by omega)
            rw [hi] at h1; cases h1
            exact ⟨h4, by rw [h3.1]; exact (cells?_spec h2).1⟩
          have hbk : bulkDs rows.flatten ≤ Bs (elems.map (·.1)) := bulk_rows hBc (by omega) (fun i r hi => by
            have hlt := (List.getElem?_eq_some_iff.1 hi).1
            obtain ⟨r', l, h1, h2, h3, h4, y, h5, h6⟩ := hrow i (by omega)
            rw [hi] at h1; cases h1
            exact ⟨y, h5, h6⟩)
          refine ⟨[.ds (P.cellsOf e) rows.flatten], single _ _ ?_, (by simp only [Shape, hu]; exact ⟨rows, rfl, by omega, hall⟩), Nat.le_trans (show bulkDs [.ds (P.cellsOf e) rows.flatten] ≤ Bs (elems.map (·.1)) + 1 by simp only [bulkDs, bulkD]; omega) (by rw [hd1]; exact hBs _ _)⟩
          rcases Nat.eq_zero_or_pos len with h0 | hpos
          · have : rows = [] := List.eq_nil_of_length_eq_zero (by omega)
            subst this; subst h0
            exact .nil _ _ _
          · -- the address
            obtain ⟨r0, l0, _, hc0, _⟩ := hrow 0 hpos
            rw [Nat.zero_mul, show a.add 0 = a from by simp [Addr.add]] at hc0
            have hc00 := (cells?_spec hc0).2 0 hg.1
            rw [show a.add 0 = a from by simp [Addr.add]] at hc00
            rw [List.getElem?_eq_getElem (by rw [(cells?_spec hc0).1]; exact hg.1)] at hc00
            have hspot := cell_spot hc00
            have hblk := cell_block hc00
            have ha : a = ⟨a.block, a.off, none⟩ := by cases a; simp_all
            have hcell : ∀ (i : Nat), i < len * P.cellsOf e → ∃ r l x, rows[i / P.cellsOf e]? = some r ∧ RepC W r l ∧ rows.flatten[i]? = some x ∧ r[i % P.cellsOf e]? = some x ∧ W.cell? ⟨a.block, a.off + i, none⟩ = l[i % P.cellsOf e]? := fun i hi => by
              have hlt : i < rows.flatten.length := by rw [flatten_len fun r hr => (hall r hr).2, hrl]; exact hi
              have hx : rows.flatten[i]? = some rows.flatten[i] := List.getElem?_eq_getElem hlt
              obtain ⟨r, h1, h2⟩ := flatten_get (fun r hr => (hall r hr).2) i _ hx
              have hq : i / P.cellsOf e < len := by rw [Nat.div_lt_iff_lt_mul hg.1]; exact hi
              obtain ⟨r', l, h3, h4, h5, _⟩ := hrow _ hq
              rw [h1] at h3; cases h3
              refine ⟨r, l, _, h1, h5, hx, h2, ?_⟩
              rw [← (cells?_spec h4).2 _ (Nat.mod_lt _ hg.1), ha, Addr.add_of, Addr.add_of]
              have : a.off + i / P.cellsOf e * P.cellsOf e + i % P.cellsOf e = a.off + i := by rw [Nat.add_assoc, Nat.div_add_mod' i (P.cellsOf e)]
              rw [this]
            rw [ha]
            refine .ds _ _ _ _ _ _ (fun i => (W.cell? ⟨a.block, a.off + i, none⟩).getD undef) (by rw [flatten_len fun r hr => (hall r hr).2, hrl]) hlc hblk (fun i hi => ?_) (fun i x hx => ?_)
            · rw [flatten_len fun r hr => (hall r hr).2, hrl] at hi
              obtain ⟨r, l, x, _, hrep, _, hx, hc⟩ := hcell i hi
              have hlt := (List.getElem?_eq_some_iff.1 hx).1
              rw [hc, List.getElem?_eq_getElem (by rw [← hrep.1]; exact hlt)]; rfl
            · have hi := (List.getElem?_eq_some_iff.1 hx).1
              rw [flatten_len fun r hr => (hall r hr).2, hrl] at hi
              obtain ⟨r, l, x', _, hrep, hx', hxr, hc⟩ := hcell i hi
              rw [hx] at hx'; cases hx'
              have hlt := (List.getElem?_eq_some_iff.1 hxr).1
              have hlv : l[i % P.cellsOf e]? = some (l[i % P.cellsOf e]'(by rw [← hrep.1]; exact hlt)) := List.getElem?_eq_getElem _
              rw [hc, hlv]
              exact hrep.2 _ _ _ hxr hlv
      | _ => simp [goodB, hu] at hg

theorem arg_oneB {B : DataW H → Nat} {Bs : List (DataW H) → Nat} (hB1 : ∀ d, 1 ≤ B d) (hBs : ∀ es sp, Bs es + 1 ≤ B (.slice es sp)) (hBc : ∀ d r, Bs (d :: r) = B d + Bs r)
    {k base : Nat} {t : TypeId} {v : Value} {d : DataW H} {p : List MemPlace} (ht : scalarT P t = true) (hg : goodBS P k t = true) (hval : Value.okWide P W .any base t v)
    (h : DataW.Trod enc P W 0 (fun _ => true) true t v d p) : ∃ n x, RepD W (fun b => b < W.heap.size) x v ∧ Shape P n t [x] ∧ bulkD x ≤ B d := by
  obtain ⟨n, hn⟩ := h
  rw [okWide_scalar ht hval] at hn
  obtain ⟨xs, hr, hs, hb⟩ := trod_bulk hB1 hBs hBc n t _ _ (goodBS_B k n t hg) hn
  match xs, hr, hs, hb with
  | [x], hr, hs, hb => exact ⟨n, x, hr.2 0 x v rfl rfl, hs, by simpa [bulkDs] using hb⟩
  | [], hr, _, _ => exact absurd hr.1 (by simp)
  | _ :: _ :: _, hr, _, _ => exact absurd hr.1 (by simp)
end Go.Vm
