/- The framework by which a function is walked through: what this claim needs of it. -/
import Derived.Test.YtbinnbmpedmabaaGreatLibA
import Derived.Test.YtbinnbmpedmabaaGreatLibB
/- The numbers of bytes.Buffer's methods and types in this program, as the library's contracts ask for them. -/
namespace Go.Proofs.YtbinnbmpedmabaaGreat.Wk
open Go Go.Vm Go.Proofs Go.Shelf Go.RowKit
set_option maxRecDepth 100000
def bufRen : Ren := ⟨fun n => if n = 180 then 106 else if n = 181 then 109 else if n = 184 then 104 else if n = 251 then 107 else if n = 252 then 108 else if n = 290 then 110 else if n = 324 then 111 else 0, fun n => if n = 0 then 0 else if n = 3 then 3 else if n = 4 then 4 else if n = 5 then 5 else if n = 9 then 9 else if n = 20 then 20 else if n = 37 then 30 else if n = 75 then 44 else if n = 80 then 172 else if n = 91 then 106 else if n = 93 then 108 else if n = 130 then 61 else if n = 131 then 103 else 0, fun n => if n = 14 then 3 else 0⟩
theorem bufL0 : Lays.n180 Tryz.prog bufRen where
 mixed := by kernel_rfl
 f180 := Tryz.func106
 f181 := Tryz.func109
 f184 := Tryz.func104
 f251 := Tryz.func107
 f252 := Tryz.func108
 f290 := Tryz.func110
 f324 := Tryz.func111
 t0 := Tryz.underlying0
 a0 := Tryz.isAgg0
 z0 := Tryz.sizeOf0
 v0 := Tryz.zeroValue0
 t3 := Tryz.underlying3
 a3 := Tryz.isAgg3
 z3 := Tryz.sizeOf3
 v3 := Tryz.zeroValue3
 t4 := Tryz.underlying4
 a4 := Tryz.isAgg4
 z4 := Tryz.sizeOf4
 v4 := Tryz.zeroValue4
 t20 := Tryz.underlying20
 a20 := Tryz.isAgg20
 z20 := Tryz.sizeOf20
 v20 := Tryz.zeroValue20
 t37 := Tryz.underlying30
 a37 := Tryz.isAgg30
 z37 := Tryz.sizeOf30
 v37 := Tryz.zeroValue30
 t75 := Tryz.underlying44
 a75 := Tryz.isAgg44
 z75 := Tryz.sizeOf44
 v75 := Tryz.zeroValue44
 t91 := Tryz.underlying106
 a91 := Tryz.isAgg106
 z91 := Tryz.sizeOf106
 v91 := Tryz.zeroValue106
 t93 := Tryz.underlying108
 a93 := Tryz.isAgg108
 z93 := Tryz.sizeOf108
 v93 := Tryz.zeroValue108
 t130 := Tryz.underlying61
 a130 := Tryz.isAgg61
 z130 := Tryz.sizeOf61
 v130 := Tryz.zeroValue61
 t131 := Tryz.underlying103
 a131 := Tryz.isAgg103
 z131 := Tryz.sizeOf103
 v131 := Tryz.zeroValue103
 g14 := by kernel_rfl
theorem bufL : LaysM.n180 Tryz.prog bufRen where
 ton180 := bufL0
 t5 := Tryz.underlying5
 a5 := Tryz.isAgg5
 z5 := Tryz.sizeOf5
 v5 := Tryz.zeroValue5
 t9 := Tryz.underlying9
 a9 := Tryz.isAgg9
 z9 := Tryz.sizeOf9
 v9 := Tryz.zeroValue9
 t80 := Tryz.underlying172
 a80 := Tryz.isAgg172
 z80 := Tryz.sizeOf172
 v80 := Tryz.zeroValue172
 i0 := by kernel_rfl
 i3 := by kernel_rfl
 i4 := by kernel_rfl
 i5 := by kernel_rfl
 i9 := by kernel_rfl
 i20 := by kernel_rfl
 i37 := by kernel_rfl
 i75 := by kernel_rfl
 i80 := by kernel_rfl
 i91 := by kernel_rfl
 i93 := by kernel_rfl
 i130 := by kernel_rfl
 i131 := by kernel_rfl
 m14 := by kernel_rfl
theorem bufW : BufWr Tryz.prog 106 108 5 := ⟨by kernel_rfl, fun b v lr bs cs ao n c w h1 h2 h3 h4 h5 h6 h7 h8 => write_k bufL b v lr bs cs ao n c w h1 h2 h3 h4 h5 h6 h7 h8⟩
end Go.Proofs.YtbinnbmpedmabaaGreat.Wk

/- Arguments of numbers and slices, and the bulk of what is read of them: for rows whose condition bounds it. -/
namespace Go.Vm
set_option linter.unusedVariables false
mutual
def bulkD : D → Nat
 | .v _ => 1
 | .ds _ l => bulkDs l + 1
 | .pt l => bulkDs l + 1
 | .ag l => bulkDs l + 1
 | .ifc _ x => bulkD x + 1
 | .tu l => bulkDs l + 1
 | .clo _ l => bulkDs l + 1
def bulkDs : List D → Nat
 | [] => 0
 | x :: l => bulkD x + bulkDs l
end
theorem bulkDs_app : ∀ a b : List D, bulkDs (a ++ b) = bulkDs a + bulkDs b
 | [], b => by simp [bulkDs]
 | x :: a, b => by simp only [List.cons_append, bulkDs, bulkDs_app a b]; omega
def goodB (P : Program) : Nat → TypeId → Bool
 | 0, _ => true
 | n + 1, t => match P.underlying t with
  | some .bool | some (.int _) | some (.float _) | some .string => true
  | some (.slice e) => decide (0 < P.cellsOf e) && goodB P n e
  | _ => false
def goodBS (P : Program) : Nat → TypeId → Bool
 | 0, _ => false
 | n + 1, t => match P.underlying t with
  | some .bool | some (.int _) | some (.float _) | some .string => true
  | some (.slice e) => decide (0 < P.cellsOf e) && goodBS P n e
  | _ => false
theorem goodBS_B {P : Program} : ∀ (k n : Nat) (t : TypeId), goodBS P k t = true → goodB P n t = true := by
 intro k
 induction k with
 | zero => intro n t h; cases h
 | succ k ih =>
  intro n t h
  cases n with
  | zero => rfl
  | succ n =>
   unfold goodBS at h
   unfold goodB
   cases hu : P.underlying t with
   | none => simp [hu] at h
   | some u =>
    cases u with
    | bool => rfl
    | int _ => rfl
    | float _ => rfl
    | string => rfl
    | slice e =>
     simp only [hu, Bool.and_eq_true] at h ⊢
     exact ⟨h.1, ih _ _ h.2⟩
    | _ => simp [hu] at h
variable {H : Type} {enc : TypeId × Value → H} {P : Program} {W : World}
theorem bulk_rows {B : DataW H → Nat} {Bs : List (DataW H) → Nat} (hBc : ∀ d r, Bs (d :: r) = B d + Bs r) : ∀ {rows : List (List D)} {elems : List (DataW H × List MemPlace)}, rows.length = elems.length →
  (∀ (i : Nat) r, rows[i]? = some r → ∃ y, elems[i]? = some y ∧ bulkDs r ≤ B y.1) → bulkDs rows.flatten ≤ Bs (elems.map (·.1))
 | [], es, _, _ => by simp [bulkDs]
 | r :: rows, [], h, _ => by simp at h
 | r :: rows, e :: es, h, hr => by
  obtain ⟨y, h1, h2⟩ := hr 0 r rfl
  cases h1
  have := bulk_rows hBc (rows := rows) (elems := es) (by simpa using h) (fun i x hx => hr (i + 1) x hx)
  rw [List.flatten_cons, bulkDs_app, List.map_cons, hBc]
  omega
theorem trod_bulk {B : DataW H → Nat} {Bs : List (DataW H) → Nat} (hB1 : ∀ d, 1 ≤ B d) (hBs : ∀ es sp, Bs es + 1 ≤ B (.slice es sp)) (hBc : ∀ d r, Bs (d :: r) = B d + Bs r) : ∀ (n : Nat) (t : TypeId) (cs : List Value) (d : DataW H × List MemPlace), goodB P n t = true → DataW.trod enc P W 0 (fun _ => true) true n t cs = some d →
  ∃ xs, RepC W xs cs ∧ Shape P n t xs ∧ bulkDs xs ≤ B d.1 := by
 intro n
 induction n with
 | zero => intro t cs d _ h; cases h
 | succ n ih =>
  intro t cs d hg h
  have single : ∀ (x : D) (v : Value), RepD W (fun b => b < W.heap.size) x v → RepC W [x] [v] := fun x v hr => ⟨rfl, fun i p q hp hq => by
   cases i with
   | zero => cases hp; cases hq; exact hr
   | succ i => simp at hp⟩
  cases hu : P.underlying t with
  | none => simp [goodB, hu] at hg
  | some u =>
   cases u with
   | bool =>
    obtain ⟨b, rfl, _⟩ := DataW.trod_bool hu h
    exact ⟨_, single _ _ (.v _), (by simp only [Shape, hu]; exact ⟨b, rfl⟩), hB1 _⟩
   | int k =>
    obtain ⟨m, rfl, _, hw⟩ := DataW.trod_int hu h
    exact ⟨_, single _ _ (.v _), (by simp only [Shape, hu]; exact ⟨m, rfl, wf_bounds hw⟩), hB1 _⟩
   | float k =>
    obtain ⟨b, rfl, hw⟩ := trod_float hu h
    exact ⟨_, single _ _ (.v _), (by simp only [Shape, hu]; exact ⟨b, rfl, hw⟩), hB1 _⟩
   | string =>
    obtain ⟨s, rfl, _, hw⟩ := DataW.trod_string hu h
    exact ⟨_, single _ _ (.v _), (by simp only [Shape, hu]; exact ⟨s, rfl, hw⟩), hB1 _⟩
   | slice e =>
    simp only [goodB, hu, Bool.and_eq_true, decide_eq_true_eq] at hg
    rcases DataW.trod_slice hu h with ⟨rfl, _⟩ | ⟨a, len, cap, elems, rest, m, he, rfl, hd1, hb, hlc, hcm, hel, hf, _⟩
    ·refine ⟨_, single (.ds (P.cellsOf e) []) _ (.nil _ _ _), ?_, by simpa [bulkDs, bulkD] using hB1 _⟩
     simp only [Shape, hu]
     exact ⟨[], rfl, by simp, fun r hr => by simp at hr⟩
    ·cases he
     obtain ⟨rows, hrl, hrr⟩ := list_choose (p := fun (i : Nat) (r : List D) => ∃ l, W.cells? 0 (a.add (i * P.cellsOf e)) (P.cellsOf e) = some l ∧ RepC W r l ∧ Shape P n e r ∧ ∃ y, elems[i]? = some y ∧ bulkDs r ≤ B y.1) (List.range len) (fun i hi => by
      have hlt : i < len := by simpa using hi
      have := hf i hlt
      rw [List.getElem?_eq_getElem (by omega)] at this
      rw [Option.bind_eq_some_iff] at this
      obtain ⟨l, h1, h2⟩ := this
      obtain ⟨r, h3, h4, h5⟩ := ih _ _ _ hg.2 h2
      exact ⟨r, l, h1, h3, h4, _, List.getElem?_eq_getElem (by omega), h5⟩)
     simp at hrl
     have hrow : ∀ (i : Nat), i < len → ∃ r l, rows[i]? = some r ∧ W.cells? 0 (a.add (i * P.cellsOf e)) (P.cellsOf e) = some l ∧ RepC W r l ∧ Shape P n e r ∧ ∃ y, elems[i]? = some y ∧ bulkDs r ≤ B y.1 := fun i hi => by
      have h1 : rows[i]? = some rows[i] := List.getElem?_eq_getElem (by omega)
      obtain ⟨l, h2⟩ := hrr i i _ (by simp [hi]) h1
      exact ⟨_, l, h1, h2⟩
     have hall : ∀ r, r ∈ rows → Shape P n e r ∧ r.length = P.cellsOf e := fun r hr => by
      obtain ⟨i, hi⟩ := List.getElem?_of_mem hr
      have hlt := (List.getElem?_eq_some_iff.1 hi).1
      obtain ⟨r', l, h1, h2, h3, h4, _⟩ := hrow i (by omega)
      rw [hi] at h1; cases h1
      exact ⟨h4, by rw [h3.1]; exact (cells?_spec h2).1⟩
     have hbk : bulkDs rows.flatten ≤ Bs (elems.map (·.1)) := bulk_rows hBc (by omega) (fun i r hi => by
      have hlt := (List.getElem?_eq_some_iff.1 hi).1
      obtain ⟨r', l, h1, h2, h3, h4, y, h5, h6⟩ := hrow i (by omega)
      rw [hi] at h1; cases h1
      exact ⟨y, h5, h6⟩)
     refine ⟨[.ds (P.cellsOf e) rows.flatten], single _ _ ?_, (by simp only [Shape, hu]; exact ⟨rows, rfl, by omega, hall⟩), Nat.le_trans (show bulkDs [.ds (P.cellsOf e) rows.flatten] ≤ Bs (elems.map (·.1)) + 1 by simp only [bulkDs, bulkD]; omega) (by rw [hd1]; exact hBs _ _)⟩
     rcases Nat.eq_zero_or_pos len with h0 | hpos
     ·have : rows = [] := List.eq_nil_of_length_eq_zero (by omega)
      subst this; subst h0
      exact .nil _ _ _
     ·-- the address
      obtain ⟨r0, l0, _, hc0, _⟩ := hrow 0 hpos
      rw [Nat.zero_mul, show a.add 0 = a from by simp [Addr.add]] at hc0
      have hc00 := (cells?_spec hc0).2 0 hg.1
      rw [show a.add 0 = a from by simp [Addr.add]] at hc00
      rw [List.getElem?_eq_getElem (by rw [(cells?_spec hc0).1]; exact hg.1)] at hc00
      have hspot := cell_spot hc00
      have hblk := cell_block hc00
      have ha : a = ⟨a.block, a.off, none⟩ := by cases a; simp_all
      have hcell : ∀ (i : Nat), i < len * P.cellsOf e → ∃ r l x, rows[i / P.cellsOf e]? = some r ∧ RepC W r l ∧ rows.flatten[i]? = some x ∧ r[i % P.cellsOf e]? = some x ∧ W.cell? ⟨a.block, a.off + i, none⟩ = l[i % P.cellsOf e]? := fun i hi => by
       have hlt : i < rows.flatten.length := by rw [flatten_len fun r hr => (hall r hr).2, hrl]; exact hi
       have hx : rows.flatten[i]? = some rows.flatten[i] := List.getElem?_eq_getElem hlt
       obtain ⟨r, h1, h2⟩ := flatten_get (fun r hr => (hall r hr).2) i _ hx
       have hq : i / P.cellsOf e < len := by rw [Nat.div_lt_iff_lt_mul hg.1]; exact hi
       obtain ⟨r', l, h3, h4, h5, _⟩ := hrow _ hq
       rw [h1] at h3; cases h3
       refine ⟨r, l, _, h1, h5, hx, h2, ?_⟩
       rw [← (cells?_spec h4).2 _ (Nat.mod_lt _ hg.1), ha, Addr.add_of, Addr.add_of]
       have : a.off + i / P.cellsOf e * P.cellsOf e + i % P.cellsOf e = a.off + i := by rw [Nat.add_assoc, Nat.div_add_mod' i (P.cellsOf e)]
       rw [this]
      rw [ha]
      refine .ds _ _ _ _ _ _ (fun i => (W.cell? ⟨a.block, a.off + i, none⟩).getD undef) (by rw [flatten_len fun r hr => (hall r hr).2, hrl]) hlc hblk (fun i hi => ?_) (fun i x hx => ?_)
      ·rw [flatten_len fun r hr => (hall r hr).2, hrl] at hi
       obtain ⟨r, l, x, _, hrep, _, hx, hc⟩ := hcell i hi
       have hlt := (List.getElem?_eq_some_iff.1 hx).1
       rw [hc, List.getElem?_eq_getElem (by rw [← hrep.1]; exact hlt)]; rfl
      ·have hi := (List.getElem?_eq_some_iff.1 hx).1
       rw [flatten_len fun r hr => (hall r hr).2, hrl] at hi
       obtain ⟨r, l, x', _, hrep, hx', hxr, hc⟩ := hcell i hi
       rw [hx] at hx'; cases hx'
       have hlt := (List.getElem?_eq_some_iff.1 hxr).1
       have hlv : l[i % P.cellsOf e]? = some (l[i % P.cellsOf e]'(by rw [← hrep.1]; exact hlt)) := List.getElem?_eq_getElem _
       rw [hc, hlv]
       exact hrep.2 _ _ _ hxr hlv
   | _ => simp [goodB, hu] at hg

theorem arg_oneB {B : DataW H → Nat} {Bs : List (DataW H) → Nat} (hB1 : ∀ d, 1 ≤ B d) (hBs : ∀ es sp, Bs es + 1 ≤ B (.slice es sp)) (hBc : ∀ d r, Bs (d :: r) = B d + Bs r)
  {k base : Nat} {t : TypeId} {v : Value} {d : DataW H} {p : List MemPlace} (ht : scalarT P t = true) (hg : goodBS P k t = true) (hval : Value.okWide P W .any base t v)
  (h : DataW.Trod enc P W 0 (fun _ => true) true t v d p) : ∃ n x, RepD W (fun b => b < W.heap.size) x v ∧ Shape P n t [x] ∧ bulkD x ≤ B d := by
 obtain ⟨n, hn⟩ := h
 rw [okWide_scalar ht hval] at hn
 obtain ⟨xs, hr, hs, hb⟩ := trod_bulk hB1 hBs hBc n t _ _ (goodBS_B k n t hg) hn
 match xs, hr, hs, hb with
 | [x], hr, hs, hb => exact ⟨n, x, hr.2 0 x v rfl rfl, hs, by simpa [bulkDs] using hb⟩
 | [], hr, _, _ => exact absurd hr.1 (by simp)
 | _ :: _ :: _, hr, _, _ => exact absurd hr.1 (by simp)
end Go.Vm

/- Arguments whose types lead to themselves. -/
namespace Go.Vm
set_option linter.unusedVariables false
section
variable {P : Program} {W : World} {H : Type} {enc : TypeId × Value → H}
def closedT (P : Program) (ts : List TypeId) : Bool := ts.all fun t => match P.underlying t with
 | some .bool | some (.int _) | some (.float _) | some .string => true
 | some (.slice e) => decide (0 < P.cellsOf e) && ts.contains e
 | some (.struct fs) => tiles P 0 fs.toList (P.cellsOf t) && fs.toList.all fun f => ts.contains f.type
 | _ => false
theorem shape_sliceR {n : Nat} {t e : TypeId} {xs : List D} (hu : P.underlying t = some (.slice e)) (h : Shape P n t xs) :
  ∃ m rows, n = m + 1 ∧ xs = [.ds (P.cellsOf e) (List.flatten rows)] ∧ rows.length ≤ maxLen ∧ ∀ r, r ∈ rows → Shape P m e r := by
 cases n with
 | zero => simp only [Shape] at h
 | succ n => simp only [Shape, hu] at h; obtain ⟨rows, h1, h2, h3⟩ := h; exact ⟨n, rows, rfl, h1, h2, fun r hr => (h3 r hr).1⟩
theorem shape_structR {n : Nat} {t : TypeId} {fs : List Field} {xs : List D} (hu : P.underlying t = some (.struct fs.toArray)) (h : Shape P n t xs) : ∃ m, n = m + 1 ∧ ShapeL P m (fs.map (·.type)) xs := by
 cases n with
 | zero => simp only [Shape] at h
 | succ n => simp only [Shape, hu] at h; exact ⟨n, rfl, h⟩
theorem flat_map {α : Type} (f : α → List D) (l : List α) : (l.map f).flatten = l.flatMap f := by
 rw [List.flatMap_def]
end
end Go.Vm

/- Arguments of numbers, slices and structs, also of types that lead to themselves, and the bulk of what is read of them; rows whose condition bounds it and lists package variables. -/
namespace Go.Vm
set_option linter.unusedVariables false
def goodC (P : Program) : Nat → TypeId → Bool
 | 0, _ => true
 | n + 1, t => match P.underlying t with
  | some .bool | some (.int _) | some (.float _) | some .string => true
  | some (.slice e) => decide (0 < P.cellsOf e) && goodC P n e
  | some (.struct fs) => tiles P 0 fs.toList (P.cellsOf t) && fs.toList.all fun f => goodC P n f.type
  | _ => false
section
variable {P : Program} {W : World} {H : Type} {enc : TypeId × Value → H}
theorem closed_goodC {ts : List TypeId} (h : closedT P ts = true) : ∀ (n : Nat) (t : TypeId), t ∈ ts → goodC P n t = true := by
 intro n
 induction n with
 | zero => intro t _; rfl
 | succ n ih =>
  intro t ht
  have := List.all_eq_true.1 h t ht
  unfold goodC
  split at this
  ·rename_i e; first | rfl | rw [e]
  ·rename_i e; first | rfl | rw [e]
  ·rename_i e; first | rfl | rw [e]
  ·rename_i e; first | rfl | rw [e]
  ·rename_i e q; try rw [q]
   simp only [Bool.and_eq_true, List.contains_iff_mem] at this ⊢
   exact ⟨this.1, ih _ this.2⟩
  ·rename_i fs q; try rw [q]
   simp only [Bool.and_eq_true, List.all_eq_true, List.contains_iff_mem] at this ⊢
   exact ⟨this.1, fun f hf => ih _ (this.2 f hf)⟩
  ·cases this
theorem fields_bulk {B : DataW H → Nat} {Bs : List (DataW H) → Nat} {n : Nat} (hBc : ∀ d r, Bs (d :: r) = B d + Bs r) : ∀ (fs : List Field) (es : List (DataW H)) (off tot : Nat) (cs : List Value), tiles P off fs tot = true → cs.length + off = tot → es.length = fs.length →
  (∀ (i : Nat) f, fs[i]? = some f → ∃ xs y, RepC W xs ((cs.drop (f.offset - off)).take (P.cellsOf f.type)) ∧ Shape P n f.type xs ∧ es[i]? = some y ∧ bulkDs xs ≤ B y) → ∃ xs, RepC W xs cs ∧ ShapeL P n (fs.map (·.type)) xs ∧ bulkDs xs ≤ Bs es := by
 intro fs
 induction fs with
 | nil =>
  intro es off tot cs ht hl he _
  simp [tiles] at ht
  have : cs = [] := List.eq_nil_of_length_eq_zero (by omega)
  subst this
  exact ⟨[], ⟨rfl, fun i x y hx => by simp at hx⟩, by simp [ShapeL], by simp [bulkDs]⟩
 | cons f fs ih =>
  intro es off tot cs ht hl he hf
  match es, he with
  | e0 :: es, he =>
  simp only [tiles, Bool.and_eq_true, beq_iff_eq] at ht
  obtain ⟨h1, h2⟩ := ht
  have hle : off + P.cellsOf f.type ≤ tot := by
   have : ∀ (fs : List Field) (a : Nat), tiles P a fs tot = true → a ≤ tot := by
    intro fs
    induction fs with
    | nil => intro a h; simp [tiles] at h; omega
    | cons g gs ihg => intro a h; simp only [tiles, Bool.and_eq_true, beq_iff_eq] at h; have := ihg _ h.2; omega
   exact this fs _ h2
  obtain ⟨xs, y, hx, hsh, hy0, hbx⟩ := hf 0 f rfl
  cases hy0
  rw [h1, Nat.sub_self, List.drop_zero] at hx
  obtain ⟨ys, hy, hsy, hby⟩ := ih es (off + P.cellsOf f.type) tot (cs.drop (P.cellsOf f.type)) h2 (by simp; omega) (by simpa using he) (fun i g hg => by
   obtain ⟨zs, y, hz, hsz, hy1, hbz⟩ := hf (i + 1) g hg
   refine ⟨zs, y, ?_, hsz, hy1, hbz⟩
   have hge : ∀ (fs : List Field) (a : Nat), tiles P a fs tot = true → ∀ g, g ∈ fs → a ≤ g.offset := by
    intro fs
    induction fs with
    | nil => intro a _ g hg; simp at hg
    | cons g gs ihg =>
     intro a h k hk
     simp only [tiles, Bool.and_eq_true, beq_iff_eq] at h
     rcases List.mem_cons.1 hk with rfl | hk
     ·omega
     ·have := ihg _ h.2 k hk; omega
   have := hge fs _ h2 g (List.mem_of_getElem? hg)
   rw [List.drop_drop]
   have e : P.cellsOf f.type + (g.offset - (off + P.cellsOf f.type)) = g.offset - off := by omega
   rw [e]; exact hz)
  refine ⟨xs ++ ys, ?_, ?_, ?_⟩
  ·have := hx.append hy
   rw [List.take_append_drop] at this
   exact this
  ·simp only [List.map_cons, ShapeL]
   exact ⟨xs, ys, rfl, hsh, by rw [hx.1]; simp; omega, hsy⟩
  ·rw [bulkDs_app, hBc]; omega
theorem trod_bulkC {B : DataW H → Nat} {Bs : List (DataW H) → Nat} (hB1 : ∀ d, 1 ≤ B d) (hBs : ∀ es sp, Bs es + 1 ≤ B (.slice es sp)) (hBc : ∀ d r, Bs (d :: r) = B d + Bs r) (hBa : ∀ es, Bs es ≤ B (.agg es)) : ∀ (n : Nat) (t : TypeId) (cs : List Value) (d : DataW H × List MemPlace), goodC P n t = true → DataW.trod enc P W 0 (fun _ => true) true n t cs = some d →
  ∃ xs, RepC W xs cs ∧ Shape P n t xs ∧ bulkDs xs ≤ B d.1 := by
 intro n
 induction n with
 | zero => intro t cs d _ h; cases h
 | succ n ih =>
  intro t cs d hg h
  have single : ∀ (x : D) (v : Value), RepD W (fun b => b < W.heap.size) x v → RepC W [x] [v] := fun x v hr => ⟨rfl, fun i p q hp hq => by
   cases i with
   | zero => cases hp; cases hq; exact hr
   | succ i => simp at hp⟩
  cases hu : P.underlying t with
  | none => simp [goodC, hu] at hg
  | some u =>
   cases u with
   | bool =>
    obtain ⟨b, rfl, _⟩ := DataW.trod_bool hu h
    exact ⟨_, single _ _ (.v _), (by simp only [Shape, hu]; exact ⟨b, rfl⟩), hB1 _⟩
   | int k =>
    obtain ⟨m, rfl, _, hw⟩ := DataW.trod_int hu h
    exact ⟨_, single _ _ (.v _), (by simp only [Shape, hu]; exact ⟨m, rfl, wf_bounds hw⟩), hB1 _⟩
   | float k =>
    obtain ⟨b, rfl, hw⟩ := trod_float hu h
    exact ⟨_, single _ _ (.v _), (by simp only [Shape, hu]; exact ⟨b, rfl, hw⟩), hB1 _⟩
   | string =>
    obtain ⟨s, rfl, _, hw⟩ := DataW.trod_string hu h
    exact ⟨_, single _ _ (.v _), (by simp only [Shape, hu]; exact ⟨s, rfl, hw⟩), hB1 _⟩
   | struct fs =>
    simp only [goodC, hu, Bool.and_eq_true] at hg
    obtain ⟨xs, m, he, hd, hl, hxl, hf⟩ := DataW.trod_struct hu h
    cases he
    obtain ⟨ys, hy, hsy, hby⟩ := fields_bulk (W := W) (n := n) hBc fs.toList (xs.map (·.1)) 0 (P.cellsOf t) cs hg.1 (by omega) (by simp [hxl]) (fun i f hi => by
     have hi' : fs[i]? = some f := by simpa using hi
     have hlt : i < fs.size := (Array.getElem?_eq_some_iff.1 hi').1
     have := hf i f hi'
     rw [List.getElem?_eq_getElem (by omega)] at this
     rw [Nat.sub_zero]
     obtain ⟨zs, h1, h2, h3⟩ := ih _ _ _ (List.all_eq_true.1 hg.2 f (List.mem_of_getElem? hi)) this
     exact ⟨zs, _, h1, h2, by rw [List.getElem?_map, List.getElem?_eq_getElem (by omega)]; rfl, h3⟩)
    exact ⟨ys, hy, (by simp only [Shape, hu]; exact hsy), by rw [hd]; exact Nat.le_trans hby (hBa _)⟩
   | slice e =>
    simp only [goodC, hu, Bool.and_eq_true, decide_eq_true_eq] at hg
    rcases DataW.trod_slice hu h with ⟨rfl, _⟩ | ⟨a, len, cap, elems, rest, m, he, rfl, hd1, hb, hlc, hcm, hel, hf, _⟩
    ·refine ⟨_, single (.ds (P.cellsOf e) []) _ (.nil _ _ _), ?_, by simpa [bulkDs, bulkD] using hB1 _⟩
     simp only [Shape, hu]
     exact ⟨[], rfl, by simp, fun r hr => by simp at hr⟩
    ·cases he
     obtain ⟨rows, hrl, hrr⟩ := list_choose (p := fun (i : Nat) (r : List D) => ∃ l, W.cells? 0 (a.add (i * P.cellsOf e)) (P.cellsOf e) = some l ∧ RepC W r l ∧ Shape P n e r ∧ ∃ y, elems[i]? = some y ∧ bulkDs r ≤ B y.1) (List.range len) (fun i hi => by
      have hlt : i < len := by simpa using hi
      have := hf i hlt
      rw [List.getElem?_eq_getElem (by omega)] at this
      rw [Option.bind_eq_some_iff] at this
      obtain ⟨l, h1, h2⟩ := this
      obtain ⟨r, h3, h4, h5⟩ := ih _ _ _ hg.2 h2
      exact ⟨r, l, h1, h3, h4, _, List.getElem?_eq_getElem (by omega), h5⟩)
     simp at hrl
     have hrow : ∀ (i : Nat), i < len → ∃ r l, rows[i]? = some r ∧ W.cells? 0 (a.add (i * P.cellsOf e)) (P.cellsOf e) = some l ∧ RepC W r l ∧ Shape P n e r ∧ ∃ y, elems[i]? = some y ∧ bulkDs r ≤ B y.1 := fun i hi => by
      have h1 : rows[i]? = some rows[i] := List.getElem?_eq_getElem (by omega)
      obtain ⟨l, h2⟩ := hrr i i _ (by simp [hi]) h1
      exact ⟨_, l, h1, h2⟩
     have hall : ∀ r, r ∈ rows → Shape P n e r ∧ r.length = P.cellsOf e := fun r hr => by
      obtain ⟨i, hi⟩ := List.getElem?_of_mem hr
      have hlt := (List.getElem?_eq_some_iff.1 hi).1
      obtain ⟨r', l, h1, h2, h3, h4, _⟩ := hrow i (by omega)
      rw [hi] at h1; cases h1
      exact ⟨h4, by rw [h3.1]; exact (cells?_spec h2).1⟩
     have hbk : bulkDs rows.flatten ≤ Bs (elems.map (·.1)) := bulk_rows hBc (by omega) (fun i r hi => by
      have hlt := (List.getElem?_eq_some_iff.1 hi).1
      obtain ⟨r', l, h1, h2, h3, h4, y, h5, h6⟩ := hrow i (by omega)
      rw [hi] at h1; cases h1
      exact ⟨y, h5, h6⟩)
     refine ⟨[.ds (P.cellsOf e) rows.flatten], single _ _ ?_, (by simp only [Shape, hu]; exact ⟨rows, rfl, by omega, hall⟩), Nat.le_trans (show bulkDs [.ds (P.cellsOf e) rows.flatten] ≤ Bs (elems.map (·.1)) + 1 by simp only [bulkDs, bulkD]; omega) (by rw [hd1]; exact hBs _ _)⟩
     rcases Nat.eq_zero_or_pos len with h0 | hpos
     ·have : rows = [] := List.eq_nil_of_length_eq_zero (by omega)
      subst this; subst h0
      exact .nil _ _ _
     ·-- the address
      obtain ⟨r0, l0, _, hc0, _⟩ := hrow 0 hpos
      rw [Nat.zero_mul, show a.add 0 = a from by simp [Addr.add]] at hc0
      have hc00 := (cells?_spec hc0).2 0 hg.1
      rw [show a.add 0 = a from by simp [Addr.add]] at hc00
      rw [List.getElem?_eq_getElem (by rw [(cells?_spec hc0).1]; exact hg.1)] at hc00
      have hspot := cell_spot hc00
      have hblk := cell_block hc00
      have ha : a = ⟨a.block, a.off, none⟩ := by cases a; simp_all
      have hcell : ∀ (i : Nat), i < len * P.cellsOf e → ∃ r l x, rows[i / P.cellsOf e]? = some r ∧ RepC W r l ∧ rows.flatten[i]? = some x ∧ r[i % P.cellsOf e]? = some x ∧ W.cell? ⟨a.block, a.off + i, none⟩ = l[i % P.cellsOf e]? := fun i hi => by
       have hlt : i < rows.flatten.length := by rw [flatten_len fun r hr => (hall r hr).2, hrl]; exact hi
       have hx : rows.flatten[i]? = some rows.flatten[i] := List.getElem?_eq_getElem hlt
       obtain ⟨r, h1, h2⟩ := flatten_get (fun r hr => (hall r hr).2) i _ hx
       have hq : i / P.cellsOf e < len := by rw [Nat.div_lt_iff_lt_mul hg.1]; exact hi
       obtain ⟨r', l, h3, h4, h5, _⟩ := hrow _ hq
       rw [h1] at h3; cases h3
       refine ⟨r, l, _, h1, h5, hx, h2, ?_⟩
       rw [← (cells?_spec h4).2 _ (Nat.mod_lt _ hg.1), ha, Addr.add_of, Addr.add_of]
       have : a.off + i / P.cellsOf e * P.cellsOf e + i % P.cellsOf e = a.off + i := by rw [Nat.add_assoc, Nat.div_add_mod' i (P.cellsOf e)]
       rw [this]
      rw [ha]
      refine .ds _ _ _ _ _ _ (fun i => (W.cell? ⟨a.block, a.off + i, none⟩).getD undef) (by rw [flatten_len fun r hr => (hall r hr).2, hrl]) hlc hblk (fun i hi => ?_) (fun i x hx => ?_)
      ·rw [flatten_len fun r hr => (hall r hr).2, hrl] at hi
       obtain ⟨r, l, x, _, hrep, _, hx, hc⟩ := hcell i hi
       have hlt := (List.getElem?_eq_some_iff.1 hx).1
       rw [hc, List.getElem?_eq_getElem (by rw [← hrep.1]; exact hlt)]; rfl
      ·have hi := (List.getElem?_eq_some_iff.1 hx).1
       rw [flatten_len fun r hr => (hall r hr).2, hrl] at hi
       obtain ⟨r, l, x', _, hrep, hx', hxr, hc⟩ := hcell i hi
       rw [hx] at hx'; cases hx'
       have hlt := (List.getElem?_eq_some_iff.1 hxr).1
       have hlv : l[i % P.cellsOf e]? = some (l[i % P.cellsOf e]'(by rw [← hrep.1]; exact hlt)) := List.getElem?_eq_getElem _
       rw [hc, hlv]
       exact hrep.2 _ _ _ hxr hlv
   | _ => simp [goodC, hu] at hg

theorem arg_structRB {B : DataW H → Nat} {Bs : List (DataW H) → Nat} (hB1 : ∀ d, 1 ≤ B d) (hBs : ∀ es sp, Bs es + 1 ≤ B (.slice es sp)) (hBc : ∀ d r, Bs (d :: r) = B d + Bs r) (hBa : ∀ es, Bs es ≤ B (.agg es))
  {base : Nat} {t : TypeId} {v : Value} {d : DataW H} {p : List MemPlace} {fs : Array Field} (ts : List TypeId) (ht : P.underlying t = some (.struct fs)) (hc : closedT P ts = true) (hm : ts.contains t = true) (hval : Value.okWide P W .any base t v)
  (h : DataW.Trod enc P W 0 (fun _ => true) true t v d p) : ∃ n xs, RepD W (fun b => b < W.heap.size) (.ag xs) v ∧ Shape P n t xs ∧ bulkDs xs ≤ B d := by
 obtain ⟨cs, rfl, _⟩ := WideShapes.okWide_struct ht hval
 obtain ⟨n, hn⟩ := h
 obtain ⟨xs, hr, hs, hb⟩ := trod_bulkC hB1 hBs hBc hBa n t _ _ (closed_goodC hc n t (by simpa using hm)) hn
 refine ⟨n, xs, ?_, hs, hb⟩
 have := RepD.ag xs (cs.toList) (w := W) (ok := fun b => b < W.heap.size) (by rw [hr.1]; rfl) (fun i x y hx hy => hr.2 i x y hx hy)
 simpa using this
end
end Go.Vm
