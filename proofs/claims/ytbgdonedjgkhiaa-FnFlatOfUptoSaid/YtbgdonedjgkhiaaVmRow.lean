/- What an argument that can be read is, as data of the view; and a law's row out of what its function gives. -/
import Derived.Test.YtbgdonedjgkhiaaVmVal
import Derived.ProofKit
import Derived.Carry
import Derived.OpenShut
import Derived.ChangeOld
import Derived.Below
namespace Go.Vm
set_option linter.unusedVariables false

theorem optMapM {α β : Type} {f : α → Option β} : ∀ {l : List α} {r : List β}, l.mapM f = some r → r.length = l.length ∧ ∀ (i : Nat) x y, l[i]? = some x → r[i]? = some y → f x = some y := by
  intro l
  induction l with
  | nil => intro r h; cases h; exact ⟨rfl, fun i x y hx => by simp at hx⟩
  | cons a l ih =>
    intro r h
    rw [List.mapM_cons] at h
    cases hy : f a with
    | none => rw [hy] at h; cases h
    | some y =>
      rw [hy] at h
      cases ht : l.mapM f with
      | none => rw [ht] at h; cases h
      | some t =>
        rw [ht] at h
        cases h
        obtain ⟨hl, hi⟩ := ih ht
        refine ⟨by simp [hl], fun i p q hp hq => ?_⟩
        cases i with
        | zero => simp at hp hq; subst hp; subst hq; exact hy
        | succ i => simp at hp hq; exact hi i p q hp hq

/-- The fields lie one behind the other. -/
def tiles (P : Program) : Nat → List Field → Nat → Bool
  | off, [], n => off == n
  | off, f :: fs, n => f.offset == off && tiles P (off + P.cellsOf f.type) fs n
/-- Types that are read here: numbers, truth values, strings, slices and structs of such. -/
def goodT (P : Program) : Nat → TypeId → Bool
  | 0, _ => true
  | n + 1, t => match P.underlying t with
    | some .bool | some (.int _) | some (.float _) | some .string => true
    | some (.slice e) => decide (0 < P.cellsOf e) && goodT P n e
    | some (.struct fs) => tiles P 0 fs.toList (P.cellsOf t) && fs.toList.all fun f => goodT P n f.type
    | some (.array m e) => m * P.cellsOf e == P.cellsOf t && goodT P n e
    | _ => false

mutual
def Shape (P : Program) : Nat → TypeId → List D → Prop
  | 0, _, _ => False
  | n + 1, t, xs => match P.underlying t with
    | some .bool => ∃ b, xs = [dbool b]
    | some (.int k) => ∃ m, xs = [di k m] ∧ lo k ≤ m ∧ m ≤ hi k
    | some (.float k) => ∃ b, xs = [.v (.float k b)] ∧ (Lit.float k b).wf = true
    | some .string => ∃ s, xs = [dstr s] ∧ s.size ≤ maxLen
    | some (.slice e) => ∃ rows : List (List D), xs = [.ds (P.cellsOf e) rows.flatten] ∧ rows.length ≤ maxLen ∧ ∀ r, r ∈ rows → Shape P n e r ∧ r.length = P.cellsOf e
    | some (.struct fs) => ShapeL P n (fs.toList.map (·.type)) xs
    | some (.array m e) => ∃ rows : List (List D), xs = rows.flatten ∧ rows.length = m ∧ ∀ r, r ∈ rows → Shape P n e r ∧ r.length = P.cellsOf e
    | _ => False
def ShapeL (P : Program) : Nat → List TypeId → List D → Prop
  | _, [], xs => xs = []
  | n, t :: ts, xs => ∃ a b, xs = a ++ b ∧ Shape P n t a ∧ a.length = P.cellsOf t ∧ ShapeL P n ts b
end

theorem flatten_get {α : Type} {n : Nat} : ∀ {rows : List (List α)}, (∀ r, r ∈ rows → r.length = n) → ∀ (i : Nat) x, rows.flatten[i]? = some x → ∃ r, rows[i / n]? = some r ∧ r[i % n]? = some x := by
  intro rows
  induction rows with
  | nil => intro _ i x h; simp at h
  | cons r rows ih =>
    intro h i x hx
    have hr : r.length = n := h r (by simp)
    rw [List.flatten_cons, List.getElem?_append] at hx
    split at hx
    · rename_i hlt
      have h1 : i / n = 0 := Nat.div_eq_of_lt (by omega)
      have h2 : i % n = i := Nat.mod_eq_of_lt (by omega)
      exact ⟨r, by rw [h1]; rfl, by rw [h2]; exact hx⟩
    · rename_i hge
      have hn : 0 < n := by
        rcases Nat.eq_zero_or_pos n with h0 | h0
        · subst h0
          exfalso
          have : rows.flatten = [] := List.flatten_eq_nil_iff.2 fun s hs => List.eq_nil_of_length_eq_zero (h s (by simp [hs]))
          rw [this] at hx; simp at hx
        · exact h0
      obtain ⟨s, hs, hx2⟩ := ih (fun r hr => h r (by simp [hr])) (i - r.length) x hx
      rw [hr] at hs hx2
      have e1 : i / n = (i - n) / n + 1 := by
        rw [← Nat.add_div_right _ hn]; congr 1; omega
      have e2 : i % n = (i - n) % n := by
        rw [← Nat.add_mod_right (i - n) n]; congr 1; omega
      exact ⟨s, by rw [e1]; simpa using hs, by rw [e2]; exact hx2⟩

theorem flatten_len {α : Type} {n : Nat} : ∀ {rows : List (List α)}, (∀ r, r ∈ rows → r.length = n) → rows.flatten.length = rows.length * n := by
  intro rows
  induction rows with
  | nil => intro _; simp
  | cons r rows ih =>
    intro h
    rw [List.flatten_cons, List.length_append, h r (by simp), ih (fun r hr => h r (by simp [hr])), List.length_cons, Nat.add_mul]; omega

theorem list_choose {α β : Type} {p : α → β → Prop} : ∀ (l : List α), (∀ x, x ∈ l → ∃ y, p x y) → ∃ r : List β, r.length = l.length ∧ ∀ (i : Nat) x y, l[i]? = some x → r[i]? = some y → p x y := by
  intro l
  induction l with
  | nil => intro _; exact ⟨[], rfl, fun i x y h => by simp at h⟩
  | cons a l ih =>
    intro h
    obtain ⟨y, hy⟩ := h a (by simp)
    obtain ⟨r, hl, hr⟩ := ih (fun x hx => h x (by simp [hx]))
    refine ⟨y :: r, by simp [hl], fun i x z hx hz => ?_⟩
    cases i with
    | zero => simp at hx hz; subst hx; subst hz; exact hy
    | succ i => simp at hx hz; exact hr i x z hx hz

theorem cells?_spec {w : World} {base : Nat} {a : Addr} {n : Nat} {l : List Value} (h : w.cells? base a n = some l) : l.length = n ∧ ∀ (j : Nat), j < n → w.cell? (a.add j) = l[j]? := by
  unfold World.cells? at h
  split at h
  · obtain ⟨hl, hi⟩ := optMapM h
    refine ⟨by simpa using hl, fun j hj => ?_⟩
    have hlt : j < l.length := by simp at hl; omega
    have := hi j j l[j] (by simp [hj]) (List.getElem?_eq_getElem hlt)
    rw [this, List.getElem?_eq_getElem hlt]
  · cases h

theorem cell_block {w : World} {a : Addr} {v : Value} (h : w.cell? a = some v) : a.block < w.heap.size := by
  unfold World.cell? at h
  split at h
  · rename_i hb; exact (Array.getElem?_eq_some_iff.1 hb).1
  · cases h
theorem cell_spot {w : World} {a : Addr} {v : Value} (h : w.cell? a = some v) : a.spot = none := by
  unfold World.cell? at h
  split at h
  · split at h
    · cases h
    · rename_i hs; cases hs2 : a.spot with
      | none => rfl
      | some s => rw [hs2] at hs; simp at hs
  · cases h

/-- Cells that are read one by one. -/
def RepC (W : World) (xs : List D) (cs : List Value) : Prop := xs.length = cs.length ∧ ∀ (i : Nat) x y, xs[i]? = some x → cs[i]? = some y → RepD W (fun b => b < W.heap.size) x y

theorem RepC.append {W : World} {a b : List D} {c d : List Value} (h1 : RepC W a c) (h2 : RepC W b d) : RepC W (a ++ b) (c ++ d) := by
  refine ⟨by simp [h1.1, h2.1], fun i x y hx hy => ?_⟩
  rw [List.getElem?_append] at hx hy
  rw [h1.1] at hx
  split at hx
  · rename_i h; rw [if_pos h] at hy; exact h1.2 i x y hx hy
  · rename_i h; rw [if_neg h] at hy; exact h2.2 _ x y hx hy

variable {H : Type} {enc : TypeId × Value → H} {P : Program} {W : World}

theorem trod_float {k : FloatKind} {fuel : Nat} {t : TypeId} {cs : List Value} {x : DataW H × List MemPlace} (ht : P.underlying t = some (.float k)) (h : DataW.trod enc P W 0 (fun _ => true) true fuel t cs = some x) :
    ∃ b, cs = [.float k b] ∧ (Lit.float k b).wf = true := by
  cases fuel with
  | zero => simp [DataW.trod] at h
  | succ m =>
    unfold DataW.trod at h
    rw [ht] at h
    split at h <;> simp_all

theorem wf_bounds {k : IntKind} {n : Int} (h : (Lit.int k n).wf = true) : lo k ≤ n ∧ n ≤ hi k := by
  cases k <;> simp [Lit.wf, IntKind.min, IntKind.max, IntKind.signed, IntKind.bits] at h <;> simp only [lo, hi] <;> omega

/-- Fields that lie one behind the other, read one by one. -/
theorem fields_shape {n : Nat} : ∀ (fs : List Field) (off tot : Nat) (cs : List Value), tiles P off fs tot = true → cs.length + off = tot →
    (∀ f, f ∈ fs → ∃ xs, RepC W xs ((cs.drop (f.offset - off)).take (P.cellsOf f.type)) ∧ Shape P n f.type xs) → ∃ xs, RepC W xs cs ∧ ShapeL P n (fs.map (·.type)) xs := by
  intro fs
  induction fs with
  | nil =>
    intro off tot cs ht hl _
    simp [tiles] at ht
    have : cs = [] := List.eq_nil_of_length_eq_zero (by omega)
    subst this
    exact ⟨[], ⟨rfl, fun i x y hx => by simp at hx⟩, by simp [ShapeL]⟩
  | cons f fs ih =>
    intro off tot cs ht hl hf
    simp only [tiles, Bool.and_eq_true, beq_iff_eq] at ht
    obtain ⟨h1, h2⟩ := ht
    have hle : off + P.cellsOf f.type ≤ tot := by
      have : ∀ (fs : List Field) (a : Nat), tiles P a fs tot = true → a ≤ tot := by
        intro fs
        induction fs with
        | nil => intro a h; simp [tiles] at h; omega
        | cons g gs ihg => intro a h; simp only [tiles, Bool.and_eq_true, beq_iff_eq] at h; have := ihg _ h.2; omega
      exact this fs _ h2
    obtain ⟨xs, hx, hsh⟩ := hf f (by simp)
    rw [h1, Nat.sub_self, List.drop_zero] at hx
    obtain ⟨ys, hy, hsy⟩ := ih (off + P.cellsOf f.type) tot (cs.drop (P.cellsOf f.type)) h2 (by simp; omega) (fun g hg => by
      obtain ⟨zs, hz, hsz⟩ := hf g (by simp [hg])
      refine ⟨zs, ?_, hsz⟩
      have hge : ∀ (fs : List Field) (a : Nat), tiles P a fs tot = true → ∀ g, g ∈ fs → a ≤ g.offset := by
        intro fs
        induction fs with
        | nil => intro a _ g hg; simp at hg
        | cons g gs ihg =>
          intro a h k hk
          simp only [tiles, Bool.and_eq_true, beq_iff_eq] at h
          rcases List.mem_cons.1 hk with rfl | hk
          · omega
          · have := ihg _ h.2 k hk; omega
      have := hge fs _ h2 g hg
      rw [List.drop_drop]
      have e : P.cellsOf f.type + (g.offset - (off + P.cellsOf f.type)) = g.offset - off := by omega
      rw [e]; exact hz)
    refine ⟨xs ++ ys, ?_, ?_⟩
    · have := hx.append hy
      rw [List.take_append_drop] at this
      exact this
    · simp only [List.map_cons, ShapeL]
      exact ⟨xs, ys, rfl, hsh, by rw [hx.1]; simp; omega, hsy⟩

theorem trod_shape : ∀ (n : Nat) (t : TypeId) (cs : List Value) (d : DataW H × List MemPlace), goodT P n t = true → DataW.trod enc P W 0 (fun _ => true) true n t cs = some d →
    ∃ xs, RepC W xs cs ∧ Shape P n t xs := by
  intro n
  induction n with
  | zero => intro t cs d _ h; cases h
  | succ n ih =>
    intro t cs d hg h
    have single : ∀ (x : D) (v : Value), RepD W (fun b => b < W.heap.size) x v → RepC W [x] [v] := fun x v hr => ⟨rfl, fun i p q hp hq => by
      cases i with
      | zero => cases hp; cases hq; exact hr
      | succ i => simp at hp⟩
    cases hu : P.underlying t with
    | none => simp [goodT, hu] at hg
    | some u =>
      cases u with
      | bool =>
        obtain ⟨b, rfl, _⟩ := DataW.trod_bool hu h
        exact ⟨_, single _ _ (.v _), by simp only [Shape, hu]; exact ⟨b, rfl⟩⟩
      | int k =>
        obtain ⟨m, rfl, _, hw⟩ := DataW.trod_int hu h
        exact ⟨_, single _ _ (.v _), by simp only [Shape, hu]; exact ⟨m, rfl, wf_bounds hw⟩⟩
      | float k =>
        obtain ⟨b, rfl, hw⟩ := trod_float hu h
        exact ⟨_, single _ _ (.v _), by simp only [Shape, hu]; exact ⟨b, rfl, hw⟩⟩
      | string =>
        obtain ⟨s, rfl, _, hw⟩ := DataW.trod_string hu h
        exact ⟨_, single _ _ (.v _), by simp only [Shape, hu]; exact ⟨s, rfl, hw⟩⟩
      | struct fs =>
        simp only [goodT, hu, Bool.and_eq_true] at hg
        obtain ⟨xs, m, he, _, hl, hxl, hf⟩ := DataW.trod_struct hu h
        cases he
        obtain ⟨ys, hy, hsy⟩ := fields_shape (W := W) (n := n) fs.toList 0 (P.cellsOf t) cs hg.1 (by omega) (fun f hf' => by
          obtain ⟨i, hi⟩ := List.getElem?_of_mem hf'
          have hi' : fs[i]? = some f := by simpa using hi
          have hlt : i < fs.size := (Array.getElem?_eq_some_iff.1 hi').1
          have := hf i f hi'
          rw [List.getElem?_eq_getElem (by omega)] at this
          rw [Nat.sub_zero]
          exact ih _ _ _ (List.all_eq_true.1 hg.2 f hf') this)
        exact ⟨ys, hy, by simp only [Shape, hu]; exact hsy⟩
      | slice e =>
        simp only [goodT, hu, Bool.and_eq_true, decide_eq_true_eq] at hg
        rcases DataW.trod_slice hu h with ⟨rfl, _⟩ | ⟨a, len, cap, elems, rest, m, he, rfl, _, hb, hlc, hcm, hel, hf, _⟩
        · refine ⟨_, single (.ds (P.cellsOf e) []) _ (.nil _ _ _), ?_⟩
          simp only [Shape, hu]
          exact ⟨[], rfl, by simp, fun r hr => by simp at hr⟩
        · cases he
          obtain ⟨rows, hrl, hrr⟩ := list_choose (p := fun (i : Nat) (r : List D) => ∃ l, W.cells? 0 (a.add (i * P.cellsOf e)) (P.cellsOf e) = some l ∧ RepC W r l ∧ Shape P n e r) (List.range len) (fun i hi => by
            have hlt : i < len := by simpa using hi
            have := hf i hlt
            rw [List.getElem?_eq_getElem (by omega)] at this
            rw [Option.bind_eq_some_iff] at this
            obtain ⟨l, h1, h2⟩ := this
            obtain ⟨r, h3, h4⟩ := ih _ _ _ hg.2 h2
            exact ⟨r, l, h1, h3, h4⟩)
          simp at hrl
          have hrow : ∀ (i : Nat), i < len → ∃ r l, rows[i]? = some r ∧ W.cells? 0 (a.add (i * P.cellsOf e)) (P.cellsOf e) = some l ∧ RepC W r l ∧ Shape P n e r := fun i hi => by
            have h1 : rows[i]? = some rows[i] := List.getElem?_eq_getElem (by omega)
            obtain ⟨l, h2⟩ := hrr i i _ (by simp [hi]) h1
            exact ⟨_, l, h1, h2⟩
          have hall : ∀ r, r ∈ rows → Shape P n e r ∧ r.length = P.cellsOf e := fun r hr => by
            obtain ⟨i, hi⟩ := List.getElem?_of_mem hr
            have hlt := (List.getElem?_eq_some_iff.1 hi).1
            obtain ⟨r', l, h1, h2, h3, h4⟩ := hrow i (by omega)
            rw [hi] at h1; cases h1
            exact ⟨h4, by rw [h3.1]; exact (cells?_spec h2).1⟩
          refine ⟨[.ds (P.cellsOf e) rows.flatten], single _ _ ?_, by simp only [Shape, hu]; exact ⟨rows, rfl, by omega, hall⟩⟩
          rcases Nat.eq_zero_or_pos len with h0 | hpos
          · have : rows = [] := List.eq_nil_of_length_eq_zero (by omega)
            subst this; subst h0
            exact .nil _ _ _
          · -- the address
            obtain ⟨r0, l0, _, hc0, _, _⟩ := hrow 0 hpos
            rw [Nat.zero_mul, show a.add 0 = a from by simp [Addr.add]] at hc0
            have hc00 := (cells?_spec hc0).2 0 hg.1
            rw [show a.add 0 = a from by simp [Addr.add]] at hc00
            rw [List.getElem?_eq_getElem (by rw [(cells?_spec hc0).1]; exact hg.1)] at hc00
            have hspot := cell_spot hc00
            have hblk := cell_block hc00
            have ha : a = ⟨a.block, a.off, none⟩ := by cases a; simp_all
            have hcell : ∀ (i : Nat), i < len * P.cellsOf e → ∃ r l x, rows[i / P.cellsOf e]? = some r ∧ RepC W r l ∧ rows.flatten[i]? = some x ∧ r[i % P.cellsOf e]? = some x ∧ W.cell? ⟨a.block, a.off + i, none⟩ = l[i % P.cellsOf e]? := fun i hi => by
              have hlt : i < rows.flatten.length := by rw [flatten_len fun r hr => (hall r hr).2, hrl]; exact hi
              have hx : rows.flatten[i]? = some rows.flatten[i] := List.getElem?_eq_getElem hlt
              obtain ⟨r, h1, h2⟩ := flatten_get (fun r hr => (hall r hr).2) i _ hx
              have hq : i / P.cellsOf e < len := by rw [Nat.div_lt_iff_lt_mul hg.1]; exact hi
              obtain ⟨r', l, h3, h4, h5, _⟩ := hrow _ hq
              rw [h1] at h3; cases h3
              refine ⟨r, l, _, h1, h5, hx, h2, ?_⟩
              rw [← (cells?_spec h4).2 _ (Nat.mod_lt _ hg.1), ha, Addr.add_of, Addr.add_of]
              have : a.off + i / P.cellsOf e * P.cellsOf e + i % P.cellsOf e = a.off + i := by rw [Nat.add_assoc, Nat.div_add_mod' i (P.cellsOf e)]
              rw [this]
            rw [ha]
            refine .ds _ _ _ _ _ _ (fun i => (W.cell? ⟨a.block, a.off + i, none⟩).getD undef) (by rw [flatten_len fun r hr => (hall r hr).2, hrl]) hlc hblk (fun i hi => ?_) (fun i x hx => ?_)
            · rw [flatten_len fun r hr => (hall r hr).2, hrl] at hi
              obtain ⟨r, l, x, _, hrep, _, hx, hc⟩ := hcell i hi
              have hlt := (List.getElem?_eq_some_iff.1 hx).1
              rw [hc, List.getElem?_eq_getElem (by rw [← hrep.1]; exact hlt)]; rfl
            · have hi := (List.getElem?_eq_some_iff.1 hx).1
              rw [flatten_len fun r hr => (hall r hr).2, hrl] at hi
              obtain ⟨r, l, x', _, hrep, hx', hxr, hc⟩ := hcell i hi
              rw [hx] at hx'; cases hx'
              have hlt := (List.getElem?_eq_some_iff.1 hxr).1
              have hlv : l[i % P.cellsOf e]? = some (l[i % P.cellsOf e]'(by rw [← hrep.1]; exact hlt)) := List.getElem?_eq_getElem _
              rw [hc, hlv]
              exact hrep.2 _ _ _ hxr hlv
      | array m e =>
        simp only [goodT, hu, Bool.and_eq_true, beq_iff_eq] at hg
        obtain ⟨xs, k, he, _, hl, hxl, hf⟩ := DataW.trod_array hu h
        cases he
        obtain ⟨rows, hrl, hrr⟩ := list_choose (p := fun (i : Nat) (r : List D) => RepC W r ((cs.drop (i * P.cellsOf e)).take (P.cellsOf e)) ∧ Shape P n e r) (List.range m) (fun i hi => by
          have hlt : i < m := by simpa using hi
          have := hf i hlt
          rw [List.getElem?_eq_getElem (by omega)] at this
          exact ih _ _ _ hg.2 this)
        simp at hrl
        have hrow : ∀ (i : Nat), i < m → ∃ r, rows[i]? = some r ∧ RepC W r ((cs.drop (i * P.cellsOf e)).take (P.cellsOf e)) ∧ Shape P n e r := fun i hi => by
          have h1 : rows[i]? = some rows[i] := List.getElem?_eq_getElem (by omega)
          exact ⟨_, h1, hrr i i _ (by simp [hi]) h1⟩
        have hall : ∀ r, r ∈ rows → Shape P n e r ∧ r.length = P.cellsOf e := fun r hr => by
          obtain ⟨i, hi⟩ := List.getElem?_of_mem hr
          have hlt := (List.getElem?_eq_some_iff.1 hi).1
          obtain ⟨r', h1, h3, h4⟩ := hrow i (by omega)
          rw [hi] at h1; cases h1
          refine ⟨h4, ?_⟩
          rw [h3.1]; simp
          have : (i + 1) * P.cellsOf e ≤ m * P.cellsOf e := Nat.mul_le_mul_right _ (by omega)
          rw [Nat.add_mul] at this
          omega
        have hfl : rows.flatten.length = cs.length := by rw [flatten_len fun r hr => (hall r hr).2, hrl, hl]; exact hg.1
        refine ⟨rows.flatten, ⟨hfl, fun i x y hx hy => ?_⟩, by simp only [Shape, hu]; exact ⟨rows, rfl, hrl, hall⟩⟩
        obtain ⟨r, h1, h2⟩ := flatten_get (fun r hr => (hall r hr).2) i _ hx
        have hlt := (List.getElem?_eq_some_iff.1 h1).1
        obtain ⟨r', h3, h4, _⟩ := hrow (i / P.cellsOf e) (by omega)
        rw [h1] at h3; cases h3
        refine h4.2 _ x y h2 ?_
        have hlt2 := (List.getElem?_eq_some_iff.1 h2).1
        rw [(hall r (List.mem_of_getElem? h1)).2] at hlt2
        rw [List.getElem?_take, if_pos hlt2, List.getElem?_drop, Nat.div_add_mod' i (P.cellsOf e)]
        exact hy
      | _ => simp [goodT, hu] at hg

/-- 'goodT', with an end. -/
def goodS (P : Program) : Nat → TypeId → Bool
  | 0, _ => false
  | n + 1, t => match P.underlying t with
    | some .bool | some (.int _) | some (.float _) | some .string => true
    | some (.slice e) => decide (0 < P.cellsOf e) && goodS P n e
    | some (.struct fs) => tiles P 0 fs.toList (P.cellsOf t) && fs.toList.all fun f => goodS P n f.type
    | some (.array m e) => m * P.cellsOf e == P.cellsOf t && goodS P n e
    | _ => false

theorem goodS_T : ∀ (k n : Nat) (t : TypeId), goodS P k t = true → goodT P n t = true := by
  intro k
  induction k with
  | zero => intro n t h; cases h
  | succ k ih =>
    intro n t h
    cases n with
    | zero => rfl
    | succ n =>
      unfold goodS at h
      unfold goodT
      cases hu : P.underlying t with
      | none => simp [hu] at h
      | some u =>
        cases u with
        | bool => rfl
        | int _ => rfl
        | float _ => rfl
        | string => rfl
        | slice e =>
          simp only [hu, Bool.and_eq_true] at h ⊢
          exact ⟨h.1, ih _ _ h.2⟩
        | struct fs =>
          simp only [hu, Bool.and_eq_true] at h ⊢
          exact ⟨h.1, List.all_eq_true.2 fun f hf => ih _ _ (List.all_eq_true.1 h.2 f hf)⟩
        | array m e =>
          simp only [hu, Bool.and_eq_true] at h ⊢
          exact ⟨h.1, ih _ _ h.2⟩
        | _ => simp [hu] at h

theorem arg_struct {k base : Nat} {t : TypeId} {v : Value} {d : DataW H} {p : List MemPlace} {fs : Array Field} (ht : P.underlying t = some (.struct fs)) (hg : goodS P k t = true) (hval : Value.okWide P W .any base t v)
    (h : DataW.Trod enc P W 0 (fun _ => true) true t v d p) : ∃ n xs, RepD W (fun b => b < W.heap.size) (.ag xs) v ∧ Shape P n t xs := by
  obtain ⟨cs, rfl, _⟩ := WideShapes.okWide_struct ht hval
  obtain ⟨n, hn⟩ := h
  obtain ⟨xs, hr, hs⟩ := trod_shape n t _ _ (goodS_T k n t hg) hn
  refine ⟨n, xs, ?_, hs⟩
  have := RepD.ag xs (cs.toList) (w := W) (ok := fun b => b < W.heap.size) (by rw [hr.1]; rfl) (fun i x y hx hy => hr.2 i x y hx hy)
  simpa using this

def scalarT (P : Program) (t : TypeId) : Bool := match P.underlying t with
  | some .bool | some (.int _) | some (.float _) | some .string | some (.slice _) => true
  | _ => false

theorem okWide_scalar {base : Nat} {t : TypeId} {v : Value} (ht : scalarT P t = true) (h : Value.okWide P W .any base t v) : v.cells.toList = [v] := by
  unfold scalarT at ht
  split at ht
  · rename_i hu; obtain ⟨b, rfl⟩ := WideShapes.okWide_bool hu h; rfl
  · rename_i hu; obtain ⟨b, rfl⟩ := WideShapes.okWide_int hu h; rfl
  · rename_i k hu
    simp only [Value.okWide, hu, Cell.okWide, Cell.ok] at h
    cases v <;> first | rfl | simp at h
  · rename_i hu; obtain ⟨b, rfl⟩ := WideShapes.okWide_string hu h; rfl
  · rename_i hu; obtain ⟨a, l, c, rfl⟩ := WideShapes.okWide_slice hu h; rfl
  · cases ht

theorem arg_one {k base : Nat} {t : TypeId} {v : Value} {d : DataW H} {p : List MemPlace} (ht : scalarT P t = true) (hg : goodS P k t = true) (hval : Value.okWide P W .any base t v)
    (h : DataW.Trod enc P W 0 (fun _ => true) true t v d p) : ∃ n x, RepD W (fun b => b < W.heap.size) x v ∧ Shape P n t [x] := by
  obtain ⟨n, hn⟩ := h
  rw [okWide_scalar ht hval] at hn
  obtain ⟨xs, hr, hs⟩ := trod_shape n t _ _ (goodS_T k n t hg) hn
  match xs, hr, hs with
  | [x], hr, hs => exact ⟨n, x, hr.2 0 x v rfl rfl, hs⟩
  | [], hr, _ => exact absurd hr.1 (by simp)
  | _ :: _ :: _, hr, _ => exact absurd hr.1 (by simp)

theorem shape_bool {n : Nat} {t : TypeId} {xs : List D} (hu : P.underlying t = some .bool) (h : Shape P n t xs) : ∃ b, xs = [dbool b] := by
  cases n with
  | zero => simp only [Shape] at h
  | succ n => simp only [Shape, hu] at h; exact h
theorem shape_int {n : Nat} {t : TypeId} {k : IntKind} {xs : List D} (hu : P.underlying t = some (.int k)) (h : Shape P n t xs) : ∃ m, xs = [di k m] ∧ lo k ≤ m ∧ m ≤ hi k := by
  cases n with
  | zero => simp only [Shape] at h
  | succ n => simp only [Shape, hu] at h; exact h
theorem shape_float {n : Nat} {t : TypeId} {k : FloatKind} {xs : List D} (hu : P.underlying t = some (.float k)) (h : Shape P n t xs) : ∃ b, xs = [.v (.float k b)] ∧ (Lit.float k b).wf = true := by
  cases n with
  | zero => simp only [Shape] at h
  | succ n => simp only [Shape, hu] at h; exact h
theorem shape_string {n : Nat} {t : TypeId} {xs : List D} (hu : P.underlying t = some .string) (h : Shape P n t xs) : ∃ s, xs = [dstr s] ∧ s.size ≤ maxLen := by
  cases n with
  | zero => simp only [Shape] at h
  | succ n => simp only [Shape, hu] at h; exact h
theorem shape_slice {n : Nat} {t e : TypeId} {xs : List D} (hu : P.underlying t = some (.slice e)) (h : Shape P n t xs) :
    ∃ m rows, xs = [.ds (P.cellsOf e) (List.flatten rows)] ∧ rows.length ≤ maxLen ∧ ∀ r, r ∈ rows → Shape P m e r := by
  cases n with
  | zero => simp only [Shape] at h
  | succ n => simp only [Shape, hu] at h; obtain ⟨rows, h1, h2, h3⟩ := h; exact ⟨n, rows, h1, h2, fun r hr => (h3 r hr).1⟩
theorem shape_array {n m : Nat} {t e : TypeId} {xs : List D} (hu : P.underlying t = some (.array m e)) (h : Shape P n t xs) :
    ∃ k rows, xs = List.flatten rows ∧ rows.length = m ∧ ∀ r, r ∈ rows → Shape P k e r := by
  cases n with
  | zero => simp only [Shape] at h
  | succ n => simp only [Shape, hu] at h; obtain ⟨rows, h1, h2, h3⟩ := h; exact ⟨n, rows, h1, h2, fun r hr => (h3 r hr).1⟩
theorem shape_struct {n : Nat} {t : TypeId} {fs : List Field} {xs : List D} (hu : P.underlying t = some (.struct fs.toArray)) (h : Shape P n t xs) : ∃ m, ShapeL P m (fs.map (·.type)) xs := by
  cases n with
  | zero => simp only [Shape] at h
  | succ n => simp only [Shape, hu] at h; exact ⟨n, h⟩
theorem shapeL_cons {n : Nat} {t : TypeId} {ts : List TypeId} {xs : List D} (h : ShapeL P n (t :: ts) xs) : ∃ a b, xs = a ++ b ∧ Shape P n t a ∧ ShapeL P n ts b := by
  simp only [ShapeL] at h
  obtain ⟨a, b, h1, h2, _, h3⟩ := h
  exact ⟨a, b, h1, h2, h3⟩
theorem shapeL_nil {n : Nat} {xs : List D} (h : ShapeL P n [] xs) : xs = [] := by
  simpa only [ShapeL] using h
theorem rows_choose {α : Type} {f : α → List D} {Q : α → Prop} : ∀ {rows : List (List D)}, (∀ r, r ∈ rows → ∃ z, r = f z ∧ Q z) → ∃ zs : List α, rows = zs.map f ∧ ∀ z, z ∈ zs → Q z
  | [], _ => ⟨[], rfl, fun z hz => by simp at hz⟩
  | r :: rows, h => by
    obtain ⟨z, rfl, hz⟩ := h r (by simp)
    obtain ⟨zs, rfl, hzs⟩ := rows_choose (rows := rows) fun r hr => h r (by simp [hr])
    exact ⟨z :: zs, rfl, fun y hy => by
      rcases List.mem_cons.1 hy with rfl | hy
      · exact hz
      · exact hzs y hy⟩

/-- A law's function, over what its caller laid: it answers true, and what was there stays. -/
theorem FnD.law {f : FuncId} {xs : List D} {vs : List Value} (h : FnD P f xs (fun r => r = dbool true)) (hG : HoldsG W) (hl : vs.length = xs.length)
    (hr : ∀ (i : Nat) x v, xs[i]? = some x → vs[i]? = some v → RepD W (fun b => b < W.heap.size) x v) :
    Calls P f vs.toArray W fun e w' => e = .returned (.bool true) ∧ RowKit.Below W.heap.size W w' :=
  (h.2 W _ vs hG (fun _ hb => hb) hl hr).mono fun e w' ⟨v, r, he, hR, hb, hd⟩ => by
    subst hR
    cases hd
    exact ⟨he, hb⟩
theorem rep_nil : ∀ (i : Nat) (x : D) (v : Value), ([] : List D)[i]? = some x → ([] : List Value)[i]? = some v → RepD W (fun b => b < W.heap.size) x v := fun i x v h => by simp at h
theorem rep_cons {y : D} {ys : List D} {u : Value} {us : List Value} (h : RepD W (fun b => b < W.heap.size) y u) (hs : ∀ (i : Nat) (x : D) (v : Value), ys[i]? = some x → us[i]? = some v → RepD W (fun b => b < W.heap.size) x v) :
    ∀ (i : Nat) (x : D) (v : Value), (y :: ys)[i]? = some x → (u :: us)[i]? = some v → RepD W (fun b => b < W.heap.size) x v := fun i x v hx hv => by
  cases i with
  | zero => cases hx; cases hv; exact h
  | succ i => exact hs i x v hx hv
end Go.Vm
