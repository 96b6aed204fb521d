/- Arguments of numbers, slices and structs, also of types that lead to themselves, and the bulk of what is read of them; rows whose condition bounds it and lists package variables. -/
import Derived.Test.YtbgdonedjgkhiaaVmRowB
import Derived.Test.YtbgdonedjgkhiaaVmRowR
import Derived.JoinedCond
import Derived.LaidLaws
namespace Go.Vm
set_option linter.unusedVariables false
/-- Numbers, truth values, strings, slices and structs of such. -/
def goodC (P : Program) : Nat → TypeId → Bool
  | 0, _ => true
  | n + 1, t => match P.underlying t with
    | some .bool | some (.int _) | some (.float _) | some .string => true
    | some (.slice e) => decide (0 < P.cellsOf e) && goodC P n e
    | some (.struct fs) => tiles P 0 fs.toList (P.cellsOf t) && fs.toList.all fun f => goodC P n f.type
    | _ => false
section
variable {P : Program} {W : World} {H : Type} {enc : TypeId × Value → H}
theorem closed_goodC {ts : List TypeId} (h : closedT P ts = true) : ∀ (n : Nat) (t : TypeId), t ∈ ts → goodC P n t = true := by
  intro n
  induction n with
  | zero => intro t _; rfl
  | succ n ih =>
    intro t ht
    have := List.all_eq_true.1 h t ht
    unfold goodC
    split at this
    · rename_i e; first | rfl | rw [e]
    · rename_i e; first | rfl | rw [e]
    · rename_i e; first | rfl | rw [e]
    · rename_i e; first | rfl | rw [e]
    · rename_i e q; try rw [q]
      simp only [Bool.and_eq_true, List.contains_iff_mem] at this ⊢
      exact ⟨this.1, ih _ this.2⟩
    · rename_i fs q; try rw [q]
      simp only [Bool.and_eq_true, List.all_eq_true, List.contains_iff_mem] at this ⊢
      exact ⟨this.1, fun f hf => ih _ (this.2 f hf)⟩
    · cases this
theorem fields_bulk {B : DataW H → Nat} {Bs : List (DataW H) → Nat} {n : Nat} (hBc : ∀ d r, Bs (d :: r) = B d + Bs r) : ∀ (fs : List Field) (es : List (DataW H)) (off tot : Nat) (cs : List Value), tiles P off fs tot = true → cs.length + off = tot → es.length = fs.length →
    (∀ (i : Nat) f, fs[i]? = some f → ∃ xs y, RepC W xs ((cs.drop (f.offset - off)).take (P.cellsOf f.type)) ∧ Shape P n f.type xs ∧ es[i]? = some y ∧ bulkDs xs ≤ B y) → ∃ xs, RepC W xs cs ∧ ShapeL P n (fs.map (·.type)) xs ∧ bulkDs xs ≤ Bs es := by
  intro fs
  induction fs with
  | nil =>
    intro es off tot cs ht hl he _
    simp [tiles] at ht
    have : cs = [] := List.eq_nil_of_length_eq_zero (by omega)
    subst this
    exact ⟨[], ⟨rfl, fun i x y hx => by simp at hx⟩, by simp [ShapeL], by simp [bulkDs]⟩
  | cons f fs ih =>
    intro es off tot cs ht hl he hf
    match es, he with
    | e0 :: es, he =>
    simp only [tiles, Bool.and_eq_true, beq_iff_eq] at ht
    obtain ⟨h1, h2⟩ := ht
    have hle : off + P.cellsOf f.type ≤ tot := by
      have : ∀ (fs : List Field) (a : Nat), tiles P a fs tot = true → a ≤ tot := by
        intro fs
        induction fs with
        | nil => intro a h; simp [tiles] at h; omega
        | cons g gs ihg => intro a h; simp only [tiles, Bool.and_eq_true, beq_iff_eq] at h; have := ihg _ h.2; omega
      exact this fs _ h2
    obtain ⟨xs, y, hx, hsh, hy0, hbx⟩ := hf 0 f rfl
    cases hy0
    rw [h1, Nat.sub_self, List.drop_zero] at hx
    obtain ⟨ys, hy, hsy, hby⟩ := ih es (off + P.cellsOf f.type) tot (cs.drop (P.cellsOf f.type)) h2 (by simp; omega) (by simpa using he) (fun i g hg => by
      obtain ⟨zs, y, hz, hsz, hy1, hbz⟩ := hf (i + 1) g hg
      refine ⟨zs, y, ?_, hsz, hy1, hbz⟩
      have hge : ∀ (fs : List Field) (a : Nat), tiles P a fs tot = true → ∀ g, g ∈ fs → a ≤ g.offset := by
        intro fs
        induction fs with
        | nil => intro a _ g hg; simp at hg
        | cons g gs ihg =>
          intro a h k hk
          simp only [tiles, Bool.and_eq_true, beq_iff_eq] at h
          rcases List.mem_cons.1 hk with rfl | hk
          · omega
          · have := ihg _ h.2 k hk; omega
      have := hge fs _ h2 g (List.mem_of_getElem? hg)
      rw [List.drop_drop]
      have e : P.cellsOf f.type + (g.offset - (off + P.cellsOf f.type)) = g.offset - off := by omega
      rw [e]; exact hz)
    refine ⟨xs ++ ys, ?_, ?_, ?_⟩
    · have := hx.append hy
      rw [List.take_append_drop] at this
      exact this
    · simp only [List.map_cons, ShapeL]
      exact ⟨xs, ys, rfl, hsh, by rw [hx.1]; simp; omega, hsy⟩
    · rw [bulkDs_app, hBc]; omega
theorem trod_bulkC {B : DataW H → Nat} {Bs : List (DataW H) → Nat} (hB1 : ∀ d, 1 ≤ B d) (hBs : ∀ es sp, Bs es + 1 ≤ B (.slice es sp)) (hBc : ∀ d r, Bs (d :: r) = B d + Bs r) (hBa : ∀ es, Bs es ≤ B (.agg es)) : ∀ (n : Nat) (t : TypeId) (cs : List Value) (d : DataW H × List MemPlace), goodC P n t = true → DataW.trod enc P W 0 (fun _ => true) true n t cs = some d →
    ∃ xs, RepC W xs cs ∧ Shape P n t xs ∧ bulkDs xs ≤ B d.1 := by
  intro n
  induction n with
  | zero => intro t cs d _ h; cases h
  | succ n ih =>
    intro t cs d hg h
    have single : ∀ (x : D) (v : Value), RepD W (fun b => b < W.heap.size) x v → RepC W [x] [v] := fun x v hr => ⟨rfl, fun i p q hp hq => by
      cases i with
      | zero => cases hp; cases hq; exact hr
      | succ i => simp at hp⟩
    cases hu : P.underlying t with
    | none => simp [goodC, hu] at hg
    | some u =>
      cases u with
      | bool =>
        obtain ⟨b, rfl, _⟩ := DataW.trod_bool hu h
        exact ⟨_, single _ _ (.v _), (by simp only [Shape, hu]; exact ⟨b, rfl⟩), hB1 _⟩
      | int k =>
        obtain ⟨m, rfl, _, hw⟩ := DataW.trod_int hu h
        exact ⟨_, single _ _ (.v _), (by simp only [Shape, hu]; exact ⟨m, rfl, wf_bounds hw⟩), hB1 _⟩
      | float k =>
        obtain ⟨b, rfl, hw⟩ := trod_float hu h
        exact ⟨_, single _ _ (.v _), (by simp only [Shape, hu]; exact ⟨b, rfl, hw⟩), hB1 _⟩
      | string =>
        obtain ⟨s, rfl, _, hw⟩ := DataW.trod_string hu h
        exact ⟨_, single _ _ (.v _), (by simp only [Shape, hu]; exact ⟨s, rfl, hw⟩), hB1 _⟩
      | struct fs =>
        simp only [goodC, hu, Bool.and_eq_true] at hg
        obtain ⟨xs, m, he, hd, hl, hxl, hf⟩ := DataW.trod_struct hu h
        cases he
        obtain ⟨ys, hy, hsy, hby⟩ := fields_bulk (W := W) (n := n) hBc fs.toList (xs.map (·.1)) 0 (P.cellsOf t) cs hg.1 (by omega) (by simp [hxl]) (fun i f hi => by
          have hi' : fs[i]? = some f := by simpa using hi
          have hlt : i < fs.size := (Array.getElem?_eq_some_iff.1 hi').1
          have := hf i f hi'
          rw [List.getElem?_eq_getElem (by omega)] at this
          rw [Nat.sub_zero]
          obtain ⟨zs, h1, h2, h3⟩ := ih _ _ _ (List.all_eq_true.1 hg.2 f (List.mem_of_getElem? hi)) this
          exact ⟨zs, _, h1, h2, by rw [List.getElem?_map, List.getElem?_eq_getElem (by omega)]; rfl, h3⟩)
        exact ⟨ys, hy, (by simp only [Shape, hu]; exact hsy), by rw [hd]; exact Nat.le_trans hby (hBa _)⟩
      | slice e =>
        simp only [goodC, hu, Bool.and_eq_true, decide_eq_true_eq] at hg
        rcases DataW.trod_slice hu h with ⟨rfl, _⟩ | ⟨a, len, cap, elems, rest, m, he, rfl, hd1, hb, hlc, hcm, hel, hf, _⟩
        · refine ⟨_, single (.ds (P.cellsOf e) []) _ (.nil _ _ _), ?_, by simpa [bulkDs, bulkD] using hB1 _⟩
          simp only [Shape, hu]
          exact ⟨[], rfl, by simp, fun r hr => by simp at hr⟩
        · cases he
          obtain ⟨rows, hrl, hrr⟩ := list_choose (p := fun (i : Nat) (r : List D) => ∃ l, W.cells? 0 (a.add (i * P.cellsOf e)) (P.cellsOf e) = some l ∧ RepC W r l ∧ Shape P n e r ∧ ∃ y, elems[i]? = some y ∧ bulkDs r ≤ B y.1) (List.range len) (fun i hi => by
            have hlt : i < len := by simpa using hi
            have := hf i hlt
            rw [List.getElem?_eq_getElem (by omega)] at this
            rw [Option.bind_eq_some_iff] at this
            obtain ⟨l, h1, h2⟩ := this
            obtain ⟨r, h3, h4, h5⟩ := ih _ _ _ hg.2 h2
            exact ⟨r, l, h1, h3, h4, _, List.getElem?_eq_getElem (by omega), h5⟩)
          simp at hrl
          have hrow : ∀ (i : Nat), i < len → ∃ r l, rows[i]? = some r ∧ W.cells? 0 (a.add (i * P.cellsOf e)) (P.cellsOf e) = some l ∧ RepC W r l ∧ Shape P n e r ∧ ∃ y, elems[i]? = some y ∧ bulkDs r ≤ B y.1 := fun i hi => by
            have h1 : rows[i]? = some rows[i] := List.getElem?_eq_getElem (by omega)
            obtain ⟨l, h2⟩ := hrr i i _ (by simp [hi]) h1
            exact ⟨_, l, h1, h2⟩
          have hall : ∀ r, r ∈ rows → Shape P n e r ∧ r.length = P.cellsOf e := fun r hr => by
            obtain ⟨i, hi⟩ := List.getElem?_of_mem hr
            have hlt := (List.getElem?_eq_some_iff.1 hi).1
            obtain ⟨r', l, h1, h2, h3, h4, _⟩ := hrow i (by omega)
            rw [hi] at h1; cases h1
            exact ⟨h4, by rw [h3.1]; exact (cells?_spec h2).1⟩
          have hbk : bulkDs rows.flatten ≤ Bs (elems.map (·.1)) := bulk_rows hBc (by omega) (fun i r hi => by
            have hlt := (List.getElem?_eq_some_iff.1 hi).1
            obtain ⟨r', l, h1, h2, h3, h4, y, h5, h6⟩ := hrow i (by omega)
            rw [hi] at h1; cases h1
            exact ⟨y, h5, h6⟩)
          refine ⟨[.ds (P.cellsOf e) rows.flatten], single _ _ ?_, (by simp only [Shape, hu]; exact ⟨rows, rfl, by omega, hall⟩), Nat.le_trans (show bulkDs [.ds (P.cellsOf e) rows.flatten] ≤ Bs (elems.map (·.1)) + 1 by simp only [bulkDs, bulkD]; omega) (by rw [hd1]; exact hBs _ _)⟩
          rcases Nat.eq_zero_or_pos len with h0 | hpos
          · have : rows = [] := List.eq_nil_of_length_eq_zero (by omega)
            subst this; subst h0
            exact .nil _ _ _
          · -- the address
            obtain ⟨r0, l0, _, hc0, _⟩ := hrow 0 hpos
            rw [Nat.zero_mul, show a.add 0 = a from by simp [Addr.add]] at hc0
            have hc00 := (cells?_spec hc0).2 0 hg.1
            rw [show a.add 0 = a from by simp [Addr.add]] at hc00
            rw [List.getElem?_eq_getElem (by rw [(cells?_spec hc0).1]; exact hg.1)] at hc00
            have hspot := cell_spot hc00
            have hblk := cell_block hc00
            have ha : a = ⟨a.block, a.off, none⟩ := by cases a; simp_all
            have hcell : ∀ (i : Nat), i < len * P.cellsOf e → ∃ r l x, rows[i / P.cellsOf e]? = some r ∧ RepC W r l ∧ rows.flatten[i]? = some x ∧ r[i % P.cellsOf e]? = some x ∧ W.cell? ⟨a.block, a.off + i, none⟩ = l[i % P.cellsOf e]? := fun i hi => by
              have hlt : i < rows.flatten.length := by rw [flatten_len fun r hr => (hall r hr).2, hrl]; exact hi
              have hx : rows.flatten[i]? = some rows.flatten[i] := List.getElem?_eq_getElem hlt
              obtain ⟨r, h1, h2⟩ := flatten_get (fun r hr => (hall r hr).2) i _ hx
              have hq : i / P.cellsOf e < len := by rw [Nat.div_lt_iff_lt_mul hg.1]; exact hi
              obtain ⟨r', l, h3, h4, h5, _⟩ := hrow _ hq
              rw [h1] at h3; cases h3
              refine ⟨r, l, _, h1, h5, hx, h2, ?_⟩
              rw [← (cells?_spec h4).2 _ (Nat.mod_lt _ hg.1), ha, Addr.add_of, Addr.add_of]
              have : a.off + i / P.cellsOf e * P.cellsOf e + i % P.cellsOf e = a.off + i := by rw [Nat.add_assoc, Nat.div_add_mod' i (P.cellsOf e)]
              rw [this]
            rw [ha]
            refine .ds _ _ _ _ _ _ (fun i => (W.cell? ⟨a.block, a.off + i, none⟩).getD undef) (by rw [flatten_len fun r hr => (hall r hr).2, hrl]) hlc hblk (fun i hi => ?_) (fun i x hx => ?_)
            · rw [flatten_len fun r hr => (hall r hr).2, hrl] at hi
              obtain ⟨r, l, x, _, hrep, _, hx, hc⟩ := hcell i hi
              have hlt := (List.getElem?_eq_some_iff.1 hx).1
              rw [hc, List.getElem?_eq_getElem (by rw [← hrep.1]; exact hlt)]; rfl
            · have hi := (List.getElem?_eq_some_iff.1 hx).1
              rw [flatten_len fun r hr => (hall r hr).2, hrl] at hi
              obtain ⟨r, l, x', _, hrep, hx', hxr, hc⟩ := hcell i hi
              rw [hx] at hx'; cases hx'
              have hlt := (List.getElem?_eq_some_iff.1 hxr).1
              have hlv : l[i % P.cellsOf e]? = some (l[i % P.cellsOf e]'(by rw [← hrep.1]; exact hlt)) := List.getElem?_eq_getElem _
              rw [hc, hlv]
              exact hrep.2 _ _ _ hxr hlv
      | _ => simp [goodC, hu] at hg

theorem arg_oneRB {B : DataW H → Nat} {Bs : List (DataW H) → Nat} (hB1 : ∀ d, 1 ≤ B d) (hBs : ∀ es sp, Bs es + 1 ≤ B (.slice es sp)) (hBc : ∀ d r, Bs (d :: r) = B d + Bs r) (hBa : ∀ es, Bs es ≤ B (.agg es))
    {base : Nat} {t : TypeId} {v : Value} {d : DataW H} {p : List MemPlace} (ts : List TypeId) (hsc : scalarT P t = true) (hc : closedT P ts = true) (hm : ts.contains t = true) (hval : Value.okWide P W .any base t v)
    (h : DataW.Trod enc P W 0 (fun _ => true) true t v d p) : ∃ n x, RepD W (fun b => b < W.heap.size) x v ∧ Shape P n t [x] ∧ bulkD x ≤ B d := by
  obtain ⟨n, hn⟩ := h
  rw [okWide_scalar hsc hval] at hn
  obtain ⟨xs, hr, hs, hb⟩ := trod_bulkC hB1 hBs hBc hBa n t _ _ (closed_goodC hc n t (by simpa using hm)) hn
  match xs, hr, hs, hb with
  | [x], hr, hs, hb => exact ⟨n, x, hr.2 0 x v rfl rfl, hs, by simpa [bulkDs] using hb⟩
  | [], hr, _, _ => exact absurd hr.1 (by simp)
  | _ :: _ :: _, hr, _, _ => exact absurd hr.1 (by simp)
theorem arg_structRB {B : DataW H → Nat} {Bs : List (DataW H) → Nat} (hB1 : ∀ d, 1 ≤ B d) (hBs : ∀ es sp, Bs es + 1 ≤ B (.slice es sp)) (hBc : ∀ d r, Bs (d :: r) = B d + Bs r) (hBa : ∀ es, Bs es ≤ B (.agg es))
    {base : Nat} {t : TypeId} {v : Value} {d : DataW H} {p : List MemPlace} {fs : Array Field} (ts : List TypeId) (ht : P.underlying t = some (.struct fs)) (hc : closedT P ts = true) (hm : ts.contains t = true) (hval : Value.okWide P W .any base t v)
    (h : DataW.Trod enc P W 0 (fun _ => true) true t v d p) : ∃ n xs, RepD W (fun b => b < W.heap.size) (.ag xs) v ∧ Shape P n t xs ∧ bulkDs xs ≤ B d := by
  obtain ⟨cs, rfl, _⟩ := WideShapes.okWide_struct ht hval
  obtain ⟨n, hn⟩ := h
  obtain ⟨xs, hr, hs, hb⟩ := trod_bulkC hB1 hBs hBc hBa n t _ _ (closed_goodC hc n t (by simpa using hm)) hn
  refine ⟨n, xs, ?_, hs, hb⟩
  have := RepD.ag xs (cs.toList) (w := W) (ok := fun b => b < W.heap.size) (by rw [hr.1]; rfl) (fun i x y hx hy => hr.2 i x y hx hy)
  simpa using this
theorem bulk_mem {l : List D} {x : D} (h : x ∈ l) : bulkD x ≤ bulkDs l := by
  induction l with
  | nil => cases h
  | cons a l ih =>
    simp only [bulkDs]
    rcases List.mem_cons.1 h with rfl | h
    · omega
    · have := ih h; omega
theorem bulk_len (l : List D) : l.length ≤ bulkDs l := by
  induction l with
  | nil => exact Nat.zero_le _
  | cons a l ih =>
    have : 1 ≤ bulkD a := by cases a <;> simp [bulkD]
    simp only [bulkDs, List.length_cons]; omega
/-- A function whose row bounds what it reads, and lists package variables: out of its contract. -/
theorem handed_cond_and {a : Assume} {C : Checked} {os : Os} {f : FuncId} {fn : Func} {s : OpenSpec} {k : (H : Type) → List (DataW H) → Bool} (hk : s.cond = some k) {F : Stop.Interp} {conds : List PathCond} {apart fresh handsOn again : Bool} {X : World → Array Value → Prop}
    (hX : ∀ (w w' : World) (args : Array Value), w.heap = w'.heap → X w args → X w' args)
    (own : ownKnob C.prog.godebug = none) (started : os.Started) (noInit : C.prog.inits.idxOf? f = none) (hfn : C.prog.funcs[f]? = some fn)
    (witness : ∃ (w : World) (tape : Tape) (i : Input), w.os = os ∧ (w.forCall tape i).Shaped C.prog ∧ i.vars = [] ∧ Input.okWide C.prog (w.forCall tape i) .any w.heap.size f i ∧
      ((s.pre enc C.prog fn conds apart (w.forCall tape i).memory i.args ∧ X (w.forCall tape i).memory i.args) ∧ sizedMet enc C.prog fn s apart (w.forCall tape i).memory i.args) ∧ a.holds C.prog (lone (Frame.enter C.prog f i.args .normal) [] (w.forCall tape i)))
    (contract : ∀ (W : World) (base : Nat) (args : Array Value) (ds gs : List (DataW H)) (before : List MemPlace),
      (∀ (j : Nat) t v, fn.params[j]? = some t → args[j]? = some v → Value.okWide C.prog W .any base t v) →
      DataW.Whole enc C.prog fn.params.toList s.vars apart W args.toList ds gs before → k H (ds ++ gs) = true → X W args →
      Calls C.prog f args W fun e W' => ∃ v, e = .returned v ∧ (s.at F).post enc C.prog fn apart fresh handsOn again W args v W') :
    ReturnsInHanded a C os f .any (fun w args => (s.pre enc C.prog fn conds apart w args ∧ X w args) ∧ sizedMet enc C.prog fn s apart w args) ((s.at F).post enc C.prog fn apart fresh handsOn again) := by
  refine returnsInHanded_of_calls own started noInit witness fun w tape i _ _ _ hok hpre _ => ?_
  obtain ⟨_, _, _, g, hg, _, _, _, _, hval⟩ := hok
  obtain rfl := Option.some.inj (hg.symm.trans hfn)
  obtain ⟨⟨hp, hx⟩, _⟩ := hpre
  obtain ⟨ds, gs, before, hw, _, hkk⟩ := (OpenSpec.pre_some hk conds apart _ _).1 hp
  exact (contract _ _ _ ds gs before hval (DataW.Whole.of_heap (w' := w.forCall tape i) (by rfl) hw) hkk (hX _ _ _ (by rfl) hx)).mono fun e W' ⟨v, he, hq⟩ => by
    subst he
    exact ChangeSpec.post_blind hq
theorem witness_cond_and {C : Checked} {os : Os} {f : FuncId} {fn : Func} {s : OpenSpec} {k : (H : Type) → List (DataW H) → Bool} (hk : s.cond = some k) {conds : List PathCond} {apart : Bool} {X : World → Array Value → Prop} (w0 : World) (args : Array Value) (fuel : Nat) (hos : w0.os = os)
    (hsh : (w0.forCall (fun _ _ => 0) ⟨#[], args, []⟩).Shaped C.prog)
    (hok : Input.okWideB C.prog (w0.forCall (fun _ _ => 0) ⟨#[], args, []⟩) f ⟨#[], args, []⟩ = true)
    {x : List (DataW H) × List (DataW H) × List MemPlace} (hx : DataW.whole enc C.prog (w0.forCall (fun _ _ => 0) ⟨#[], args, []⟩).memory fn.params.toList s.vars apart args.toList fuel = some x)
    (hconds : conds.all (PathCond.test C.prog ⟨fn.params.toList, x.1, s.bare.plain.varTypes C.prog, x.2.1⟩) = true) (hkk : k H (x.1 ++ x.2.1) = true)
    (hsz : s.bare.sizedB enc C.prog fn apart (w0.forCall (fun _ _ => 0) ⟨#[], args, []⟩).memory args fuel = true)
    (hX : X (w0.forCall (fun _ _ => 0) ⟨#[], args, []⟩).memory args) :
    ∃ (w : World) (tape : Tape) (i : Input), w.os = os ∧ (w.forCall tape i).Shaped C.prog ∧ i.vars = [] ∧ Input.okWide C.prog (w.forCall tape i) .any w.heap.size f i ∧
      ((s.pre enc C.prog fn conds apart (w.forCall tape i).memory i.args ∧ X (w.forCall tape i).memory i.args) ∧ sizedMet enc C.prog fn s apart (w.forCall tape i).memory i.args) ∧ ({ modest := false } : Assume).holds C.prog (lone (Frame.enter C.prog f i.args .normal) [] (w.forCall tape i)) :=
  ⟨w0, fun _ _ => 0, ⟨#[], args, []⟩, hos, hsh, (Input.okWide_of_okWideB (base := 0) hok).1, (Input.okWide_of_okWideB hok).2, ⟨⟨(OpenSpec.pre_some hk conds apart _ _).2 ⟨x.1, x.2.1, x.2.2, DataW.Whole_of_whole hx, hconds, hkk⟩, hX⟩, sizedMet_of_sizedB hsz⟩, by
    simp only [Assume.holds]
    exact ⟨by simp, by simp, fun h => by simp at h, by simp, by simp⟩⟩
end
end Go.Vm
