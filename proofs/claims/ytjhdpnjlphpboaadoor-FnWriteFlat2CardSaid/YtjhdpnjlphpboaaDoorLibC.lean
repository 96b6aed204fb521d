/- The framework by which a function is walked through: what this claim needs of it. -/
import Derived.Test.YtjhdpnjlphpboaaDoorLibA
import Derived.Test.YtjhdpnjlphpboaaDoorLibB
/- Functions that are handed objects of their caller's own: what they do to them (FnH), and their calls. -/
set_option linter.unusedVariables false
set_option linter.unusedSimpArgs false
namespace Go.Vm
/- The objects are named anew. -/
mutual
def SV.ren (ρ : Nat → Nat) : SV → SV
 | .d x => .d x
 | .ptr o k => .ptr (ρ o) k
 | .sl o a b c e => .sl (ρ o) a b c e
 | .own o => .own (ρ o)
 | .pre o k => .pre (ρ o) k
 | .full a b => .full a b
 | .ep a b => .ep a b
 | .any => .any
 | .ag l => .ag (SV.renL ρ l)
 | .tu l => .tu (SV.renL ρ l)
 | .ifc t x => .ifc t (SV.ren ρ x)
 | .fv f a b => .fv f (SV.renL ρ a) (SV.renL ρ b)
termination_by structural x => x
def SV.renL (ρ : Nat → Nat) : List SV → List SV
 | [] => []
 | x :: r => SV.ren ρ x :: SV.renL ρ r
termination_by structural x => x
end
theorem SV.renL_eq (ρ : Nat → Nat) : ∀ l : List SV, SV.renL ρ l = l.map (SV.ren ρ)
 | [] => rfl
 | x :: r => by rw [SV.renL, SV.renL_eq ρ r]; rfl
def Ob.ren (ρ : Nat → Nat) : Ob → Ob
 | .fix t c => .fix t (c.map (SV.ren ρ))
 | .grow a b c => .grow a b c
 | .dead => .dead
 | .frame _ _ => .dead
inductive RenO (ρ : Nat → Nat) : List Ob → List Ob → Prop
 | nil : RenO ρ [] []
 | cons {a b : Ob} {l r : List Ob} (h : a.ren ρ = b) (t : RenO ρ l r) : RenO ρ (a :: l) (b :: r)
theorem RenO.eq {ρ : Nat → Nat} {a b : List Ob} (h : RenO ρ a b) : b = a.map (Ob.ren ρ) := by
 induction h with
 | nil => rfl
 | cons h t ih => rw [List.map_cons, h, ih]
theorem ren_fixl {α : Type} {ρ : Nat → Nat} {ty : Nat} {f : α → SV} {l : List α} (hf : ∀ z, (f z).ren ρ = f z) : (Ob.fix ty (l.map f)).ren ρ = .fix ty (l.map f) := by
 simp only [Ob.ren, List.map_map]
 congr 1
 apply List.map_congr_left
 intro z _
 exact hf z
theorem RepS.renIn {w : World} {ok ok' : Nat → Prop} {Ω Ω' : List Value} {ρ : Nat → Nat} {k : Nat} (hok : ∀ b, ok b → ok' b) (hΩ : ∀ i v, i < k → Ω[ρ i]? = some v → Ω'[i]? = some v) {x : SV} {v : Value} (hr : RepS w ok Ω x v) :
  ∀ {y : SV}, y.ren ρ = x → y.under k = true → RepS w ok' Ω' y v := by
 have hd' : ∀ {z : D} {u : Value}, RepD w ok z u → RepD w ok' z u := fun h => h.mono fun b hb => ⟨hok b hb, rfl⟩
 induction hr with
 | any v => intro y e hu; cases y <;> first | exact .any v | cases e
 | d x v hd => intro y e hu; cases y <;> first | (cases e; exact .d x v (hd' hd)) | cases e
 | ptr o off b ho => intro y e hu; cases y <;> first | (cases e; exact .ptr _ off b (hΩ _ _ (of_decide_eq_true hu) ho)) | cases e
 | ptrG o off b len cap ho => intro y e hu; cases y <;> first | (cases e; exact .ptrG _ off b len cap (hΩ _ _ (of_decide_eq_true hu) ho)) | cases e
 | sl o sz off len cap b ho => intro y e hu; cases y <;> first | (cases e; exact .sl _ sz off len cap b (hΩ _ _ (of_decide_eq_true hu) ho)) | cases e
 | own o v ho h1 => intro y e hu; cases y <;> first | (cases e; exact .own _ v (hΩ _ _ (of_decide_eq_true hu) ho) h1) | cases e
 | pre o k n cap a ho hk => intro y e hu; cases y <;> first | (cases e; exact .pre _ k n cap a (hΩ _ _ (of_decide_eq_true hu) ho) hk) | cases e
 | full sz cells a n hd => intro y e hu; cases y <;> first | (cases e; exact .full sz cells a n (hd' hd)) | cases e
 | ep b off i cells vals hb hcell hr => intro y e hu; cases y <;> first | (cases e; exact .ep b off i cells vals (hok b hb) hcell (fun j x hj => hd' (hr j x hj))) | cases e
 | ag cells vs hl _ ih =>
  intro y e hu
  cases y with
  | ag l =>
   simp only [SV.ren, SV.ag.injEq] at e
   rw [SV.renL_eq] at e
   subst e
   refine .ag l vs (by rw [hl, List.length_map]) fun i x y hx hy => ih i _ y (by rw [List.getElem?_map, hx]; rfl) hy rfl (SV.underL_get hu hx)
  | _ => cases e
 | tu cells vs hl _ ih =>
  intro y e hu
  cases y with
  | tu l =>
   simp only [SV.ren, SV.tu.injEq] at e
   rw [SV.renL_eq] at e
   subst e
   refine .tu l vs (by rw [hl, List.length_map]) fun i x y hx hy => ih i _ y (by rw [List.getElem?_map, hx]; rfl) hy rfl (SV.underL_get hu hx)
  | _ => cases e
 | ifc t x u _ ih =>
  intro y e hu
  cases y with
  | ifc t' x' => simp only [SV.ren, SV.ifc.injEq] at e; obtain ⟨rfl, e⟩ := e; exact .ifc _ _ u (ih e hu)
  | _ => cases e
 | fv fn first caps fs cs hf hc _ _ ih1 ih2 =>
  intro y e hu
  cases y with
  | fv f' a b =>
   simp only [SV.ren, SV.fv.injEq] at e
   rw [SV.renL_eq, SV.renL_eq] at e
   obtain ⟨rfl, rfl, rfl⟩ := e
   have hb2 : SV.underL k a = true ∧ SV.underL k b = true := by simpa only [SV.under, Bool.and_eq_true] using hu
   exact .fv _ a b fs cs (by rw [hf, List.length_map]) (by rw [hc, List.length_map]) (fun i x y hx hy => ih1 i _ y (by rw [List.getElem?_map, hx]; rfl) hy rfl (SV.underL_get hb2.1 hx)) (fun i x y hx hy => ih2 i _ y (by rw [List.getElem?_map, hx]; rfl) hy rfl (SV.underL_get hb2.2 hx))
  | _ => cases e
theorem RepS.renOut {w : World} {ok ok' : Nat → Prop} {Ω Ω' : List Value} {ρ : Nat → Nat} (hok : ∀ b, ok b → ok' b) (hΩ : ∀ i v, Ω[i]? = some v → Ω'[ρ i]? = some v) {x : SV} {v : Value} (hr : RepS w ok Ω x v) :
  RepS w ok' Ω' (x.ren ρ) v := by
 have hd' : ∀ {z : D} {u : Value}, RepD w ok z u → RepD w ok' z u := fun h => h.mono fun b hb => ⟨hok b hb, rfl⟩
 have key : ∀ {l : List SV} {vs : List Value}, (∀ (i : Nat) x y, l[i]? = some x → vs[i]? = some y → RepS w ok' Ω' (x.ren ρ) y) → ∀ (i : Nat) x y, (SV.renL ρ l)[i]? = some x → vs[i]? = some y → RepS w ok' Ω' x y := fun {l vs} h i x y hx hy => by
  rw [SV.renL_eq, List.getElem?_map, Option.map_eq_some_iff] at hx
  obtain ⟨z, hz, rfl⟩ := hx
  exact h i z y hz hy
 induction hr with
 | any v => exact .any v
 | d x v hd => exact .d x v (hd' hd)
 | ptr o off b ho => exact .ptr _ off b (hΩ _ _ ho)
 | ptrG o off b len cap ho => exact .ptrG _ off b len cap (hΩ _ _ ho)
 | sl o sz off len cap b ho => exact .sl _ sz off len cap b (hΩ _ _ ho)
 | own o v ho h1 => exact .own _ v (hΩ _ _ ho) h1
 | pre o k n cap a ho hk => exact .pre _ k n cap a (hΩ _ _ ho) hk
 | full sz cells a n hd => exact .full sz cells a n (hd' hd)
 | ep b off i cells vals hb hcell hr => exact .ep b off i cells vals (hok b hb) hcell (fun j x hj => hd' (hr j x hj))
 | ag cells vs hl _ ih => exact .ag _ vs (by rw [SV.renL_eq, List.length_map]; exact hl) (key ih)
 | tu cells vs hl _ ih => exact .tu _ vs (by rw [SV.renL_eq, List.length_map]; exact hl) (key ih)
 | ifc t x u _ ih => exact .ifc t _ u ih
 | fv fn first caps fs cs hf hc _ _ ih1 ih2 => exact .fv fn _ _ fs cs (by rw [SV.renL_eq, List.length_map]; exact hf) (by rw [SV.renL_eq, List.length_map]; exact hc) (key ih1) (key ih2)

/-! ### The contract -/
abbrev hctx (P : Program) (W : World) (ok : Nat → Prop) (may : List Nat) (n : Nat) : Ctx := ⟨P, W, ok, may, n, []⟩
/-- Function f, handed ys and the objects pre (which ys and they themselves name by their place), gives some result and leaves some objects; those at pins stay where they are. -/
def FnH (P : Program) (f : FuncId) (ys : List SV) (pre : List Ob) (pins : List Nat) (R : SV → List Ob → Prop) : Prop :=
 enters P f = true ∧ ∀ (W : World) (ok : Nat → Prop) (may : List Nat) (Ω vs : List Value), Mem (hctx P W ok may 0) pre Ω W → (∀ b, ok b → b < W.heap.size) → vs.length = ys.length →
  (∀ (i : Nat) y v, ys[i]? = some y → vs[i]? = some v → RepS W (okB (hctx P W ok may 0) pre Ω W) Ω y v) →
  Calls P f vs.toArray W fun e w' => ∃ v r post Ω', e = .returned v ∧ R r post ∧ post.length = pre.length ∧ r.under pre.length = true ∧ post.all (Ob.under pre.length) = true ∧ Mem (hctx P W ok may 0) post Ω' w' ∧
   RepS w' (okB (hctx P W ok may 0) post Ω' w') Ω' r v ∧ ∀ i, i ∈ pins → Ω'[i]? = Ω[i]?
theorem FnH.mono {P : Program} {f : FuncId} {ys : List SV} {pre : List Ob} {pins : List Nat} {R R' : SV → List Ob → Prop} (h : FnH P f ys pre pins R) (hR : ∀ r post, R r post → R' r post) : FnH P f ys pre pins R' :=
 ⟨h.1, fun W ok may Ω vs h0 h1 h2 h3 => (h.2 W ok may Ω vs h0 h1 h2 h3).mono fun e w' ⟨v, r, post, Ω', he, hr, rest⟩ => ⟨v, r, post, Ω', he, hR r post hr, rest⟩⟩

/-- What is held as data, in objects behind the k-th. -/
def viewH (k : Nat) : Nat → List Ob → SV → Option D
 | 0, _, _ => none
 | n + 1, obs, x => match x with
  | .d y => some y
  | .ptr p off => if p ≤ k then none else match obs[p]? with
   | some (.fix ty cells) => (mapO (viewH k n obs) (cells.drop off)).map .pt
   | _ => none
  | .own p => if p ≤ k then none else match obs[p]? with
   | some (.grow ty sz cells) => some (.ds sz cells)
   | _ => none
  | .sl p sz off len cap => if p ≤ k then none else match obs[p]? with
   | some (.fix ty cells) => if off + len * sz ≤ cells.length ∧ len ≤ cap then (mapO (viewH k n obs) ((cells.drop off).take (len * sz))).map (.ds sz) else none
   | _ => none
  | .ep cells i => some (.pt (cells.drop i))
  | .ag l => (mapO (viewH k n obs) l).map .ag
  | .tu l => (mapO (viewH k n obs) l).map .tu
  | .ifc t x => (viewH k n obs x).map (.ifc t)
  | .fv (.func f) [] l => (mapO (viewH k n obs) l).map (.clo f)
  | .fv _ _ _ => none
  | .pre _ _ => none
  | .full sz cells => some (.ds sz cells)
  | .any => none
theorem take_lt {α : Type} {l : List α} {k i : Nat} {x : α} (h : (l.take k)[i]? = some x) : i < k ∧ l[i]? = some x := by
 rw [List.getElem?_take] at h
 split at h
 ·exact ⟨by assumption, h⟩
 ·cases h
theorem viewH_rep {C : Ctx} {obs : List Ob} {Ω : List Value} {w : World} {k : Nat} (hm : Mem C obs Ω w) : ∀ (n : Nat) {x : SV} {v : Value} {y : D}, viewH k n obs x = some y → RepS w (okB C obs Ω w) Ω x v → RepD w (okB C (obs.take k) (Ω.take k) w) y v := by
 have hok : ∀ b, okB C obs Ω w b → okB C (obs.take k) (Ω.take k) w b := fun b h => ⟨h.1, h.2.1, fun i ob p e1 l e2 => h.2.2 i ob p (take_lt e1).2 l (take_lt e2).2⟩
 have hnew : ∀ {p : Nat} {ob : Ob} {h : Value} {b : Nat}, ¬ p ≤ k → obs[p]? = some ob → ob.live = true → Ω[p]? = some h → blk h = some b → okB C (obs.take k) (Ω.take k) w b := fun {p ob h b} hp e1 l e2 hb => by
  refine ⟨.inr ?_, (hm.obj p ob h e1 e2).lt l hb, fun i ob' q f1 l2 f2 => ?_⟩
  ·rcases hm.new p ob h b e1 l e2 hb with h | h
   ·exact .inl h
   ·exact .inr h
  ·obtain ⟨hi, f1⟩ := take_lt f1
   exact hm.sep p i ob ob' h q b (by omega) e1 f1 l l2 e2 (take_lt f2).2 hb
 intro n
 induction n with
 | zero => intro x v y h; cases h
 | succ n ih =>
  intro x v y h hr
  cases hr with
  | any => cases h
  | pre => cases h
  | full sz cells a n hd => cases h; exact hd.mono fun b hb => ⟨hok b hb, rfl⟩
  | d x v hd => cases h; exact hd.mono fun b hb => ⟨hok b hb, rfl⟩
  | ptr p off b hb =>
   simp only [viewH] at h
   split at h
   ·cases h
   rename_i hpk
   split at h
   ·rename_i ty cells hp
    obtain ⟨ys, hy, rfl⟩ := Option.map_eq_some_iff.1 h
    obtain ⟨hl, hi⟩ := mapO_get hy
    obtain ⟨b', vs, he, hw, hvl, hrr, h1⟩ := hm.obj p _ _ hp hb
    cases he
    refine .pt b off ys (fun i => (vs.drop off).getD i undef) (hnew hpk hp rfl hb rfl) (fun i hi' => ?_) (fun i z hz => ?_)
    ·have hlt : off + i < vs.length := by simp at hl; omega
     rw [cell_of_row w b (off + i) _ ty (0, 0) hw]; simp [hlt]
    ·have hlt := (List.getElem?_eq_some_iff.1 hz).1
     have hlt2 : off + i < cells.length := by simp at hl; omega
     have hc : (cells.drop off)[i]? = some cells[off + i] := by rw [List.getElem?_drop]; exact List.getElem?_eq_getElem hlt2
     have hv : vs[off + i]? = some vs[off + i] := List.getElem?_eq_getElem (by omega)
     have e : (vs.drop off).getD i undef = vs[off + i] := by simp [hv]
     rw [e]
     exact ih (hi i _ _ hc hz) (hrr (off + i) _ _ (List.getElem?_eq_getElem hlt2) hv)
   ·cases h
  | ptrG p off b len cap hb =>
   simp only [viewH] at h
   split at h
   ·cases h
   split at h
   ·rename_i ty cells hp
    obtain ⟨b', vs, he, _⟩ := hm.obj p _ _ hp hb
    cases he
   ·cases h
  | sl p sz off len cap b hb =>
   simp only [viewH] at h
   split at h
   ·cases h
   rename_i hpk
   split at h
   ·rename_i ty cells hp
    split at h
    ·rename_i hle
     obtain ⟨ys, hy, rfl⟩ := Option.map_eq_some_iff.1 h
     obtain ⟨hl, hi⟩ := mapO_get hy
     obtain ⟨b', vs, he, hw, hvl, hrr, h1⟩ := hm.obj p _ _ hp hb
     cases he
     have hyl : ys.length = len * sz := by rw [hl]; simp; omega
     refine .ds sz b off len cap ys (fun i => (vs.drop off).getD i undef) hyl hle.2 (hnew hpk hp rfl hb rfl) (fun i hi' => ?_) (fun i z hz => ?_)
     ·have hlt : off + i < vs.length := by omega
      rw [cell_of_row w b (off + i) _ ty (0, 0) hw]; simp [hlt]
     ·have hlt := (List.getElem?_eq_some_iff.1 hz).1
      have hlt2 : off + i < cells.length := by omega
      have hc : ((cells.drop off).take (len * sz))[i]? = some cells[off + i] := by rw [List.getElem?_take, if_pos (by omega), List.getElem?_drop]; exact List.getElem?_eq_getElem hlt2
      have hv : vs[off + i]? = some vs[off + i] := List.getElem?_eq_getElem (by omega)
      have e : (vs.drop off).getD i undef = vs[off + i] := by simp [hv]
      rw [e]
      exact ih (hi i _ _ hc hz) (hrr (off + i) _ _ (List.getElem?_eq_getElem hlt2) hv)
    ·cases h
   ·cases h
  | own p v hb hb1 =>
   simp only [viewH] at h
   split at h
   ·cases h
   rename_i hpk
   split at h
   ·rename_i ty sz cells hp
    cases h
    obtain ⟨m, xs, how, hxl, hrr⟩ := hm.obj p _ _ hp hb
    rcases how.2 with ⟨rfl, h0⟩ | ⟨g, cap, cur, rfl, hbg, hg, hnc, hcm, hcs, htake⟩
    ·have : cells = [] := by
      have h2 := how.1; subst h0; rw [Nat.zero_mul] at h2
      exact List.eq_nil_of_length_eq_zero (by omega)
     subst this
     exact .nil sz none 0
    ·refine .ds sz g 0 m cap cells (fun i => xs.getD i undef) (by rw [← hxl, how.1]) hnc (hnew hpk hp rfl hb rfl) (fun i hi => ?_) (fun i z hz => ?_)
     ·have hlt : i < xs.length := by omega
      have hx : xs[i]? = some xs[i] := List.getElem?_eq_getElem hlt
      have := how.cells (g := g) rfl i _ hx
      rw [Addr.add_of] at this
      rw [this]; simp [hx]
     ·have hlt := (List.getElem?_eq_some_iff.1 hz).1
      have hx : xs[i]? = some xs[i] := List.getElem?_eq_getElem (by omega)
      have e : xs.getD i undef = xs[i] := by simp [hx]
      rw [e]
      exact (hrr i _ _ hz hx).mono fun b hb => ⟨hok b hb, rfl⟩
   ·cases h
  | ep b off i cells vals hb hc hrr =>
   cases h
   refine .pt b (off + i) _ (fun j => vals (i + j)) (hok b hb) (fun j hj => ?_) (fun j z hz => ?_)
   ·rw [Nat.add_assoc]; exact hc (i + j) (by simp at hj; omega)
   ·rw [List.getElem?_drop] at hz; exact (hrr _ _ hz).mono fun b hb => ⟨hok b hb, rfl⟩
  | ag cells vs hl hrr =>
   simp only [viewH] at h
   obtain ⟨ys, hy, rfl⟩ := Option.map_eq_some_iff.1 h
   obtain ⟨hl2, hi⟩ := mapO_get hy
   refine .ag ys vs (by omega) fun i p q hp hq => ?_
   have hlt := (List.getElem?_eq_some_iff.1 hp).1
   have hc : cells[i]? = some cells[i] := List.getElem?_eq_getElem (by omega)
   exact ih (hi i _ _ hc hp) (hrr i _ _ hc hq)
  | tu cells vs hl hrr =>
   simp only [viewH] at h
   obtain ⟨ys, hy, rfl⟩ := Option.map_eq_some_iff.1 h
   obtain ⟨hl2, hi⟩ := mapO_get hy
   refine .tu ys vs (by omega) fun i p q hp hq => ?_
   have hlt := (List.getElem?_eq_some_iff.1 hp).1
   have hc : cells[i]? = some cells[i] := List.getElem?_eq_getElem (by omega)
   exact ih (hi i _ _ hc hp) (hrr i _ _ hc hq)
  | ifc t x u hx =>
   simp only [viewH] at h
   obtain ⟨z, hz, rfl⟩ := Option.map_eq_some_iff.1 h
   exact .ifc t z u (ih hz hx)
  | fv fn first caps fs cs hf hc h1 h2 =>
   cases fn <;> first | (cases h; done) | skip
   cases first with
   | cons _ _ => cases h
   | nil =>
    have hfs : fs = [] := List.length_eq_zero_iff.1 (by simpa using hf)
    subst hfs
    simp only [viewH] at h
    obtain ⟨ys, hy, rfl⟩ := Option.map_eq_some_iff.1 h
    obtain ⟨hl2, hi⟩ := mapO_get hy
    refine .clo _ ys cs (by omega) fun i p q hp hq => ?_
    have hlt := (List.getElem?_eq_some_iff.1 hp).1
    have hc : caps[i]? = some caps[i] := List.getElem?_eq_getElem (by omega)
    exact ih (hi i _ _ hc hp) (h2 i _ _ hc hq)
/-- What a result is behind the end: data, or what names objects that were handed. -/
def finH (k : Nat) (obs : List Ob) (x : SV) : Option SV := match viewH k 9 obs x with
 | some y => some (.d y)
 | none => if x.under k = true then some x else none
def resH (P : Program) (k : Nat) (s : St) (rs : List ResultVar) : Option SV :=
 match mapO (fun r => match resV P s r with | some x => finH k s.obs x | none => none) rs with
 | some [y] => some y
 | some ys => some (.tu ys)
 | none => none
theorem finH_rep {C : Ctx} {obs : List Ob} {Ω : List Value} {w : World} {k : Nat} (hm : Mem C obs Ω w) {x y : SV} {v : Value} (h : finH k obs x = some y) (hr : RepS w (okB C obs Ω w) Ω x v) : RepS w (okB C (obs.take k) (Ω.take k) w) (Ω.take k) y v ∧ y.under k = true := by
 have hok : ∀ b, okB C obs Ω w b → okB C (obs.take k) (Ω.take k) w b := fun b h => ⟨h.1, h.2.1, fun i ob p e1 l e2 => h.2.2 i ob p (take_lt e1).2 l (take_lt e2).2⟩
 unfold finH at h
 split at h
 ·rename_i z hz
  cases h
  exact ⟨.d _ _ (viewH_rep hm 9 hz hr), rfl⟩
 ·split at h
  ·rename_i hu
   cases h
   exact ⟨hr.take hok hu, hu⟩
  ·cases h
theorem underL_of {k : Nat} : ∀ {l : List SV}, (∀ x, x ∈ l → x.under k = true) → SV.underL k l = true
 | [], _ => rfl
 | x :: r, h => by simp only [SV.underL, Bool.and_eq_true]; exact ⟨h x (by simp), underL_of fun y hy => h y (by simp [hy])⟩
theorem resH_rep {C : Ctx} {s : St} {Ω : List Value} {a : Act} {w : World} {k : Nat} (hr : Rel C s Ω a w) {fn : Func} {y : SV} (h : resH C.P k s fn.results.toList = some y) :
  ∃ v, (results fn a.tmps).run C.P w = .ok v w ∧ RepS w (okB C (s.obs.take k) (Ω.take k) w) (Ω.take k) y v ∧ y.under k = true := by
 have key : ∀ (l : List ResultVar) (ys : List SV), mapO (fun r => match resV C.P s r with | some x => finH k s.obs x | none => none) l = some ys →
   ∃ vs : List Value, (l.mapM (resSem a.tmps)).run C.P w = .ok vs w ∧ vs.length = ys.length ∧
    ∀ (i : Nat) p q, ys[i]? = some p → vs[i]? = some q → RepS w (okB C (s.obs.take k) (Ω.take k) w) (Ω.take k) p q ∧ p.under k = true := by
  intro l
  induction l with
  | nil => intro ys h; cases h; exact ⟨[], rfl, rfl, fun i p q hp => by simp at hp⟩
  | cons r l ih =>
   intro ys h
   simp only [mapO] at h
   split at h
   ·rename_i y hy
    split at h
    ·rename_i t ht
     cases h
     obtain ⟨vs, hrun, hl, hrr⟩ := ih t ht
     split at hy
     ·rename_i x hx
      obtain ⟨v, hv, hrep⟩ := resV_rep hr hx
      refine ⟨v :: vs, ?_, by simp [hl], fun i p q hp hq => ?_⟩
      ·simp [List.mapM_cons, hv, hrun]
      ·cases i with
       | zero => simp at hp hq; subst hp; subst hq; exact finH_rep hr.mem hy hrep
       | succ i => simp at hp hq; exact hrr i p q hp hq
     ·cases hy
    ·cases h
   ·cases h
 unfold resH at h
 split at h
 ·rename_i y' hys
  cases h
  obtain ⟨vs, hrun, hl, hrr⟩ := key _ _ hys
  match vs, hl with
  | [v], _ =>
   refine ⟨v, ?_, hrr 0 _ _ rfl rfl⟩
   rw [results_eq]
   rw [← Array.toArray_toList (xs := fn.results), List.mapM_toArray]
   simp [hrun]
 ·rename_i ys hne hys
  cases h
  obtain ⟨vs, hrun, hl, hrr⟩ := key _ _ hys
  refine ⟨.tuple vs.toArray, ?_, .tu ys vs hl fun i p q hp hq => (hrr i p q hp hq).1, underL_of fun x hx => ?_⟩
  ·have h1 : ¬ vs.length = 1 := fun e => by
    rw [hl] at e
    match ys, e with
    | [y], _ => exact hne y rfl
   rw [results_eq]
   rw [← Array.toArray_toList (xs := fn.results), List.mapM_toArray]
   simp [hrun, h1]
  ·obtain ⟨i, hi, hx⟩ := List.mem_iff_getElem.1 hx
   have hlt : i < vs.length := by omega
   exact (hrr i x vs[i] (by rw [List.getElem?_eq_getElem hi, hx]) (List.getElem?_eq_getElem hlt)).2
 ·cases h
/-- Where the handed objects stand, as slots of a frame. -/
def pinE : Nat → List Ob → List (Nat × SV)
 | _, [] => []
 | i, .fix _ _ :: r => (i, .ptr i 0) :: pinE (i + 1) r
 | i, .grow _ _ _ :: r => (i, .own i) :: pinE (i + 1) r
 | i, _ :: r => pinE (i + 1) r
theorem pinE_get : ∀ (l : List Ob) (i t : Nat) (x : SV), get (pinE i l) t = some x → i ≤ t ∧ ((x = .ptr t 0 ∧ ∃ ty c, l[t - i]? = some (.fix ty c)) ∨ (x = .own t ∧ ∃ ty s c, l[t - i]? = some (.grow ty s c)))
 | [], i, t, x, h => by cases h
 | ob :: r, i, t, x, h => by
  have nx : get (pinE (i + 1) r) t = some x → i ≤ t ∧ ((x = .ptr t 0 ∧ ∃ ty c, (ob :: r)[t - i]? = some (.fix ty c)) ∨ (x = .own t ∧ ∃ ty s c, (ob :: r)[t - i]? = some (.grow ty s c))) := fun h => by
   obtain ⟨hle, h2⟩ := pinE_get r (i + 1) t x h
   have e : t - i = (t - (i + 1)) + 1 := by omega
   rw [e]
   exact ⟨by omega, by simpa using h2⟩
  cases ob with
  | fix ty c =>
   simp only [pinE, get] at h
   split at h
   ·rename_i e; subst e; cases h; exact ⟨Nat.le_refl _, .inl ⟨rfl, ty, c, by simp⟩⟩
   ·exact nx h
  | grow ty s c =>
   simp only [pinE, get] at h
   split at h
   ·rename_i e; subst e; cases h; exact ⟨Nat.le_refl _, .inr ⟨rfl, ty, s, c, by simp⟩⟩
   ·exact nx h
  | dead => exact nx h
  | frame a b => exact nx h
def pinB (k : Nat) (env : List (Nat × SV)) (obs : List Ob) (i : Nat) : Bool := decide (i < k) && match get env i with
 | some (.ptr j 0) => decide (j = i) && match obs[i]? with
  | some (.fix _ _) => true
  | _ => false
 | some (.own j) => decide (j = i)
 | _ => false
/-- Behind the end of a function that was handed objects. -/
def RetH (P : Program) (rs : List ResultVar) (k : Nat) (pv : Array Value) (pins : List Nat) (R : SV → List Ob → Prop) : Exit → St → Prop
 | .normal, s => ∃ r env, resH P k s rs = some r ∧ s.obs[k]? = some (.frame pv env) ∧ pins.all (pinB k env s.obs) = true ∧ (s.obs.take k).all (Ob.under k) = true ∧ R r (s.obs.take k)
 | .ret, s => ∃ r env, resH P k s rs = some r ∧ s.obs[k]? = some (.frame pv env) ∧ pins.all (pinB k env s.obs) = true ∧ (s.obs.take k).all (Ob.under k) = true ∧ R r (s.obs.take k)
 | _, _ => False
theorem reth {P : Program} {s : St} {rs : List ResultVar} {k : Nat} {pv : Array Value} {pins : List Nat} {R : SV → List Ob → Prop} {r : SV} {env : List (Nat × SV)} {post : List Ob} (h1 : resH P k s rs = some r) (h2 : s.obs[k]? = some (.frame pv env)) (h3 : pins.all (pinB k env s.obs) = true)
  (h4 : s.obs.take k = post) (h5 : post.all (Ob.under k) = true) (h6 : R r post) : RetH P rs k pv pins R .ret s := by subst h4; exact ⟨r, env, h1, h2, h3, h5, h6⟩
theorem FnH.of {P : Program} {f : FuncId} {fn : Func} {c : Code} {ys : List SV} {pre : List Ob} {pins : List Nat} {R : SV → List Ob → Prop} {n : Nat} {rs : List ResultVar} (he : enters P f = true) (hf : P.funcs[f]? = some fn) (hb : fn.body = some c) (hnt : fn.ntmps = n) (hrs : fn.results = rs.toArray) (hn : ys.length ≤ n)
  (h : ∀ (W : World) (ok : Nat → Prop) (may : List Nat) (pv : Array Value), AC (hctx P W ok may n) c ⟨enumS 0 ys, pre ++ [.frame pv (pinE 0 pre)]⟩ (RetH P rs pre.length pv pins R)) : FnH P f ys pre pins R := by
 subst hnt
 have hrl : fn.results.toList = rs := by rw [hrs]
 subst hrl
 refine ⟨he, fun W ok may Ω vs hm hokl hl hrep => calls_of_wp hf hb ?_⟩
 have hm' : Mem (hctx P W ok may fn.ntmps) pre Ω W := ⟨hm.len, hm.obj, hm.sep, hm.new, ⟨hm.fr.os, hm.fr.tape, hm.fr.output, hm.fr.size, hm.fr.block, hm.fr.glob, hm.fr.gmay⟩⟩
 obtain ⟨hmf, hokf⟩ := hm'.frame Ω.toArray (pinE 0 pre) fun t x hx => by
  obtain ⟨_, h2⟩ := pinE_get pre 0 t x hx
  rw [Nat.sub_zero] at h2
  rcases h2 with ⟨rfl, ty, c, h3⟩ | ⟨rfl, ty, s, c, h3⟩
  ·have hlt := (List.getElem?_eq_some_iff.1 h3).1
   have hΩ : Ω[t]? = some (Ω[t]'(by have := hm.len; omega)) := List.getElem?_eq_getElem _
   obtain ⟨b, us, hb2, _⟩ := hm'.obj t _ _ h3 hΩ
   rw [hb2] at hΩ
   exact ⟨_, by simpa using hΩ, .ptr t 0 b hΩ⟩
  ·have hlt := (List.getElem?_eq_some_iff.1 h3).1
   have hΩ : Ω[t]? = some (Ω[t]'(by have := hm.len; omega)) := List.getElem?_eq_getElem _
   obtain ⟨m, xs, how, _⟩ := hm'.obj t _ _ h3 hΩ
   exact ⟨_, by simp, .own t _ hΩ (by rcases how.2 with ⟨h, _⟩ | ⟨g, cap, cur, h, _⟩ <;> rw [h] <;> rfl)⟩
 have hrel : Rel (hctx P W ok may fn.ntmps) ⟨enumS 0 ys, pre ++ [.frame Ω.toArray (pinE 0 pre)]⟩ (Ω ++ [undef]) { tmps := vs.toArray ++ Array.replicate (fn.ntmps - vs.toArray.size) undef, defers := [] } W := by
  refine ⟨rfl, by simp; omega, fun t x hx => ?_, hmf⟩
  obtain ⟨_, hy⟩ := enumS_get ys 0 t x hx
  rw [Nat.sub_zero] at hy
  have hlt := (List.getElem?_eq_some_iff.1 hy).1
  have hv : vs[t]? = some vs[t] := List.getElem?_eq_getElem (by omega)
  refine ⟨vs[t], ?_, (hrep t _ _ hy hv).mono (fun b hb => ⟨hokf b hb, rfl⟩) (fun o v e => get_left e)⟩
  rw [Array.getElem?_append_left (by simp; omega)]
  simp
 refine wp_mono (h W ok may _ _ _ W hrel) fun ed a w ⟨s, Ω', hr, hq⟩ => ?_
 have fin : (∃ r env, resH P pre.length s fn.results.toList = some r ∧ s.obs[pre.length]? = some (.frame Ω.toArray env) ∧ pins.all (pinB pre.length env s.obs) = true ∧ (s.obs.take pre.length).all (Ob.under pre.length) = true ∧ R r (s.obs.take pre.length)) → a.defers = [] ∧ ∃ v, (results fn a.tmps).run P w = .ok v w ∧
   ∃ v_1 r post Ω'', Ending.returned v = Ending.returned v_1 ∧ R r post ∧ post.length = pre.length ∧ r.under pre.length = true ∧ post.all (Ob.under pre.length) = true ∧ Mem (hctx P W ok may 0) post Ω'' w ∧ RepS w (okB (hctx P W ok may 0) post Ω'' w) Ω'' r v_1 ∧ ∀ i, i ∈ pins → Ω''[i]? = Ω[i]? := by
  intro ⟨r, env, h1, h2, h3, h4, h5⟩
  obtain ⟨v, hv, hrv, hu⟩ := resH_rep (C := hctx P W ok may fn.ntmps) hr h1
  obtain ⟨hmt, _⟩ := hr.mem.take pre.length h4
  have hlen2 := (List.getElem?_eq_some_iff.1 h2).1
  refine ⟨hr.defers, v, hv, v, r, s.obs.take pre.length, Ω'.take pre.length, rfl, h5, by simp; omega, hu, h4, ⟨hmt.len, hmt.obj, hmt.sep, hmt.new, ⟨hmt.fr.os, hmt.fr.tape, hmt.fr.output, hmt.fr.size, hmt.fr.block, hmt.fr.glob, hmt.fr.gmay⟩⟩, hrv, fun i hi => ?_⟩
  have hp := List.all_eq_true.1 h3 i hi
  unfold pinB at hp
  simp only [Bool.and_eq_true, decide_eq_true_eq] at hp
  obtain ⟨hik, hp⟩ := hp
  rw [List.getElem?_take, if_pos hik]
  obtain ⟨hh, hΩh⟩ : ∃ h, Ω'[pre.length]? = some h := ⟨_, List.getElem?_eq_getElem (by have := hr.mem.len; omega)⟩
  have hF := hr.mem.obj _ _ _ h2 hΩh
  split at hp
  ·rename_i j hg
   simp only [Bool.and_eq_true, decide_eq_true_eq] at hp
   obtain ⟨rfl, hp⟩ := hp
   split at hp
   ·rename_i ty c hob
    obtain ⟨u, hu1, hu2⟩ := hF.2 j _ hg
    have hΩj : Ω[j]? = some u := by simpa using hu1
    rw [hΩj]
    cases hu2 with
    | ptr _ _ b hb => exact hb
    | ptrG _ _ b len cap hb =>
     obtain ⟨b', us, he', _⟩ := hr.mem.obj j _ _ hob hb
     cases he'
   ·cases hp
  ·rename_i j hg
   obtain rfl : j = i := by simpa using hp
   obtain ⟨u, hu1, hu2⟩ := hF.2 j _ hg
   have hΩj : Ω[j]? = some u := by simpa using hu1
   rw [hΩj]
   cases hu2 with
   | own _ _ hb _ => exact hb
  ·cases hp
 cases ed with
 | normal => exact fin hq
 | ret => exact fin hq
 | _ => exact hq.elim

/-! ### The call -/
/-- Places of a list get new entries. -/
def setL {α : Type} : List α → List Nat → List α → List α
 | l, [], _ => l
 | l, _ :: _, [] => l
 | l, i :: is, x :: xs => setL (l.set i x) is xs
theorem setL_len {α : Type} : ∀ (l : List α) (is : List Nat) (xs : List α), (setL l is xs).length = l.length
 | l, [], xs => by simp only [setL]
 | l, i :: is, [] => rfl
 | l, i :: is, x :: xs => by rw [setL, setL_len]; simp
theorem setL_other {α : Type} : ∀ (l : List α) (is : List Nat) (xs : List α) {j : Nat}, j ∉ is → (setL l is xs)[j]? = l[j]?
 | l, [], xs, j, h => by simp only [setL]
 | l, i :: is, [], j, h => rfl
 | l, i :: is, x :: xs, j, h => by
  rw [setL, setL_other _ _ _ (fun hm => h (by simp [hm])), List.getElem?_set_ne (fun e => h (by simp [e]))]
theorem setL_at {α : Type} : ∀ (l : List α) (is : List Nat) (xs : List α), is.Nodup → is.length = xs.length → (∀ i, i ∈ is → i < l.length) → ∀ {k j : Nat}, is[k]? = some j → (setL l is xs)[j]? = xs[k]?
 | l, [], _, _, _, _, k, j, h => by simp at h
 | l, i :: is, [], _, hl, _, k, j, h => by simp at hl
 | l, i :: is, x :: xs, hn, hl, hb, k, j, h => by
  rw [List.nodup_cons] at hn
  cases k with
  | zero =>
   simp at h
   subst h
   rw [setL, setL_other _ _ _ hn.1, List.getElem?_set_self (hb i (by simp))]
   rfl
  | succ k =>
   simp at h
   rw [setL]
   have := setL_at (l.set i x) is xs hn.2 (by simpa using hl) (fun j hj => by simp; exact hb j (by simp [hj])) h
   rw [this]; simp
theorem setL_elim {α : Type} {l : List α} {is : List Nat} {xs : List α} (hn : is.Nodup) (hl : is.length = xs.length) (hb : ∀ i, i ∈ is → i < l.length) {j : Nat} {y : α} (h : (setL l is xs)[j]? = some y) : (∃ k : Nat, is[k]? = some j ∧ xs[k]? = some y) ∨ (j ∉ is ∧ l[j]? = some y) := by
 by_cases hj : j ∈ is
 ·obtain ⟨k, hk⟩ := List.mem_iff_getElem?.1 hj
  exact .inl ⟨k, hk, by rw [← setL_at l is xs hn hl hb hk]; exact h⟩
 ·exact .inr ⟨hj, by rw [← setL_other l is xs hj]; exact h⟩
/-- The slots that lead to none of some objects. -/
def dropL (qs : List Nat) (e : List (Nat × SV)) : List (Nat × SV) := qs.foldl (fun e q => dropO q [] e) e
theorem dropL_get {qs : List Nat} : ∀ {e : List (Nat × SV)} {t : Nat} {x : SV}, get (dropL qs e) t = some x → get e t = some x ∧ ∀ q, q ∈ qs → x.noO q = true := by
 induction qs with
 | nil => intro e t x h; exact ⟨h, fun q hq => by simp at hq⟩
 | cons q qs ih =>
  intro e t x h
  obtain ⟨h1, h2⟩ := ih (e := dropO q [] e) h
  obtain ⟨_, h3, h4⟩ := dropO_get h1
  exact ⟨h3, fun p hp => by
   rcases List.mem_cons.1 hp with rfl | hp
   ·exact h4
   ·exact h2 p hp⟩
/-- What holds of a value, if none of some objects' heads that it names has turned. -/
theorem RepS.noL {w w' : World} {ok ok' : Nat → Prop} {Ω Ω' : List Value} {qs : List Nat} (h : ∀ b, ok b → ok' b ∧ w'.heap[b]? = w.heap[b]?) (hΩ : ∀ i v, i ∉ qs → Ω[i]? = some v → Ω'[i]? = some v) {x : SV} {v : Value} (hr : RepS w ok Ω x v) :
  (∀ q, q ∈ qs → x.noO q = true) → RepS w' ok' Ω' x v := by
 have ht : ∀ {o : Nat} {v : Value}, (∀ q, q ∈ qs → (o != q) = true) → Ω[o]? = some v → Ω'[o]? = some v := fun {o v} ho e => hΩ o v (fun hm => by simpa using ho o hm) e
 induction hr with
 | any v => intro hx; exact .any v
 | d x v hd => intro hx; exact .d x v (hd.mono h)
 | ptr o off b ho => intro hx; exact .ptr o off b (ht hx ho)
 | ptrG o off b len cap ho => intro hx; exact .ptrG o off b len cap (ht hx ho)
 | sl o sz off len cap b ho => intro hx; exact .sl o sz off len cap b (ht hx ho)
 | own o v ho h1 => intro hx; exact .own o v (ht hx ho) h1
 | pre o k n cap a ho hk => intro hx; exact .pre o k n cap a (ht hx ho) hk
 | full sz cells a n hd => intro hx; exact .full sz cells a n (hd.mono h)
 | ep b off i cells vals hb hcell hr =>
  intro hx
  exact .ep b off i cells vals (h b hb).1 (fun j hj => by rw [cell_heap (h b hb).2]; exact hcell j hj) (fun j x hj => (hr j x hj).mono h)
 | ag cells vs hl _ ih => intro hx; exact .ag cells vs hl fun i x y hx' hy => ih i x y hx' hy fun q hq => SV.noOL_get (hx q hq) hx'
 | tu cells vs hl _ ih => intro hx; exact .tu cells vs hl fun i x y hx' hy => ih i x y hx' hy fun q hq => SV.noOL_get (hx q hq) hx'
 | ifc t x u _ ih => intro hx; exact .ifc t x u (ih hx)
 | fv fn first caps fs cs hf hc _ _ ih1 ih2 =>
  intro hx
  have hb2 : ∀ q, q ∈ qs → SV.noOL q first = true ∧ SV.noOL q caps = true := fun q hq => by simpa only [SV.noO, Bool.and_eq_true] using hx q hq
  exact .fv fn first caps fs cs hf hc (fun i x y hx' hy => ih1 i x y hx' hy fun q hq => SV.noOL_get (hb2 q hq).1 hx') (fun i x y hx' hy => ih2 i x y hx' hy fun q hq => SV.noOL_get (hb2 q hq).2 hx')
def hnd (hs : List Nat) (i : Nat) : Nat := hs.getD i 0
def getL {α : Type} (l : List α) (is : List Nat) : Option (List α) := mapO (fun i => l[i]?) is
theorem nodup_inj {α : Type} : ∀ {l : List α}, l.Nodup → ∀ {i j : Nat} (hi : i < l.length) (hj : j < l.length), l[i] = l[j] → i = j
 | [], _, i, _, hi, _, _ => by simp at hi
 | x :: r, h, i, j, hi, hj, e => by
  rw [List.nodup_cons] at h
  cases i with
  | zero =>
   cases j with
   | zero => rfl
   | succ j => simp at e; exact absurd (e ▸ List.getElem_mem _) h.1
  | succ i =>
   cases j with
   | zero => simp at e; exact absurd (e ▸ List.getElem_mem _) h.1
   | succ j => simp at e; rw [nodup_inj h.2 (by simpa using hi) (by simpa using hj) e]
/-- An object that can be handed. -/
def Ob.solid : Ob → Bool
 | .fix _ _ => true
 | .grow _ _ _ => true
 | _ => false
theorem Ob.solid_ren {ob : Ob} {ρ : Nat → Nat} (h : ob.solid = true) : (ob.ren ρ).live = true := by cases ob <;> first | rfl | cases h
theorem Ob.live_ren {ob : Ob} {ρ : Nat → Nat} (h : (ob.ren ρ).live = true) : ob.live = true := by cases ob <;> first | rfl | cases h
def mayOf (Ω : List Value) (hs : List Nat) : List Nat := hs.filterMap fun i => (Ω[i]?).bind blk
theorem mayOf_mem {Ω : List Value} {hs : List Nat} {b : Nat} (h : b ∈ mayOf Ω hs) : ∃ i v, i ∈ hs ∧ Ω[i]? = some v ∧ blk v = some b := by
 obtain ⟨i, hi, h2⟩ := List.mem_filterMap.1 h
 obtain ⟨v, hv, h3⟩ := Option.bind_eq_some_iff.1 h2
 exact ⟨i, v, hi, hv, h3⟩
theorem mayOf_of {Ω : List Value} {hs : List Nat} {b i : Nat} {v : Value} (h : i ∈ hs) (hv : Ω[i]? = some v) (hb : blk v = some b) : b ∈ mayOf Ω hs :=
 List.mem_filterMap.2 ⟨i, h, by rw [hv]; exact hb⟩
/-- What a call knows of the objects that it hands on. -/
structure Handed (obs : List Ob) (hs : List Nat) (pre : List Ob) : Prop where
 nd : hs.Nodup
 len : pre.length = hs.length
 at_ : ∀ (k i : Nat) ob, hs[k]? = some i → pre[k]? = some ob → obs[i]? = some (ob.ren (hnd hs))
 solid : ∀ (k : Nat) ob, pre[k]? = some ob → ob.solid = true
 und : ∀ (k : Nat) ob, pre[k]? = some ob → ob.under hs.length = true
theorem Handed.get {obs : List Ob} {hs : List Nat} {pre : List Ob} (H : Handed obs hs pre) {k : Nat} {ob : Ob} (h : pre[k]? = some ob) : ∃ i, hs[k]? = some i ∧ i ∈ hs ∧ obs[i]? = some (ob.ren (hnd hs)) := by
 have hlt := (List.getElem?_eq_some_iff.1 h).1
 have hk : k < hs.length := by rw [← H.len]; exact hlt
 exact ⟨hs[k], List.getElem?_eq_getElem hk, List.getElem_mem hk, H.at_ k _ ob (List.getElem?_eq_getElem hk) h⟩
theorem Handed.mem {obs : List Ob} {hs : List Nat} {pre : List Ob} (H : Handed obs hs pre) {i : Nat} (h : i ∈ hs) : ∃ (k : Nat) (ob : Ob), hs[k]? = some i ∧ pre[k]? = some ob ∧ obs[i]? = some (ob.ren (hnd hs)) ∧ ob.solid = true := by
 obtain ⟨k, hk⟩ := List.mem_iff_getElem?.1 h
 have hlt := (List.getElem?_eq_some_iff.1 hk).1
 have hp : pre[k]? = some (pre[k]'(by rw [H.len]; exact hlt)) := List.getElem?_eq_getElem _
 exact ⟨k, _, hk, hp, H.at_ k i _ hk hp, H.solid k _ hp⟩
theorem Handed.inj {obs : List Ob} {hs : List Nat} {pre : List Ob} (H : Handed obs hs pre) {k l i : Nat} (h : hs[k]? = some i) (h2 : hs[l]? = some i) : k = l := by
 obtain ⟨hk, e⟩ := List.getElem?_eq_some_iff.1 h
 obtain ⟨hl, e2⟩ := List.getElem?_eq_some_iff.1 h2
 exact nodup_inj H.nd hk hl (e.trans e2.symm)
section
variable {C : Ctx} {obs : List Ob} {Ω : List Value} {w : World} {hs : List Nat} {pre : List Ob}
def headsOf (Ω : List Value) (hs : List Nat) : List Value := hs.map fun i => Ω.getD i undef
theorem headsOf_get {obs : List Ob} (hlen : obs.length = Ω.length) (hb : ∀ i, i ∈ hs → i < obs.length) {k : Nat} {v : Value} : (headsOf Ω hs)[k]? = some v ↔ ∃ i, hs[k]? = some i ∧ Ω[i]? = some v := by
 unfold headsOf
 rw [List.getElem?_map]
 constructor
 ·intro h
  obtain ⟨i, hi, h2⟩ := Option.map_eq_some_iff.1 h
  have := hb i (List.mem_of_getElem? hi)
  refine ⟨i, hi, ?_⟩
  rw [List.getD_eq_getElem?_getD, List.getElem?_eq_getElem (by omega)] at h2
  rw [List.getElem?_eq_getElem (by omega), ← h2]; rfl
 ·rintro ⟨i, hi, h2⟩
  rw [hi, Option.map_some, List.getD_eq_getElem?_getD, h2]; rfl
theorem Handed.lt (H : Handed obs hs pre) {i : Nat} (h : i ∈ hs) : i < obs.length := by
 obtain ⟨k, ob, _, _, h3, _⟩ := H.mem h
 exact (List.getElem?_eq_some_iff.1 h3).1
/-- A block that may be written is one of the handed objects. -/
theorem Handed.may_new (H : Handed obs hs pre) (hm : Mem C obs Ω w) {b : Nat} (h : b ∈ mayOf Ω hs) : (C.W.heap.size ≤ b ∨ b ∈ C.may) ∧ b < w.heap.size := by
 obtain ⟨i, v, hi, hv, hb⟩ := mayOf_mem h
 obtain ⟨k, ob, _, _, h3, h4⟩ := H.mem hi
 exact ⟨hm.new i _ v b h3 (Ob.solid_ren h4) hv hb, (hm.obj i _ v h3 hv).lt (Ob.solid_ren h4) hb⟩
theorem Handed.may_ok (H : Handed obs hs pre) (hm : Mem C obs Ω w) {b : Nat} (h : okB C obs Ω w b) : b ∉ mayOf Ω hs := fun hb => by
 obtain ⟨i, v, hi, hv, hb⟩ := mayOf_mem hb
 obtain ⟨k, ob, _, _, h3, h4⟩ := H.mem hi
 exact h.2.2 i _ v h3 (Ob.solid_ren h4) hv hb
theorem Handed.may_other (H : Handed obs hs pre) (hm : Mem C obs Ω w) {i b : Nat} {ob : Ob} {v : Value} (hi : i ∉ hs) (ho : obs[i]? = some ob) (hl : ob.live = true) (hv : Ω[i]? = some v) (hb : blk v = some b) : b ∉ mayOf Ω hs := fun hb2 => by
 obtain ⟨j, u, hj, hu, hb2⟩ := mayOf_mem hb2
 obtain ⟨k, ob2, _, _, h3, h4⟩ := H.mem hj
 exact hm.sep i j ob _ v u b (fun e => hi (e ▸ hj)) ho h3 hl (Ob.solid_ren h4) hv hu hb hb2
theorem Handed.enter (H : Handed obs hs pre) (hm : Mem C obs Ω w) : Mem (hctx C.P w (okB C obs Ω w) (mayOf Ω hs) 0) pre (headsOf Ω hs) w ∧ ∀ b, okB C obs Ω w b → okB (hctx C.P w (okB C obs Ω w) (mayOf Ω hs) 0) pre (headsOf Ω hs) w b := by
 have hg : ∀ {k : Nat} {v : Value}, (headsOf Ω hs)[k]? = some v ↔ ∃ i, hs[k]? = some i ∧ Ω[i]? = some v := headsOf_get hm.len fun i hi => H.lt hi
 have hok : ∀ b, okB C obs Ω w b → okB (hctx C.P w (okB C obs Ω w) (mayOf Ω hs) 0) pre (headsOf Ω hs) w b := fun b hb => ⟨.inl hb, hb.2.1, fun k ob v e1 l e2 => by
  obtain ⟨i, hi, hv⟩ := hg.1 e2
  exact hb.2.2 i _ v (H.at_ k i ob hi e1) (Ob.solid_ren (H.solid k ob e1)) hv⟩
 have hΩ : ∀ i v, i < hs.length → Ω[hnd hs i]? = some v → (headsOf Ω hs)[i]? = some v := fun i v hi hv => by
  refine hg.2 ⟨hs[i], List.getElem?_eq_getElem hi, ?_⟩
  unfold hnd at hv
  rw [List.getD_eq_getElem?_getD, List.getElem?_eq_getElem hi] at hv
  exact hv
 refine ⟨⟨by simp [headsOf, H.len], fun k ob v e1 e2 => ?_, fun i j a b p q x hij e1 e2 l1 l2 e3 e4 hp hq => ?_, fun k ob v b e1 l e2 hb => ?_, ?_⟩, hok⟩
 ·obtain ⟨i, hi, hv⟩ := hg.1 e2
  have hO := hm.obj i _ v (H.at_ k i ob hi e1) hv
  have hu := H.und k ob e1
  cases ob with
  | fix ty c =>
   obtain ⟨b, vs, rfl, hw, hl, hr, h1⟩ := hO
   refine ⟨b, vs, rfl, hw, by rw [hl, List.length_map], fun j x y hx hy => ?_, h1⟩
   exact (hr j (x.ren (hnd hs)) y (by rw [List.getElem?_map, hx]; rfl) hy).renIn hok hΩ rfl (List.all_eq_true.1 (show c.all (SV.under hs.length) = true from hu) x (List.mem_of_getElem? hx))
  | grow ty sz c =>
   obtain ⟨n, xs, ho, hl, hr⟩ := hO
   exact ⟨n, xs, ho, hl, fun j x y hx hy => (hr j x y hx hy).mono fun b hb => ⟨hok b hb, rfl⟩⟩
  | dead => trivial
  | frame a b => have := H.solid k _ e1; cases this
 ·obtain ⟨i', hi', hv⟩ := hg.1 e3
  obtain ⟨j', hj', hv2⟩ := hg.1 e4
  exact hm.sep i' j' _ _ p q x (fun e => hij (H.inj hi' (by rw [e]; exact hj'))) (H.at_ i i' a hi' e1) (H.at_ j j' b hj' e2) (Ob.solid_ren (H.solid i a e1)) (Ob.solid_ren (H.solid j b e2)) hv hv2 hp hq
 ·obtain ⟨i, hi, hv⟩ := hg.1 e2
  exact .inr (mayOf_of (List.mem_of_getElem? hi) hv hb)
 ·refine ⟨rfl, rfl, rfl, Nat.le_refl _, fun _ _ _ => rfl, hm.fr.holds rfl, fun b hb hgl => ?_⟩
  obtain ⟨h1, _⟩ := H.may_new hm hb
  rcases h1 with h1 | h1
  ·rcases hgl with ⟨p, hp, rfl⟩ | hp | hp
   ·have := (hm.fr.glob.1 p hp).1; omega
   ·have := (hm.fr.glob.2.1 b hp).1; omega
   ·have := (hm.fr.glob.2.2 b hp).1; omega
  ·exact hm.fr.gmay b h1 hgl
/-- Behind the call. -/
theorem Handed.leave (H : Handed obs hs pre) {e : List (Nat × SV)} {a : Act} (hr : Rel C ⟨e, obs⟩ Ω a w) {post post' : List Ob} {Ω' : List Value} {w' : World} {pins unp : List Nat} (hlen : post.length = pre.length) (hpp : RenO (hnd hs) post post')
  (hm' : Mem (hctx C.P w (okB C obs Ω w) (mayOf Ω hs) 0) post Ω' w') (hpins : ∀ i, i ∈ pins → Ω'[i]? = (headsOf Ω hs)[i]?) (hunp : ∀ (k i : Nat), hs[k]? = some i → k ∈ pins ∨ i ∈ unp) (hno : ∀ i ob, i ∉ hs → obs[i]? = some ob → ∀ q, q ∈ unp → ob.noO q = true) :
  Rel C ⟨dropL unp e, setL obs hs post'⟩ (setL Ω hs Ω') a w' ∧ ∀ {r : SV} {v : Value}, RepS w' (okB (hctx C.P w (okB C obs Ω w) (mayOf Ω hs) 0) post Ω' w') Ω' r v → RepS w' (okB C (setL obs hs post') (setL Ω hs Ω') w') (setL Ω hs Ω') (r.ren (hnd hs)) v := by
 have hm := hr.mem
 have hpe := hpp.eq
 subst hpe
 have hol : obs.length = Ω.length := hm.len
 have hl1 : hs.length = (post.map (Ob.ren (hnd hs))).length := by rw [List.length_map, hlen, H.len]
 have hl2 : hs.length = Ω'.length := by rw [← hm'.len, hlen, H.len]
 have hb1 : ∀ i, i ∈ hs → i < obs.length := fun i hi => H.lt hi
 have hb2 : ∀ i, i ∈ hs → i < Ω.length := fun i hi => by rw [← hol]; exact H.lt hi
 have e1 : ∀ {j : Nat} {y : Ob}, (setL obs hs (post.map (Ob.ren (hnd hs))))[j]? = some y → (∃ (k : Nat) (ob : Ob), hs[k]? = some j ∧ post[k]? = some ob ∧ y = ob.ren (hnd hs)) ∨ (j ∉ hs ∧ obs[j]? = some y) := fun {j y} h => by
  rcases setL_elim H.nd hl1 hb1 h with ⟨k, h1, h2⟩ | h
  ·rw [List.getElem?_map] at h2
   obtain ⟨ob, h3, h4⟩ := Option.map_eq_some_iff.1 h2
   exact .inl ⟨k, ob, h1, h3, h4.symm⟩
  ·exact .inr h
 have e2 : ∀ {j : Nat} {y : Value}, (setL Ω hs Ω')[j]? = some y → (∃ (k : Nat), hs[k]? = some j ∧ Ω'[k]? = some y) ∨ (j ∉ hs ∧ Ω[j]? = some y) := fun h => setL_elim H.nd hl2 hb2 h
 have hk2 : ∀ {j k : Nat} {y : Value}, hs[k]? = some j → (setL Ω hs Ω')[j]? = some y → Ω'[k]? = some y := fun {j k y} h1 h2 => by rw [← setL_at Ω hs Ω' H.nd hl2 hb2 h1]; exact h2
 have hn2 : ∀ {j : Nat} {y : Value}, j ∉ hs → (setL Ω hs Ω')[j]? = some y → Ω[j]? = some y := fun {j y} h1 h2 => by rw [← setL_other Ω hs Ω' h1]; exact h2
 have hsz : w.heap.size ≤ w'.heap.size := hm'.fr.size
 -- what is readable inside is readable outside
 have ok1 : ∀ b, okB (hctx C.P w (okB C obs Ω w) (mayOf Ω hs) 0) post Ω' w' b → okB C (setL obs hs (post.map (Ob.ren (hnd hs)))) (setL Ω hs Ω') w' b := fun b hb => by
  refine ⟨?_, hb.2.1, fun j ob v f1 l f2 hbk => ?_⟩
  ·rcases hb.1 with h1 | h1 | h1
   ·exact h1.1
   ·exact .inr (.inl (Nat.le_trans hm.fr.size h1))
   ·exact (H.may_new hm h1).1.elim (fun h => .inr (.inl h)) (fun h => .inr (.inr h))
  ·rcases e1 f1 with ⟨k, ob', g1, g2, rfl⟩ | ⟨g1, g2⟩
   ·exact hb.2.2 k ob' v g2 (Ob.live_ren l) (hk2 g1 f2) hbk
   ·have hv := hn2 g1 f2
    have hlt := (hm.obj j ob v g2 hv).lt l hbk
    rcases hb.1 with h1 | h1 | h1
    ·exact h1.2.2 j ob v g2 l hv hbk
    ·have h1 : w.heap.size ≤ b := h1
     omega
    ·exact H.may_other hm g1 g2 l hv hbk h1
 have ok0 : ∀ b, okB C obs Ω w b → okB (hctx C.P w (okB C obs Ω w) (mayOf Ω hs) 0) post Ω' w' b ∧ w'.heap[b]? = w.heap[b]? := fun b hb => by
  have hnm := H.may_ok hm hb
  refine ⟨⟨.inl hb, Nat.lt_of_lt_of_le hb.2.1 hsz, fun k ob v f1 l f2 hbk => ?_⟩, hm'.fr.block b hb.2.1 hnm⟩
  rcases hm'.new k ob v b f1 l f2 hbk with h1 | h1
  ·have h1 : w.heap.size ≤ b := h1
   have := hb.2.1
   omega
  ·exact hnm h1
 have ok2 : ∀ b, okB C obs Ω w b → okB C (setL obs hs (post.map (Ob.ren (hnd hs)))) (setL Ω hs Ω') w' b ∧ w'.heap[b]? = w.heap[b]? := fun b hb => ⟨ok1 b (ok0 b hb).1, (ok0 b hb).2⟩
 have hΩ1 : ∀ i v, Ω'[i]? = some v → (setL Ω hs Ω')[hnd hs i]? = some v := fun i v h => by
  have hlt := (List.getElem?_eq_some_iff.1 h).1
  have hi : i < hs.length := by omega
  have h2 : hs[i]? = some hs[i] := List.getElem?_eq_getElem hi
  have e : hnd hs i = hs[i] := by unfold hnd; rw [List.getD_eq_getElem?_getD, h2]; rfl
  rw [e, setL_at Ω hs Ω' H.nd hl2 hb2 h2]
  exact h
 have hΩ2 : ∀ i v, i ∉ unp → Ω[i]? = some v → (setL Ω hs Ω')[i]? = some v := fun i v hi hv => by
  by_cases hm2 : i ∈ hs
  ·obtain ⟨k, hk⟩ := List.mem_iff_getElem?.1 hm2
   rw [setL_at Ω hs Ω' H.nd hl2 hb2 hk]
   rcases hunp k i hk with h | h
   ·rw [hpins k h]
    exact (headsOf_get hol hb1).2 ⟨i, hk, hv⟩
   ·exact absurd h hi
  ·rw [setL_other Ω hs Ω' hm2]; exact hv
 refine ⟨⟨hr.defers, hr.size, fun t x hx => ?_, ⟨by rw [setL_len, setL_len]; exact hol, fun j ob v f1 f2 => ?_, fun i j x y p q b hij f1 f2 l1 l2 f3 f4 hp hq => ?_, fun j ob v b f1 l f2 hb => ?_, ?_⟩⟩, fun h => h.renOut ok1 hΩ1⟩
 ·obtain ⟨hx1, hx2⟩ := dropL_get hx
  obtain ⟨v, hv, hrep⟩ := hr.env t x hx1
  exact ⟨v, hv, hrep.noL ok2 hΩ2 hx2⟩
 ·rcases e1 f1 with ⟨k, ob', g1, g2, rfl⟩ | ⟨g1, g2⟩
  ·have hO := hm'.obj k ob' v g2 (hk2 g1 f2)
   cases ob' with
   | dead => trivial
   | frame a b => trivial
   | grow ty sz c =>
    obtain ⟨n, xs, ho, hl, hrr⟩ := hO
    exact ⟨n, xs, ho, hl, fun j x y hx hy => (hrr j x y hx hy).mono fun b hb => ⟨ok1 b hb, rfl⟩⟩
   | fix ty c =>
    obtain ⟨b, vs, rfl, hw, hl, hrr, h1⟩ := hO
    refine ⟨b, vs, rfl, hw, by rw [hl, List.length_map], fun j x y hx hy => ?_, h1⟩
    rw [List.getElem?_map] at hx
    obtain ⟨z, hz, rfl⟩ := Option.map_eq_some_iff.1 hx
    exact (hrr j z y hz hy).renOut ok1 hΩ1
  ·have hv := hn2 g1 f2
   have hO := hm.obj j ob v g2 hv
   have hn := hno j ob g1 g2
   have hblk : ∀ b, blk v = some b → ob.live = true → w'.heap[b]? = w.heap[b]? := fun b hb l => hm'.fr.block b (hO.lt l hb) (H.may_other hm g1 g2 l hv hb)
   cases ob with
   | dead => trivial
   | frame vs env => exact ⟨hO.1, fun t x hx => let ⟨u, hu, hrr⟩ := hO.2 t x hx; ⟨u, hu, hrr.noL ok2 hΩ2 fun q hq => List.all_eq_true.1 (show env.all (fun q' => q'.2.noO q) = true from hn q hq) (t, x) (get_mem hx)⟩⟩
   | grow ty sz c =>
    obtain ⟨n, xs, ho, hl, hrr⟩ := hO
    refine ⟨n, xs, ⟨ho.1, ?_⟩, hl, fun j x y hx hy => (hrr j x y hx hy).mono ok2⟩
    rcases ho.2 with hn | ⟨g, cap, cur, rfl, h0, hg, rest⟩
    ·exact .inl hn
    ·exact .inr ⟨g, cap, cur, rfl, h0, (hblk g rfl rfl).trans hg, rest⟩
   | fix ty c =>
    obtain ⟨b, vs, rfl, hw, hl, hrr, h1⟩ := hO
    exact ⟨b, vs, rfl, (hblk b rfl rfl).trans hw, hl, fun j x y hx hy => (hrr j x y hx hy).noL ok2 hΩ2 fun q hq => List.all_eq_true.1 (show c.all (SV.noO q) = true from hn q hq) x (List.mem_of_getElem? hx), h1⟩
 ·have mix : ∀ {k i j : Nat} {ob' : Ob} {y : Ob} {p q : Value}, hs[k]? = some i → post[k]? = some ob' → (ob'.ren (hnd hs)).live = true → j ∉ hs → obs[j]? = some y → y.live = true → Ω'[k]? = some p → Ω[j]? = some q → blk p = some b → blk q ≠ some b := fun {k i j ob' y p q} h1 h2 h3 h4 h5 h6 h7 h8 h9 h10 => by
   have hlt := (hm.obj j y q h5 h8).lt h6 h10
   rcases hm'.new k ob' p b h2 (Ob.live_ren h3) h7 h9 with h | h
   ·have h : w.heap.size ≤ b := h
    omega
   ·exact H.may_other hm h4 h5 h6 h8 h10 h
  rcases e1 f1 with ⟨k, ob', g1, g2, rfl⟩ | ⟨g1, g2⟩ <;> rcases e1 f2 with ⟨k2, ob2, g3, g4, rfl⟩ | ⟨g3, g4⟩
  ·exact hm'.sep k k2 ob' ob2 p q b (fun e => hij (by rw [e, g3] at g1; exact (Option.some.inj g1).symm)) g2 g4 (Ob.live_ren l1) (Ob.live_ren l2) (hk2 g1 f3) (hk2 g3 f4) hp hq
  ·exact mix g1 g2 l1 g3 g4 l2 (hk2 g1 f3) (hn2 g3 f4) hp hq
  ·exact mix g3 g4 l2 g1 g2 l1 (hk2 g3 f4) (hn2 g1 f3) hq hp
  ·exact hm.sep i j x y p q b hij g2 g4 l1 l2 (hn2 g1 f3) (hn2 g3 f4) hp hq
 ·rcases e1 f1 with ⟨k, ob', g1, g2, rfl⟩ | ⟨g1, g2⟩
  ·rcases hm'.new k ob' v b g2 (Ob.live_ren l) (hk2 g1 f2) hb with h | h
   ·exact .inl (Nat.le_trans hm.fr.size h)
   ·exact (H.may_new hm h).1
  ·exact hm.new j ob v b g2 l (hn2 g1 f2) hb
 ·refine ⟨hm'.fr.os.trans hm.fr.os, hm'.fr.tape.trans hm.fr.tape, hm'.fr.output.trans hm.fr.output, Nat.le_trans hm.fr.size hsz, fun b h1 h2 => ?_, hm.fr.glob, hm.fr.gmay⟩
  rw [← hm.fr.block b h1 h2]
  refine hm'.fr.block b (Nat.lt_of_lt_of_le h1 hm.fr.size) fun h3 => ?_
  rcases (H.may_new hm h3).1 with h | h
  ·omega
  ·exact h2 h
end
def nodupB : List Nat → Bool
 | [] => true
 | x :: r => !r.contains x && nodupB r
theorem nodupB_spec : ∀ {l : List Nat}, nodupB l = true → l.Nodup
 | [], _ => List.nodup_nil
 | x :: r, h => by
  simp only [nodupB, Bool.and_eq_true, Bool.not_eq_true', List.contains_eq_mem, decide_eq_false_iff_not] at h
  exact List.nodup_cons.2 ⟨h.1, nodupB_spec h.2⟩
/-- None of the other objects leads to those whose head turns. -/
inductive NoOs (hs unp : List Nat) : Nat → List Ob → Prop
 | nil {i : Nat} : NoOs hs unp i []
 | cons {i : Nat} {ob : Ob} {r : List Ob} (h : hs.contains i = true ∨ unp.all (fun q => ob.noO q) = true) (t : NoOs hs unp (i + 1) r) : NoOs hs unp i (ob :: r)
theorem NoOs.get {hs unp : List Nat} : ∀ {i : Nat} {l : List Ob}, NoOs hs unp i l → ∀ {j : Nat} {ob : Ob}, l[j]? = some ob → i + j ∉ hs → ∀ q, q ∈ unp → ob.noO q = true
 | i, _, .nil, j, ob, h => by simp at h
 | i, _, .cons h t, j, ob, hj => by
  cases j with
  | zero =>
   simp at hj; subst hj
   intro hn q hq
   rcases h with h | h
   ·exact absurd (by simpa using h) hn
   ·exact List.all_eq_true.1 h q hq
  | succ j =>
   intro hn q hq
   exact t.get (by simpa using hj) (by rw [show i + 1 + j = i + (j + 1) by omega]; exact hn) q hq
theorem noOs_nil (hs : List Nat) : ∀ (i : Nat) (l : List Ob), NoOs hs [] i l
 | i, [] => .nil
 | i, ob :: r => .cons (.inr rfl) (noOs_nil hs (i + 1) r)
inductive Unders (k : Nat) : List Ob → Prop
 | nil : Unders k []
 | cons {ob : Ob} {r : List Ob} (h : ob.solid = true ∧ ob.under k = true) (t : Unders k r) : Unders k (ob :: r)
theorem Unders.get {k : Nat} : ∀ {l : List Ob}, Unders k l → ∀ {j : Nat} {ob : Ob}, l[j]? = some ob → ob.solid = true ∧ ob.under k = true
 | _, .nil, j, ob, h => by simp at h
 | _, .cons h t, j, ob, hj => by
  cases j with
  | zero => simp at hj; subst hj; exact h
  | succ j => exact t.get (by simpa using hj)
theorem under_fixl {α : Type} {k ty : Nat} {f : α → SV} {l : List α} (hf : ∀ z, (f z).under k = true) : (Ob.fix ty (l.map f)).under k = true := by
 simp only [Ob.under, List.all_eq_true]
 intro x hx
 obtain ⟨z, _, rfl⟩ := List.mem_map.1 hx
 exact hf z
theorem unders_fixl {α : Type} {k ty : Nat} {f : α → SV} {l : List α} (hf : ∀ z, (f z).under k = true) : (Ob.fix ty (l.map f)).solid = true ∧ (Ob.fix ty (l.map f)).under k = true := ⟨rfl, under_fixl hf⟩
theorem under_all {k : Nat} : ∀ {l : List Ob}, Unders k l → l.all (Ob.under k) = true
 | _, .nil => rfl
 | _, .cons h t => by rw [List.all_cons, h.2, under_all t]; rfl
inductive SVH : List SV → List SV → Prop
 | nil : SVH [] []
 | cons {x y : SV} {xs ys : List SV} (h : SVLe x y) (t : SVH xs ys) : SVH (x :: xs) (y :: ys)
theorem SVH.get {xs ys : List SV} (h : SVH xs ys) : xs.length = ys.length ∧ ∀ {i : Nat} {y : SV}, ys[i]? = some y → ∃ x, xs[i]? = some x ∧ SVLe x y := by
 induction h with
 | nil => exact ⟨rfl, fun h => by simp at h⟩
 | cons h t ih =>
  refine ⟨by simp [ih.1], fun {i y} h1 => ?_⟩
  cases i with
  | zero => simp at h1; subst h1; exact ⟨_, rfl, h⟩
  | succ i => simp at h1; simpa using ih.2 h1
theorem SVLe.ifcIn {x y : SV} (t : TypeId) (h : SVLe x y) : SVLe (.ifc t x) (.ifc t y) := fun w ok Ω v hr => by
 cases hr with
 | ifc _ _ u hu => exact .ifc t _ u (h _ _ _ _ hu)
section
variable {C : Ctx} {Q : Exit → St → Prop} {ops : Array Oper} {rest : List Oper} {o : Oper} {e : List (Nat × SV)} {obs : List Ob} {d : Nat}
/-- A call that hands on objects of the call's own (hs: which; unp: those whose head may turn). -/
theorem AOp.callH {f : FuncId} {ys xs : List SV} {hs pins unp : List Nat} {pre pre' : List Ob} {R : SV → List Ob → Prop} {e' : List (Nat × SV)} (hE : EntersS C o ⟨e, obs⟩ f xs) (hF : FnH C.P f ys pre pins R) (hdn : match o.dst with | some d => d < C.n | none => True)
  (hys : SVH xs (SV.renL (hnd hs) ys)) (hyu : SV.underL hs.length ys = true) (hnd' : nodupB hs = true) (hgl : getL obs hs = some pre') (hro : RenO (hnd hs) pre pre') (hun : Unders hs.length pre) (hup : (List.range hs.length).all (fun k => pins.contains k || unp.contains (hnd hs k)) = true)
  (hno : NoOs hs unp 0 obs) (he : dropL unp e = e') (h : ∀ r post, R r post → ∃ r' post', r.ren (hnd hs) = r' ∧ RenO (hnd hs) post post' ∧ AO C ops rest ⟨putO o.dst r' e', setL obs hs post'⟩ Q) : AOp C ops rest o ⟨e, obs⟩ Q := fun Ω a w hr => by
 subst he
 have hpe := hro.eq
 subst hpe
 obtain ⟨hgl1, hgl2⟩ := mapO_get hgl
 rw [List.length_map] at hgl1
 have H : Handed obs hs pre := ⟨nodupB_spec hnd', hgl1, fun k i ob h1 h2 => hgl2 k i _ h1 (by rw [List.getElem?_map, h2]; rfl), fun k ob h => (hun.get h).1, fun k ob h => (hun.get h).2⟩
 obtain ⟨vs, hrun, hvl, hv⟩ := hE Ω a w hr
 obtain ⟨hm, hok⟩ := H.enter hr.mem
 have hΩ : ∀ i v, i < hs.length → Ω[hnd hs i]? = some v → (headsOf Ω hs)[i]? = some v := fun i v hi hv => by
  refine (headsOf_get hr.mem.len fun i hi => H.lt hi).2 ⟨hs[i], List.getElem?_eq_getElem hi, ?_⟩
  unfold hnd at hv
  rw [List.getD_eq_getElem?_getD, List.getElem?_eq_getElem hi] at hv
  exact hv
 obtain ⟨hyl, hyg⟩ := hys.get
 rw [SV.renL_eq] at hyl
 unfold Oper.wp
 rw [hrun, Oper.upon_enter]
 refine (hF.2 w (okB C obs Ω w) (mayOf Ω hs) (headsOf Ω hs) vs hm (fun b hb => hb.2.1) (by rw [hvl, hyl, List.length_map]) fun i y v hy hvi => ?_).mono fun ed w' ⟨v, r, post, Ω', hed, hR, hpl, hru, hpu, hm', hrep, hpin⟩ => ?_
 ·obtain ⟨x, hx, hle⟩ := hyg (i := i) (y := y.ren (hnd hs)) (by rw [SV.renL_eq, List.getElem?_map, hy]; rfl)
  exact (hle _ _ _ _ (hv i x v hx hvi)).renIn hok hΩ rfl (SV.underL_get hyu hy)
 ·subst hed
  obtain ⟨r', post', rfl, hpp, hA⟩ := h r post hR
  obtain ⟨hrel, hres⟩ := H.leave hr hpl hpp hm' hpin (fun k i hk => by
   have hlt := (List.getElem?_eq_some_iff.1 hk).1
   have := List.all_eq_true.1 hup k (List.mem_range.2 hlt)
   have e : hnd hs k = i := by unfold hnd; rw [List.getD_eq_getElem?_getD, hk]; rfl
   rw [e] at this
   simpa [Bool.or_eq_true] using this) (fun i ob h1 h2 q hq => hno.get h2 (by simpa using h1) q hq)
  cases hd : o.dst with
  | none =>
   rw [hd] at hA
   exact hA _ _ w' hrel
  | some d =>
   rw [hd] at hA hdn
   exact hA _ _ w' (hrel.put hdn (hres hrep))
end
theorem selL {α β γ : Type} {f : α → γ} {g : β → γ} {x : α} {r : γ} (h : Sum.elim f g (.inl x) = r) : f x = r := h
theorem selR {α β γ : Type} {f : α → γ} {g : β → γ} {x : β} {r : γ} (h : Sum.elim f g (.inr x) = r) : g x = r := h
theorem Rel.errAny {C : Ctx} {e : List (Nat × SV)} {obs : List Ob} {Ω : List Value} {a : Act} {w : World} (hr : Rel C ⟨e, obs⟩ Ω a w) {t g : Nat} (hx : get e t = some (.d (.v (errV C.W g)))) (hg : g ∈ GlobsP) : ∃ u, Rel C ⟨(t, .ifc u .any) :: e, obs⟩ Ω a w := by
 obtain ⟨hlt, u, b, hv, hc0, _⟩ := errV_p hr.mem.fr.glob hg
 refine ⟨u, hr.defers, hr.size, fun q z hq => ?_, hr.mem⟩
 simp only [get] at hq
 split at hq
 ·rename_i h; subst h; cases hq
  obtain ⟨v, h1, h2⟩ := hr.env t _ hx
  refine ⟨v, h1, ?_⟩
  have := h2.val
  rw [this, hv]
  exact .ifc u _ _ (.any _)
 ·exact hr.env q z hq
theorem AC.errAny {C : Ctx} {Q : Exit → St → Prop} {e : List (Nat × SV)} {obs : List Ob} {c : Code} (t : Nat) {g : Nat} (hx : get e t = some (.d (.v (errV C.W g)))) (hg : g ∈ GlobsP) (h : ∀ u, AC C c ⟨(t, .ifc u .any) :: e, obs⟩ Q) : AC C c ⟨e, obs⟩ Q := fun Ω a w hr => by
 obtain ⟨u, hr'⟩ := hr.errAny hx hg
 exact h u Ω a w hr'
end Go.Vm

/- The numbers of bytes.Buffer's methods and types in this program, as the library's contracts ask for them. -/
namespace Go.Proofs.YtjhdpnjlphpboaaDoor.Wk
open Go Go.Vm Go.Proofs Go.Shelf Go.RowKit
set_option maxRecDepth 100000
def bufRen : Ren := ⟨fun n => if n = 180 then 74 else if n = 181 then 23 else if n = 184 then 72 else if n = 251 then 76 else if n = 252 then 77 else if n = 290 then 78 else if n = 324 then 79 else 0, fun n => if n = 0 then 0 else if n = 3 then 3 else if n = 4 then 4 else if n = 5 then 5 else if n = 9 then 9 else if n = 20 then 20 else if n = 37 then 22 else if n = 75 then 57 else if n = 80 then 122 else if n = 91 then 69 else if n = 93 then 71 else if n = 130 then 54 else if n = 131 then 109 else 0, fun n => if n = 14 then 7 else 0⟩
theorem bufL0 : Lays.n180 Tryd.prog bufRen where
 mixed := by kernel_rfl
 f180 := Tryd.func74
 f181 := Tryd.func23
 f184 := Tryd.func72
 f251 := Tryd.func76
 f252 := Tryd.func77
 f290 := Tryd.func78
 f324 := Tryd.func79
 t0 := Tryd.underlying0
 a0 := Tryd.isAgg0
 z0 := Tryd.sizeOf0
 v0 := Tryd.zeroValue0
 t3 := Tryd.underlying3
 a3 := Tryd.isAgg3
 z3 := Tryd.sizeOf3
 v3 := Tryd.zeroValue3
 t4 := Tryd.underlying4
 a4 := Tryd.isAgg4
 z4 := Tryd.sizeOf4
 v4 := Tryd.zeroValue4
 t20 := Tryd.underlying20
 a20 := Tryd.isAgg20
 z20 := Tryd.sizeOf20
 v20 := Tryd.zeroValue20
 t37 := Tryd.underlying22
 a37 := Tryd.isAgg22
 z37 := Tryd.sizeOf22
 v37 := Tryd.zeroValue22
 t75 := Tryd.underlying57
 a75 := Tryd.isAgg57
 z75 := Tryd.sizeOf57
 v75 := Tryd.zeroValue57
 t91 := Tryd.underlying69
 a91 := Tryd.isAgg69
 z91 := Tryd.sizeOf69
 v91 := Tryd.zeroValue69
 t93 := Tryd.underlying71
 a93 := Tryd.isAgg71
 z93 := Tryd.sizeOf71
 v93 := Tryd.zeroValue71
 t130 := Tryd.underlying54
 a130 := Tryd.isAgg54
 z130 := Tryd.sizeOf54
 v130 := Tryd.zeroValue54
 t131 := Tryd.underlying109
 a131 := Tryd.isAgg109
 z131 := Tryd.sizeOf109
 v131 := Tryd.zeroValue109
 g14 := by kernel_rfl
theorem bufL : LaysM.n180 Tryd.prog bufRen where
 ton180 := bufL0
 t5 := Tryd.underlying5
 a5 := Tryd.isAgg5
 z5 := Tryd.sizeOf5
 v5 := Tryd.zeroValue5
 t9 := Tryd.underlying9
 a9 := Tryd.isAgg9
 z9 := Tryd.sizeOf9
 v9 := Tryd.zeroValue9
 t80 := Tryd.underlying122
 a80 := Tryd.isAgg122
 z80 := Tryd.sizeOf122
 v80 := Tryd.zeroValue122
 i0 := by kernel_rfl
 i3 := by kernel_rfl
 i4 := by kernel_rfl
 i5 := by kernel_rfl
 i9 := by kernel_rfl
 i20 := by kernel_rfl
 i37 := by kernel_rfl
 i75 := by kernel_rfl
 i80 := by kernel_rfl
 i91 := by kernel_rfl
 i93 := by kernel_rfl
 i130 := by kernel_rfl
 i131 := by kernel_rfl
 m14 := by kernel_rfl
theorem bufW : BufWr Tryd.prog 74 71 5 := ⟨by kernel_rfl, fun b v lr bs cs ao n c w h1 h2 h3 h4 h5 h6 h7 h8 => write_k bufL b v lr bs cs ao n c w h1 h2 h3 h4 h5 h6 h7 h8⟩
end Go.Proofs.YtjhdpnjlphpboaaDoor.Wk
