/- The framework by which a function is walked through: what this claim needs of it. -/
import Derived.Test.YtdchenbdnalbcaaGreatDoorLibA
/- Printed functions: how what they say is taken apart beside a walk; further rules of the view. -/
set_option linter.unusedVariables false
set_option linter.unusedSimpArgs false
namespace Go.Vm

/-- k, where p holds. -/
def need {α : Type} (p : Prop) [Decidable p] (k : Option α) : Option α := if p then k else none
theorem need_elim {α : Type} {p : Prop} [Decidable p] {k : Option α} {r : α} (h : need p k = some r) : p ∧ k = some r := by
 unfold need at h; split at h
 ·exact ⟨by assumption, h⟩
 ·cases h
theorem need_pos {α : Type} {p : Prop} [Decidable p] (h : p) (k : Option α) : need p k = k := by unfold need; rw [if_pos h]
theorem bind_elim {α β : Type} {o : Option α} {k : α → Option β} {r : β} (h : o.bind k = some r) : ∃ y, o = some y ∧ k y = some r := by
 cases o with
 | none => cases h
 | some y => exact ⟨y, rfl, h⟩
theorem cT {α : Type} {b : Bool} {x y : α} {r : α} (h : cond b x y = r) (hb : b = true) : x = r := by subst hb; exact h
theorem cF {α : Type} {b : Bool} {x y : α} {r : α} (h : cond b x y = r) (hb : b = false) : y = r := by subst hb; exact h
/-- A loop with fuel. -/
def iter {V T : Type} (b : (V → Option T) → V → Option T) : Nat → V → Option T
 | 0, _ => none
 | n + 1, v => b (iter b n) v
/-- Behind a loop: what follows a break, or a result at once. -/
def aft {V R T : Type} (o : Sum V R) (ret : R → Option T) (k : V → Option T) : Option T := match o with
 | .inl v => k v
 | .inr r => ret r
/-- an element, where there is one -/
def idx {α : Type} (l : List α) (i : Int) : Option α := if 0 ≤ i then l[i.toNat]? else none
theorem idx_elim {α β : Type} {l : List α} {i : Int} {k : α → Option β} {r : β} (h : (idx l i).bind k = some r) : ∃ y, (0 ≤ i ∧ l[i.toNat]? = some y) ∧ k y = some r := by
 obtain ⟨y, h1, h2⟩ := bind_elim h
 unfold idx at h1; split at h1
 ·exact ⟨y, ⟨by assumption, h1⟩, h2⟩
 ·cases h1
theorem idx_some {α : Type} {l : List α} {i : Int} {n : Nat} {y : α} (h : l[n]? = some y) (hi : i = n) : idx l i = some y := by
 subst hi; unfold idx; rw [if_pos (by omega)]; simpa using h
def inI (k : IntKind) (z : Int) : Prop := lo k ≤ z ∧ z ≤ hi k
instance (k : IntKind) (z : Int) : Decidable (inI k z) := by unfold inI; exact inferInstance

/-! ### Lists of cells -/
theorem len1 {α : Type} (f : α → D) (l : List α) : (l.map f).length = l.length * 1 := by simp
theorem lt1 {α : Type} {f : α → D} {l : List α} {i : Nat} {y : α} (h : l[i]? = some y) : i * 1 < (l.map f).length := by
 have := (List.getElem?_eq_some_iff.1 h).1; simp; exact this
theorem at1 {α : Type} {f : α → D} {l : List α} {i : Nat} {y : α} (h : l[i]? = some y) : (l.map f)[i * 1]? = some (f y) := by simp [h]
theorem lenN {α : Type} (f : α → List D) (sz : Nat) (hf : ∀ x, (f x).length = sz) (l : List α) : (l.flatMap f).length = l.length * sz := by
 induction l with
 | nil => simp
 | cons a l ih => simp [ih, hf, Nat.add_mul]; omega
theorem splitN {α : Type} (f : α → List D) (sz : Nat) (hf : ∀ x, (f x).length = sz) : ∀ (l : List α) (i : Nat), (l.flatMap f).drop (i * sz) = (l.drop i).flatMap f
 | [], i => by simp
 | a :: l, 0 => by simp
 | a :: l, i + 1 => by
  have e : (i + 1) * sz = (f a).length + i * sz := by rw [hf, Nat.add_mul]; omega
  rw [List.flatMap_cons, e, ← List.drop_drop, List.drop_left, splitN f sz hf l i]
  rfl
theorem ltN {α : Type} {f : α → List D} (sz : Nat) (hf : ∀ x, (f x).length = sz) (h0 : 0 < sz) {l : List α} {i : Nat} {y : α} (h : l[i]? = some y) : i * sz < (l.flatMap f).length := by
 rw [lenN f sz hf]
 exact Nat.mul_lt_mul_of_pos_right (List.getElem?_eq_some_iff.1 h).1 h0
theorem leN {α : Type} {f : α → List D} (sz : Nat) (hf : ∀ x, (f x).length = sz) {l : List α} {i : Nat} {y : α} (h : l[i]? = some y) : i * sz + sz ≤ (l.flatMap f).length := by
 rw [lenN f sz hf]
 have : (i + 1) * sz ≤ l.length * sz := Nat.mul_le_mul_right _ (List.getElem?_eq_some_iff.1 h).1
 rw [Nat.add_mul] at this; omega
theorem atN {α : Type} {f : α → List D} (sz : Nat) (hf : ∀ x, (f x).length = sz) {l : List α} {i : Nat} {y : α} (h : l[i]? = some y) : ((l.flatMap f).drop (i * sz)).take sz = f y := by
 rw [splitN f sz hf]
 have hlt := (List.getElem?_eq_some_iff.1 h).1
 have hy : l[i] = y := (List.getElem?_eq_some_iff.1 h).2
 rw [List.drop_eq_getElem_cons hlt, List.flatMap_cons, hy]
 have : sz = (f y).length := (hf y).symm
 conv => lhs; arg 1; rw [this]
 simp
theorem atNs {α : Type} {f : α → List D} (sz : Nat) (hf : ∀ x, (f x).length = sz) {l : List α} {i : Nat} {y : α} (h : l[i]? = some y) (k n : Nat) (hk : k + n ≤ sz) {z : List D} (hz : ((f y).drop k).take n = z) : ((l.flatMap f).drop (i * sz + k)).take n = z := by
 have e := atN sz hf h
 rw [← hz, ← e, List.drop_take, List.take_take, List.drop_drop]
 congr 1; omega
theorem sub1 {α : Type} (f : α → D) (l : List α) (a b : Nat) : ((l.map f).drop (a * 1)).take ((b - a) * 1) = ((l.drop a).take (b - a)).map f := by simp [List.map_take, List.map_drop]
theorem cat1 {α : Type} (f : α → D) (l m : List α) : l.map f ++ m.map f = (l ++ m).map f := by simp
theorem catN {α : Type} (f : α → List D) (l m : List α) : l.flatMap f ++ m.flatMap f = (l ++ m).flatMap f := by simp
theorem one1 {α : Type} (f : α → D) (hf : ∀ x, (f x).one = true) (l : List α) : ∀ x, x ∈ l.map f → x.one = true := fun x hx => by
 obtain ⟨y, _, rfl⟩ := List.mem_map.1 hx; exact hf y
theorem oneN {α : Type} (f : α → List D) (hf : ∀ x, (f x).all D.one = true) (l : List α) : ∀ x, x ∈ l.flatMap f → x.one = true := fun x hx => by
 obtain ⟨y, _, h⟩ := List.mem_flatMap.1 hx; exact List.all_eq_true.1 (hf y) x h
theorem small {n b : Nat} (h : n ≤ 4294967296) (hb : b ≤ 32768) : n * b ≤ 140737488355328 := Nat.le_trans (Nat.mul_le_mul h hb) (by decide)
theorem small' {n b : Nat} (h : n ≤ 4294967296) (hb : b ≤ 32768) : b * n ≤ 281474976710656 := by rw [Nat.mul_comm]; exact Nat.le_trans (small h hb) (by decide)
theorem small63 {n : Nat} (h : n ≤ 4294967296) : n ≤ maxLen := Nat.le_trans h (by decide)

/-! ### One view is told by another -/
def SVLe (x y : SV) : Prop := ∀ w ok Ω v, RepS w ok Ω x v → RepS w ok Ω y v
theorem SVLe.refl (x : SV) : SVLe x x := fun _ _ _ _ h => h
theorem SVLe.any (x : SV) : SVLe x .any := fun _ _ _ v _ => .any v
theorem SVLe.nil (sz : Nat) : SVLe (.d (.v (.slice none 0 0))) (.d (.ds sz [])) := fun w ok Ω v h => by
 rw [h.val]; exact .d _ _ (.nil _ _ _)
/-- data, as it stands in a struct -/
inductive SLe : List SV → List D → Prop
 | nil : SLe [] []
 | cons {x : SV} {y : D} {xs : List SV} {ys : List D} (h : SVLe x (.d y)) (t : SLe xs ys) : SLe (x :: xs) (y :: ys)
theorem SLe.get {xs : List SV} {ys : List D} (h : SLe xs ys) : xs.length = ys.length ∧ ∀ (i : Nat) x y, xs[i]? = some x → ys[i]? = some y → SVLe x (.d y) := by
 induction h with
 | nil => exact ⟨rfl, fun i x y h => by simp at h⟩
 | cons h t ih =>
  refine ⟨by simp [ih.1], fun i x y h1 h2 => ?_⟩
  cases i with
  | zero => cases h1; cases h2; exact h
  | succ i => simp at h1 h2; exact ih.2 i x y h1 h2
theorem RepS.isD {w : World} {ok : Nat → Prop} {Ω : List Value} {y : D} {v : Value} (h : RepS w ok Ω (.d y) v) : RepD w ok y v := by cases h with | d _ _ h => exact h
theorem SVLe.ag {xs : List SV} {ys : List D} (h : SLe xs ys) : SVLe (.ag xs) (.d (.ag ys)) := fun w ok Ω v hr => by
 obtain ⟨hl, hi⟩ := h.get
 cases hr with
 | ag _ vs hl2 hrr =>
  refine .d _ _ (.ag _ _ (by omega) fun i x y hx hy => ?_)
  have hlt := (List.getElem?_eq_some_iff.1 hx).1
  have hc : xs[i]? = some xs[i] := List.getElem?_eq_getElem (by omega)
  exact (hi i _ _ hc hx _ _ _ _ (hrr i _ _ hc hy)).isD
section
variable {C : Ctx} {Q : Exit → St → Prop} {ops : Array Oper} {rest : List Oper} {o : Oper} {e : List (Nat × SV)} {obs : List Ob} {d : Nat} {t ty : TypeId} {x y : Operand}
theorem Rel.sub {Ω : List Value} {a : Act} {w : World} (hr : Rel C ⟨e, obs⟩ Ω a w) {t : Nat} {x y : SV} (hx : get e t = some x) (hle : SVLe x y) : Rel C ⟨(t, y) :: e, obs⟩ Ω a w := by
 refine ⟨hr.defers, hr.size, fun q z hq => ?_, hr.mem⟩
 simp only [get] at hq
 split at hq
 ·rename_i h; subst h; cases hq
  obtain ⟨v, hv, hrep⟩ := hr.env t _ hx
  exact ⟨v, hv, hle _ _ _ _ hrep⟩
 ·exact hr.env q z hq
theorem AC.sub (t : Nat) {x y : SV} {c : Code} (hx : get e t = some x) (hle : SVLe x y) (h : AC C c ⟨(t, y) :: e, obs⟩ Q) : AC C c ⟨e, obs⟩ Q := fun Ω a w hr => h Ω a w (hr.sub hx hle)
theorem AO.sub (t : Nat) {x y : SV} {l : List Oper} (hx : get e t = some x) (hle : SVLe x y) (h : AO C ops l ⟨(t, y) :: e, obs⟩ Q) : AO C ops l ⟨e, obs⟩ Q := fun Ω a w hr => h Ω a w (hr.sub hx hle)

/-! ### A slice of one's own becomes data, wherever it stands -/
def SV.thaw (p : Nat) (x : D) : SV → SV
 | .own q => if q = p then .d x else .own q
 | .sl q sz off len cap => if q = p ∧ off = 0 then .d x else .sl q sz off len cap
 | .ag l => .ag (l.map fun | .own q => if q = p then .d x else .own q | z => z)
 | z => z
def thawE (p : Nat) (x : D) : List (Nat × SV) → List (Nat × SV)
 | [] => []
 | (k, y) :: r => (k, y.thaw p x) :: thawE p x r
theorem thawE_get {p : Nat} {x : D} : ∀ {e : List (Nat × SV)} {t : Nat} {z : SV}, get (thawE p x e) t = some z → ∃ y, get e t = some y ∧ z = y.thaw p x
 | [], _, _, h => by cases h
 | (k, y) :: r, t, z, h => by
  simp only [thawE, get] at h ⊢
  split at h
  ·rename_i hk; cases h; exact ⟨y, by rw [if_pos hk], rfl⟩
  ·rename_i hk; obtain ⟨y', h1, h2⟩ := thawE_get h; exact ⟨y', by rw [if_neg hk]; exact h1, h2⟩
/-- as long as cap is len -/
def SV.fullB (p : Nat) : SV → Bool
 | .sl q _ off len cap => q != p || off != 0 || len == cap
 | _ => true
theorem Rel.freezeGrow {Ω : List Value} {a : Act} {w : World} (hr : Rel C ⟨e, obs⟩ Ω a w) (hm : C.may = []) {p ty sz : Nat} {cells : List D} (hp : obs[p]? = some (.grow ty sz cells)) :
  Rel C ⟨thawE p (.ds sz cells) e, obs.set p .dead⟩ Ω a w := by
 obtain ⟨hmem, hok⟩ := hr.mem.kill p
 have hd : ∀ v, Ω[p]? = some v → RepD w (okB C (obs.set p .dead) Ω w) (.ds sz cells) v := fun v hΩ => by
  obtain ⟨n, xs, how, hxl, hrr⟩ := hr.mem.obj p _ _ hp hΩ
  rcases how.2 with ⟨rfl, h0⟩ | ⟨g, cap, cur, rfl, _, hg, hnc, _, hcs, hct⟩
  ·have : cells = [] := List.eq_nil_of_length_eq_zero (by rw [← hxl, how.1, h0]; simp)
   subst this; exact .nil _ _ _
  ·have hcell : ∀ (i : Nat), i < cells.length → xs[i]? = some (xs.getD i undef) := fun i hi => by
    rw [List.getD_eq_getElem?_getD, List.getElem?_eq_getElem (by omega)]; rfl
   refine .ds _ _ _ _ _ _ (fun i => xs.getD i undef) (by rw [← hxl, how.1]) hnc ⟨?_, (Array.getElem?_eq_some_iff.1 hg).1, fun i ob k e1 l e2 => ?_⟩ (fun i hi => ?_) (fun i x hx => ?_)
   ·rcases hr.mem.new p _ _ g hp rfl hΩ rfl with h | h
    ·exact .inr h
    ·rw [hm] at h; cases h
   ·rcases get_set e1 with ⟨rfl, rfl, _⟩ | ⟨hi, e1⟩
    ·cases l
    ·exact hr.mem.sep p i _ _ _ _ g (Ne.symm hi) hp e1 rfl l hΩ e2 rfl
   ·rw [Nat.zero_add, cell_of_row w g i cur ty (0, 0) hg]
    have hin : i < n * sz := by have := how.1; omega
    have h1 : xs[i]? = cur.toList[i]? := by rw [← hct, List.getElem?_take, if_pos hin]
    have h2 := hcell i hi
    rw [h1] at h2
    simpa using h2
   ·exact (hrr i x _ hx (hcell i (List.getElem?_eq_some_iff.1 hx).1)).mono fun b hb => ⟨hok b hb, rfl⟩
 have own : ∀ {v : Value}, RepS w (okB C obs Ω w) Ω (.own p) v → RepS w (okB C (obs.set p .dead) Ω w) Ω (.d (.ds sz cells)) v := fun h => by
  cases h with | own _ _ ho _ => exact .d _ _ (hd _ ho)
 refine ⟨hr.defers, hr.size, fun q z hq => ?_, hmem⟩
 obtain ⟨y, hy, rfl⟩ := thawE_get hq
 obtain ⟨v, hv, hrep⟩ := hr.env q y hy
 have mono : ∀ {z : SV} {u : Value}, RepS w (okB C obs Ω w) Ω z u → RepS w (okB C (obs.set p .dead) Ω w) Ω z u := fun h => h.mono (fun b hb => ⟨hok b hb, rfl⟩) (fun _ _ e => e)
 refine ⟨v, hv, ?_⟩
 cases y with
 | own q =>
  simp only [SV.thaw]
  split
  ·rename_i h; subst h; exact own hrep
  ·exact mono hrep
 | sl q s off len cap =>
  simp only [SV.thaw]
  split
  ·rename_i h
   obtain ⟨rfl, rfl⟩ := h
   cases hrep with
   | sl _ _ _ _ _ b ho =>
    obtain ⟨n, xs, how, _⟩ := hr.mem.obj q _ _ hp ho
    rcases how.2 with ⟨h, _⟩ | ⟨g, cap, cur, h, _⟩ <;> cases h
  ·exact mono hrep
 | ag l =>
  cases hrep with
  | ag _ vs hl hrr =>
   refine .ag _ _ (by simp [hl]) fun i x y hx hy => ?_
   rw [List.getElem?_map, Option.map_eq_some_iff] at hx
   obtain ⟨z, hz, rfl⟩ := hx
   have := hrr i z y hz hy
   split
   ·split
    ·rename_i h; subst h; exact own this
    ·exact mono this
   ·exact mono this
 | _ => exact mono hrep
theorem AO.freezeG {l : List Oper} (p : Nat) {ty sz : Nat} {cells : List D} {e' : List (Nat × SV)} (hm : C.may = []) (hp : obs[p]? = some (.grow ty sz cells)) (he : thawE p (.ds sz cells) e = e')
  (h : AO C ops l ⟨e', obs.set p .dead⟩ Q) : AO C ops l ⟨e, obs⟩ Q := fun Ω a w hr => h Ω a w (by subst he; exact hr.freezeGrow hm hp)
theorem AC.freezeG {c : Code} (p : Nat) {ty sz : Nat} {cells : List D} {e' : List (Nat × SV)} (hm : C.may = []) (hp : obs[p]? = some (.grow ty sz cells)) (he : thawE p (.ds sz cells) e = e')
  (h : AC C c ⟨e', obs.set p .dead⟩ Q) : AC C c ⟨e, obs⟩ Q := fun Ω a w hr => h Ω a w (by subst he; exact hr.freezeGrow hm hp)

/-- Of one cell or many: what the elements of a made slice are. -/
theorem Rel.freezeFix {Ω : List Value} {a : Act} {w : World} (hr : Rel C ⟨e, obs⟩ Ω a w) (hm : C.may = []) {t p ty sz len cap : Nat} {cells : List SV} {ds : List D} (hx : get e t = some (.sl p sz 0 len cap)) (hp : obs[p]? = some (.fix ty cells))
  (hc : cells = ds.map .d) (hl : ds.length = len * sz) (hcap : len ≤ cap) :
  Rel C ⟨(t, .d (.ds sz ds)) :: e, obs.set p .dead⟩ Ω a w := by
 subst hc
 obtain ⟨hmem, hok⟩ := hr.mem.kill p
 have mono : ∀ {z : SV} {u : Value}, RepS w (okB C obs Ω w) Ω z u → RepS w (okB C (obs.set p .dead) Ω w) Ω z u := fun h => h.mono (fun b hb => ⟨hok b hb, rfl⟩) (fun _ _ e => e)
 refine ⟨hr.defers, hr.size, fun q z hq => ?_, hmem⟩
 simp only [get] at hq
 split at hq
 ·rename_i h; subst h; cases hq
  obtain ⟨v, hv, hrep⟩ := hr.env t _ hx
  refine ⟨v, hv, .d _ _ ?_⟩
  cases hrep with
  | sl _ _ _ _ _ b ho =>
   obtain ⟨b', vs, he, hw, hvl, hvr, _⟩ := hr.mem.obj p _ _ hp ho
   cases he
   rw [List.length_map] at hvl
   refine .ds _ _ _ _ _ _ (fun i => vs.getD i undef) hl hcap ⟨?_, (Array.getElem?_eq_some_iff.1 hw).1, fun i ob k e1 l e2 => ?_⟩ (fun i hi => ?_) (fun i x hx => ?_)
   ·rcases hr.mem.new p _ _ b hp rfl ho rfl with h | h
    ·exact .inr h
    ·rw [hm] at h; cases h
   ·rcases get_set e1 with ⟨rfl, rfl, _⟩ | ⟨hi, e1⟩
    ·cases l
    ·exact hr.mem.sep p i _ _ _ _ b (Ne.symm hi) hp e1 rfl l ho e2 rfl
   ·rw [Nat.zero_add, cell_of_row w b i _ ty (0, 0) hw]
    have : i < vs.length := by omega
    simp [this]
   ·have hi := (List.getElem?_eq_some_iff.1 hx).1
    have hv : vs[i]? = some (vs.getD i undef) := by rw [List.getD_eq_getElem?_getD, List.getElem?_eq_getElem (by omega)]; rfl
    exact (mono (hvr i (.d x) _ (by rw [List.getElem?_map, hx]; rfl) hv)).isD
 ·obtain ⟨v, hv, hrep⟩ := hr.env q z hq
  exact ⟨v, hv, mono hrep⟩
theorem AO.freezeF {l : List Oper} (t p : Nat) {ty sz len cap : Nat} {cells : List SV} {ds : List D} (hm : C.may = []) (hx : get e t = some (.sl p sz 0 len cap)) (hp : obs[p]? = some (.fix ty cells))
  (hc : cells = ds.map .d) (hl : ds.length = len * sz) (hcap : len ≤ cap) (h : AO C ops l ⟨(t, .d (.ds sz ds)) :: e, obs.set p .dead⟩ Q) : AO C ops l ⟨e, obs⟩ Q := fun Ω a w hr => h _ a w (hr.freezeFix hm hx hp hc hl hcap)
theorem AC.freezeF {c : Code} (t p : Nat) {ty sz len cap : Nat} {cells : List SV} {ds : List D} (hm : C.may = []) (hx : get e t = some (.sl p sz 0 len cap)) (hp : obs[p]? = some (.fix ty cells))
  (hc : cells = ds.map .d) (hl : ds.length = len * sz) (hcap : len ≤ cap) (h : AC C c ⟨(t, .d (.ds sz ds)) :: e, obs.set p .dead⟩ Q) : AC C c ⟨e, obs⟩ Q := fun Ω a w hr => h _ a w (hr.freezeFix hm hx hp hc hl hcap)

/-! ### Operations -/
theorem AOp.sliceD {el sz n l hh : Nat} {lo hi : Option Operand} {cells cells' : List D} (ho : o.op = .slice t x lo hi none) (hd : o.dst = some d) (hn : d < C.n) (hx : opS ⟨e, obs⟩ x = some (.d (.ds sz cells)))
  (hlo : (lo = none ∧ l = 0) ∨ ∃ y k i, lo = some y ∧ opS ⟨e, obs⟩ y = some (.d (.v (.int k i))) ∧ 0 ≤ i ∧ l = i.toNat)
  (hhi : (hi = none ∧ hh = n) ∨ ∃ y k i, hi = some y ∧ opS ⟨e, obs⟩ y = some (.d (.v (.int k i))) ∧ 0 ≤ i ∧ hh = i.toNat)
  (ht : elemT C.P t = some (el, sz)) (hsz : 0 < sz) (hl : cells.length = n * sz) (h1 : l ≤ hh) (h2 : hh ≤ n) (hc : (cells.drop (l * sz)).take ((hh - l) * sz) = cells')
  (h : AO C ops rest ⟨(d, .d (.ds sz cells')) :: e, obs⟩ Q) : AOp C ops rest o ⟨e, obs⟩ Q :=
 AOp.value hd hn (fun Ω a w hr => by
  subst hc
  have hv := hr.eval hx
  generalize hev : a.eval x = v at hv
  cases hv with
  | d _ _ hv =>
   obtain ⟨ad, m, c, rfl, hcap, rfl, hrep⟩ := hv.sliced hsz hl h1 h2
   obtain ⟨hu, hso⟩ := elem_of ht
   refine ⟨_, ?_, .d _ _ hrep⟩
   rcases hlo with ⟨rfl, rfl⟩ | ⟨yl, kl, il, rfl, hyl, hil, rfl⟩ <;> rcases hhi with ⟨rfl, rfl⟩ | ⟨yh, kh, ih, rfl, hyh, hih, rfl⟩
   ·have := run_slice_all (P := C.P) w t ad hh c hu
    simp only [execOp, ho, hev, Option.map_none, Sem.run_bind, run_sliceAt_slice w t _ _ _ _ hu, this, hso, run_sizeOf (elemT_spec ht).2, Result.andThen_ok, sliced, Sem.run_pure]
   ·have := run_slice_h (P := C.P) w t ad m c hu kh ih hih (by omega)
    simp only [execOp, ho, hev, hr.evalV hyh, Option.map_some, Option.map_none, Sem.run_bind, run_sliceAt_slice w t _ _ _ _ hu, this, hso, run_sizeOf (elemT_spec ht).2, Result.andThen_ok, sliced, Sem.run_pure]
   ·have := run_slice_l (P := C.P) w t ad hh c hu kl il hil (by omega)
    simp only [execOp, ho, hev, hr.evalV hyl, Option.map_some, Option.map_none, Sem.run_bind, run_sliceAt_slice w t _ _ _ _ hu, this, hso, run_sizeOf (elemT_spec ht).2, Result.andThen_ok, sliced, Sem.run_pure]
   ·have := run_slice_lh (P := C.P) w t ad m c hu kl kh il ih hil (by omega) (by omega)
    simp only [execOp, ho, hev, hr.evalV hyl, hr.evalV hyh, Option.map_some, Option.map_none, Sem.run_bind, run_sliceAt_slice w t _ _ _ _ hu, this, hso, run_sizeOf (elemT_spec ht).2, Result.andThen_ok, sliced, Sem.run_pure]) h

theorem AOp.ishl' {k k' : IntKind} {a i : Int} (ho : o.op = .binOp .shl t x y ty) (hd : o.dst = some d) (hn : d < C.n) (hx : opS ⟨e, obs⟩ x = some (.d (di k a))) (hy : opS ⟨e, obs⟩ y = some (.d (di k' i)))
  (hb : 0 ≤ i ∧ i ≤ k.bits) (h : AO C ops rest ⟨(d, .d (di k (k.wrap (a * 2 ^ i.toNat)))) :: e, obs⟩ Q) : AOp C ops rest o ⟨e, obs⟩ Q := by
 have hi : (i.toNat : Int) = i := Int.toNat_of_nonneg hb.1
 exact AOp.ishl (n := i.toNat) ho hd hn hx (by rw [hi]; exact hy) (by omega) rfl h
theorem AOp.inegW {k : IntKind} {a : Int} (ho : o.op = .unOp .neg t x) (hd : o.dst = some d) (hn : d < C.n) (hx : opS ⟨e, obs⟩ x = some (.d (di k a)))
  (h : AO C ops rest ⟨(d, .d (di k (k.wrap (-a)))) :: e, obs⟩ Q) : AOp C ops rest o ⟨e, obs⟩ Q :=
 AOp.un ho hd hn hx (fun w => rfl) (by rw [Int.zero_sub]; exact h)
theorem AOp.iwAdd {k : IntKind} {a b : Int} (ho : o.op = .binOp .add t x y ty) (hd : o.dst = some d) (hn : d < C.n) (hx : opS ⟨e, obs⟩ x = some (.d (di k a))) (hy : opS ⟨e, obs⟩ y = some (.d (di k b)))
  (h : AO C ops rest ⟨(d, .d (di k (k.wrap (a + b)))) :: e, obs⟩ Q) : AOp C ops rest o ⟨e, obs⟩ Q := AOp.iarithW _ ho hd hn hx hy (.inl ⟨rfl, rfl⟩) h
/-- Onto a slice of the call's own, cells told. -/
theorem AOp.appendOwn' {t el size bytes p n m : Nat} {x y : Operand} {z : Value} {cells news cells' : List D} (ho : o.op = .call { callee := .builtin .append, args := #[x, y], argTypes := #[t, t] }) (hd : o.dst = some d) (hn : d < C.n)
  (hx : opS ⟨e, obs⟩ x = some (.own p)) (hy : opS ⟨e, obs⟩ y = some (.d (.ds size news))) (ht : elemT C.P t = some (el, size)) (hi : (C.P.info? el).map (fun i => (i.zero, i.size, i.bytes)) = some (some z, size, bytes)) (hzs : z.cells.size = size) (hsz : 0 < size)
  (hp : obs[p]? = some (.grow el size cells)) (hc : cells.length = n * size) (hl : news.length = m * size) (hone : ∀ x, x ∈ news → x.one = true) (h63 : n + m ≤ 4294967296) (hb : bytes ≤ 32768)
  (hno : (obs.set p .dead).all (Ob.noO p) = true) {e' : List (Nat × SV)} (he : dropO p [] e = e') (hcat : cells ++ news = cells')
  (h : AO C ops rest ⟨(d, .own p) :: e', obs.set p (.grow el size cells')⟩ Q) : AOp C ops rest o ⟨e, obs⟩ Q := by
 subst hcat
 exact AOp.appendOwn ho hd hn hx hy ht hi hzs hsz hp hc hl hone (small63 h63) (small h63 hb) hno he h
end
end Go.Vm
namespace Go.Vm
/-! ### Joins and loops beside printed functions -/
inductive LeL : List (Nat × SV) → List (Nat × SV) → Prop
 | nil : LeL [] []
 | cons {t : Nat} {x y : SV} {a b : List (Nat × SV)} (h : SVLe x y) (r : LeL a b) : LeL ((t, x) :: a) ((t, y) :: b)
theorem LeL.refl : ∀ a : List (Nat × SV), LeL a a
 | [] => .nil
 | (t, x) :: a => .cons (SVLe.refl x) (LeL.refl a)
theorem LeL.get {a b : List (Nat × SV)} (h : LeL a b) : ∀ {t : Nat} {y : SV}, Vm.get b t = some y → ∃ x, Vm.get a t = some x ∧ SVLe x y := by
 induction h with
 | nil => intro t y h; cases h
 | @cons t0 x0 y0 a b h0 r ih =>
  intro t y h
  simp only [Vm.get] at h ⊢
  split at h
  ·rename_i e; cases h; exact ⟨x0, by rw [if_pos e], h0⟩
  ·rename_i e; obtain ⟨x, h1, h2⟩ := ih h; exact ⟨x, by rw [if_neg e]; exact h1, h2⟩
theorem Rel.le {C : Ctx} {a b : List (Nat × SV)} {obs : List Ob} {Ω : List Value} {ac : Act} {w : World} (hr : Rel C ⟨a, obs⟩ Ω ac w) (h : LeL a b) : Rel C ⟨b, obs⟩ Ω ac w :=
 ⟨hr.defers, hr.size, fun t y hy => by
  obtain ⟨x, hx, hle⟩ := h.get hy
  obtain ⟨v, hv, hrep⟩ := hr.env t x hx
  exact ⟨v, hv, hle _ _ _ _ hrep⟩, hr.mem⟩
/-- The end of a way that is joined with others: v the values, L what stands there. -/
def JoinP {V : Type} (ks : List Nat) (m : Nat) (env : V → List (Nat × SV)) (ob : V → List Ob) (inv : V → Prop) (Q : Exit → St → Prop) : Exit → St → Prop
 | .normal, s => ∃ v L, Vm.keep ks s.env = some L ∧ LeL L (env v) ∧ s.obs.take m = ob v ∧ keepOK m L (ob v) = true ∧ inv v
 | e, s => Q e s
theorem AC.joinP {V : Type} (ksC ksV : List Nat) (m : Nat) (venv : V → List (Nat × SV)) (ob : V → List Ob) (inv : V → Prop) {C : Ctx} {s : St} {Q : Exit → St → Prop} {x y : Code} {cenv : List (Nat × SV)}
  (hC : Vm.keep ksC s.env = some cenv) (h : AC C x s (JoinP (ksC ++ ksV) m (fun v => cenv ++ venv v) ob inv Q)) (rest : ∀ v, inv v → AC C y ⟨cenv ++ venv v, ob v⟩ Q) : AC C (.seq x y) s Q := fun Ω a w hr =>
 wp_seq (wp_mono (h Ω a w hr) fun e a w ⟨s', Ω', hr', hq⟩ => by
  cases e with
  | normal =>
   obtain ⟨v, L, h1, h2, h3, h4, h5⟩ := hq
   have := hr'.keep (m := m) h1 (by rw [h3]; exact h4)
   rw [h3] at this
   exact rest v h5 _ a w (this.le h2)
  | _ => exact ⟨s', Ω', hr', hq⟩)
theorem AC.loopP {V T : Type} (b : (V → Option T) → V → Option T) (t : T) (ksC ksV : List Nat) (m : Nat) (venv : V → List (Nat × SV)) (ob : V → List Ob) (F : Nat) (v0 : V) {C : Ctx} {s : St} {Q : Exit → St → Prop} {c : Code} {cenv L0 : List (Nat × SV)}
  (h0 : iter b F v0 = some t) (hC : Vm.keep ksC s.env = some cenv) (hV : Vm.keep (ksC ++ ksV) s.env = some L0) (hle : LeL L0 (cenv ++ venv v0)) (hO : s.obs.take m = ob v0) (hb : keepOK m L0 (ob v0) = true)
  (round : ∀ n v, b (iter b n) v = some t → AC C c ⟨cenv ++ venv v, ob v⟩ (JoinP (ksC ++ ksV) m (fun v => cenv ++ venv v) ob (fun v' => iter b n v' = some t) Q)) : AC C (.loop c) s Q := by
 have key : ∀ n v, iter b n v = some t → ∀ Ω a w, Rel C ⟨cenv ++ venv v, ob v⟩ Ω a w → ∀ bd k cs,
   ∃ e a' w', Lift C Q e a' w' ∧ Arrives C.P (lone (bd.at a (.code c :: .inLoop c :: k)) cs w) bd k cs e a' w' := by
  intro n
  induction n with
  | zero => intro v h; cases h
  | succ n ih =>
   intro v hv Ω a w hr bd k cs
   obtain ⟨e, a₁, w₁, ⟨s₁, Ω₁, hr₁, hq⟩, harr⟩ := round n v hv Ω a w hr bd (.inLoop c :: k) cs
   cases e with
   | normal =>
    obtain ⟨v', L, h1, h2, h3, h4, h5⟩ := hq
    have hr₂ := hr₁.keep (m := m) h1 (by rw [h3]; exact h4)
    rw [h3] at hr₂
    obtain ⟨e₂, a₂, w₂, hq₂, harr₂⟩ := ih v' h5 _ _ _ (hr₂.le h2) bd k cs
    exact ⟨e₂, a₂, w₂, hq₂, .of_steps (Steps.trans harr (.one step_inLoop)) harr₂⟩
   | exit id => exact ⟨_, a₁, w₁, ⟨s₁, Ω₁, hr₁, hq⟩, .pass (x := .inLoop c) rfl (fun _ _ => .inl (by simp)) harr⟩
   | goto l => exact ⟨_, a₁, w₁, ⟨s₁, Ω₁, hr₁, hq⟩, .pass (x := .inLoop c) rfl (fun _ _ => .inl (by simp)) harr⟩
   | ret => exact ⟨_, a₁, w₁, ⟨s₁, Ω₁, hr₁, hq⟩, .pass (x := .inLoop c) rfl (fun _ _ => .inl (by simp)) harr⟩
   | panic ch => exact ⟨_, a₁, w₁, ⟨s₁, Ω₁, hr₁, hq⟩, .pass (x := .inLoop c) rfl (fun _ _ => .inl (by simp)) harr⟩
   | outgrown => exact ⟨_, a₁, w₁, ⟨s₁, Ω₁, hr₁, hq⟩, .pass (x := .inLoop c) rfl (fun _ _ => .inl (by simp)) harr⟩
 intro Ω a w hr bd k cs
 have hr0 := hr.keep (m := m) hV (by rw [hO]; exact hb)
 rw [hO] at hr0
 obtain ⟨e, a', w', hq, harr⟩ := key F v0 h0 _ a w (hr0.le hle) bd k cs
 exact ⟨e, a', w', hq, .of_steps (.one step_loop) harr⟩
theorem aftL {V R T : Type} {v : V} {ret : R → Option T} {k : V → Option T} {t : T} (h : aft (.inl v) ret k = some t) : k v = some t := h
theorem aftR {V R T : Type} {r : R} {ret : R → Option T} {k : V → Option T} {t : T} (h : aft (.inr r : Sum V R) ret k = some t) : ret r = some t := h
end Go.Vm

/- Further rules beside printed functions. -/
set_option linter.unusedVariables false
set_option linter.unusedSimpArgs false
namespace Go.Vm
theorem leNs {α : Type} {f : α → List D} (sz : Nat) (hf : ∀ x, (f x).length = sz) {l : List α} {i : Nat} {y : α} (h : l[i]? = some y) (k n : Nat) (hk : k + n ≤ sz) : i * sz + k + n ≤ (l.flatMap f).length := by
 have := leN sz hf h; omega
theorem atO {α : Type} {f : α → SV} {l : List α} {i : Nat} {y : α} (h : l[i]? = some y) : (l.map f)[0 + i * 1]? = some (f y) := by simp [h]
inductive SVL : List SV → List SV → Prop
 | nil : SVL [] []
 | cons {x y : SV} {xs ys : List SV} (h : SVLe x y) (t : SVL xs ys) : SVL (x :: xs) (y :: ys)
theorem SVL.get {xs ys : List SV} (h : SVL xs ys) : xs.length = ys.length ∧ ∀ (i : Nat) y, ys[i]? = some y → ∃ x, xs[i]? = some x ∧ SVLe x y := by
 induction h with
 | nil => exact ⟨rfl, fun i y h => by simp at h⟩
 | cons h t ih =>
  refine ⟨by simp [ih.1], fun i y h1 => ?_⟩
  cases i with
  | zero => cases h1; exact ⟨_, rfl, h⟩
  | succ i => simp at h1; obtain ⟨x, h2, h3⟩ := ih.2 i y h1; exact ⟨x, by simpa using h2, h3⟩
theorem okU_nil {m : Nat} : ([] : List Ob).all (Ob.under m) = true := rfl
theorem okU_cons {m : Nat} {a : Ob} {l : List Ob} (h : Ob.under m a = true) (t : l.all (Ob.under m) = true) : (a :: l).all (Ob.under m) = true := by simp [h, t]
theorem okU_fixl {α : Type} {m ty : Nat} {f : α → SV} {l : List α} (hf : ∀ z, (f z).under m = true) : Ob.under m (.fix ty (l.map f)) = true := by
 show (l.map f).all _ = true
 rw [List.all_eq_true]; intro x hx; obtain ⟨z, _, rfl⟩ := List.mem_map.1 hx; exact hf z
theorem okU_mk {m : Nat} {e : List (Nat × SV)} {obs : List Ob} (h1 : e.all (fun p => p.2.under m) = true) (h2 : obs.all (Ob.under m) = true) : keepOK m e obs = true := by
 unfold keepOK; rw [h1, h2]; rfl
section
variable {C : Ctx} {Q : Exit → St → Prop} {ops : Array Oper} {rest : List Oper} {o : Oper} {e : List (Nat × SV)} {obs : List Ob} {d : Nat} {t ty : TypeId} {x y : Operand}
theorem AO.dec {l : List Oper} (b : Bool) (hy : b = true → AO C ops l ⟨e, obs⟩ Q) (hn : b = false → AO C ops l ⟨e, obs⟩ Q) : AO C ops l ⟨e, obs⟩ Q := by
 cases b with
 | true => exact hy rfl
 | false => exact hn rfl
theorem AD.dec {l : List Oper} {K : St → Prop} (b : Bool) (hy : b = true → AD C ops l ⟨e, obs⟩ K) (hn : b = false → AD C ops l ⟨e, obs⟩ K) : AD C ops l ⟨e, obs⟩ K := by
 cases b with
 | true => exact hy rfl
 | false => exact hn rfl
theorem AC.joinE {V : Type} (ksC ksV : List Nat) (m : Nat) (venv : V → List (Nat × SV)) (ob : V → List Ob) (inv : V → Prop) {C : Ctx} {s : St} {Q : Exit → St → Prop} {x : Code} {cenv : List (Nat × SV)}
  (hC : Vm.keep ksC s.env = some cenv) (h : AC C x s (JoinP (ksC ++ ksV) m (fun v => cenv ++ venv v) ob inv Q)) (rest : ∀ v, inv v → Q .normal ⟨cenv ++ venv v, ob v⟩) : AC C x s Q := fun Ω a w hr =>
 wp_mono (h Ω a w hr) fun e a w ⟨s', Ω', hr', hq⟩ => by
  cases e with
  | normal =>
   obtain ⟨v, L, h1, h2, h3, h4, h5⟩ := hq
   have := hr'.keep (m := m) h1 (by rw [h3]; exact h4)
   rw [h3] at this
   exact ⟨_, _, this.le h2, rest v h5⟩
  | _ => exact ⟨s', Ω', hr', hq⟩

theorem Rel.subO {Ω : List Value} {a : Act} {w : World} (hr : Rel C ⟨e, obs⟩ Ω a w) {p ty : Nat} {cells cells' : List SV} (hp : obs[p]? = some (.fix ty cells)) (hle : SVL cells cells') : Rel C ⟨e, obs.set p (.fix ty cells')⟩ Ω a w := by
 obtain ⟨hl, hi⟩ := hle.get
 have g1 : ∀ {i : Nat} {ob : Ob}, (obs.set p (.fix ty cells'))[i]? = some ob → ∃ ob', obs[i]? = some ob' ∧ ob'.live = ob.live ∧ (ob' = ob ∨ (ob' = .fix ty cells ∧ ob = .fix ty cells')) := fun {i ob} h => by
  rcases get_set h with ⟨rfl, rfl, _⟩ | ⟨_, h⟩
  ·exact ⟨_, hp, rfl, .inr ⟨rfl, rfl⟩⟩
  ·exact ⟨ob, h, rfl, .inl rfl⟩
 have hok : ∀ b, okB C obs Ω w b → okB C (obs.set p (.fix ty cells')) Ω w b := fun b hb => ⟨hb.1, hb.2.1, fun i ob k e1 l e2 => by
  obtain ⟨ob', h1, h2, _⟩ := g1 e1
  exact hb.2.2 i ob' k h1 (by rw [h2]; exact l) e2⟩
 refine ⟨hr.defers, hr.size, fun t x hx => ?_, ⟨by simp; exact hr.mem.len, fun i ob k e1 e2 => ?_, fun i j x y h k b hij e1 e2 l1 l2 e3 e4 hp => ?_, fun i ob k b e1 l e2 hp => ?_, hr.mem.fr⟩⟩
 ·obtain ⟨v, hv, hrep⟩ := hr.env t x hx
  exact ⟨v, hv, hrep.mono (fun b hb => ⟨hok b hb, rfl⟩) (fun _ _ e => e)⟩
 ·obtain ⟨ob', h1, _, h3⟩ := g1 e1
  have H := (hr.mem.obj i ob' k h1 e2).mono (fun b hb => ⟨hok b hb, rfl⟩) (fun _ _ e => e) (fun _ _ _ => rfl)
  rcases h3 with rfl | ⟨rfl, rfl⟩
  ·exact H
  ·obtain ⟨b, vs, rfl, hw, hvl, hvr, hone⟩ := H
   refine ⟨b, vs, rfl, hw, by rw [hvl, hl], fun j x y hx hy => ?_, hone⟩
   obtain ⟨z, hz, hzl⟩ := hi j x hx
   exact hzl _ _ _ _ (hvr j z y hz hy)
 ·obtain ⟨x', h1, q1, _⟩ := g1 e1
  obtain ⟨y', h2, q2, _⟩ := g1 e2
  exact hr.mem.sep i j x' y' h k b hij h1 h2 (by rw [q1]; exact l1) (by rw [q2]; exact l2) e3 e4 hp
 ·obtain ⟨x', h1, q1, _⟩ := g1 e1
  exact hr.mem.new i x' k b h1 (by rw [q1]; exact l) e2 hp
theorem AC.subO {c : Code} (p : Nat) {ty : Nat} {cells cells' : List SV} (hp : obs[p]? = some (.fix ty cells)) (hle : SVL cells cells') (h : AC C c ⟨e, obs.set p (.fix ty cells')⟩ Q) : AC C c ⟨e, obs⟩ Q := fun Ω a w hr => h Ω a w (hr.subO hp hle)

/-- An array type: its length, its element, its cells. -/
def arrT (P : Program) (t : TypeId) : Option (Nat × TypeId × Nat) :=
 match P.underlying t with
 | some (.array n e) => (sizeT P e).map fun k => (n, e, k)
 | _ => none
/-- Nil slices handed on are empty rows. -/
inductive NilL : List D → List D → Prop
 | nil : NilL [] []
 | cons {x : D} {xs ys : List D} (t : NilL xs ys) : NilL (x :: xs) (x :: ys)
 | nils {sz : Nat} {xs ys : List D} (t : NilL xs ys) : NilL (.v (.slice none 0 0) :: xs) (.ds sz [] :: ys)
 | le {x y : D} {xs ys : List D} (h : SVLe (.d x) (.d y)) (t : NilL xs ys) : NilL (x :: xs) (y :: ys)
theorem NilL.get {xs ys : List D} (h : NilL xs ys) : xs.length = ys.length ∧ ∀ (i : Nat) y, ys[i]? = some y → ∃ x, xs[i]? = some x ∧ SVLe (.d x) (.d y) := by
 induction h with
 | nil => exact ⟨rfl, fun i y h => by simp at h⟩
 | cons t ih =>
  refine ⟨by simp [ih.1], fun i y h => ?_⟩
  cases i with
  | zero => cases h; exact ⟨_, rfl, SVLe.refl _⟩
  | succ i => simp at h; obtain ⟨x, h1, h2⟩ := ih.2 i y h; exact ⟨x, by simpa using h1, h2⟩
 | nils t ih =>
  refine ⟨by simp [ih.1], fun i y h => ?_⟩
  cases i with
  | zero => cases h; exact ⟨_, rfl, SVLe.nil _⟩
  | succ i => simp at h; obtain ⟨x, h1, h2⟩ := ih.2 i y h; exact ⟨x, by simpa using h1, h2⟩
 | le hle t ih =>
  refine ⟨by simp [ih.1], fun i y h => ?_⟩
  cases i with
  | zero => cases h; exact ⟨_, rfl, hle⟩
  | succ i => simp at h; obtain ⟨x, h1, h2⟩ := ih.2 i y h; exact ⟨x, by simpa using h1, h2⟩
theorem FnD.nils {P : Program} {f : FuncId} {xs ys : List D} {R : D → Prop} (h : FnD P f ys R) (hn : NilL xs ys) : FnD P f xs R := by
 obtain ⟨hl, hi⟩ := hn.get
 refine ⟨h.1, fun W ok vs h0 h1 h2 h3 => h.2 W ok vs h0 h1 (by omega) fun i y v hy hv => ?_⟩
 obtain ⟨x, hx, hxy⟩ := hi i y hy
 exact (hxy W ok [] v (.d _ _ (h3 i x v hx hv))).isD

/-- Which cell a field is. -/
def fieldIx (P : Program) (t : TypeId) (i : Nat) : Option Nat := match P.underlying t with
 | some (.struct fs) => (fs[i]?).bind fun f => match aggT P f.type with | some false => some f.offset | _ => none
 | _ => none
/-- A slice literal that is appended to. -/
theorem AOp.buildOwn {t el sz len : Nat} {parts : List (Nat × Operand)} {ps : List (Nat × SV)} {z : Value} {r : List SV} {ys : List D} (ho : o.op = .buildSlice t len parts.toArray) (hd : o.dst = some d) (hn : d < C.n)
  (ht : elemT C.P t = some (el, sz)) (hz : (C.P.info? el).map (·.zero) = some (some z)) (h1 : z.cells.toList.all (·.oneCell') = true) (hb : len * sz ≤ 16777216) (hzs : z.cells.size = sz)
  (hx : mapO (partS ⟨e, obs⟩) parts = some ps) (hf : fillS (fun i => some (i * sz, sz)) ((List.range (len * sz)).map fun i => .d (.v (z.cells.toList.getD (i % sz) undef))) ps = some r)
  (hys : mapO (dataS 9) r = some ys) (h : AO C ops rest ⟨(d, .own obs.length) :: e, obs ++ [.grow el sz ys]⟩ Q) (hlen : len ≤ maxLen := by decide) : AOp C ops rest o ⟨e, obs⟩ Q := by
 refine AOp.step hd hn (fun Ω a w hr => ?_) h
 obtain ⟨hu, hs⟩ := elemT_spec ht
 obtain ⟨hl, hp⟩ := hr.parts hx
 have hzlt : ∀ (i : Nat), i < len * sz → i % sz < z.cells.size := fun i hi => by
  rw [hzs]
  exact Nat.mod_lt _ (Nat.pos_of_ne_zero fun h0 => by subst h0; simp at hi)
 have hget : ∀ (i : Nat), i < len * sz → z.cells[i % z.cells.size]! = z.cells.toList.getD (i % sz) undef ∧ z.cells[i % z.cells.size]! ∈ z.cells.toList := fun i hi => by
  have hlt := hzlt i hi
  have hlt2 : i % z.cells.size < z.cells.size := by rw [hzs] at hlt ⊢; exact hlt
  rw [getElem!_pos z.cells _ hlt2]
  refine ⟨?_, by simp⟩
  have : z.cells.toList[i % sz]? = some z.cells[i % z.cells.size] := by simp [hzs]
  rw [List.getD_eq_getElem?_getD, this]; rfl
 obtain ⟨vs, hfill, hvl, hvr, hv1⟩ := fillS_rep ps _ _ r ((Array.range (len * sz)).map fun i => z.cells[i % z.cells.size]!) hf hl hp (by simp) (fun i p q hp hq => by
  have hi : i < len * sz := by have := (List.getElem?_eq_some_iff.1 hp).1; simpa using this
  have e1 : ((List.range (len * sz)).map fun i => (SV.d (.v (z.cells.toList.getD (i % sz) undef))))[i]? = some (.d (.v (z.cells.toList.getD (i % sz) undef))) := by simp [hi]
  rw [e1] at hp; cases hp
  have e2 : ((Array.range (len * sz)).map fun i => z.cells[i % z.cells.size]!).toList[i]? = some (z.cells[i % z.cells.size]!) := by simp [hi]
  rw [e2] at hq; cases hq
  rw [(hget i hi).1]
  exact .d _ _ (.v _)) (fun y hy => by
   simp only [Array.toList_map, Array.toList_range, List.mem_map, List.mem_range] at hy
   obtain ⟨i, hi, rfl⟩ := hy
   exact List.all_eq_true.1 h1 _ (hget i hi).2)
 obtain ⟨hyl, hyi⟩ := mapO_get hys
 have hrl := fillS_len hf
 have hvsz : vs.toList.length = len * sz := by simp [hvl, hrl]
 have how : (w.alloc (.cells vs el)).ownsRow 0 el sz (.slice (some ⟨w.heap.size, 0, none⟩) len len) len vs.toList := by
  refine ⟨hvsz, .inr ⟨w.heap.size, len, vs, rfl, Nat.zero_le _, heap_alloc_new w _, Nat.le_refl _, hlen, by simpa using hvsz, ?_⟩⟩
  rw [List.take_of_length_le (Nat.le_of_eq hvsz)]
 have hbel : RowKit.Below w.heap.size w (w.alloc (.cells vs el)) := ⟨rfl, rfl, rfl, by simp, fun k hk => heap_alloc_old w _ hk⟩
 have hrel := hr.begin hbel how (cells := ys) (fun b hb => by simp [blk] at hb; exact Nat.le_of_eq hb) (by rw [hvsz, hyl, hrl]; simp) (fun i x v hx hv => by
  have hlt := (List.getElem?_eq_some_iff.1 hx).1
  have hc : r[i]? = some (r[i]'(by omega)) := List.getElem?_eq_getElem _
  exact dataS_rep 9 (hyi i _ _ hc hx) (hvr i _ _ hc hv))
 refine ⟨.slice (some ⟨w.heap.size, 0, none⟩) len len, _, _, ?_, hrel, .own _ _ ?_⟩
 ·simp only [execOp, ho, Instr.buildSlice, Sem.run_bind, run_underlying hu, Result.andThen_ok, run_sizeOf hs, List.map_toArray, Sem.run_ite]
  rw [if_neg (by omega)]
  by_cases h0 : len * sz = 0
  ·simp only [h0, if_true, Sem.run_pure, Result.andThen_ok]
   have e0 : ((Array.range 0).map fun i => (#[] : Array Value)[i % (#[] : Array Value).size]!) = #[] := by simp
   rw [h0] at hfill
   have e1 : ((Array.range 0).map fun i => z.cells[i % z.cells.size]!) = #[] := by simp
   rw [e1] at hfill
   rw [e0, hfill]
   simp [newRow]
  ·simp only [h0, if_false, run_zero hz, Sem.run_pure, Sem.run_bind, Result.andThen_ok, hfill, newRow, run_newObj]
   simp
 ·have := hr.mem.len
  dsimp only at this
  rw [this, List.getElem?_append_right (Nat.le_refl _)]; simp
theorem AOp.makeL {α : Type} {f : α → SV} {z0 : α} {el bytes : Nat} {z : Value} {n : Int} (ho : o.op = .makeSlice t x y) (hd : o.dst = some d) (hn : d < C.n)
  (hx : opS ⟨e, obs⟩ x = some (.d (.v (.int .i64 n)))) (hy : opS ⟨e, obs⟩ y = some (.d (.v (.int .i64 n)))) (ht : elemT C.P t = some (el, 1)) (hi : (C.P.info? el).map (fun i => (i.zero, i.size, i.bytes)) = some (some z, 1, bytes)) (hz : z.cells = #[z]) (h1 : z.oneCell' = true)
  (hb : bytes ≤ 32768) (h0 : 0 ≤ n) (h63 : n ≤ 4294967296) (hf : f z0 = .d (.v z))
  (h : AO C ops rest ⟨(d, .sl obs.length 1 0 n.toNat n.toNat) :: e, obs ++ [.fix el ((List.replicate n.toNat z0).map f)]⟩ Q) : AOp C ops rest o ⟨e, obs⟩ Q := by
 have hi' : (n.toNat : Int) = n := Int.toNat_of_nonneg h0
 rw [List.map_replicate, hf] at h
 exact AOp.makeSlice (n := n.toNat) ho hd hn (by rw [hi']; exact hx) (by rw [hi']; exact hy) ht hi hz h1 (small' (by omega) hb) (small63 (by omega)) h
theorem AOp.makeOwn0 {el sz bytes : Nat} {z : Value} {c : Int} (ho : o.op = .makeSlice t x y) (hd : o.dst = some d) (hn : d < C.n)
  (hx : opS ⟨e, obs⟩ x = some (.d (.v (.int .i64 0)))) (hy : opS ⟨e, obs⟩ y = some (.d (.v (.int .i64 c)))) (ht : elemT C.P t = some (el, sz)) (hi : (C.P.info? el).map (fun i => (i.zero, i.size, i.bytes)) = some (some z, sz, bytes))
  (hb : bytes ≤ 32768) (hc : ((0 : Int) ≤ 0 ∧ 0 ≤ c) ∧ c ≤ 4294967296)
  (h : AO C ops rest ⟨(d, .own obs.length) :: e, obs ++ [.grow el sz []]⟩ Q) : AOp C ops rest o ⟨e, obs⟩ Q := by
 have hi' : (c.toNat : Int) = c := Int.toNat_of_nonneg hc.1.2
 exact AOp.makeOwn (c := c.toNat) ho hd hn hx (by rw [hi']; exact hy) ht hi (small' (by omega) hb) (small63 (by omega)) h
/-- make([]T, n, c): to be appended to; T of one cell. -/
theorem AOp.makeOwnN {α : Type} {f : α → D} {z0 : α} {el bytes : Nat} {z : Value} {n c : Int} (ho : o.op = .makeSlice t x y) (hd : o.dst = some d) (hn : d < C.n)
  (hx : opS ⟨e, obs⟩ x = some (.d (.v (.int .i64 n)))) (hy : opS ⟨e, obs⟩ y = some (.d (.v (.int .i64 c)))) (ht : elemT C.P t = some (el, 1)) (hi : (C.P.info? el).map (fun i => (i.zero, i.size, i.bytes)) = some (some z, 1, bytes)) (hz : z.cells = #[z]) (h1 : z.oneCell' = true)
  (hb : bytes ≤ 32768) (hc : (0 ≤ n ∧ n ≤ c) ∧ c ≤ 4294967296) (hf : f z0 = .v z)
  (h : AO C ops rest ⟨(d, .own obs.length) :: e, obs ++ [.grow el 1 ((List.replicate n.toNat z0).map f)]⟩ Q) : AOp C ops rest o ⟨e, obs⟩ Q := by
 refine AOp.step hd hn (fun Ω a w hr => ?_) h
 obtain ⟨hu, hs⟩ := elemT_spec ht
 obtain ⟨i, hii, hie⟩ : ∃ i, C.P.info? el = some i ∧ (i.zero, i.size, i.bytes) = (some z, 1, bytes) := by
  cases hq : C.P.info? el with
  | none => rw [hq] at hi; cases hi
  | some i => rw [hq] at hi; exact ⟨i, rfl, Option.some.inj hi⟩
 simp only [Prod.mk.injEq] at hie
 obtain ⟨e1, e2, e3⟩ := hie
 have hc' : (c.toNat : Int) = c := Int.toNat_of_nonneg (by omega)
 have hrun := run_make (P := C.P) w t el i z hu hii e1 .i64 .i64 n c hc.1.1 hc.1.2 (by
  rw [e3]
  have h := small' (n := c.toNat) (b := bytes) (by omega) hb
  have h2 : ((bytes * c.toNat : Nat) : Int) ≤ 281474976710656 := by omega
  rwa [Int.natCast_mul, hc'] at h2) (by omega)
 have hm : madeCells z.cells (c.toNat * i.size) = (List.replicate c.toNat z).toArray := by
  rw [hz, e2, Nat.mul_one]
  apply Array.ext'
  rw [toList_madeCells_one]
 rw [hm] at hrun
 have how : (w.alloc (.cells (List.replicate c.toNat z).toArray el)).ownsRow 0 el 1 (.slice (some ⟨w.heap.size, 0, none⟩) n.toNat c.toNat) n.toNat (List.replicate n.toNat z) := by
  refine ⟨by simp, .inr ⟨w.heap.size, c.toNat, _, rfl, Nat.zero_le _, heap_alloc_new w _, by omega, small63 (by omega), by simp, ?_⟩⟩
  simp [Nat.min_eq_left (show n.toNat ≤ c.toNat by omega)]
 have hbel : RowKit.Below w.heap.size w (w.alloc (.cells (List.replicate c.toNat z).toArray el)) := ⟨rfl, rfl, rfl, by simp, fun k hk => heap_alloc_old w _ hk⟩
 have hrel := hr.begin hbel how (cells := (List.replicate n.toNat z0).map f) (fun b hb => by simp [blk] at hb; exact Nat.le_of_eq hb) (by simp) (fun j x v hx hv => by
  have hj := (List.getElem?_eq_some_iff.1 hv).1
  rw [List.length_replicate] at hj
  rw [List.map_replicate, List.getElem?_replicate, if_pos hj] at hx
  rw [List.getElem?_replicate, if_pos hj] at hv
  cases hx; cases hv
  rw [hf]; exact .v _)
 refine ⟨.slice (some ⟨w.heap.size, 0, none⟩) n.toNat c.toNat, _, _, ?_, hrel, .own _ _ ?_⟩
 ·simp only [execOp, ho, hr.evalV hx, hr.evalV hy, Sem.run_bind, hrun, Result.andThen_ok, Sem.run_pure]
 ·have := hr.mem.len
  dsimp only at this
  rw [this, List.getElem?_append_right (Nat.le_refl _)]; simp
theorem AOp.storeL {α : Type} {f : α → SV} {l : List α} {i : Nat} {v : α} {p ty : Nat} {sv : SV} (ho : o.op = .store t x y) (hd : o.dst = none) (hx : opS ⟨e, obs⟩ x = some (.ptr p (0 + i * 1))) (hy : opS ⟨e, obs⟩ y = some sv) (hs : sizeT C.P t = some 1)
  (h1 : (f v).plain = true) (hl : cellsS sv = [f v]) (hp : obs[p]? = some (.fix ty (l.map f))) (hc : i < l.length)
  (h : AO C ops rest ⟨e, obs.set p (.fix ty ((l.set i v).map f))⟩ Q) : AOp C ops rest o ⟨e, obs⟩ Q :=
 AOp.store1 ho hd hx hy hs h1 hl hp (by simp; exact hc) (by rw [List.map_set] at h; simpa using h)
end
end Go.Vm

/- Nil slices in structs of one's own that become slices of one's own; cells of which nothing more is said. -/
set_option linter.unusedVariables false
set_option linter.unusedSimpArgs false
namespace Go.Vm
section
variable {C : Ctx} {Q : Exit → St → Prop} {ops : Array Oper} {rest : List Oper} {o : Oper} {e : List (Nat × SV)} {obs : List Ob} {d : Nat}
theorem AOp.subO (p : Nat) {ty : Nat} {cells cells' : List SV} (hp : obs[p]? = some (.fix ty cells)) (hle : SVL cells cells') (h : AOp C ops rest o ⟨e, obs.set p (.fix ty cells')⟩ Q) : AOp C ops rest o ⟨e, obs⟩ Q := fun Ω a w hr => h Ω a w (hr.subO hp hle)
theorem AO.subO {l : List Oper} (p : Nat) {ty : Nat} {cells cells' : List SV} (hp : obs[p]? = some (.fix ty cells)) (hle : SVL cells cells') (h : AO C ops l ⟨e, obs.set p (.fix ty cells')⟩ Q) : AO C ops l ⟨e, obs⟩ Q := fun Ω a w hr => h Ω a w (hr.subO hp hle)
end
end Go.Vm

/- Slices of which it is told whether they are nil. -/
set_option linter.unusedVariables false
namespace Go.Vm
def oN {α : Type} (f : α → D) : Option α → D
 | none => .v (.slice none 0 0)
 | some l => f l
/-- It is nil, or has elements. -/
def neO {α : Type} : Option (List α) → Bool
 | none => true
 | some l => !l.isEmpty
theorem SVLe.oN {α : Type} {f : List α → D} {sz : Nat} (h : f [] = .ds sz []) (x : Option (List α)) : SVLe (.d (oN f x)) (.d (f (x.getD []))) := by
 cases x with
 | none => show SVLe (.d (.v (.slice none 0 0))) (.d (f [])); rw [h]; exact SVLe.nil sz
 | some l => exact SVLe.refl _
theorem neO_cons {α : Type} {f : List α → D} {x : Option (List α)} (hf : ∀ a l, ∃ sz c cs, f (a :: l) = .ds sz (c :: cs)) (h : neO x = true) : ∀ l, x = some l → ∃ sz c cs, f l = .ds sz (c :: cs) := fun l hl => by
 subst hl
 cases l with
 | nil => cases h
 | cons a l => exact hf a l
section
variable {C : Ctx} {Q : Exit → St → Prop} {ops : Array Oper} {rest : List Oper} {o : Oper} {e : List (Nat × SV)} {obs : List Ob} {d : Nat} {t ty : TypeId} {x y : Operand}
theorem run_eql_slice_nil (P : Program) (w : World) (t e : TypeId) (a : Option Addr) (l c : Nat) (h : P.underlying t = some (.slice e)) : (binOp .eql t (.slice a l c) (.slice none 0 0)).run P w = .ok (.bool a.isNone) w := by
 simp only [binOp]
 simp [run_equal_slice_nil w t e a l c h]
theorem oN_rep {α : Type} {f : List α → D} {x : Option (List α)} (hne : ∀ l, x = some l → ∃ sz c cs, f l = .ds sz (c :: cs)) {w : World} {ok : Nat → Prop} {v : Value} (h : RepD w ok (oN f x) v) : ∃ a l c, v = .slice a l c ∧ a.isNone = x.isNone := by
 cases x with
 | none => cases h; exact ⟨none, 0, 0, rfl, rfl⟩
 | some l =>
  obtain ⟨sz, c, cs, he⟩ := hne l rfl
  have h' : RepD w ok (f l) v := h
  rw [he] at h'
  cases h' with
  | ds _ b off len cap _ vals => exact ⟨_, _, _, rfl, rfl⟩
theorem AOp.nilEql {α : Type} {f : List α → D} {x0 : Option (List α)} {el : TypeId} (ht : C.P.underlying t = some (.slice el)) (ho : o.op = .binOp .eql t x (.const (.slice none 0 0)) ty) (hd : o.dst = some d) (hn : d < C.n)
  (hx : opS ⟨e, obs⟩ x = some (.d (oN f x0))) (hne : ∀ l, x0 = some l → ∃ sz c cs, f l = .ds sz (c :: cs)) (h : AO C ops rest ⟨(d, .d (dbool x0.isNone)) :: e, obs⟩ Q) : AOp C ops rest o ⟨e, obs⟩ Q :=
 AOp.value hd hn (fun Ω a w hr => by
  have h1 := hr.eval hx
  cases h1 with
  | d _ _ h1 =>
   obtain ⟨b, l, c, hv, hb⟩ := oN_rep hne h1
   refine ⟨.bool x0.isNone, ?_, .d _ _ (.v _)⟩
   have hy : a.eval (.const (.slice none 0 0)) = .slice none 0 0 := rfl
   have hg : eqGuard .eql t x (.const (.slice none 0 0)) (.slice b l c) (.slice none 0 0) = pure () := rfl
   simp only [execOp, ho, hv, hy, hg, Sem.run_bind, Sem.run_pure, Result.andThen_ok, run_eql_slice_nil C.P w t el b l c ht, hb]) h
theorem AOp.nilEqlS {p sz off n c : Nat} {el : TypeId} (ht : C.P.underlying t = some (.slice el)) (ho : o.op = .binOp .eql t x (.const (.slice none 0 0)) ty) (hd : o.dst = some d) (hn : d < C.n)
  (hx : opS ⟨e, obs⟩ x = some (.sl p sz off n c)) (h : AO C ops rest ⟨(d, .d (dbool false)) :: e, obs⟩ Q) : AOp C ops rest o ⟨e, obs⟩ Q :=
 AOp.value hd hn (fun Ω a w hr => by
  have h1 := hr.eval hx
  generalize hv : a.eval x = v at h1
  cases h1 with
  | sl _ _ _ l c b h1 =>
   refine ⟨.bool false, ?_, .d _ _ (.v _)⟩
   have hy : a.eval (.const (.slice none 0 0)) = .slice none 0 0 := rfl
   have hg : eqGuard .eql t x (.const (.slice none 0 0)) (.slice (some ⟨b, off, none⟩) n c) (.slice none 0 0) = pure () := rfl
   simp only [execOp, ho, hv, hy, hg, Sem.run_bind, Sem.run_pure, Result.andThen_ok, run_eql_slice_nil C.P w t el (some ⟨b, off, none⟩) n c ht, Option.isNone]) h
end
end Go.Vm

/- Elements of growing slices of one's own: read and written. -/
set_option linter.unusedVariables false
set_option linter.unusedSimpArgs false
namespace Go.Vm
section
variable {C : Ctx} {Q : Exit → St → Prop} {ops : Array Oper} {rest : List Oper} {o : Oper} {e : List (Nat × SV)} {obs : List Ob} {d : Nat}
/-- What the slice is, if it has elements. -/
theorem Rel.growP {Ω : List Value} {a : Act} {w : World} (hr : Rel C ⟨e, obs⟩ Ω a w) {p : Nat} {ty sz : Nat} {cells : List D} {h : Value} (hp : obs[p]? = some (.grow ty sz cells)) (hΩ : Ω[p]? = some h) (h0 : 0 < cells.length) :
  ∃ g n cap cur, h = .slice (some ⟨g, 0, none⟩) n cap ∧ w.heap[g]? = some (.cells cur ty (0, 0)) ∧ cells.length = n * sz ∧ n ≤ cap ∧ cap ≤ maxLen ∧ cur.size = cap * sz ∧
   (∀ (i : Nat) x, cells[i]? = some x → ∃ y, cur.toList[i]? = some y ∧ RepD w (okB C obs Ω w) x y) := by
 obtain ⟨n, xs, ⟨hl, ho⟩, hxl, hrr⟩ := hr.mem.obj p _ _ hp hΩ
 rcases ho with ⟨_, hn⟩ | ⟨g, cap, cur, hv, _, hw, hnc, hcm, hcs, htk⟩
 ·exfalso; rw [hn] at hl; simp at hl; rw [hl] at hxl; simp at hxl; omega
 ·refine ⟨g, n, cap, cur, hv, hw, by omega, hnc, hcm, hcs, fun i x hx => ?_⟩
  have hi := (List.getElem?_eq_some_iff.1 hx).1
  obtain ⟨y, hxi⟩ : ∃ y, xs[i]? = some y := ⟨_, List.getElem?_eq_getElem (by omega)⟩
  refine ⟨y, ?_, hrr i x y hx hxi⟩
  rw [← htk, List.getElem?_take] at hxi
  split at hxi
  ·exact hxi
  ·cases hxi
theorem Rel.ptrG' {Ω : List Value} {a : Act} {w : World} (hr : Rel C ⟨e, obs⟩ Ω a w) {p off : Nat} {ty sz : Nat} {cells : List D} {v : Value} (hp : obs[p]? = some (.grow ty sz cells)) (h0 : 0 < cells.length)
  (hv : RepS w (okB C obs Ω w) Ω (.ptr p off) v) : ∃ g n cap cur, v = .pointer (some ⟨g, off, none⟩) ∧ Ω[p]? = some (.slice (some ⟨g, 0, none⟩) n cap) ∧ w.heap[g]? = some (.cells cur ty (0, 0)) ∧ cells.length = n * sz ∧ n ≤ cap ∧ cap ≤ maxLen ∧ cur.size = cap * sz ∧
   (∀ (i : Nat) x, cells[i]? = some x → ∃ y, cur.toList[i]? = some y ∧ RepD w (okB C obs Ω w) x y) := by
 cases hv with
 | ptr _ _ b hb =>
  obtain ⟨g, n, cap, cur, h1, _⟩ := hr.growP hp hb h0
  cases h1
 | ptrG _ _ b len cap hb =>
  obtain ⟨g, n, cap, cur, h1, h2⟩ := hr.growP hp hb h0
  cases h1
  exact ⟨b, len, cap, cur, rfl, hb, h2⟩
theorem AOp.indexOwn {t el sz : TypeId} {x ix : Operand} {k : IntKind} {i : Int} {p n : Nat} {cells : List D} (ho : o.op = .indexAddr t x ix) (hd : o.dst = some d) (hn : d < C.n) (hx : opS ⟨e, obs⟩ x = some (.own p))
  (hi : opS ⟨e, obs⟩ ix = some (.d (.v (.int k i)))) (ht : elemT C.P t = some (el, sz)) (hp : obs[p]? = some (.grow el sz cells)) (hs : 0 < sz) (hc : cells.length = n * sz) (h0 : 0 ≤ i) (h1 : i < (n : Int))
  (h : AO C ops rest ⟨(d, .ptr p (i.toNat * sz)) :: e, obs⟩ Q) : AOp C ops rest o ⟨e, obs⟩ Q :=
 AOp.value hd hn (fun Ω a w hr => by
  have hi := hr.evalV hi
  have hv := hr.eval hx
  generalize hev : a.eval x = v at hv
  cases hv with
  | own _ _ hb _ =>
   have hpos : 0 < cells.length := by
    rw [hc]; exact Nat.mul_pos (by omega) hs
   obtain ⟨g, m, cap, cur, rfl, hw, hcl, _⟩ := hr.growP hp hb hpos
   have hmn : m = n := Nat.eq_of_mul_eq_mul_right hs (by rw [← hcl, hc])
   subst hmn
   refine ⟨_, ?_, .ptrG p (i.toNat * sz) g m cap hb⟩
   have := run_indexSlice (P := C.P) ht k i g 0 m cap h0 h1 (w := w)
   simp only [Nat.zero_add] at this
   simp only [execOp, ho, hev, hi, this, Sem.run_bind, Sem.run_pure, Result.andThen_ok]) h
theorem AOp.loadO1 {t : TypeId} {x : Operand} {p off : Nat} {ty sz : Nat} {cells : List D} {y : D} (ho : o.op = .load t x) (hd : o.dst = some d) (hn : d < C.n) (hx : opS ⟨e, obs⟩ x = some (.ptr p off))
  (ht : aggT C.P t = some false) (hp : obs[p]? = some (.grow ty sz cells)) (hc : cells[off]? = some y) (h : AO C ops rest ⟨(d, .d y) :: e, obs⟩ Q) : AOp C ops rest o ⟨e, obs⟩ Q :=
 AOp.value hd hn (fun Ω a w hr => by
  have hlt := (List.getElem?_eq_some_iff.1 hc).1
  obtain ⟨g, n, cap, cur, hev, hΩ, hw, hcl, _, _, _, hrr⟩ := hr.ptrG' hp (by omega) (hr.eval hx)
  obtain ⟨v, hv, hrep⟩ := hrr off y hc
  refine ⟨v, ?_, .d _ _ hrep⟩
  have hcell : w.cell? ⟨g, off, none⟩ = some v := by rw [cell_of_row w g off cur ty (0, 0) hw]; simpa using hv
  simp only [execOp, ho, hev, Instr.loadAt, Instr.sureAddr, Sem.run_bind, Sem.run_pure, Result.andThen_ok, run_load1 ht hcell]) h
theorem Mem.setG {C : Ctx} {obs : List Ob} {Ω : List Value} {w : World} (h : Mem C obs Ω w) {o g n cap sz : Nat} {ty : TypeId} {cells cells' : List D} {cur cur' : List Value} (ho : obs[o]? = some (.grow ty sz cells))
  (hΩ : Ω[o]? = some (.slice (some ⟨g, 0, none⟩) n cap)) (hw : w.heap[g]? = some (.cells cur.toArray ty (0, 0))) (hcl : cells'.length = n * sz) (hnc : n ≤ cap) (hcm : cap ≤ maxLen) (hcs : cur'.length = cap * sz)
  (hr : ∀ (i : Nat) x, cells'[i]? = some x → ∃ y, cur'[i]? = some y ∧ RepD w (okB C obs Ω w) x y) :
  Mem C (obs.set o (.grow ty sz cells')) Ω (w.setRow g cur'.toArray) ∧ (∀ k, okB C obs Ω w k → okB C (obs.set o (.grow ty sz cells')) Ω (w.setRow g cur'.toArray) k ∧ (w.setRow g cur'.toArray).heap[k]? = w.heap[k]?) := by
 have hok : ∀ k, okB C obs Ω w k → okB C (obs.set o (.grow ty sz cells')) Ω (w.setRow g cur'.toArray) k ∧ (w.setRow g cur'.toArray).heap[k]? = w.heap[k]? := by
  intro k hk
  refine ⟨okB_set ho (.inl rfl) (by simp) hk, setRow_other w g k _ fun e => ?_⟩
  subst e
  exact hk.2.2 o _ _ ho rfl hΩ rfl
 refine ⟨⟨by simp [h.len], fun i ob k e1 e2 => ?_, fun i j a c p q x hij e1 e2 l1 l2 e3 e4 hp => ?_, fun i ob p x e1 l1 e2 hp => ?_, ?_⟩, hok⟩
 ·rcases get_set e1 with ⟨rfl, rfl, _⟩ | ⟨hi, e1⟩
  ·rw [hΩ] at e2; cases e2
   have hle : n * sz ≤ cap * sz := Nat.mul_le_mul_right _ hnc
   refine ⟨n, cur'.take (n * sz), ⟨by simp; omega, .inr ⟨g, cap, cur'.toArray, rfl, Nat.zero_le _, setRow_heap w g _ _ ty _ hw, hnc, hcm, by simp [hcs], by simp⟩⟩, by simp; omega, fun i x y hx hy => ?_⟩
   obtain ⟨z, hz, hrep⟩ := hr i x hx
   rw [List.getElem?_take] at hy
   split at hy
   ·rw [hz] at hy; cases hy; exact hrep.mono hok
   ·cases hy
  ·refine (h.obj i ob k e1 e2).mono hok (fun _ _ e => e) fun c hc hv => setRow_other w g c _ fun e => ?_
   subst e
   exact h.sep o i _ _ _ _ _ (Ne.symm hi) ho e1 rfl hv hΩ e2 rfl hc
 ·rcases get_set e1 with ⟨f1, f2, _⟩ | ⟨hi, f1⟩ <;> rcases get_set e2 with ⟨g1, g2, _⟩ | ⟨hj, g1⟩
  ·exact (hij (f1.trans g1.symm)).elim
  ·subst f1; exact h.sep i j _ _ p q x hij ho g1 rfl l2 e3 e4 hp
  ·subst g1; exact h.sep i j _ _ p q x hij f1 ho l1 rfl e3 e4 hp
  ·exact h.sep i j a c p q x hij f1 g1 l1 l2 e3 e4 hp
 ·rcases get_set e1 with ⟨rfl, rfl, _⟩ | ⟨hi, e1⟩
  ·exact h.new i _ p x ho rfl e2 hp
  ·exact h.new i ob p x e1 l1 e2 hp
 ·refine ⟨h.fr.os, h.fr.tape, h.fr.output, by simp; exact h.fr.size, fun c e1 e2 => ?_, h.fr.glob⟩
  rw [setRow_other w g c _ fun e => ?_]
  ·exact h.fr.block c e1 e2
  ·subst e
   rcases h.new o _ _ c ho rfl hΩ rfl with hn | hn
   ·omega
   ·exact e2 hn
/-- One element, of one cell, is written. -/
theorem AOp.storeO1 {t : TypeId} {x y : Operand} {p off : Nat} {ty sz : Nat} {cells : List D} {z : D} (ho : o.op = .store t x y) (hd : o.dst = none) (hx : opS ⟨e, obs⟩ x = some (.ptr p off)) (hy : opS ⟨e, obs⟩ y = some (.d z))
  (hs : sizeT C.P t = some 1) (h1 : (SV.d z).plain = true) (hl : cellsS (.d z) = [.d z]) (hp : obs[p]? = some (.grow ty sz cells)) (hc : off < cells.length)
  (h : AO C ops rest ⟨e, obs.set p (.grow ty sz (cells.set off z))⟩ Q) : AOp C ops rest o ⟨e, obs⟩ Q := by
 refine AOp.skip hd (fun Ω a w hr => ?_) h
 obtain ⟨g, n, cap, cur, hev, hΩ, hw, hcl, hnc, hcm, hcs, hrr⟩ := hr.ptrG' hp (by omega) (hr.eval hx)
 obtain ⟨us, huc, hul, hur, huone⟩ := (hr.eval hy).cells (by rw [hl]; simp [h1])
 rw [hl] at hul hur
 obtain ⟨v, rfl⟩ : ∃ v, us = [v] := by
  cases us with
  | nil => simp at hul
  | cons v r => cases r with
   | nil => exact ⟨v, rfl⟩
   | cons => simp at hul
 have hrep : RepS w (okB C obs Ω w) Ω (.d z) v := hur 0 _ _ rfl rfl
 have hlen : cells.length ≤ cur.toList.length := by rw [hcl]; simp [hcs]; exact Nat.mul_le_mul_right _ hnc
 have hst := run_storeCells_at C.P g off ty [v] 0 cur.toList.toArray w (by simpa using hw) (by simp at hlen ⊢; omega) huone
 simp only [Nat.add_zero] at hst
 have hset : cur.toList.take off ++ [v] ++ cur.toList.drop (off + [v].length) = cur.toList.set off v := by
  rw [List.set_eq_take_append_cons_drop, if_pos (by omega)]; simp
 have key := hr.mem.setG hp hΩ (cur := cur.toList) (by simpa using hw) (cells' := cells.set off z) (cur' := cur.toList.take off ++ [v] ++ cur.toList.drop (off + [v].length)) (by simpa using hcl) hnc hcm (by rw [hset]; simpa using hcs) (fun i x hx => by
  rw [hset]
  by_cases hi : off = i
  ·subst hi
   rw [List.getElem?_set_self hc] at hx
   cases hx
   refine ⟨v, by rw [List.getElem?_set_self (by omega)], ?_⟩
   cases hrep with
   | d _ _ hd => exact hd
  ·rw [List.getElem?_set_ne hi] at hx ⊢
   exact hrr i x hx)
 have hrel : Rel C ⟨e, obs.set p (.grow ty sz (cells.set off z))⟩ Ω a (w.setRow g (cur.toList.take off ++ [v] ++ cur.toList.drop (off + [v].length)).toArray) :=
  ⟨hr.defers, hr.size, fun t x hx => let ⟨v, hv, hr'⟩ := hr.env t x hx; ⟨v, hv, hr'.mono key.2 (fun _ _ e => e)⟩, key.1⟩
 refine ⟨_, Ω, ?_, hrel⟩
 have hsz : (a.eval y).cells.size = 1 := by rw [huc]; rfl
 have huc' : (a.eval y).cells.toList = [v] := by rw [huc]
 simp only [execOp, ho, hev, Instr.storeAt, Instr.sureAddr, storeVar, Sem.run_bind, Sem.run_pure, Result.andThen_ok, run_sizeOf hs, hsz, ne_eq, not_true_eq_false, if_false, huc', hst, Sem.run_ite]
theorem AOp.storeOL {α : Type} {f : α → D} {l : List α} {i : Nat} {v : α} {t : TypeId} {x y : Operand} {p : Nat} {ty : Nat} (ho : o.op = .store t x y) (hd : o.dst = none) (hx : opS ⟨e, obs⟩ x = some (.ptr p (i * 1))) (hy : opS ⟨e, obs⟩ y = some (.d (f v)))
  (hs : sizeT C.P t = some 1) (h1 : (SV.d (f v)).plain = true) (hl : cellsS (.d (f v)) = [.d (f v)]) (hp : obs[p]? = some (.grow ty 1 (l.map f))) (hc : i < l.length)
  (h : AO C ops rest ⟨e, obs.set p (.grow ty 1 ((l.set i v).map f))⟩ Q) : AOp C ops rest o ⟨e, obs⟩ Q :=
 AOp.storeO1 ho hd hx hy hs h1 hl hp (by simpa using hc) (by rw [List.map_set] at h; simpa using h)
end
end Go.Vm

/- Regions that draw their order, in which some operations turn memory while others still wait. -/
set_option linter.unusedVariables false
set_option linter.unusedSimpArgs false
namespace Go.Vm

def drE (sv : SV → Bool) (e : Env) : Env := fun t => (e t).bind fun y => if sv y = true then some y else none
def dropS (sv : SV → Bool) : List Nat → List (Nat × SV) → List (Nat × SV)
 | _, [] => []
 | seen, (k, x) :: r => if seen.contains k then dropS sv seen r else if sv x then (k, x) :: dropS sv (k :: seen) r else dropS sv (k :: seen) r
theorem get_dropS (sv : SV → Bool) : ∀ (e : List (Nat × SV)) (seen : List Nat) (t : Nat), get (dropS sv seen e) t = if t ∈ seen then none else drE sv (get e) t
 | [], seen, t => by simp [dropS, get, drE]
 | (k, x) :: r, seen, t => by
  simp only [dropS]
  split
  ·rename_i hk
   rw [get_dropS sv r seen t]
   split
   ·rfl
   ·rename_i ht
    have : k ≠ t := fun e => ht (by subst e; simpa using hk)
    simp [drE, get, this]
  ·rename_i hk
   have hk' : k ∉ seen := by simpa using hk
   split
   ·rename_i hx
    simp only [get]
    split
    ·rename_i e; subst e; rw [if_neg hk']; simp [drE, get, hx]
    ·rename_i e
     rw [get_dropS sv r (k :: seen) t]
     simp [drE, get, e, Ne.symm e]
   ·rename_i hx
    rw [get_dropS sv r (k :: seen) t]
    by_cases e : k = t
    ·subst e; simp [hk', drE, get, hx]
    ·simp [drE, get, e, Ne.symm e]
theorem drE_some {sv : SV → Bool} {e : Env} {t : Nat} {y : SV} (h : drE sv e t = some y) : e t = some y ∧ sv y = true := by
 unfold drE at h
 cases he : e t with
 | none => rw [he] at h; cases h
 | some z =>
  rw [he, Option.bind_some] at h
  split at h
  ·rename_i hz; cases h; exact ⟨rfl, hz⟩
  ·cases h
theorem drE_upd {sv : SV → Bool} {e : Env} {d : Option Nat} {x : SV} (h : sv x = true) : drE sv (upd e d x) = upd (drE sv e) d x := by
 cases d with
 | none => rfl
 | some d => funext t; simp only [drE, upd]; split <;> simp [h]

section
variable {C : Ctx} {ops : Array Oper} {md : Region.Mode}

/-- o turns memory from ob to ob'. -/
def MV (C : Ctx) (ops : Array Oper) (ob ob' : List Ob) (sv : SV → Bool) (o : Oper) (x : SV) (e : Env) : Prop :=
 o.guard = none ∧ ∀ (l : List (Nat × SV)), (∀ t, t ∈ o.looksAt ops → get l t = e t) → ∀ Ω a w, Rel C ⟨l, ob⟩ Ω a w →
  o.wp C.P a w (fun a' w' => ∃ (l' : List (Nat × SV)) (Ω' : List Value), get l' = upd (drE sv (get l)) o.dst x ∧ Rel C ⟨l', ob'⟩ Ω' a' w') (fun _ _ _ => False)

/-- hs: what gives values; ms: what turns memory, in its order; OL: the objects ahead of each of ms, and at the end; SL: what outlives each of ms. -/
structure Plan where
 hs : List Nat
 ms : List Nat
 OL : List (List Ob)
 SL : List (SV → Bool)

/-- Number i may come up behind the first k of those that turn memory. -/
def relK (md : Region.Mode) (ops : Array Oper) (p : Plan) (i : Nat) : Nat → Bool
 | 0 => true
 | k + 1 => match p.ms[k]? with
  | some j => !ancB md ops ops.size j i
  | none => true
def YA (C : Ctx) (md : Region.Mode) (ops : Array Oper) (p : Plan) (i : Nat) (o : Oper) (x : SV) (e : Env) : Prop := ∀ (k : Nat) (ob : List Ob), p.OL[k]? = some ob → relK md ops p i k = true → YV C ops ob o x e
/-- What o looks at outlives what the others turn, those that do not wait for it. -/
def SU (md : Region.Mode) (ops : Array Oper) (p : Plan) (i : Nat) (o : Oper) (x : SV) (e : Env) : Prop := ∀ (k : Nat) (sv : SV → Bool) (j : Nat), p.SL[k]? = some sv → p.ms[k]? = some j → ancB md ops ops.size j i = false → sv x = true ∧ ∀ t, t ∈ o.looksAt ops → ∀ y, e t = some y → sv y = true
def DN (p : Plan) (listed : Array Bool) (k : Nat) : Prop := ∀ (k' j : Nat), k' < k → p.ms[k']? = some j → listed.getD j false = true

def wpAnyT (C : Ctx) (md : Region.Mode) (ops : Array Oper) (p : Plan) (L : Array Bool → Env → Prop) : Nat → Array Bool → Env → Nat → Prop
 | 0, listed, e, k => k = p.ms.length ∧ L listed e
 | f + 1, listed, e, k => Region.ready md ops listed ≠ [] ∧ ∀ i ∈ Region.ready md ops listed,
   (i ∈ p.hs ∧ ∃ o x ob, ops[i]? = some o ∧ p.OL[k]? = some ob ∧ YV C ops ob o x e ∧ wpAnyT C md ops p L f (listed.setIfInBounds i true) (upd e o.dst x) k) ∨
   (p.ms[k]? = some i ∧ ∃ o x ob ob' sv, ops[i]? = some o ∧ p.OL[k]? = some ob ∧ p.OL[k + 1]? = some ob' ∧ p.SL[k]? = some sv ∧ MV C ops ob ob' sv o x e ∧
    wpAnyT C md ops p L f (listed.setIfInBounds i true) (upd (drE sv e) o.dst x) (k + 1))

/-- The walk: what gives values first, then what turns memory. -/
def AM (C : Ctx) (ops : Array Oper) (p : Plan) : Nat → List Nat → List (Nat × SV) → (St → Prop) → Prop
 | k, [], e, K => ∃ ob, p.OL[k]? = some ob ∧ K ⟨e, ob⟩
 | k, i :: is, e, K => ∃ o x ob ob' sv l', ops[i]? = some o ∧ p.OL[k]? = some ob ∧ p.OL[k + 1]? = some ob' ∧ p.SL[k]? = some sv ∧ MV C ops ob ob' sv o x (get e) ∧ get l' = upd (drE sv (get e)) o.dst x ∧ AM C ops p (k + 1) is l' K
def AH (C : Ctx) (md : Region.Mode) (ops : Array Oper) (p : Plan) : List Nat → List (Nat × SV) → (List (Nat × SV) → Prop) → Prop
 | [], e, K => K e
 | i :: rest, e, K => ∃ o x l', ops[i]? = some o ∧ YA C md ops p i o x (get e) ∧ SU md ops p i o x (get e) ∧ get l' = upd (get e) o.dst x ∧ AH C md ops p rest l' K

def drawMB (ops : Array Oper) (hs ms ts : List Nat) : Bool :=
 hs.all (· < ops.size) && ts.all (· < ops.size) && ts.all (fun t => !(hs ++ ms).contains t) && (hs.length + ms.length + ts.length == ops.size) &&
 ((List.range ops.size).all fun t => (hs ++ ms).contains t || (ts.contains t && (hs ++ ms).all (ancB .any ops ops.size t))) && headO .any ops (ms ++ ts) hs (Array.replicate ops.size false)

/-! ### How the walk is printed -/
variable {p : Plan} {rest : List Oper} {o : Oper} {e L : List (Nat × SV)} {d j dj : Nat} {x : SV} {want b : Bool} {K : List (Nat × SV) → Prop} {KS : St → Prop}
def GA (C : Ctx) (ops : Array Oper) (OL : List (List Ob)) (ks : List Nat) (o : Oper) (L : List (Nat × SV)) (d : Nat) (x : SV) : Prop := ∀ k ∈ ks, ∀ ob, OL[k]? = some ob → Gives C ops ob o L d x
theorem GA.nil {OL : List (List Ob)} {o : Oper} {L : List (Nat × SV)} {d : Nat} {x : SV} : GA C ops OL [] o L d x := fun k h => by cases h
theorem GA.cons {OL : List (List Ob)} {k : Nat} {ks : List Nat} {o : Oper} {L : List (Nat × SV)} {d : Nat} {x : SV} {ob : List Ob} (hk : OL[k]? = some ob) (h : Gives C ops ob o L d x) (t : GA C ops OL ks o L d x) : GA C ops OL (k :: ks) o L d x := fun k' hk' ob' hb => by
 rcases List.mem_cons.1 hk' with rfl | h'
 ·rw [hk] at hb; cases hb; exact h
 ·exact t k' h' ob' hb
def SA (SL : List (SV → Bool)) (L : List (Nat × SV)) (x : SV) : List Nat → Bool
 | [] => true
 | k :: ks => (match SL[k]? with | some sv => sv x && L.all fun q => sv q.2 | none => true) && SA SL L x ks
theorem SA.spec {SL : List (SV → Bool)} {L : List (Nat × SV)} {x : SV} : ∀ {ks : List Nat}, SA SL L x ks = true → ∀ k ∈ ks, ∀ sv, SL[k]? = some sv → sv x = true ∧ L.all (fun q => sv q.2) = true
 | [], _, k, hk, _, _ => by cases hk
 | k0 :: ks, h, k, hk, sv, hsv => by
  simp only [SA, Bool.and_eq_true] at h
  rcases List.mem_cons.1 hk with rfl | h'
  ·rw [hsv] at h; simpa using h.1
  ·exact SA.spec h.2 k h' sv hsv
/-- ks: behind how many of those that turn memory number i may come up; ss: which of them do not wait for it. -/
def relB (ops : Array Oper) (ms : List Nat) (i : Nat) (ks ss : List Nat) : Bool :=
 (List.range (ms.length + 1)).all (fun k => (match k with | 0 => false | k + 1 => match ms[k]? with | some j => ancB .any ops ops.size j i | none => false) || ks.contains k) &&
 (List.range ms.length).all (fun k => (match ms[k]? with | some j => ancB .any ops ops.size j i | none => false) || ss.contains k)
theorem keep_all {ks : List Nat} (hk : keep ks e = some L) (hl : looksB ops o ks = true) {sv : SV → Bool} (h : L.all (fun q => sv q.2) = true) : ∀ t, t ∈ o.looksAt ops → ∀ y, get e t = some y → sv y = true := fun t ht y hy => by
 simp only [looksB, Bool.and_eq_true, List.all_eq_true, List.contains_iff_mem] at hl
 obtain ⟨h1, _⟩ := (keep_get' hk t).1 (hl.1 t ht)
 rw [← h1] at hy
 have hmem : ∀ {l : List (Nat × SV)}, get l t = some y → (t, y) ∈ l := fun {l} => by
  induction l with
  | nil => intro h; cases h
  | cons q l ih =>
   obtain ⟨k, z⟩ := q
   intro h
   simp only [get] at h
   split at h
   ·rename_i e; subst e; cases h; simp
   ·simp [ih h]
 exact List.all_eq_true.1 h _ (hmem hy)
theorem AH.done (h : AM C ops p 0 p.ms e KS) : AH C .any ops p [] e (fun e' => AM C ops p 0 p.ms e' KS) := h
theorem AH.op {i : Nat} {is : List Nat} (ls ks ss : List Nat) (h0 : ops[i]? = some o) (hg : o.guard = none) (hl : looksB ops o ls = true) (hrel : relB ops p.ms i ks ss = true) (hlen : p.OL.length = p.ms.length + 1) (hk : keep ls e = some L) (hd : o.dst = some d)
  (hv : GA C ops p.OL ks o L d x) (hs : SA p.SL L x ss = true) (h : AH C .any ops p is ((d, x) :: e) K) : AH C .any ops p (i :: is) e K := by
 simp only [relB, Bool.and_eq_true, List.all_eq_true, List.mem_range, Bool.or_eq_true, List.contains_iff_mem] at hrel
 refine ⟨o, x, (d, x) :: e, h0, fun k ob hob hr => .inl ⟨by unfold wantE; rw [hg], VQ.of hk hl hd (hv k ?_ ob hob)⟩, fun k sv j h1 h2 h3 => ?_, by rw [hd, get_upd], h⟩
 ·have hlt := (List.getElem?_eq_some_iff.1 hob).1
  rcases hrel.1 k (by omega) with h | h
  ·exfalso
   cases k with
   | zero => cases h
   | succ k =>
    simp only [relK] at hr
    simp only at h
    split at h
    ·rename_i j hj
     rw [hj] at hr
     simp [h] at hr
    ·cases h
  ·exact h
 ·have hlt := (List.getElem?_eq_some_iff.1 h2).1
  rcases hrel.2 k hlt with h | h
  ·rw [h2] at h; simp only at h; rw [h3] at h; cases h
  ·obtain ⟨q1, q2⟩ := SA.spec hs k h sv h1
   exact ⟨q1, keep_all hk hl q2⟩
theorem AM.done {k : Nat} {ob : List Ob} (h1 : p.OL[k]? = some ob) (h : KS ⟨e, ob⟩) : AM C ops p k [] e KS := ⟨ob, h1, h⟩
theorem AM.op {k i : Nat} {is : List Nat} (ks : List Nat) {ob ob' : List Ob} {sv : SV → Bool} (h1 : ops[i]? = some o) (h2 : p.OL[k]? = some ob) (h3 : p.OL[k + 1]? = some ob') (h4 : p.SL[k]? = some sv) (hg : o.guard = none)
  (hl : looksB ops o ks = true) (hk : keep ks e = some L) (hd : o.dst = some d)
  (hv : ∀ (e : List (Nat × SV)) (Q : Exit → St → Prop), AO C ops [] ⟨(d, x) :: dropS sv [] (L ++ e), ob'⟩ Q → AOp C ops [] o ⟨L ++ e, ob⟩ Q)
  {e' : List (Nat × SV)} (he : dropS sv [] e = e') (h : AM C ops p (k + 1) is ((d, x) :: e') KS) : AM C ops p k (i :: is) e KS := by
 subst he
 have hdr : ∀ l : List (Nat × SV), get (dropS sv [] l) = drE sv (get l) := fun l => by funext t; rw [get_dropS]; simp
 refine ⟨o, x, ob, ob', sv, (d, x) :: dropS sv [] e, h1, h2, h3, h4, ⟨hg, ?_⟩, by rw [hd, get_upd, hdr], h⟩
 intro l hg' Ω a w hr
 simp only [looksB, Bool.and_eq_true, List.all_eq_true, List.contains_iff_mem] at hl
 have hsame : ∀ t, get (L ++ l) t = get l t := fun t => by
  rw [get_append]
  by_cases ht : t ∈ ks
  ·obtain ⟨h1, h2⟩ := (keep_get' hk t).1 ht
   rw [h1]
   have := hg' t (hl.2 t ht)
   rw [this]
   cases get e t <;> rfl
  ·rw [(keep_get' hk t).2 ht]
 have hr' : Rel C ⟨L ++ l, ob⟩ Ω a w := hr.congr fun t y hy => by rw [← hsame t]; exact hy
 have H := hv l (fun ed s => ed = .normal ∧ s = ⟨(d, x) :: dropS sv [] (L ++ l), ob'⟩) (AO.nil ⟨rfl, rfl⟩) Ω a w hr'
 refine wp_monoQ (fun a' w' hq => ?_) (fun ed a' w' hne hq => ?_) H
 ·obtain ⟨s, Ω', hr2, _, hs⟩ := hq
  subst hs
  refine ⟨_, Ω', ?_, hr2⟩
  rw [hd, get_upd, hdr]
  congr 1
  congr 1
  funext t; exact hsame t
 ·obtain ⟨s, Ω', _, he, _⟩ := hq
  exact hne he
end
section
variable {C : Ctx} {Q : Exit → St → Prop} {ops : Array Oper} {rest : List Oper} {o : Oper} {e : List (Nat × SV)} {obs : List Ob} {d : Nat}
theorem dropO_dropS (p : Nat) : ∀ (e : List (Nat × SV)) (seen : List Nat), dropO p seen e = dropS (SV.noO p) seen e
 | [], seen => rfl
 | (k, x) :: r, seen => by simp only [dropO, dropS, dropO_dropS p r]
/-- The slots that remain are told. -/
theorem AO.forget {l : List Oper} {e' : List (Nat × SV)} (hg : ∀ t y, get e' t = some y → get e t = some y) (h : AO C ops l ⟨e', obs⟩ Q) : AO C ops l ⟨e, obs⟩ Q := fun Ω a w hr => h Ω a w (hr.congr hg)
theorem AO.dropped {l : List Oper} {p : Nat} {x : SV} (h : AO C ops l ⟨(d, x) :: dropS (SV.noO p) [] e, obs⟩ Q) : AO C ops l ⟨(d, x) :: dropO p [] e, obs⟩ Q := by rw [dropO_dropS]; exact h
theorem thaw_noO {p : Nat} {x : D} {y : SV} (h : y.noO p = true) : y.thaw p x = y := by
 cases y with
 | own q => simp [SV.thaw, SV.noO] at *; exact fun e => absurd e h
 | sl q sz off len cap => simp [SV.thaw, SV.noO] at *; intro e; exact absurd e h
 | ag l =>
  simp only [SV.thaw, SV.noO] at *
  congr 1
  have : ∀ z ∈ l, (match z with | .own q => if q = p then SV.d x else .own q | z => z) = z := fun z hz => by
   obtain ⟨i, hi⟩ := List.getElem?_of_mem hz
   have := SV.noOL_get h hi
   cases z <;> first | rfl | (simp [SV.noO] at this; simp [this])
  exact (List.map_congr_left this).trans (List.map_id' l)
 | _ => rfl
theorem thawE_some {p : Nat} {x : D} : ∀ {e : List (Nat × SV)} {t : Nat} {y : SV}, get e t = some y → get (thawE p x e) t = some (y.thaw p x)
 | [], _, _, h => by cases h
 | (k, z) :: r, t, y, h => by
  simp only [thawE, get] at h ⊢
  split at h
  ·rename_i hk; cases h; rw [if_pos hk]
  ·rename_i hk; rw [if_neg hk]; exact thawE_some h
/-- A slice of one's own becomes data in one slot; the others are forgotten. -/
theorem AOp.freezeDrop (t p : Nat) {ty sz : Nat} {cells : List D} (hm : C.may = []) (hx : get e t = some (.own p)) (hp : obs[p]? = some (.grow ty sz cells))
  (h : AOp C ops rest o ⟨(t, .d (.ds sz cells)) :: dropS (SV.noO p) [] e, obs.set p .dead⟩ Q) : AOp C ops rest o ⟨e, obs⟩ Q := fun Ω a w hr => by
 refine h Ω a w ((hr.freezeGrow hm hp).congr fun q y hq => ?_)
 simp only [get] at hq
 split at hq
 ·rename_i hqt; subst hqt; cases hq
  rw [thawE_some hx]
  simp [SV.thaw]
 ·rw [get_dropS] at hq
  simp only [List.not_mem_nil, if_false] at hq
  obtain ⟨h1, h2⟩ := drE_some hq
  rw [thawE_some h1, thaw_noO h2]
theorem AO.forget1 {l : List Oper} {t d : Nat} {x y : SV} {sv : SV → Bool} (hx : sv x = false ∨ True) (h : AO C ops l ⟨(d, y) :: dropS sv [] e, obs⟩ Q) (hn : get (dropS sv [] e) t = none ∨ t = d ∨ get (dropS sv [] e) t = some x) : AO C ops l ⟨(d, y) :: (t, x) :: dropS sv [] e, obs⟩ Q :=
 AO.forget (fun q z hq => by
  simp only [get] at hq ⊢
  split at hq
  ·rename_i h; rw [if_pos h]; exact hq
  ·rename_i h
   rw [if_neg h]
   by_cases ht : t = q
   ·subst ht
    rw [if_pos rfl]
    rcases hn with hn | hn | hn
    ·rw [hn] at hq; cases hq
    ·exact absurd hn.symm h
    ·rw [hn] at hq; exact hq
   ·rw [if_neg ht]; exact hq) h
/-- A slot that is dropped is not there. -/
theorem dropped_none {p : Nat} {t : Nat} {e : List (Nat × SV)} {x : SV} (hx : get e t = some x) (h : x.noO p = false) : get (dropS (SV.noO p) [] e) t = none := by
 rw [get_dropS]; simp [drE, hx, h]
end
end Go.Vm

/- Plain Lean about printed functions: steps, elements, loops that scan a list. -/
set_option linter.unusedVariables false
set_option linter.unusedSimpArgs false
namespace Go.Vm
theorem in64 {z : Int} (h1 : 0 ≤ z) (h2 : z ≤ 9223372036854775807) : inI .i64 z := ⟨by simp only [lo]; omega, by simp only [hi]; omega⟩
theorem in64m {z : Int} (h1 : -9223372036854775808 ≤ z) (h2 : z ≤ 9223372036854775807) : inI .i64 z := ⟨by simp only [lo]; omega, by simp only [hi]; omega⟩
theorem inu64 {z : Int} (h1 : 0 ≤ z) (h2 : z ≤ 18446744073709551615) : inI .u64 z := ⟨by simp only [lo]; omega, by simp only [hi]; omega⟩
theorem cond_t {α : Type} {b : Bool} (h : b = true) (x y : α) : cond b x y = x := by rw [h]; rfl
theorem cond_f {α : Type} {b : Bool} (h : b = false) (x y : α) : cond b x y = y := by rw [h]; rfl
theorem nT {p : Prop} [Decidable p] (h : ¬ p) : (!decide p) = true := by simp [h]
theorem nF {p : Prop} [Decidable p] (h : p) : (!decide p) = false := by simp [h]
theorem aft_inl {V R T : Type} (v : V) (ret : R → Option T) (k : V → Option T) : aft (.inl v) ret k = k v := rfl
theorem aft_inr {V R T : Type} (r : R) (ret : R → Option T) (k : V → Option T) : aft (.inr r : Sum V R) ret k = ret r := rfl
theorem idx_get {α : Type} {l : List α} {k : Nat} {x : α} (h : l[k]? = some x) : idx l (k : Int) = some x := idx_some h rfl
theorem idx_lt {α : Type} (l : List α) (k : Nat) (d : α) (h : k < l.length) : idx l (k : Int) = some (l.getD k d) := idx_some (by rw [List.getD_eq_getElem?_getD, List.getElem?_eq_getElem h]; rfl) rfl
theorem succ_cast (k : Nat) : ((k : Int) + 1) = ((k + 1 : Nat) : Int) := by omega
/-- A loop that goes through a list and gives bad at the first element that is not p. -/
theorem scan_loop {α T : Type} (l : List α) (b : (Int → Option (Sum Unit T)) → Int → Option (Sum Unit T)) (p : α → Bool) (bad : T)
  (hend : ∀ K (k : Nat), l.length ≤ k → b K (k : Int) = some (Sum.inl ()))
  (hstep : ∀ K (k : Nat) x, l[k]? = some x → b K (k : Int) = if p x = true then K ((k + 1 : Nat) : Int) else some (Sum.inr bad)) :
  ∀ (F k : Nat), l.length - k < F → iter b F (k : Int) = some (if (l.drop k).all p = true then Sum.inl () else Sum.inr bad) := by
 intro F
 induction F with
 | zero => intro k h; omega
 | succ F ih =>
  intro k h
  show b (iter b F) (k : Int) = _
  by_cases hk : k < l.length
  ·have hx : l[k]? = some l[k] := List.getElem?_eq_getElem hk
   rw [hstep _ k _ hx, List.drop_eq_getElem_cons hk, List.all_cons]
   by_cases hp : p l[k] = true
   ·rw [if_pos hp, hp, Bool.true_and]; exact ih (k + 1) (by omega)
   ·rw [if_neg hp]
    have : p l[k] = false := by simpa using hp
    rw [this, Bool.false_and, if_neg (by simp)]
  ·rw [hend _ k (by omega), List.drop_eq_nil_of_le (by omega)]; rfl
theorem scan_loop0 {α T : Type} (l : List α) (b : (Int → Option (Sum Unit T)) → Int → Option (Sum Unit T)) (p : α → Bool) (bad : T)
  (hend : ∀ K (k : Nat), l.length ≤ k → b K (k : Int) = some (Sum.inl ()))
  (hstep : ∀ K (k : Nat) x, l[k]? = some x → b K (k : Int) = if p x = true then K ((k + 1 : Nat) : Int) else some (Sum.inr bad)) {F : Nat} (hF : l.length < F) :
  iter b F (0 : Int) = some (if l.all p = true then Sum.inl () else Sum.inr bad) := by
 have := scan_loop l b p bad hend hstep F 0 (by omega)
 rwa [List.drop_zero] at this
theorem wf64 {x : Nat} (h : (Lit.float .f64 x).wf = true) : x < 18446744073709551616 := by
 have : x < 2 ^ 64 := by simpa [Lit.wf] using h
 omega
theorem lenq {a b n s : Nat} (q : n = b) (h : a = b * s) : a = n * s := q ▸ h
end Go.Vm

/- Regions that draw their order, in which operations turn memory in whatever order they come. -/
set_option linter.unusedVariables false
set_option linter.unusedSimpArgs false
namespace Go.Vm

/-- js: all but the tail, in the order in which they are gone through; ms: those of them that turn memory; OB: the objects, by what is listed; SL: what outlives each of ms. -/
structure Mids where
 js : List Nat
 ms : List Nat
 OB : (Nat → Bool) → List Ob
 SL : List (Nat × (SV → Bool))
def getF : List (Nat × (SV → Bool)) → Nat → SV → Bool
 | [], _ => fun _ => true
 | (k, f) :: r, i => if k = i then f else getF r i
def Mids.sv (p : Mids) (i : Nat) : SV → Bool := getF p.SL i
def Mids.svf (p : Mids) (i : Nat) : SV → Bool := if p.ms.contains i then p.sv i else fun _ => true
def setB (L : Nat → Bool) (i : Nat) : Nat → Bool := fun j => bif Nat.beq j i then true else L j
def lstB (listed : Array Bool) : Nat → Bool := fun j => listed.getD j false

theorem drE_true (e : Env) : drE (fun _ => true) e = e := by
 funext t; unfold drE; cases e t <;> simp
theorem drE_comm (f g : SV → Bool) (e : Env) : drE f (drE g e) = drE g (drE f e) := by
 funext t
 unfold drE
 cases e t with
 | none => rfl
 | some y => simp only [Option.bind_some]; by_cases h1 : f y = true <;> by_cases h2 : g y = true <;> simp [h1, h2]

section
variable {C : Ctx} {ops : Array Oper}

/-- The state tells at least this of what o looks at. -/
def Tells (ops : Array Oper) (o : Oper) (e : Env) (l : List (Nat × SV)) : Prop := ∀ t, t ∈ o.looksAt ops → ∀ y, e t = some y → get l t = some y
def MS (C : Ctx) (ops : Array Oper) (ob ob' : List Ob) (sv : SV → Bool) (o : Oper) (x : SV) (e : Env) : Prop :=
 wantE ops o e = some true ∧ ∀ (l : List (Nat × SV)), Tells ops o e l → ∀ Ω a w, Rel C ⟨l, ob⟩ Ω a w →
  o.wp C.P a w (fun a' w' => ∃ (l' : List (Nat × SV)) (Ω' : List Value), get l' = upd (drE sv (get l)) o.dst x ∧ Rel C ⟨l', ob'⟩ Ω' a' w') (fun _ _ _ => False)
def YS (C : Ctx) (ops : Array Oper) (obs : List Ob) (o : Oper) (x : SV) (e : Env) : Prop :=
 (wantE ops o e = some true ∧ ∀ (l : List (Nat × SV)), Tells ops o e l → ∀ Ω a w, Rel C ⟨l, obs⟩ Ω a w →
  o.wp C.P a w (fun a' w' => ∃ (l' : List (Nat × SV)) (Ω' : List Value), get l' = upd (get l) o.dst x ∧ Rel C ⟨l', obs⟩ Ω' a' w') (fun _ _ _ => False)) ∨
 (wantE ops o e = some false ∧ x = .d (.v undef) ∧ ∀ d, o.dst = some d → d < C.n)
theorem wantE_mono {o : Oper} {e e' : Env} {b : Bool} (h : ∀ t, t ∈ o.looksAt ops → ∀ y, e t = some y → e' t = some y) (hw : wantE ops o e = some b) : wantE ops o e' = some b := by
 unfold wantE at *
 cases hg : o.guard with
 | none => rw [hg] at hw; exact hw
 | some p =>
  obtain ⟨g, want⟩ := p
  rw [hg] at hw
  simp only at hw ⊢
  cases hj : (ops[g]?).bind (·.dst) with
  | none => rw [hj] at hw; cases hw
  | some dj =>
   rw [hj] at hw
   simp only at hw ⊢
   have hm : dj ∈ o.looksAt ops := by unfold Oper.looksAt; rw [hg]; simp only [hj]; simp
   cases he : e dj with
   | none => rw [he] at hw; cases hw
   | some y => rw [h dj hm y he]; rw [he] at hw; exact hw
theorem Tells.mono {o : Oper} {e e' : Env} {l : List (Nat × SV)} (h : ∀ t, t ∈ o.looksAt ops → ∀ y, e t = some y → e' t = some y) (ht : Tells ops o e' l) : Tells ops o e l := fun t hm y hy => ht t hm y (h t hm y hy)

/-- What may be listed when number i comes up. -/
def Adm (ops : Array Oper) (p : Mids) (L : Nat → Bool) (i : Nat) : Prop := L i = false ∧ ∀ k, k ∈ p.ms → (ancB .any ops ops.size i k = true → L k = true) ∧ (ancB .any ops ops.size k i = true → L k = false)
def ST (C : Ctx) (ops : Array Oper) (p : Mids) (i : Nat) (o : Oper) (x : SV) (e : Env) : Prop := ∀ L, Adm ops p L i →
 (p.ms.contains i = false ∧ YS C ops (p.OB L) o x e) ∨ (p.ms.contains i = true ∧ MS C ops (p.OB L) (p.OB (setB L i)) (p.sv i) o x e)
/-- The value outlives those that do not come ahead of it. -/
def SX (ops : Array Oper) (p : Mids) (i : Nat) (x : SV) : Prop := ∀ k, k ∈ p.ms → k ≠ i → ancB .any ops ops.size i k = false → ancB .any ops ops.size k i = false → p.sv k x = true
def SK (ops : Array Oper) (p : Mids) (i : Nat) (o : Oper) (e : Env) : Prop := ∀ k, k ∈ p.ms → k ≠ i → ancB .any ops ops.size i k = false → ancB .any ops ops.size k i = false → ∀ t, t ∈ o.looksAt ops → ∀ y, e t = some y → p.sv k y = true
theorem ST.mono {p : Mids} {i : Nat} {o : Oper} {x : SV} {e e' : Env} (h : ∀ t, t ∈ o.looksAt ops → ∀ y, e t = some y → e' t = some y) (hs : ST C ops p i o x e) : ST C ops p i o x e' := fun L hL => by
 rcases hs L hL with ⟨h1, h2⟩ | ⟨h1, h2, h3⟩
 ·refine .inl ⟨h1, ?_⟩
  rcases h2 with ⟨h2, h3⟩ | ⟨h2, h3⟩
  ·exact .inl ⟨wantE_mono h h2, fun l hl => h3 l (hl.mono h)⟩
  ·exact .inr ⟨wantE_mono h h2, h3⟩
 ·exact .inr ⟨h1, wantE_mono h h2, fun l hl => h3 l (hl.mono h)⟩

def wpAnyS (C : Ctx) (ops : Array Oper) (p : Mids) (K : Array Bool → Env → Prop) : Nat → Array Bool → Env → Prop
 | 0, listed, e => K listed e
 | f + 1, listed, e => Region.ready .any ops listed ≠ [] ∧ ∀ i ∈ Region.ready .any ops listed, i ∈ p.js ∧ ∃ o x, ops[i]? = some o ∧ ST C ops p i o x e ∧ SX ops p i x ∧
   wpAnyS C ops p K f (listed.setIfInBounds i true) (upd (drE (p.svf i) e) o.dst x)

theorem adm_of {p : Mids} {i : Nat} {listed : Array Bool} (inv : HInv .any ops p.js listed) (hi : i ∈ Region.ready .any ops listed) : Adm ops p (lstB listed) i := by
 obtain ⟨hun, oi, hoi, hall⟩ := mem_ready.1 hi
 refine ⟨getD_both hun, fun k hk => ⟨fun ha => ?_, fun ha => ?_⟩⟩
 ·exact anc_listed inv _ i k ha fun oj hj e he hb => by rw [hoi] at hj; cases hj; exact hall e he hb
 ·cases hq : lstB listed k with
  | false => rfl
  | true =>
   have := anc_listed inv _ k i ha fun ok hok e he hb => inv.closed k ok hok hq e he hb
   rw [getD_both hun] at this; cases this
theorem lst_set {listed : Array Bool} {i j : Nat} (h : i < listed.size) : lstB (listed.setIfInBounds i true) j = setB (lstB listed) i j := by
 unfold lstB setB
 by_cases e : j = i
 ·subst e; simp [Array.getD, h]
 ·rw [getD_set_ne false (fun h => e h.symm)]; simp [e]

theorem wpAny_of_S {p : Mids} {g : Nat} {K : Array Bool → Env → Prop} {Q' : Exit → Act → World → Prop} (hOB : ∀ L L', (∀ j ∈ p.ms, L j = L' j) → p.OB L = p.OB L')
  (hL : ∀ listed (l : List (Nat × SV)), K listed (get l) → ∀ Ω a w, Rel C ⟨l, p.OB (lstB listed)⟩ Ω a w → wpAny C.P .any ops Q' g listed a w) :
  ∀ (f : Nat) (listed : Array Bool) (l : List (Nat × SV)), HInv .any ops p.js listed → wpAnyS C ops p K f listed (get l) → ∀ Ω a w, Rel C ⟨l, p.OB (lstB listed)⟩ Ω a w → wpAny C.P .any ops Q' (f + g) listed a w
 | 0, listed, l, _, h, Ω, a, w, hr => by rw [Nat.zero_add]; exact hL _ _ h Ω a w hr
 | f + 1, listed, l, inv, h, Ω, a, w, hr => by
  rw [show f + 1 + g = (f + g) + 1 by omega]
  refine ⟨fun h0 => absurd h0 h.1, fun i hi => ?_⟩
  obtain ⟨hin, o, x, ho, hst, _, hK⟩ := h.2 i hi
  have inv' := inv.set hi hin
  have hlt : i < listed.size := by rw [inv.size]; exact (Array.getElem?_eq_some_iff.1 ho).1
  have hob' : p.OB (setB (lstB listed) i) = p.OB (lstB (listed.setIfInBounds i true)) := hOB _ _ fun j _ => (lst_set hlt).symm
  rcases hst _ (adm_of inv hi) with ⟨hm, hy⟩ | ⟨hm, hg, hmv⟩
  ·have hob : p.OB (lstB listed) = p.OB (lstB (listed.setIfInBounds i true)) := hOB _ _ fun j hj => by
    rw [lst_set hlt]
    have : j ≠ i := fun e => by subst e; simp [hj] at hm
    simp [setB, this]
   have hsv : p.svf i = fun _ => true := by unfold Mids.svf; rw [hm]; rfl
   rw [hsv, drE_true] at hK
   unfold wpOp
   simp only [ho]
   rcases hy with ⟨h1, h2⟩ | ⟨h1, rfl, h2⟩
   ·rw [if_pos (by rw [wantE_wanted h1 hr])]
    refine .inl (wp_monoQ (fun a' w' ⟨l', Ω', hg, hr'⟩ => ?_) (fun _ _ _ _ h => h.elim) (h2 l (fun _ _ _ h => h) Ω a w hr))
    exact wpAny_of_S hOB hL f _ l' inv' (by rw [hg]; exact hK) Ω' a' w' (hob ▸ hr')
   ·rw [if_neg (by rw [wantE_wanted h1 hr]; simp)]
    cases hd : o.dst with
    | none => rw [hd] at hK; exact wpAny_of_S hOB hL f _ l inv' hK Ω _ w (hob ▸ (hr.putNone undef))
    | some d =>
     rw [hd] at hK
     exact wpAny_of_S hOB hL f _ ((d, .d (.v undef)) :: l) inv' (by rw [get_upd]; exact hK) Ω _ w (hob ▸ (hr.put (h2 d hd) (.d _ _ (.v _))))
  ·unfold wpOp
   simp only [ho]
   rw [if_pos (by rw [wantE_wanted hg hr])]
   refine .inl (wp_monoQ (fun a' w' ⟨l', Ω', hg, hr'⟩ => ?_) (fun _ _ _ _ h => h.elim) (hmv l (fun _ _ _ h => h) Ω a w hr))
   have hsv : p.svf i = p.sv i := by unfold Mids.svf; rw [hm]; rfl
   exact wpAny_of_S hOB hL f _ l' inv' (by rw [hg, ← hsv]; exact hK) Ω' a' w' (hob' ▸ hr')

theorem svf_eq {p : Mids} {k : Nat} {y : SV} (h : k ∈ p.ms → p.sv k y = true) : p.svf k y = true := by
 unfold Mids.svf
 split
 ·rename_i hk; exact h (List.contains_iff_mem.1 hk)
 ·rfl
theorem wpAnyS_first {p : Mids} {i : Nat} {oi : Oper} {v : SV} {K : Array Bool → Env → Prop} (hi : ops[i]? = some oi) (hF : HFirst .any ops p.js) (hin : i ∈ p.js)
  (hdone : ∀ listed a, K listed a → ∀ j ∈ Region.ready .any ops listed, j ∉ p.js) :
  ∀ (f : Nat) (listed : Array Bool) (a : Env), HInv .any ops p.js listed →
   (∀ j oj, ops[j]? = some oj → j ≠ i → listed.getD j true = false → (∀ e ∈ oj.after, Region.binds .any e = true → e.on ≠ i) → oi.apart ops oj = true) →
   i ∈ Region.ready .any ops listed → ST C ops p i oi v a → SX ops p i v → SK ops p i oi a →
   wpAnyS C ops p K f (listed.setIfInBounds i true) (upd (drE (p.svf i) a) oi.dst v) → wpAnyS C ops p K (f + 1) listed a := by
 intro f
 induction f with
 | zero =>
  intro listed a inv _ hr hy hx hs H
  have hun := (mem_ready.1 hr).1
  refine ⟨fun h => (by rw [h] at hr; cases hr), fun j hj => ?_⟩
  have hjn : j ∈ p.js := hF listed inv i hin hun j hj
  refine ⟨hjn, ?_⟩
  by_cases hji : j = i
  ·subst hji; exact ⟨oi, v, hi, hy, hx, H⟩
  ·exact absurd hjn (hdone _ _ H j (ready_mono hj hji))
 | succ f ih =>
  intro listed a inv hfree hr hy hx hs H
  have hun := (mem_ready.1 hr).1
  refine ⟨fun h => (by rw [h] at hr; cases hr), fun j hj => ?_⟩
  have hjn : j ∈ p.js := hF listed inv i hin hun j hj
  refine ⟨hjn, ?_⟩
  by_cases hji : j = i
  ·subst hji; exact ⟨oi, v, hi, hy, hx, H⟩
  ·obtain ⟨hjun, oj, hoj, hall⟩ := mem_ready.1 hj
   have hnot : ∀ e ∈ oj.after, Region.binds .any e = true → e.on ≠ i := fun e he hb heq => by
    have h1 := hall e he hb
    rw [heq, getD_both hun] at h1
    cases h1
   have hap := hfree j oj hoj hji hjun hnot
   obtain ⟨a1, a2, a3⟩ := Oper.apart_spec hap
   have hfree' : ∀ k ok, ops[k]? = some ok → k ≠ i → (listed.setIfInBounds j true).getD k true = false →
     (∀ e ∈ ok.after, Region.binds .any e = true → e.on ≠ i) → oi.apart ops ok = true := fun k ok hk hki hun hno => by
    refine hfree k ok hk hki ?_ hno
    by_cases hjk : j = k
    ·subst hjk; exact hjun
    ·rw [getD_set_ne true hjk] at hun; exact hun
   have notanc : ∀ {j k : Nat}, j ∈ Region.ready .any ops listed → listed.getD k true = false → ancB .any ops ops.size j k = false := fun {j k} hj hun => by
    obtain ⟨_, oj, hoj, hall⟩ := mem_ready.1 hj
    cases hq : ancB .any ops ops.size j k with
    | false => rfl
    | true =>
     have := anc_listed inv _ j k hq (fun ok hok e he hb => by rw [hoj] at hok; cases hok; exact hall e he hb)
     rw [getD_both hun] at this; cases this
   obtain ⟨_, oj', y, hoj', hstj, hxj, hK⟩ := H.2 j (ready_mono hj hji)
   rw [hoj] at hoj'; cases hoj'
   have sjv : p.svf j v = true := svf_eq fun hjm => hx j hjm hji (notanc hr hjun) (notanc hj hun)
   have siy : p.svf i y = true := svf_eq fun him => hxj i him (Ne.symm hji) (notanc hj hun) (notanc hr hjun)
   refine ⟨oj, y, hoj, hstj.mono (fun t ht z hz => ?_), hxj, ?_⟩
   ·rw [upd_ne fun k hk e => a1 k hk (e ▸ ht)] at hz
    exact (drE_some hz).1
   ·refine ih (listed.setIfInBounds j true) _ (inv.set hj hjn) hfree' (ready_mono hr (Ne.symm hji)) (hy.mono fun t ht z hz => ?_) hx (fun k hk hki ha hb t ht z hz => ?_) ?_
    ·rw [upd_ne fun k hk e => a3 k hk (e ▸ ht)]
     have hz' : p.svf j z = true := svf_eq fun hjm => hs j hjm hji (notanc hr hjun) (notanc hj hun) t ht z hz
     simp [drE, hz, hz']
    ·rw [upd_ne fun k hk e => a3 k hk (e ▸ ht)] at hz
     exact hs k hk hki ha hb t ht z (drE_some hz).1
    ·rw [drE_upd siy, drE_comm, Array.setIfInBounds_comm _ _ hji]
     rw [drE_upd sjv] at hK
     rw [upd_comm (fun i hi => fun hk => a2 i hi hk)] at hK
     exact hK

/-- The walk. -/
def AS (C : Ctx) (ops : Array Oper) (p : Mids) : List Nat → List (Nat × SV) → (List (Nat × SV) → Prop) → Prop
 | [], e, K => K e
 | i :: rest, e, K => ∃ o x l', ops[i]? = some o ∧ ST C ops p i o x (get e) ∧ SX ops p i x ∧ SK ops p i o (get e) ∧ get l' = upd (drE (p.svf i) (get e)) o.dst x ∧ AS C ops p rest l' K

theorem wpAnyS_lex {p : Mids} {ts : List Nat} {K : List (Nat × SV) → Prop} (hF : HFirst .any ops p.js) (htl : ∀ t ∈ ts, t ∉ p.js) :
  ∀ (is : List Nat) (listed : Array Bool) (e : List (Nat × SV)), (∀ i ∈ is, i < ops.size ∧ i ∈ p.js) → (∀ j ∈ p.js, j ∈ is ∨ listed.getD j false = true) → HInv .any ops p.js listed →
  headO .any ops ts is listed = true → AS C ops p is e K →
  wpAnyS C ops p (fun listed' a' => (tailO .any ops ts listed' = true ∧ ∀ j ∈ p.js, listed'.getD j false = true) ∧ ∃ l', a' = get l' ∧ K l') is.length listed (get e)
 | [], listed, e, _, hall, inv, hB, h => ⟨⟨hB, fun j hj => (hall j hj).resolve_left (by simp)⟩, e, rfl, h⟩
 | i :: is, listed, e, hl, hall, inv, hB, h => by
  have hi := hl i (by simp)
  simp only [headO, Bool.and_eq_true] at hB
  obtain ⟨⟨hr, hf⟩, hB'⟩ := hB
  have hr' : i ∈ Region.ready .any ops listed := by simpa using hr
  obtain ⟨o, x, l', h0, hy, hx, hs, hg, hK⟩ := h
  refine wpAnyS_first h0 hF hi.2 (fun listed' a' hL => ?_) is.length listed _ inv (Region.free_spec h0 hf) hr' hy hx hs ?_
  ·intro j hj
   cases ts with
   | nil => have := hL.1.1; simp only [tailO, List.isEmpty_iff] at this; rw [this] at hj; cases hj
   | cons t ts =>
    have := hL.1.1
    simp only [tailO, Bool.and_eq_true, decide_eq_true_eq] at this
    rw [this.1] at hj
    have : j = t := by simpa using hj
    subst this
    exact htl j (by simp)
  ·rw [← hg]
   refine wpAnyS_lex hF htl is _ l' (fun j hj => hl j (by simp [hj])) (fun j hj => ?_) (inv.set hr' hi.2) hB' hK
   by_cases hji : j = i
   ·subst hji; right
    have : j < listed.size := by rw [inv.size]; exact hi.1
    simp [Array.getD, this]
   ·rcases hall j hj with h | h
    ·left; rcases List.mem_cons.1 h with h | h
     ·exact absurd h hji
     ·exact h
    ·right; exact getD_set_true h

def drawSB (ops : Array Oper) (js ms ts : List Nat) : Bool :=
 js.all (· < ops.size) && ts.all (· < ops.size) && ts.all (fun t => !js.contains t) && (js.length + ts.length == ops.size) && ms.all (js.contains ·) &&
 ((List.range ops.size).all fun t => js.contains t || (ts.contains t && js.all (ancB .any ops ops.size t))) && headO .any ops ts js (Array.replicate ops.size false)

theorem AC.drawS {id : Nat} {l : List Oper} {s : St} {Q : Exit → St → Prop} (js ms ts : List Nat) (OB : (Nat → Bool) → List Ob) (SL : List (Nat × (SV → Bool))) (hm : C.P.follows .mixedOrders = true) (hB : drawSB l.toArray js ms ts = true)
  (hOB : ∀ L L', (∀ j ∈ ms, L j = L' j) → OB L = OB L') (h0 : OB (fun _ => false) = s.obs)
  (h : AS C l.toArray ⟨js, ms, OB, SL⟩ js s.env (fun e' => AO C l.toArray (opsAt l.toArray ts) ⟨e', OB (fun _ => true)⟩ Q)) : AC C (.region id l.toArray true) s Q := fun Ω a w hr => by
 simp only [drawSB, Bool.and_eq_true, beq_iff_eq] at hB
 obtain ⟨⟨⟨⟨⟨⟨b1, b2⟩, b3⟩, b4⟩, b4'⟩, b5⟩, b6⟩ := hB
 have hF : HFirst .any l.toArray js := by
  intro listed inv i hi hun j hj
  obtain ⟨_, oj, hoj, hall⟩ := mem_ready.1 hj
  have hlt := (Array.getElem?_eq_some_iff.1 hoj).1
  have := List.all_eq_true.1 b5 j (List.mem_range.2 hlt)
  simp only [Bool.or_eq_true, Bool.and_eq_true, List.contains_iff_mem] at this
  rcases this with h | ⟨_, h⟩
  ·exact h
  ·have ha := anc_listed inv _ j i (List.all_eq_true.1 h i hi) (fun ok hk e he hb => by
    have : ok = oj := Option.some.inj (hk.symm.trans hoj)
    subst this
    exact hall e he hb)
   rw [getD_both hun] at ha
   cases ha
 have inv0 : HInv .any l.toArray js (Array.replicate l.toArray.size false) :=
  ⟨by simp, fun j oj _ hl => (by rw [getD_replicate_false] at hl; cases hl), fun t _ ht => getD_in (by simpa using ht) (getD_replicate_false _ _)⟩
 have H := wpAnyS_lex (p := ⟨js, ms, OB, SL⟩) (ts := ts) hF (fun t ht => by have := List.all_eq_true.1 b3 t ht; simpa using this) js _ s.env (fun i hi => ⟨by have := List.all_eq_true.1 b1 i hi; simpa using this, hi⟩) (fun j hj => .inl hj) inv0 b6 h
 refine wp_region_any hm ?_
 have := wpAny_of_S (Q' := Lift C Q) (p := ⟨js, ms, OB, SL⟩) (g := ts.length) hOB (fun listed e hL Ω a w hr => by
  obtain ⟨⟨h7, h8⟩, l', he, hK⟩ := hL
  have hob : OB (lstB listed) = OB (fun _ => true) := hOB _ _ fun j hj => h8 j (by have := List.all_eq_true.1 b4' j hj; simpa using this)
  have hr' : Rel C ⟨e, OB (fun _ => true)⟩ Ω a w := hob ▸ hr
  exact wpAny_of_tailO ts listed a w b2 h7 (hK Ω a w (hr'.congr fun t x hx => by rw [he]; exact hx))) _ _ s.env inv0 H Ω a _ (by
   have e0 : OB (lstB (Array.replicate l.toArray.size false)) = s.obs := by
    rw [← h0]; exact hOB _ _ fun j _ => getD_replicate_false _ _
   show Rel C ⟨s.env, OB _⟩ Ω a _
   rw [e0]; exact hr.drew)
 have e4 : js.length + ts.length = l.toArray.size := b4
 rw [e4] at this
 exact this

/-! ### How the walk is printed -/
variable {p : Mids} {o : Oper} {e Ls : List (Nat × SV)} {d j dj i : Nat} {x : SV} {want b : Bool} {K : List (Nat × SV) → Prop} {is : List Nat}
/-- What is listed for sure, what is not, and else L. -/
def elemN : List Nat → Nat → Bool
 | [], _ => false
 | a :: r, k => bif Nat.beq a k then true else elemN r k
theorem elemN_mem {k : Nat} : ∀ {l : List Nat}, elemN l k = true → k ∈ l
 | [], h => by cases h
 | a :: r, h => by
  simp only [elemN] at h
  by_cases e : a = k
  ·subst e; simp
  ·cases q : Nat.beq a k with
   | true => exact absurd (Nat.eq_of_beq_eq_true q) e
   | false => rw [q] at h; exact List.mem_cons_of_mem _ (elemN_mem h)
def force (T F : List Nat) (L : Nat → Bool) : Nat → Bool := fun k => bif elemN T k then true else bif elemN F k then false else L k
def relS (ops : Array Oper) (ms : List Nat) (i : Nat) (T F su : List Nat) : Bool :=
 T.all (fun k => ms.contains k && ancB .any ops ops.size i k) && F.all (fun k => k == i || (ms.contains k && ancB .any ops ops.size k i)) && ms.all (fun k => k == i || ancB .any ops ops.size i k || ancB .any ops ops.size k i || su.contains k)
def SAS (p : Mids) (Ls : List (Nat × SV)) (x : SV) (su : List Nat) : Bool := su.all fun k => p.sv k x && Ls.all fun q => p.sv k q.2
theorem force_eq {T F su : List Nat} {L : Nat → Bool} (hr : relS ops p.ms i T F su = true) (hL : Adm ops p L i) : force T F L = L := by
 simp only [relS, Bool.and_eq_true, List.all_eq_true, List.contains_iff_mem, Bool.or_eq_true, beq_iff_eq] at hr
 obtain ⟨⟨h1, h2⟩, _⟩ := hr
 funext k
 unfold force
 cases q1 : elemN T k with
 | true => have := h1 k (elemN_mem q1); exact ((hL.2 k this.1).1 this.2).symm
 | false =>
  cases q2 : elemN F k with
  | true =>
   rcases h2 k (elemN_mem q2) with rfl | h
   ·exact hL.1.symm
   ·exact ((hL.2 k h.1).2 h.2).symm
  | false => rfl
theorem keeps {ks : List Nat} (hk : keep ks e = some Ls) (hl : looksB ops o ks = true) {t : Nat} (ht : t ∈ o.looksAt ops) {y : SV} (hy : get e t = some y) : (t, y) ∈ Ls := by
 simp only [looksB, Bool.and_eq_true, List.all_eq_true, List.contains_iff_mem] at hl
 obtain ⟨h1, _⟩ := (keep_get' hk t).1 (hl.1 t ht)
 rw [← h1] at hy
 exact get_mem hy
theorem sx_sk {ks T F su : List Nat} (hr : relS ops p.ms i T F su = true) (hk : keep ks e = some Ls) (hl : looksB ops o ks = true) (hs : SAS p Ls x su = true) : SX ops p i x ∧ SK ops p i o (get e) := by
 simp only [relS, Bool.and_eq_true, List.all_eq_true, List.contains_iff_mem, Bool.or_eq_true, beq_iff_eq] at hr
 simp only [SAS, Bool.and_eq_true, List.all_eq_true] at hs
 have h3 : ∀ k, k ∈ p.ms → k ≠ i → ancB .any ops ops.size i k = false → ancB .any ops ops.size k i = false → k ∈ su := fun k h1 h2 h3 h4 => by
  rcases hr.2 k h1 with ((h | h) | h) | h
  ·exact absurd h h2
  ·rw [h3] at h; cases h
  ·rw [h4] at h; cases h
  ·exact h
 exact ⟨fun k h1 h2 h4 h5 => (hs k (h3 k h1 h2 h4 h5)).1, fun k h1 h2 h4 h5 t ht y hy => (hs k (h3 k h1 h2 h4 h5)).2 (t, y) (keeps hk hl ht hy)⟩
theorem tells_same {ks : List Nat} {l : List (Nat × SV)} (hk : keep ks e = some Ls) (hl : looksB ops o ks = true) (ht : Tells ops o (get e) l) : ∀ t, get (Ls ++ l) t = get l t := fun t => by
 simp only [looksB, Bool.and_eq_true, List.all_eq_true, List.contains_iff_mem] at hl
 rw [get_append]
 by_cases hm : t ∈ ks
 ·obtain ⟨h1, h2⟩ := (keep_get' hk t).1 hm
  rw [h1]
  obtain ⟨y, hy⟩ := Option.isSome_iff_exists.1 h2
  rw [hy]
  exact (ht t (hl.2 t hm) y hy).symm
 ·rw [(keep_get' hk t).2 hm]
theorem gives_run {obs : List Ob} {ks : List Nat} (hk : keep ks e = some Ls) (hl : looksB ops o ks = true) (hd : o.dst = some d) (hv : Gives C ops obs o Ls d x) (l : List (Nat × SV)) (ht : Tells ops o (get e) l) (Ω : List Value) (a : Act) (w : World) (hr : Rel C ⟨l, obs⟩ Ω a w) :
  o.wp C.P a w (fun a' w' => ∃ (l' : List (Nat × SV)) (Ω' : List Value), get l' = upd (get l) o.dst x ∧ Rel C ⟨l', obs⟩ Ω' a' w') (fun _ _ _ => False) := by
 have hsame := tells_same hk hl ht
 have hr' : Rel C ⟨Ls ++ l, obs⟩ Ω a w := hr.congr fun t y hy => by rw [← hsame t]; exact hy
 have H := hv l (fun ed s => ed = .normal ∧ s = ⟨(d, x) :: (Ls ++ l), obs⟩) (AO.nil ⟨rfl, rfl⟩) Ω a w hr'
 refine wp_monoQ (fun a' w' hq => ?_) (fun ed a' w' hne hq => ?_) H
 ·obtain ⟨s, Ω', hr2, _, hs⟩ := hq
  subst hs
  refine ⟨_, Ω', ?_, hr2⟩
  rw [hd, get_upd]
  congr 1
  funext t; exact hsame t
 ·obtain ⟨s, Ω', _, he, _⟩ := hq
  exact hne he
theorem AS.done (h : K e) : AS C ops p [] e K := h
theorem AS.give (hm : p.ms.contains i = false) {T F su ks : List Nat} (h0 : ops[i]? = some o) (hd : o.dst = some d) (hl : looksB ops o ks = true) (hr : relS ops p.ms i T F su = true) (hk : keep ks e = some Ls) (hs : SAS p Ls x su = true)
  (hy : ∀ L, YS C ops (p.OB (force T F L)) o x (get e)) (h : AS C ops p is ((d, x) :: e) K) : AS C ops p (i :: is) e K :=
 ⟨o, x, (d, x) :: e, h0, fun L hL => .inl ⟨hm, by have := hy L; rw [force_eq hr hL] at this; exact this⟩, (sx_sk hr hk hl hs).1, (sx_sk hr hk hl hs).2, by simp only [Mids.svf, hm]; rw [if_neg (by simp), drE_true, hd, get_upd], h⟩
theorem AS.op (ks T F su : List Nat) (h0 : ops[i]? = some o) (hm : p.ms.contains i = false) (hg : o.guard = none) (hl : looksB ops o ks = true) (hr : relS ops p.ms i T F su = true) (hk : keep ks e = some Ls) (hd : o.dst = some d)
  (hv : ∀ L, Gives C ops (p.OB (force T F L)) o Ls d x) (hs : SAS p Ls x su = true) (h : AS C ops p is ((d, x) :: e) K) : AS C ops p (i :: is) e K :=
 AS.give hm h0 hd hl hr hk hs (fun L => .inl ⟨by unfold wantE; rw [hg], gives_run hk hl hd (hv L)⟩) h
theorem want_eq {b : Bool} (hg : o.guard = some (j, want)) (hj : ((ops[j]?).bind (·.dst)) = some dj) (hx : get e dj = some (.d (.v (.bool b)))) : wantE ops o (get e) = some (b == want) := by
 unfold wantE; rw [hg]; simp only [hj]; show (match get e dj with | some (.d (.v (.bool b))) => some (b == want) | some (.d (.v (.tuple _))) => some false | _ => none) = _; rw [hx]
theorem AS.opY (ks T F su : List Nat) (h0 : ops[i]? = some o) (hm : p.ms.contains i = false) (hg : o.guard = some (j, want)) (hj : ((ops[j]?).bind (·.dst)) = some dj) (hx : get e dj = some (.d (.v (.bool b)))) (hb : b = want)
  (hl : looksB ops o ks = true) (hr : relS ops p.ms i T F su = true) (hk : keep ks e = some Ls) (hd : o.dst = some d)
  (hv : ∀ L, Gives C ops (p.OB (force T F L)) o Ls d x) (hs : SAS p Ls x su = true) (h : AS C ops p is ((d, x) :: e) K) : AS C ops p (i :: is) e K :=
 AS.give hm h0 hd hl hr hk hs (fun L => .inl ⟨by rw [want_eq hg hj hx]; simp [hb], gives_run hk hl hd (hv L)⟩) h
theorem AS.opN (ks T F su : List Nat) (h0 : ops[i]? = some o) (hm : p.ms.contains i = false) (hg : o.guard = some (j, want)) (hj : ((ops[j]?).bind (·.dst)) = some dj) (hx : get e dj = some (.d (.v (.bool b)))) (hb : b = (!want))
  (hl : looksB ops o ks = true) (hr : relS ops p.ms i T F su = true) (hk : keep ks e = some Ls) (hd : o.dst = some d) (hn : d < C.n)
  (hs : SAS p Ls (.d (.v undef)) su = true) (h : AS C ops p is ((d, .d (.v undef)) :: e) K) : AS C ops p (i :: is) e K :=
 AS.give hm h0 hd hl hr hk hs (fun L => .inr ⟨by rw [want_eq hg hj hx]; simp [hb], rfl, fun k hk => by rw [hd] at hk; cases hk; exact hn⟩) h
theorem AS.split (dj : Nat) (want : Bool) (hx : get e dj = some (.d (.v (.bool b)))) (hyes : b = want → AS C ops p is e K) (hno : b = (!want) → AS C ops p is e K) : AS C ops p is e K := by
 by_cases hb : b = want
 ·exact hyes hb
 ·exact hno (by cases b <;> cases want <;> simp_all)
theorem AS.dec (b : Bool) (hyes : b = true → AS C ops p is e K) (hno : b = false → AS C ops p is e K) : AS C ops p is e K := by
 cases b
 ·exact hno rfl
 ·exact hyes rfl
theorem AS.midW (ks T F su : List Nat) {sv : SV → Bool} (h0 : ops[i]? = some o) (hm : p.ms.contains i = true) (hsv : p.sv i = sv) (hg : wantE ops o (get e) = some true) (hl : looksB ops o ks = true) (hr : relS ops p.ms i T F su = true) (hk : keep ks e = some Ls) (hd : o.dst = some d)
  (hv : ∀ (L : Nat → Bool) (e : List (Nat × SV)) (Q : Exit → St → Prop), AO C ops [] ⟨(d, x) :: dropS sv [] (Ls ++ e), p.OB (setB (force T F L) i)⟩ Q → AOp C ops [] o ⟨Ls ++ e, p.OB (force T F L)⟩ Q)
  (hs : SAS p Ls x su = true) {e' : List (Nat × SV)} (he : dropS sv [] e = e') (h : AS C ops p is ((d, x) :: e') K) : AS C ops p (i :: is) e K := by
 subst he hsv
 have hdr : ∀ l : List (Nat × SV), get (dropS (p.sv i) [] l) = drE (p.sv i) (get l) := fun l => by funext t; rw [get_dropS]; simp
 refine ⟨o, x, _, h0, fun L hL => .inr ⟨hm, hg, ?_⟩, (sx_sk hr hk hl hs).1, (sx_sk hr hk hl hs).2, by rw [hd, get_upd, hdr]; simp only [Mids.svf, hm, if_true], h⟩
 intro l ht Ω a w hrl
 have hv := hv L
 rw [force_eq hr hL] at hv
 have hsame := tells_same hk hl ht
 have hr' : Rel C ⟨Ls ++ l, p.OB L⟩ Ω a w := hrl.congr fun t y hy => by rw [← hsame t]; exact hy
 have H := hv l (fun ed s => ed = .normal ∧ s = ⟨(d, x) :: dropS (p.sv i) [] (Ls ++ l), p.OB (setB L i)⟩) (AO.nil ⟨rfl, rfl⟩) Ω a w hr'
 refine wp_monoQ (fun a' w' hq => ?_) (fun ed a' w' hne hq => ?_) H
 ·obtain ⟨s, Ω', hr2, _, hs⟩ := hq
  subst hs
  refine ⟨_, Ω', ?_, hr2⟩
  rw [hd, get_upd, hdr]
  congr 1
  congr 1
  funext t; exact hsame t
 ·obtain ⟨s, Ω', _, he, _⟩ := hq
  exact hne he
theorem AS.mid (ks T F su : List Nat) {sv : SV → Bool} (h0 : ops[i]? = some o) (hm : p.ms.contains i = true) (hsv : p.sv i = sv) (hg : o.guard = none) (hl : looksB ops o ks = true) (hr : relS ops p.ms i T F su = true) (hk : keep ks e = some Ls) (hd : o.dst = some d)
  (hv : ∀ (L : Nat → Bool) (e : List (Nat × SV)) (Q : Exit → St → Prop), AO C ops [] ⟨(d, x) :: dropS sv [] (Ls ++ e), p.OB (setB (force T F L) i)⟩ Q → AOp C ops [] o ⟨Ls ++ e, p.OB (force T F L)⟩ Q)
  (hs : SAS p Ls x su = true) {e' : List (Nat × SV)} (he : dropS sv [] e = e') (h : AS C ops p is ((d, x) :: e') K) : AS C ops p (i :: is) e K :=
 AS.midW ks T F su h0 hm hsv (by unfold wantE; rw [hg]) hl hr hk hd hv hs he h
/-- A store among them. -/
theorem AS.mid0W (ks T F su : List Nat) {sv : SV → Bool} (h0 : ops[i]? = some o) (hm : p.ms.contains i = true) (hsv : p.sv i = sv) (hg : wantE ops o (get e) = some true) (hl : looksB ops o ks = true) (hr : relS ops p.ms i T F su = true) (hk : keep ks e = some Ls) (hd : o.dst = none)
  (hv : ∀ (L : Nat → Bool) (e : List (Nat × SV)) (Q : Exit → St → Prop), AO C ops [] ⟨dropS sv [] (Ls ++ e), p.OB (setB (force T F L) i)⟩ Q → AOp C ops [] o ⟨Ls ++ e, p.OB (force T F L)⟩ Q)
  (hs : SAS p Ls .any su = true) {e' : List (Nat × SV)} (he : dropS sv [] e = e') (h : AS C ops p is e' K) : AS C ops p (i :: is) e K := by
 subst he hsv
 have hdr : ∀ l : List (Nat × SV), get (dropS (p.sv i) [] l) = drE (p.sv i) (get l) := fun l => by funext t; rw [get_dropS]; simp
 refine ⟨o, .any, _, h0, fun L hL => .inr ⟨hm, hg, ?_⟩, (sx_sk hr hk hl hs).1, (sx_sk hr hk hl hs).2, by rw [hd, hdr]; simp only [Mids.svf, hm, if_true]; rfl, h⟩
 intro l ht Ω a w hrl
 have hv := hv L
 rw [force_eq hr hL] at hv
 have hsame := tells_same hk hl ht
 have hr' : Rel C ⟨Ls ++ l, p.OB L⟩ Ω a w := hrl.congr fun t y hy => by rw [← hsame t]; exact hy
 have H := hv l (fun ed s => ed = .normal ∧ s = ⟨dropS (p.sv i) [] (Ls ++ l), p.OB (setB L i)⟩) (AO.nil ⟨rfl, rfl⟩) Ω a w hr'
 refine wp_monoQ (fun a' w' hq => ?_) (fun ed a' w' hne hq => ?_) H
 ·obtain ⟨s, Ω', hr2, _, hs⟩ := hq
  subst hs
  refine ⟨_, Ω', ?_, hr2⟩
  rw [hd, hdr]
  show drE (p.sv i) (get (Ls ++ l)) = drE (p.sv i) (get l)
  congr 1
  funext t; exact hsame t
 ·obtain ⟨s, Ω', _, he, _⟩ := hq
  exact hne he
theorem AS.mid0 (ks T F su : List Nat) {sv : SV → Bool} (h0 : ops[i]? = some o) (hm : p.ms.contains i = true) (hsv : p.sv i = sv) (hg : o.guard = none) (hl : looksB ops o ks = true) (hr : relS ops p.ms i T F su = true) (hk : keep ks e = some Ls) (hd : o.dst = none)
  (hv : ∀ (L : Nat → Bool) (e : List (Nat × SV)) (Q : Exit → St → Prop), AO C ops [] ⟨dropS sv [] (Ls ++ e), p.OB (setB (force T F L) i)⟩ Q → AOp C ops [] o ⟨Ls ++ e, p.OB (force T F L)⟩ Q)
  (hs : SAS p Ls .any su = true) {e' : List (Nat × SV)} (he : dropS sv [] e = e') (h : AS C ops p is e' K) : AS C ops p (i :: is) e K :=
 AS.mid0W ks T F su h0 hm hsv (by unfold wantE; rw [hg]) hl hr hk hd hv hs he h
theorem AO.dropT {l : List Oper} {obs : List Ob} {Q : Exit → St → Prop} {sv : SV → Bool} {e : List (Nat × SV)} (h : AO C ops l ⟨dropS sv [] e, obs⟩ Q) : AO C ops l ⟨e, obs⟩ Q :=
 AO.forget (fun q z hq => by
  rw [get_dropS] at hq
  simp only [List.not_mem_nil, if_false] at hq
  exact (drE_some hq).1) h
end

/-! ### Room for objects that are made in whatever order -/
/-- It leads neither to k nor to m. -/
def SV.noO2 (k m : Nat) (x : SV) : Bool := x.noO k && x.noO m
def Ob.noO2 (k m : Nat) (x : Ob) : Bool := x.noO k && x.noO m
inductive AllNo (k m : Nat) : List Ob → Prop
 | nil : AllNo k m []
 | cons {ob : Ob} {r : List Ob} (h : ob.noO2 k m = true) (t : AllNo k m r) : AllNo k m (ob :: r)
theorem noO2_cond {k m : Nat} {b : Bool} {x y : Ob} (hx : x.noO2 k m = true) (hy : y.noO2 k m = true) : (bif b then x else y).noO2 k m = true := by cases b <;> assumption
theorem noO2_fixl {α : Type} {k m ty : Nat} {f : α → SV} {l : List α} (hf : ∀ z, (f z).noO2 k m = true) : (Ob.fix ty (l.map f)).noO2 k m = true := by
 simp only [Ob.noO2, Ob.noO, Bool.and_eq_true, List.all_eq_true]
 refine ⟨fun x hx => ?_, fun x hx => ?_⟩ <;> obtain ⟨z, _, rfl⟩ := List.mem_map.1 hx <;> have := hf z <;> simp only [SV.noO2, Bool.and_eq_true] at this
 ·exact this.1
 ·exact this.2
theorem AllNo.get {k m : Nat} : ∀ {l : List Ob}, AllNo k m l → ∀ {i : Nat} {ob : Ob}, l[i]? = some ob → ob.noO2 k m = true
 | _, .cons h t, 0, _, e => by cases e; exact h
 | _, .cons h t, i + 1, ob, e => t.get (by simpa using e)
theorem RepS.moved {w w' : World} {ok ok' : Nat → Prop} {Ω Ω' : List Value} {k m : Nat} (h : ∀ b, ok b → ok' b ∧ w'.heap[b]? = w.heap[b]?) (hΩ : ∀ o v, o ≠ k → o ≠ m → Ω[o]? = some v → Ω'[o]? = some v)
  {x : SV} {v : Value} (hx : x.noO2 k m = true) (hr : RepS w ok Ω x v) : RepS w' ok' Ω' x v := by
 simp only [SV.noO2, Bool.and_eq_true] at hx
 obtain ⟨hx, hx2⟩ := hx
 have ht : ∀ {o : Nat} {v : Value}, (o != k) = true → (o != m) = true → Ω[o]? = some v → Ω'[o]? = some v := fun h1 h2 e => hΩ _ _ (by simpa using h1) (by simpa using h2) e
 induction hr with
 | any v => exact .any v
 | d x v hd => exact .d x v (hd.mono h)
 | ptr o off b ho => exact .ptr o off b (ht hx hx2 ho)
 | ptrG o off b len cap ho => exact .ptrG o off b len cap (ht hx hx2 ho)
 | sl o sz off len cap b ho => exact .sl o sz off len cap b (ht hx hx2 ho)
 | own o v ho h1 => exact .own o v (ht hx hx2 ho) h1
 | pre o k n cap a ho hk => exact .pre o k n cap a (ht hx hx2 ho) hk
 | full sz cells a n hd => exact .full sz cells a n (hd.mono h)
 | ep b off i cells vals hb2 hcell hr => exact .ep b off i cells vals (h b hb2).1 (fun j hj => by rw [cell_heap (h b hb2).2]; exact hcell j hj) (fun j x hj => (hr j x hj).mono h)
 | ag cells vs hl _ ih => exact .ag cells vs hl fun i x y h1 h2 => ih i x y h1 h2 (SV.noOL_get hx h1) (SV.noOL_get hx2 h1)
 | tu cells vs hl _ ih => exact .tu cells vs hl fun i x y h1 h2 => ih i x y h1 h2 (SV.noOL_get hx h1) (SV.noOL_get hx2 h1)
 | ifc t x u _ ih => exact .ifc t x u (ih hx hx2)
 | fv fn first caps fs cs hf hc _ _ ih1 ih2 =>
  have g1 : SV.noOL k first = true ∧ SV.noOL k caps = true := by simpa only [SV.noO, Bool.and_eq_true] using hx
  have g2 : SV.noOL m first = true ∧ SV.noOL m caps = true := by simpa only [SV.noO, Bool.and_eq_true] using hx2
  exact .fv fn first caps fs cs hf hc (fun i x y h1 h2 => ih1 i x y h1 h2 (SV.noOL_get g1.1 h1) (SV.noOL_get g2.1 h1)) (fun i x y h1 h2 => ih2 i x y h1 h2 (SV.noOL_get g1.2 h1) (SV.noOL_get g2.2 h1))

theorem allNo {k : Nat} {l : List Ob} (h : AllNo k k l) : l.all (Ob.noO k) = true := List.all_eq_true.2 fun ob hm => by
 obtain ⟨i, hi⟩ := List.getElem?_of_mem hm
 have := h.get hi
 simp only [Ob.noO2, Bool.and_self] at this
 exact this
/-- What leads to the last object leads to number k instead. -/
def SV.sunk (m k : Nat) : SV → Option SV
 | .ptr o off => if o = m then some (.ptr k off) else none
 | .sl o sz off len cap => if o = m then some (.sl k sz off len cap) else none
 | .own o => if o = m then some (.own k) else none
 | _ => none
theorem RepS.sunk {w w' : World} {ok ok' : Nat → Prop} {Ω Ω' : List Value} {k m : Nat} (hΩ : ∀ v, Ω[m]? = some v → Ω'[k]? = some v) {x y : SV} {v : Value} (hx : x.sunk m k = some y) (hr : RepS w ok Ω x v) : RepS w' ok' Ω' y v := by
 cases hr with
 | ptr o off b ho => simp only [SV.sunk] at hx; split at hx <;> cases hx; subst_vars; exact .ptr _ _ _ (hΩ _ ho)
 | ptrG o off b len cap ho => simp only [SV.sunk] at hx; split at hx <;> cases hx; subst_vars; exact .ptrG _ _ _ _ _ (hΩ _ ho)
 | sl o sz off len cap b ho => simp only [SV.sunk] at hx; split at hx <;> cases hx; subst_vars; exact .sl _ _ _ _ _ _ (hΩ _ ho)
 | own o v ho h1 => simp only [SV.sunk] at hx; split at hx <;> cases hx; subst_vars; exact .own _ _ (hΩ _ ho) h1
 | _ => cases hx

theorem Rel.sink {C : Ctx} {e : List (Nat × SV)} {obs : List Ob} {new : Ob} {Ω : List Value} {a : Act} {w : World} {d k m : Nat} {x y : SV} (h : Rel C ⟨(d, x) :: e, obs ++ [new]⟩ Ω a w) (hm : obs.length = m) (hk : obs[k]? = some .dead) (hx : x.sunk m k = some y)
  (hno : AllNo k m obs) (hnew : new.noO2 k m = true) : ∃ Ω', Rel C ⟨(d, y) :: dropS (SV.noO2 k m) [] e, obs.set k new⟩ Ω' a w := by
 obtain ⟨hdf, hsz, henv, hmem⟩ := h
 have hlen : Ω.length = m + 1 := by have := hmem.len; simp at this; omega
 have hkm : k < m := by have := (List.getElem?_eq_some_iff.1 hk).1; omega
 obtain ⟨v0, hv0⟩ : ∃ v, Ω[m]? = some v := ⟨_, List.getElem?_eq_getElem (by omega)⟩
 have hold : ∀ o v, o ≠ k → o ≠ m → Ω[o]? = some v → ((Ω.take m).set k v0)[o]? = some v := fun o v h1 h2 h3 => by
  have : o < m := by have := (List.getElem?_eq_some_iff.1 h3).1; omega
  rw [List.getElem?_set_ne (Ne.symm h1), List.getElem?_take, if_pos this]; exact h3
 have hkk : ((Ω.take m).set k v0)[k]? = some v0 := by rw [List.getElem?_set_self (by simp; omega)]
 -- whence an entry comes
 have hfrom : ∀ {i : Nat} {ob : Ob}, (obs.set k new)[i]? = some ob → (i = k ∧ ob = new) ∨ (i ≠ k ∧ i < m ∧ obs[i]? = some ob) := fun {i ob} e => by
  rcases get_set e with ⟨h1, h2, _⟩ | ⟨h1, h2⟩
  ·exact .inl ⟨h1, h2⟩
  ·exact .inr ⟨h1, by have := (List.getElem?_eq_some_iff.1 h2).1; omega, h2⟩
 have hval : ∀ {i : Nat} {v : Value}, ((Ω.take m).set k v0)[i]? = some v → (i = k ∧ v = v0) ∨ (i ≠ k ∧ Ω[i]? = some v) := fun {i v} e => by
  rcases get_set e with ⟨h1, h2, _⟩ | ⟨h1, h2⟩
  ·exact .inl ⟨h1, h2⟩
  ·rw [List.getElem?_take] at h2
   split at h2
   ·exact .inr ⟨h1, h2⟩
   ·cases h2
 have hnewat : (obs ++ [new])[m]? = some new := by rw [← hm]; simp
 have hat : ∀ {i : Nat} {ob : Ob} {v : Value}, (obs.set k new)[i]? = some ob → ((Ω.take m).set k v0)[i]? = some v → ∃ i', (obs ++ [new])[i']? = some ob ∧ Ω[i']? = some v ∧ (i' = if i = k then m else i) := fun {i ob v} e1 e2 => by
  rcases hfrom e1 with ⟨h1, h2⟩ | ⟨h1, h2, h3⟩
  ·rcases hval e2 with ⟨_, h4⟩ | ⟨h4, _⟩
   ·subst h2 h4; exact ⟨m, hnewat, hv0, by simp [h1]⟩
   ·exact absurd h1 h4
  ·rcases hval e2 with ⟨h4, _⟩ | ⟨_, h4⟩
   ·exact absurd h4 h1
   ·exact ⟨i, get_left h3, h4, by simp [h1]⟩
 have hok : ∀ b, okB C (obs ++ [new]) Ω w b → okB C (obs.set k new) ((Ω.take m).set k v0) w b ∧ w.heap[b]? = w.heap[b]? := fun b hb => ⟨⟨hb.1, hb.2.1, fun i ob v e1 hl e2 => by
  obtain ⟨i', e1', e2', _⟩ := hat e1 e2
  exact hb.2.2 i' ob v e1' hl e2'⟩, rfl⟩
 refine ⟨(Ω.take m).set k v0, hdf, hsz, fun t z hz => ?_, ?_⟩
 ·simp only [Vm.get] at hz
  split at hz
  ·rename_i ht; cases hz
   obtain ⟨v, hv, hr⟩ := henv t x (by simp [Vm.get, ht])
   exact ⟨v, hv, hr.sunk (fun v hv => by rw [hv0] at hv; cases hv; exact hkk) hx⟩
  ·rename_i ht
   rw [get_dropS] at hz
   simp only [List.not_mem_nil, if_false] at hz
   obtain ⟨h1, h2⟩ := drE_some hz
   obtain ⟨v, hv, hr⟩ := henv t z (by simp only [Vm.get, if_neg ht]; exact h1)
   exact ⟨v, hv, hr.moved hok hold h2⟩
 ·refine ⟨by simp [hlen]; omega, fun i ob v e1 e2 => ?_, fun i j a b v u y hij e1 e2 l1 l2 e3 e4 => ?_, fun i ob v b e1 l e2 hb => ?_, hmem.fr⟩
  ·have hnob : ob.noO2 k m = true := by
    rcases hfrom e1 with ⟨_, h2⟩ | ⟨_, _, h3⟩
    ·rw [h2]; exact hnew
    ·exact hno.get h3
   obtain ⟨i', e1', e2', _⟩ := hat e1 e2
   have H := hmem.obj i' ob v e1' e2'
   cases ob with
   | dead => trivial
   | frame vs env =>
    simp only [Ob.noO2, Ob.noO, Bool.and_eq_true] at hnob
    exact ⟨H.1, fun t x hx => let ⟨v, hv, hr⟩ := H.2 t x hx; ⟨v, hv, hr.moved hok hold (by
     simp only [SV.noO2, Bool.and_eq_true]
     exact ⟨List.all_eq_true.1 hnob.1 (t, x) (get_mem hx), List.all_eq_true.1 hnob.2 (t, x) (get_mem hx)⟩)⟩⟩
   | grow ty sz cells =>
    obtain ⟨n, xs, ho, hl, hr⟩ := H
    exact ⟨n, xs, ho, hl, fun i x y hx hy => (hr i x y hx hy).mono hok⟩
   | fix ty cells =>
    obtain ⟨b, vs, rfl, hw, hl, hr, h1⟩ := H
    simp only [Ob.noO2, Ob.noO, Bool.and_eq_true] at hnob
    exact ⟨b, vs, rfl, hw, hl, fun i x y hx hy => (hr i x y hx hy).moved hok hold (by
     simp only [SV.noO2, Bool.and_eq_true]
     exact ⟨List.all_eq_true.1 hnob.1 x (List.mem_of_getElem? hx), List.all_eq_true.1 hnob.2 x (List.mem_of_getElem? hx)⟩), h1⟩
  ·obtain ⟨i', e1', e3', hi'⟩ := hat e1 e3
   obtain ⟨j', e2', e4', hj'⟩ := hat e2 e4
   have : i' ≠ j' := by
    intro he
    have hi := (List.getElem?_eq_some_iff.1 e1).1
    have hj := (List.getElem?_eq_some_iff.1 e2).1
    simp at hi hj
    by_cases h1 : i = k <;> by_cases h2 : j = k
    ·exact hij (h1.trans h2.symm)
    ·rw [if_pos h1] at hi'; rw [if_neg h2] at hj'; omega
    ·rw [if_neg h1] at hi'; rw [if_pos h2] at hj'; omega
    ·rw [if_neg h1] at hi'; rw [if_neg h2] at hj'; omega
   exact hmem.sep i' j' a b v u y this e1' e2' l1 l2 e3' e4'
  ·obtain ⟨i', e1', e2', _⟩ := hat e1 e2
   exact hmem.new i' ob v b e1' l e2' hb

section
variable {C : Ctx} {Q : Exit → St → Prop} {ops : Array Oper} {e : List (Nat × SV)} {obs : List Ob} {d : Nat}
theorem AO.sink {l : List Oper} {new : Ob} (k m : Nat) {x y : SV} (hm : obs.length = m) (hk : obs[k]? = some .dead) (hx : x.sunk m k = some y) (hno : AllNo k m obs) (hnew : new.noO2 k m = true)
  (h : AO C ops l ⟨(d, y) :: dropS (SV.noO2 k m) [] e, obs.set k new⟩ Q) : AO C ops l ⟨(d, x) :: e, obs ++ [new]⟩ Q := fun Ω a w hr => by
 obtain ⟨Ω', hr'⟩ := hr.sink hm hk hx hno hnew
 exact h Ω' a w hr'
theorem AO.objs {l : List Oper} {obs' : List Ob} (ho : obs' = obs) (h : AO C ops l ⟨e, obs'⟩ Q) : AO C ops l ⟨e, obs⟩ Q := ho ▸ h
theorem Rel.room {s : St} {Ω : List Value} {a : Act} {w : World} (h : Rel C s Ω a w) : Rel C ⟨s.env, s.obs ++ [.dead]⟩ (Ω ++ [undef]) a w := by
 have hok : ∀ b, okB C s.obs Ω w b → okB C (s.obs ++ [.dead]) (Ω ++ [undef]) w b ∧ w.heap[b]? = w.heap[b]? := fun b hb => ⟨⟨hb.1, hb.2.1, fun i ob v e1 hl e2 => by
  rcases list_get_append e1 with e1 | ⟨_, rfl⟩
  ·rcases list_get_append e2 with e2 | ⟨h1, _⟩
   ·exact hb.2.2 i ob v e1 hl e2
   ·have := (List.getElem?_eq_some_iff.1 e1).1; have := h.mem.len; omega
  ·cases hl⟩, rfl⟩
 have hΩ : ∀ (o : Nat) v, Ω[o]? = some v → (Ω ++ [undef])[o]? = some v := fun o v e => get_left e
 have hval : ∀ {i : Nat} {ob : Ob} {v : Value}, (s.obs ++ [.dead])[i]? = some ob → ob.live = true → (Ω ++ [undef])[i]? = some v → s.obs[i]? = some ob ∧ Ω[i]? = some v := fun {i ob v} e1 hl e2 => by
  rcases list_get_append e1 with e1 | ⟨_, rfl⟩
  ·rcases list_get_append e2 with e2 | ⟨h1, _⟩
   ·exact ⟨e1, e2⟩
   ·have := (List.getElem?_eq_some_iff.1 e1).1; have := h.mem.len; omega
  ·cases hl
 refine ⟨h.defers, h.size, fun t x hx => let ⟨v, h1, h2⟩ := h.env t x hx; ⟨v, h1, h2.mono hok hΩ⟩, by simp [h.mem.len], fun i ob v e1 e2 => ?_, fun i j a b v u y hij e1 e2 l1 l2 e3 e4 => ?_, fun i ob v b e1 l e2 hb => ?_, h.mem.fr⟩
 ·cases hl : ob.live with
  | false => cases ob <;> first | trivial | cases hl
  | true =>
   obtain ⟨e1', e2'⟩ := hval e1 hl e2
   exact (h.mem.obj i ob v e1' e2').mono hok hΩ fun b _ _ => rfl
 ·obtain ⟨q1, q2⟩ := hval e1 l1 e3
  obtain ⟨q3, q4⟩ := hval e2 l2 e4
  exact h.mem.sep i j a b v u y hij q1 q3 l1 l2 q2 q4
 ·obtain ⟨q1, q2⟩ := hval e1 l e2
  exact h.mem.new i ob v b q1 l q2 hb
theorem AC.room {c : Code} {s : St} (h : AC C c ⟨s.env, s.obs ++ [.dead]⟩ Q) : AC C c s Q := fun Ω a w hr => h _ a w hr.room
end
end Go.Vm

/- Functions that are gone through where they are called: their caller waits, its slots kept among the objects. -/
namespace Go.Vm
set_option linter.unusedVariables false

def enumS : Nat → List SV → List (Nat × SV)
 | _, [] => []
 | i, x :: r => (i, x) :: enumS (i + 1) r
theorem enumS_get (l : List SV) : ∀ (i t : Nat) (x : SV), get (enumS i l) t = some x → i ≤ t ∧ l[t - i]? = some x := by
 induction l with
 | nil => intro i t x h; cases h
 | cons y l ih =>
  intro i t x h
  simp only [enumS, get] at h
  split at h
  ·rename_i e; subst e; cases h; exact ⟨Nat.le_refl _, by simp⟩
  ·rename_i hne
   obtain ⟨hle, hl⟩ := ih (i + 1) t x h
   refine ⟨by omega, ?_⟩
   have : t - i = (t - (i + 1)) + 1 := by omega
   rw [this]; simpa using hl

def resS (P : Program) (s : St) (rs : List ResultVar) : Option SV :=
 match mapO (resV P s) rs with
 | some [y] => some y
 | some ys => some (.tu ys)
 | none => none

theorem resS_rep {C : Ctx} {s : St} {Ω : List Value} {a : Act} {w : World} (hr : Rel C s Ω a w) {fn : Func} {y : SV} (h : resS C.P s fn.results.toList = some y) :
  ∃ v, (results fn a.tmps).run C.P w = .ok v w ∧ RepS w (okB C s.obs Ω w) Ω y v := by
 have key : ∀ (l : List ResultVar) (ys : List SV), mapO (resV C.P s) l = some ys →
   ∃ vs : List Value, (l.mapM (resSem a.tmps)).run C.P w = .ok vs w ∧ vs.length = ys.length ∧
    ∀ (i : Nat) p q, ys[i]? = some p → vs[i]? = some q → RepS w (okB C s.obs Ω w) Ω p q := by
  intro l
  induction l with
  | nil => intro ys h; cases h; exact ⟨[], rfl, rfl, fun i p q hp => by simp at hp⟩
  | cons r l ih =>
   intro ys h
   simp only [mapO] at h
   split at h
   ·rename_i y hy
    split at h
    ·rename_i t ht
     cases h
     obtain ⟨vs, hrun, hl, hrr⟩ := ih t ht
     obtain ⟨v, hv, hrep⟩ := resV_rep hr hy
     refine ⟨v :: vs, ?_, by simp [hl], fun i p q hp hq => ?_⟩
     ·simp [List.mapM_cons, hv, hrun]
     ·cases i with
      | zero => simp at hp hq; subst hp; subst hq; exact hrep
      | succ i => simp at hp hq; exact hrr i p q hp hq
    ·cases h
   ·cases h
 unfold resS at h
 split at h
 ·rename_i y' hys
  cases h
  obtain ⟨vs, hrun, hl, hrr⟩ := key _ _ hys
  match vs, hl with
  | [v], _ =>
   refine ⟨v, ?_, hrr 0 _ _ rfl rfl⟩
   rw [results_eq]
   rw [← Array.toArray_toList (xs := fn.results), List.mapM_toArray]
   simp [hrun]
 ·rename_i ys hne hys
  cases h
  obtain ⟨vs, hrun, hl, hrr⟩ := key _ _ hys
  refine ⟨.tuple vs.toArray, ?_, .tu ys vs hl hrr⟩
  have h1 : ¬ vs.length = 1 := fun e => by
   rw [hl] at e
   match ys, e with
   | [y], _ => exact hne y rfl
  rw [results_eq]
  rw [← Array.toArray_toList (xs := fn.results), List.mapM_toArray]
  simp [hrun, h1]
 ·cases h

/-- The same, with slots of another function. -/
abbrev Ctx.sub (C : Ctx) (n : Nat) : Ctx := ⟨C.P, C.W, C.ok, C.may, n, []⟩
theorem Mem.ctx {C : Ctx} {n : Nat} {obs : List Ob} {Ω : List Value} {w : World} (h : Mem C obs Ω w) : Mem (C.sub n) obs Ω w :=
 ⟨h.len, h.obj, h.sep, h.new, ⟨h.fr.os, h.fr.tape, h.fr.output, h.fr.size, h.fr.block, h.fr.glob⟩⟩
theorem Mem.ctx' {C : Ctx} {n : Nat} {obs : List Ob} {Ω : List Value} {w : World} (h : Mem (C.sub n) obs Ω w) : Mem C obs Ω w :=
 ⟨h.len, h.obj, h.sep, h.new, ⟨h.fr.os, h.fr.tape, h.fr.output, h.fr.size, h.fr.block, h.fr.glob⟩⟩

/-- Slots are laid among the objects. -/
theorem Mem.frame {C : Ctx} {obs : List Ob} {Ω : List Value} {w : World} (h : Mem C obs Ω w) (vs : Array Value) (env : List (Nat × SV)) (he : ∀ t x, get env t = some x → ∃ v, vs[t]? = some v ∧ RepS w (okB C obs Ω w) Ω x v) :
  Mem C (obs ++ [.frame vs env]) (Ω ++ [undef]) w ∧ ∀ b, okB C obs Ω w b → okB C (obs ++ [.frame vs env]) (Ω ++ [undef]) w b := by
 have hb0 : blk undef = none := rfl
 have hΩ : ∀ (o : Nat) v, Ω[o]? = some v → (Ω ++ [undef])[o]? = some v := fun o v e => get_left e
 -- an object, or the new one
 have hval : ∀ {i : Nat} {ob : Ob} {v : Value}, (obs ++ [Ob.frame vs env])[i]? = some ob → (Ω ++ [undef])[i]? = some v → (obs[i]? = some ob ∧ Ω[i]? = some v) ∨ (ob = .frame vs env ∧ v = undef) := fun {i ob v} e1 e2 => by
  rcases list_get_append e1 with e1 | ⟨h1, rfl⟩
  ·rcases list_get_append e2 with e2 | ⟨h2, _⟩
   ·exact .inl ⟨e1, e2⟩
   ·have := (List.getElem?_eq_some_iff.1 e1).1; have := h.len; omega
  ·rcases list_get_append e2 with e2 | ⟨h2, rfl⟩
   ·have := (List.getElem?_eq_some_iff.1 e2).1; have := h.len; omega
   ·exact .inr ⟨rfl, rfl⟩
 have hok : ∀ b, okB C obs Ω w b → okB C (obs ++ [.frame vs env]) (Ω ++ [undef]) w b := fun b hb => ⟨hb.1, hb.2.1, fun i ob v e1 hl e2 => by
  rcases hval e1 e2 with ⟨q1, q2⟩ | ⟨rfl, rfl⟩
  ·exact hb.2.2 i ob v q1 hl q2
  ·rw [hb0]; intro e; cases e⟩
 refine ⟨⟨by simp [h.len], fun i ob v e1 e2 => ?_, fun i j a b v u y hij e1 e2 l1 l2 e3 e4 hp => ?_, fun i ob v b e1 l e2 hb => ?_, h.fr⟩, hok⟩
 ·rcases hval e1 e2 with ⟨q1, q2⟩ | ⟨rfl, rfl⟩
  ·exact (h.obj i ob v q1 q2).mono (fun b hb => ⟨hok b hb, rfl⟩) hΩ fun b _ _ => rfl
  ·exact ⟨hb0, fun t x hx => let ⟨v, hv, hr⟩ := he t x hx; ⟨v, hv, hr.mono (fun b hb => ⟨hok b hb, rfl⟩) hΩ⟩⟩
 ·rcases hval e1 e3 with ⟨q1, q2⟩ | ⟨rfl, rfl⟩
  ·rcases hval e2 e4 with ⟨q3, q4⟩ | ⟨rfl, rfl⟩
   ·exact h.sep i j a b v u y hij q1 q3 l1 l2 q2 q4 hp
   ·rw [hb0]; intro e; cases e
  ·rw [hb0] at hp; cases hp
 ·rcases hval e1 e2 with ⟨q1, q2⟩ | ⟨rfl, rfl⟩
  ·exact h.new i ob v b q1 l q2 hb
  ·rw [hb0] at hb; cases hb

def putO (dst : Option Nat) (r : SV) (e : List (Nat × SV)) : List (Nat × SV) := match dst with
 | some d => (d, r) :: e
 | none => e
/-- What comes behind a function's end. -/
def InlQ (C : Ctx) (ops : Array Oper) (rest : List Oper) (dst : Option Nat) (rs : List ResultVar) (k : Nat) (vs : Array Value) (Q : Exit → St → Prop) : Exit → St → Prop
 | .normal, s | .ret, s => ∃ r e', resS C.P s rs = some r ∧ s.obs[k]? = some (.frame vs e') ∧ AO C ops rest ⟨putO dst r e', s.obs.set k .dead⟩ Q
 | _, _ => False

section
variable {C : Ctx} {Q : Exit → St → Prop} {ops : Array Oper} {rest : List Oper} {o : Oper} {e : List (Nat × SV)} {obs : List Ob} {d : Nat}
theorem inlret {rs : List ResultVar} {k : Nat} {vs : Array Value} {s : St} {dst : Option Nat} {r : SV} {e' : List (Nat × SV)} {ob' : List Ob} (h1 : resS C.P s rs = some r) (h2 : s.obs[k]? = some (.frame vs e')) (h4 : s.obs.set k .dead = ob')
  (h3 : AO C ops rest ⟨putO dst r e', ob'⟩ Q) : InlQ C ops rest dst rs k vs Q .ret s := ⟨r, e', h1, h2, h4 ▸ h3⟩
theorem inlend {rs : List ResultVar} {k : Nat} {vs : Array Value} {s : St} {dst : Option Nat} {r : SV} {e' : List (Nat × SV)} {ob' : List Ob} (h1 : resS C.P s rs = some r) (h2 : s.obs[k]? = some (.frame vs e')) (h4 : s.obs.set k .dead = ob')
  (h3 : AO C ops rest ⟨putO dst r e', ob'⟩ Q) : InlQ C ops rest dst rs k vs Q .normal s := ⟨r, e', h1, h2, h4 ▸ h3⟩

/-- A call into a function's body; ks: the caller's slots that are kept. -/
theorem AOp.inl {f : FuncId} {fn : Func} {c : Code} {xs : List Operand} {ts : Array TypeId} {ys : List SV} {n : Nat} {rs : List ResultVar} {e1 : List (Nat × SV)} (ks : List Nat) (he : enters C.P f = true) (hf : C.P.funcs[f]? = some fn) (hb : fn.body = some c) (hnt : fn.ntmps = n) (hrs : fn.results = rs.toArray)
  (ho : o.op = .call { callee := .value (.func f), args := xs.toArray, argTypes := ts }) (hdn : match o.dst with | some d => d < C.n | none => True) (hx : mapO (opS ⟨e, obs⟩) xs = some ys) (hl : ys.length ≤ n) (hk : Vm.keep ks e = some e1)
  (h : ∀ vs, AC (C.sub n) c ⟨enumS 0 ys, obs ++ [.frame vs e1]⟩ (InlQ C ops rest o.dst rs obs.length vs Q)) : AOp C ops rest o ⟨e, obs⟩ Q := fun Ω a w hr => by
 obtain ⟨hlen, hi⟩ := mapO_get hx
 subst hnt
 have hrl : fn.results.toList = rs := by rw [hrs]
 unfold Oper.wp
 rw [run_call he ho, Oper.upon_enter, List.map_toArray]
 obtain ⟨hm, hok⟩ := hr.mem.frame a.tmps e1 (fun t x hx => hr.env t x (keep_get hk hx))
 refine (calls_of_wp hf hb (R := fun ed w' => ∃ (v : Value) (s : St) (Ω' : List Value), ed = .returned v ∧ Mem C s.obs Ω' w' ∧ ∃ r e', RepS w' (okB C s.obs Ω' w') Ω' r v ∧ s.obs[obs.length]? = some (.frame a.tmps e') ∧ AO C ops rest ⟨putO o.dst r e', s.obs.set obs.length .dead⟩ Q) ?_).mono fun ed w' ⟨v, s, Ω', hed, hm', r, e', hrep, hfr, hao⟩ => ?_
 ·have hrel : Rel (C.sub fn.ntmps) ⟨enumS 0 ys, obs ++ [.frame a.tmps e1]⟩ (Ω ++ [undef]) { tmps := (xs.map a.eval).toArray ++ Array.replicate (fn.ntmps - (xs.map a.eval).toArray.size) undef, defers := [] } w := by
   refine ⟨rfl, by simp; omega, fun t x hx => ?_, hm.ctx⟩
   obtain ⟨_, hy⟩ := enumS_get ys 0 t x hx
   rw [Nat.sub_zero] at hy
   have hlt := (List.getElem?_eq_some_iff.1 hy).1
   have hxt : xs[t]? = some xs[t] := List.getElem?_eq_getElem (by omega)
   refine ⟨a.eval xs[t], ?_, ?_⟩
   ·rw [Array.getElem?_append_left (by simp; omega)]
    simp [hxt]
   ·exact (hr.eval (hi t _ _ hxt hy)).mono (fun b hb => ⟨hok b hb, rfl⟩) (fun o v e => get_left e)
  refine wp_mono (h a.tmps _ _ w hrel) fun ed a' w' ⟨s, Ω', hr', hq⟩ => ?_
  have fin : (∃ r e', resS C.P s rs = some r ∧ s.obs[obs.length]? = some (.frame a.tmps e') ∧ AO C ops rest ⟨putO o.dst r e', s.obs.set obs.length .dead⟩ Q) →
    a'.defers = [] ∧ ∃ v, (results fn a'.tmps).run C.P w' = .ok v w' ∧ ∃ (v_1 : Value) (s : St) (Ω' : List Value), Ending.returned v = Ending.returned v_1 ∧ Mem C s.obs Ω' w' ∧ ∃ r e', RepS w' (okB C s.obs Ω' w') Ω' r v_1 ∧ s.obs[obs.length]? = some (.frame a.tmps e') ∧ AO C ops rest ⟨putO o.dst r e', s.obs.set obs.length .dead⟩ Q := by
   intro ⟨r, e', hres, hfr, hao⟩
   rw [← hrl] at hres
   obtain ⟨v, hv, hrep⟩ := resS_rep hr' hres
   exact ⟨hr'.defers, v, hv, v, s, Ω', rfl, hr'.mem.ctx', r, e', hrep, hfr, hao⟩
  cases ed with
  | normal => exact fin hq
  | ret => exact fin hq
  | _ => exact hq.elim
 ·subst hed
  obtain ⟨hmk, hokk⟩ := hm'.kill obs.length
  have hfrob : ∃ h, Ω'[obs.length]? = some h := ⟨_, List.getElem?_eq_getElem (by have := (List.getElem?_eq_some_iff.1 hfr).1; have := hm'.len; omega)⟩
  obtain ⟨hh, hΩh⟩ := hfrob
  have hF := hm'.obj _ _ _ hfr hΩh
  have hbase : Rel C ⟨e', s.obs.set obs.length .dead⟩ Ω' a w' :=
   ⟨hr.defers, hr.size, fun t x hx => let ⟨v, hv, hrp⟩ := hF.2 t x hx; ⟨v, hv, hrp.mono (fun b hb => ⟨hokk b hb, rfl⟩) (fun _ _ e => e)⟩, hmk⟩
  cases hd : o.dst with
  | none =>
   rw [hd] at hao
   exact hao Ω' _ w' hbase
  | some d =>
   rw [hd] at hao hdn
   exact hao Ω' _ w' (hbase.put hdn (hrep.mono (fun b hb => ⟨hokk b hb, rfl⟩) (fun _ _ e => e)))

end
end Go.Vm

/- Values of interfaces: they are made, told apart, and their methods called. -/
namespace Go.Vm
set_option linter.unusedVariables false

/-- Type t is no interface. -/
def concT (P : Program) (t : TypeId) : Bool := match P.underlying t with
 | some (.interface _) => false
 | some _ => true
 | none => false
theorem run_makeIfc {P : Program} {t : TypeId} (h : concT P t = true) (x : Value) (w : World) : (Instr.makeInterface t x).run P w = .ok (.iface t x) w := by
 unfold concT at h
 split at h
 ·cases h
 ·rename_i d hd hne
  unfold Instr.makeInterface
  rw [Sem.run_bind, run_underlying hne, Result.andThen_ok]
  split
  ·rename_i q; exact (hd q rfl).elim
  ·rfl
 ·cases h

/-- Does a value of the dynamic type t pass as one of type u? -/
def passT (P : Program) (t u : TypeId) : Option Bool := match P.underlying u with
 | some (.interface want) => match P.info? t with
  | some i => some (Instr.missingMethod want i.methods).isNone
  | none => none
 | some _ => some (t == u)
 | none => none
theorem run_assertYes {P : Program} {t u s : TypeId} (h : passT P t u = some true) (x : Value) (ok : Bool) (w : World) :
  (Instr.typeAssert (.iface t x) s u ok).run P w = .ok (let y := if (match P.underlying u with | some (.interface _) => true | _ => false) then Value.iface t x else x; if ok then .tuple #[y, .bool true] else y) w := by
 unfold passT at h
 unfold Instr.typeAssert
 split at h
 ·rename_i want hu
  split at h
  ·rename_i i hi
   have hm : Instr.missingMethod want i.methods = none := by
    have := Option.some.inj h
    simpa using this
   simp only [Sem.run_bind, run_underlying hu, Result.andThen_ok, typeInfo, run_program, hi, Sem.run_pure, hm, hu, if_true]
  ·cases h
 ·rename_i d hne hu
  have htu : t = u := by simpa using Option.some.inj h
  rw [Sem.run_bind, run_underlying hu, Result.andThen_ok, hu]
  cases d with
  | interface q => exact (hne q rfl).elim
  | _ => simp [htu]
 ·cases h
/-- What an interface's slot holds. -/
def ifcS : SV → Option (TypeId × SV)
 | .ifc t x => some (t, x)
 | .d (.ifc t x) => some (t, .d x)
 | _ => none
theorem RepS.ifcV {w : World} {ok : Nat → Prop} {Ω : List Value} {s x : SV} {t : TypeId} {v : Value} (h : RepS w ok Ω s v) (hs : ifcS s = some (t, x)) : ∃ u, v = .iface t u ∧ RepS w ok Ω x u := by
 cases h with
 | ifc t' y u hy => cases hs; exact ⟨u, rfl, hy⟩
 | d y u hd =>
  cases hd with
  | ifc t' y' u' h' => cases hs; exact ⟨u', rfl, .d _ _ h'⟩
  | _ => cases hs
 | _ => cases hs

/-! ### methods -/
def fieldTy (P : Program) (t : TypeId) (i : Nat) : Option TypeId := match P.underlying t with
 | some (.struct fs) => (fs[i]?).map (·.type)
 | _ => none
/-- The place of an embedded part, behind a pointer: its type and its distance. -/
def stepsT (P : Program) : List FieldStep → TypeId → Nat → Option (TypeId × Nat)
 | [], t, k => some (t, k)
 | s :: r, _, k => if s.deref then none else match fieldOff P s.struct s.index, fieldTy P s.struct s.index with
  | some j, some u => stepsT P r u (k + j)
  | _, _ => none
/-- The function that a method's name leads to, and how the receiver is found: itself, or so far behind the pointer. -/
def methT (P : Program) (t : TypeId) (name : String) : Option (FuncId × Option Nat) :=
 if P.types.size + Made.depth = 0 then none else
 match P.info? t with
 | some i => match i.methods.find? (·.name == name) with
  | some m => match m.func with
   | some (f, pr) => match m.path.toList with
    | [] => match P.underlying t with
     | some (.pointer _) => if pr then some (f, none) else none
     | some _ => if pr then none else some (f, none)
     | none => none
    | s :: r => if s.deref && pr then match fieldOff P s.struct s.index, fieldTy P s.struct s.index with
      | some k, some u => match stepsT P r u k with
       | some (u2, j) => match P.underlying u2 with
        | some (.pointer _) => none
        | some _ => some (f, some j)
        | none => none
       | none => none
      | _, _ => none
     else none
   | none => none
  | none => none
 | none => none
/-- The receiver. -/
def recvS (sv : SV) : Option Nat → Option SV
 | none => some sv
 | some k => match sv with
  | .ptr o off => some (.ptr o (off + k))
  | .d (.pt cells) => some (.ep cells k)
  | .ep cells i => some (.ep cells (i + k))
  | _ => none
section
variable {C : Ctx} {Q : Exit → St → Prop} {ops : Array Oper} {rest : List Oper} {o : Oper} {e : List (Nat × SV)} {obs : List Ob} {d : Nat}
theorem AOp.makeIfc {t : TypeId} {x : Operand} {sv : SV} (ho : o.op = .makeInterface t x) (hd : o.dst = some d) (hn : d < C.n) (hx : opS ⟨e, obs⟩ x = some sv) (ht : concT C.P t = true)
  (h : AO C ops rest ⟨(d, .ifc t sv) :: e, obs⟩ Q) : AOp C ops rest o ⟨e, obs⟩ Q :=
 AOp.value hd hn (fun Ω a w hr => ⟨_, by simp only [execOp, ho, run_makeIfc ht, Sem.run_bind, Result.andThen_ok, Sem.run_pure], .ifc t _ _ (hr.eval hx)⟩) h
/-- x.(u) and x.(u), ok, where it passes; b: u is an interface. -/
theorem AOp.assertYes {x : Operand} {s u t : TypeId} {ok b : Bool} {sv y : SV} (ho : o.op = .typeAssert x s u ok) (hd : o.dst = some d) (hn : d < C.n) (hx : opS ⟨e, obs⟩ x = some sv) (hs : ifcS sv = some (t, y)) (hp : passT C.P t u = some true)
  (hb : (match C.P.underlying u with | some (.interface _) => true | _ => false) = b) (h : AO C ops rest ⟨(d, let z := if b then SV.ifc t y else y; if ok then .tu [z, .d (.v (.bool true))] else z) :: e, obs⟩ Q) : AOp C ops rest o ⟨e, obs⟩ Q :=
 AOp.value hd hn (fun Ω a w hr => by
  obtain ⟨v, hv, hrep⟩ := (hr.eval hx).ifcV hs
  refine ⟨if ok then .tuple #[if b then Value.iface t v else v, .bool true] else if b then Value.iface t v else v, by simp only [execOp, ho, hv, run_assertYes hp, Sem.run_bind, Result.andThen_ok, Sem.run_pure, hb], ?_⟩
  have hz : RepS w (okB C obs Ω w) Ω (if b then SV.ifc t y else y) (if b then Value.iface t v else v) := by
   cases b with
   | true => exact .ifc t _ _ hrep
   | false => exact hrep
  cases ok with
  | false => exact hz
  | true =>
   refine .tu _ [_, _] rfl fun i p q hp hq => ?_
   match i, hp, hq with
   | 0, hp, hq => cases hp; cases hq; exact hz
   | 1, hp, hq => cases hp; cases hq; exact .d _ _ (.v _)
   | i + 2, hp, hq => simp at hp) h
/-- The operation enters function f with what ys stand for. -/
def EntersS (C : Ctx) (o : Oper) (s : St) (f : FuncId) (ys : List SV) : Prop := ∀ Ω a w, Rel C s Ω a w → ∃ vs : List Value, (execOp a.eval o).run C.P w = .ok (.enter f vs.toArray) w ∧ vs.length = ys.length ∧
 ∀ (i : Nat) y v, ys[i]? = some y → vs[i]? = some v → RepS w (okB C s.obs Ω w) Ω y v
theorem EntersS.call {f : FuncId} {xs : List Operand} {ts : Array TypeId} {ys : List SV} (he : enters C.P f = true) (ho : o.op = .call { callee := .value (.func f), args := xs.toArray, argTypes := ts }) (hx : mapO (opS ⟨e, obs⟩) xs = some ys) : EntersS C o ⟨e, obs⟩ f ys := fun Ω a w hr => by
 obtain ⟨hlen, hi⟩ := mapO_get hx
 refine ⟨xs.map a.eval, by rw [run_call he ho, List.map_toArray], by simp [hlen], fun i y v hy hv => ?_⟩
 simp only [List.getElem?_map, Option.map_eq_some_iff] at hv
 obtain ⟨x, hxi, rfl⟩ := hv
 exact hr.eval (hi i x y hxi hy)
end
/-- Is it a pointer, and the nil one? -/
def isNilP : SV → Option Bool
 | .ptr _ _ => some false
 | .ep _ _ => some false
 | .d (.pt _) => some false
 | .d (.v (.pointer none)) => some true
 | _ => none
section
variable {C : Ctx} {Q : Exit → St → Prop} {ops : Array Oper} {rest : List Oper} {o : Oper} {e : List (Nat × SV)} {obs : List Ob} {d : Nat} {t ty : TypeId} {x y : Operand}
/-- The type of what a package variable holds. -/
def errT (W : World) (g : Nat) : TypeId := match W.cell? ⟨g, 0, none⟩ with
 | some (.iface t _) => t
 | _ => 0
end
end Go.Vm

/- Functions that give a slice which is new: it becomes one of the caller's own. -/
namespace Go.Vm
set_option linter.unusedVariables false
def D.isV : D → Bool
 | .v _ => true
 | _ => false
/-- Function f, called with data args, gives a slice of its own making that holds some cells with R cells; nothing that was there has turned. -/
def FnN (P : Program) (f : FuncId) (args : List D) (el sz : Nat) (R : List D → Prop) : Prop :=
 enters P f = true ∧ ∀ (W : World) (ok : Nat → Prop) (vs : List Value), HoldsG W → (∀ b, ok b → b < W.heap.size) → vs.length = args.length →
  (∀ (i : Nat) x v, args[i]? = some x → vs[i]? = some v → RepD W ok x v) →
  Calls P f vs.toArray W fun e w' => ∃ v cells n xs, e = .returned v ∧ R cells ∧ RowKit.Below W.heap.size W w' ∧ w'.ownsRow 0 el sz v n xs ∧ (∀ b, blk v = some b → W.heap.size ≤ b) ∧ xs.length = cells.length ∧
   ∀ (i : Nat) x y, cells[i]? = some x → xs[i]? = some y → x = .v y
def RetN (rs : List ResultVar) (el sz : Nat) (R : List D → Prop) : Exit → St → Prop
 | .normal, s => ∃ t p cells, rs = [.tmp t] ∧ get s.env t = some (.own p) ∧ s.obs[p]? = some (.grow el sz cells) ∧ cells.all D.isV = true ∧ R cells
 | .ret, s => ∃ t p cells, rs = [.tmp t] ∧ get s.env t = some (.own p) ∧ s.obs[p]? = some (.grow el sz cells) ∧ cells.all D.isV = true ∧ R cells
 | _, _ => False
theorem FnN.of {P : Program} {f : FuncId} {fn : Func} {c : Code} {args : List D} {el sz : Nat} {R : List D → Prop} {n : Nat} {rs : List ResultVar} (he : enters P f = true) (hf : P.funcs[f]? = some fn) (hb : fn.body = some c) (hnt : fn.ntmps = n) (hrs : fn.results = rs.toArray) (hn : args.length ≤ n)
  (h : ∀ (W : World) (ok : Nat → Prop), AC ⟨P, W, ok, [], n, []⟩ c ⟨enumD 0 args, []⟩ (RetN rs el sz R)) : FnN P f args el sz R := by
 subst hnt
 refine ⟨he, fun W ok vs hG hok hl hrep => calls_of_wp hf hb ?_⟩
 have hrel : Rel ⟨P, W, ok, [], fn.ntmps, []⟩ ⟨enumD 0 args, []⟩ [] { tmps := vs.toArray ++ Array.replicate (fn.ntmps - vs.toArray.size) undef, defers := [] } W := by
  refine ⟨rfl, by simp; omega, fun t x hx => ?_, ⟨rfl, fun o ob h e1 => by simp at e1, fun i j a b p q x _ e1 => by simp at e1, fun o ob p b e1 => by simp at e1, ⟨rfl, rfl, rfl, Nat.le_refl _, fun _ _ _ => rfl, hG⟩⟩⟩
  obtain ⟨y, rfl, _, hy⟩ := enumD_get args 0 t x hx
  rw [Nat.sub_zero] at hy
  have hlt := (List.getElem?_eq_some_iff.1 hy).1
  have hv : vs[t]? = some vs[t] := List.getElem?_eq_getElem (by omega)
  refine ⟨vs[t], ?_, .d _ _ ((hrep t _ _ hy hv).mono fun b hb => ⟨⟨.inl hb, hok b hb, fun o ob h e1 => by simp at e1⟩, rfl⟩)⟩
  rw [Array.getElem?_append_left (by simp; omega)]
  simp
 refine wp_mono (h W ok _ _ W hrel) fun ed a w ⟨s, Ω, hr, hq⟩ => ?_
 have fin : (∃ t p cells, rs = [.tmp t] ∧ get s.env t = some (.own p) ∧ s.obs[p]? = some (.grow el sz cells) ∧ cells.all D.isV = true ∧ R cells) → a.defers = [] ∧ ∃ v, (results fn a.tmps).run P w = .ok v w ∧
   ∃ v_1 cells n xs, Ending.returned v = Ending.returned v_1 ∧ R cells ∧ RowKit.Below W.heap.size W w ∧ w.ownsRow 0 el sz v_1 n xs ∧ (∀ b, blk v_1 = some b → W.heap.size ≤ b) ∧ xs.length = cells.length ∧
   ∀ (i : Nat) x y, cells[i]? = some x → xs[i]? = some y → x = .v y := by
  intro ⟨t, p, cells, hrt, hg, hp, hV, hR⟩
  obtain ⟨v, hv, hrep⟩ := hr.env t _ hg
  cases hrep with
  | own _ _ hΩ _ =>
   obtain ⟨m, xs, how, hxl, hrr⟩ := hr.mem.obj p _ _ hp hΩ
   refine ⟨hr.defers, v, ?_, v, cells, m, xs, rfl, hR, ⟨hr.mem.fr.os, hr.mem.fr.tape, hr.mem.fr.output, hr.mem.fr.size, fun b hb => hr.mem.fr.block b hb (by simp)⟩, how, fun b hbk => ?_, hxl, fun i x y hx hy => ?_⟩
   ·rw [results_eq, hrs, hrt, List.mapM_toArray]
    have : a.tmps.getD t undef = v := by simp [Array.getD_eq_getD_getElem?, hv]
    simp [resSem, this]
   ·rcases hr.mem.new p _ _ b hp rfl hΩ hbk with h1 | h1
    ·exact h1
    ·simp at h1
   ·have := List.all_eq_true.1 hV x (List.mem_of_getElem? hx)
    have hd := hrr i x y hx hy
    cases x with
    | v u => cases hd; rfl
    | _ => cases this
 cases ed with
 | normal => exact fin hq
 | ret => exact fin hq
 | _ => exact hq.elim
section
variable {C : Ctx} {Q : Exit → St → Prop} {ops : Array Oper} {rest : List Oper} {o : Oper} {e : List (Nat × SV)} {obs : List Ob} {d : Nat}
end
end Go.Vm
namespace Go.Vm
set_option linter.unusedVariables false
/-- Function f, called with data args, gives a pointer to a block of its own making that holds some cells with R cells; nothing that was there has turned. -/
def FnA (P : Program) (f : FuncId) (args : List D) (ty : Nat) (R : List D → Prop) : Prop :=
 enters P f = true ∧ ∀ (W : World) (ok : Nat → Prop) (vs : List Value), HoldsG W → (∀ b, ok b → b < W.heap.size) → vs.length = args.length →
  (∀ (i : Nat) x v, args[i]? = some x → vs[i]? = some v → RepD W ok x v) →
  Calls P f vs.toArray W fun e w' => ∃ (b : Nat) (cells : List D) (us : List Value), e = .returned (.pointer (some ⟨b, 0, none⟩)) ∧ R cells ∧ RowKit.Below W.heap.size W w' ∧ W.heap.size ≤ b ∧ w'.heap[b]? = some (.cells us.toArray ty (0, 0)) ∧ us.length = cells.length ∧ (∀ y, y ∈ us → y.oneCell' = true) ∧
   ∀ (i : Nat) x y, cells[i]? = some x → us[i]? = some y → RepD w' (fun k => (ok k ∨ W.heap.size ≤ k) ∧ k < w'.heap.size ∧ k ≠ b) x y
def RetA (rs : List ResultVar) (ty : Nat) (R : List D → Prop) : Exit → St → Prop
 | .normal, s => ∃ t p cells ds, rs = [.tmp t] ∧ get s.env t = some (.ptr p 0) ∧ s.obs[p]? = some (.fix ty cells) ∧ mapO (dataS 9) cells = some ds ∧ R ds
 | .ret, s => ∃ t p cells ds, rs = [.tmp t] ∧ get s.env t = some (.ptr p 0) ∧ s.obs[p]? = some (.fix ty cells) ∧ mapO (dataS 9) cells = some ds ∧ R ds
 | _, _ => False
theorem FnA.of {P : Program} {f : FuncId} {fn : Func} {c : Code} {args : List D} {ty : Nat} {R : List D → Prop} {n : Nat} {rs : List ResultVar} (he : enters P f = true) (hf : P.funcs[f]? = some fn) (hb : fn.body = some c) (hnt : fn.ntmps = n) (hrs : fn.results = rs.toArray) (hn : args.length ≤ n)
  (h : ∀ (W : World) (ok : Nat → Prop), AC ⟨P, W, ok, [], n, []⟩ c ⟨enumD 0 args, []⟩ (RetA rs ty R)) : FnA P f args ty R := by
 subst hnt
 refine ⟨he, fun W ok vs hG hok hl hrep => calls_of_wp hf hb ?_⟩
 have hrel : Rel ⟨P, W, ok, [], fn.ntmps, []⟩ ⟨enumD 0 args, []⟩ [] { tmps := vs.toArray ++ Array.replicate (fn.ntmps - vs.toArray.size) undef, defers := [] } W := by
  refine ⟨rfl, by simp; omega, fun t x hx => ?_, ⟨rfl, fun o ob h e1 => by simp at e1, fun i j a b p q x _ e1 => by simp at e1, fun o ob p b e1 => by simp at e1, ⟨rfl, rfl, rfl, Nat.le_refl _, fun _ _ _ => rfl, hG⟩⟩⟩
  obtain ⟨y, rfl, _, hy⟩ := enumD_get args 0 t x hx
  rw [Nat.sub_zero] at hy
  have hlt := (List.getElem?_eq_some_iff.1 hy).1
  have hv : vs[t]? = some vs[t] := List.getElem?_eq_getElem (by omega)
  refine ⟨vs[t], ?_, .d _ _ ((hrep t _ _ hy hv).mono fun b hb => ⟨⟨.inl hb, hok b hb, fun o ob h e1 => by simp at e1⟩, rfl⟩)⟩
  rw [Array.getElem?_append_left (by simp; omega)]
  simp
 refine wp_mono (h W ok _ _ W hrel) fun ed a w ⟨s, Ω, hr, hq⟩ => ?_
 have fin : (∃ t p cells ds, rs = [.tmp t] ∧ get s.env t = some (.ptr p 0) ∧ s.obs[p]? = some (.fix ty cells) ∧ mapO (dataS 9) cells = some ds ∧ R ds) → a.defers = [] ∧ ∃ v, (results fn a.tmps).run P w = .ok v w ∧
   ∃ (b : Nat) (cells : List D) (us : List Value), Ending.returned v = Ending.returned (.pointer (some ⟨b, 0, none⟩)) ∧ R cells ∧ RowKit.Below W.heap.size W w ∧ W.heap.size ≤ b ∧ w.heap[b]? = some (.cells us.toArray ty (0, 0)) ∧ us.length = cells.length ∧ (∀ y, y ∈ us → y.oneCell' = true) ∧
   ∀ (i : Nat) x y, cells[i]? = some x → us[i]? = some y → RepD w (fun k => (ok k ∨ W.heap.size ≤ k) ∧ k < w.heap.size ∧ k ≠ b) x y := by
  intro ⟨t, p, cells, ds, hrt, hg, hp, hV, hR⟩
  obtain ⟨v, hv, hrep⟩ := hr.env t _ hg
  obtain ⟨b, vs', hΩ, hw, hvl, hrr, h1, hvb⟩ : ∃ (b : Nat) (vs' : List Value), Ω[p]? = some (.pointer (some ⟨b, 0, none⟩)) ∧ w.heap[b]? = some (.cells vs'.toArray ty (0, 0)) ∧ vs'.length = cells.length ∧
    (∀ (i : Nat) x y, cells[i]? = some x → vs'[i]? = some y → RepS w (okB _ s.obs Ω w) Ω x y) ∧ (∀ y, y ∈ vs' → y.oneCell' = true) ∧ v = .pointer (some ⟨b, 0, none⟩) := by
   obtain ⟨b, vs', hev, hΩ, hw, hl', hrr', h1'⟩ := hr.fix hp hrep
   exact ⟨b, vs', hΩ, hw, hl', hrr', h1', by rw [hev]⟩
  subst hvb
  obtain ⟨hdl, hdi⟩ := mapO_get hV
  refine ⟨hr.defers, _, ?_, b, ds, vs', rfl, hR, ⟨hr.mem.fr.os, hr.mem.fr.tape, hr.mem.fr.output, hr.mem.fr.size, fun b hb => hr.mem.fr.block b hb (by simp)⟩, ?_, hw, by omega, h1, fun i x y hx hy => ?_⟩
  ·rw [results_eq, hrs, hrt, List.mapM_toArray]
   have : a.tmps.getD t undef = .pointer (some ⟨b, 0, none⟩) := by simp [Array.getD_eq_getD_getElem?, hv]
   simp [resSem, this]
  ·rcases hr.mem.new p _ _ b hp rfl hΩ rfl with h1 | h1
   ·exact h1
   ·simp at h1
  ·have hil : i < cells.length := by have := (List.getElem?_eq_some_iff.1 hx).1; omega
   have hci : cells[i]? = some cells[i] := List.getElem?_eq_getElem hil
   have hd := hdi i _ _ hci hx
   exact (dataS_rep 9 hd (hrr i _ y hci hy)).mono fun k hk => ⟨⟨hk.1, hk.2.1, fun e => hk.2.2 p _ _ hp rfl hΩ (by rw [e]; rfl)⟩, rfl⟩
 cases ed with
 | normal => exact fin hq
 | ret => exact fin hq
 | _ => exact hq.elim
section
variable {C : Ctx} {Q : Exit → St → Prop} {ops : Array Oper} {rest : List Oper} {o : Oper} {e : List (Nat × SV)} {obs : List Ob} {d : Nat}
theorem Rel.beginFix {Ω : List Value} {a : Act} {w w' : World} (hr : Rel C ⟨e, obs⟩ Ω a w) (hbel : RowKit.Below w.heap.size w w') {ty b : Nat} {us : List Value} {cells : List D} (hb : w.heap.size ≤ b) (hw : w'.heap[b]? = some (.cells us.toArray ty (0, 0))) (hl : us.length = cells.length) (h1 : ∀ y, y ∈ us → y.oneCell' = true)
  (hc : ∀ (i : Nat) x y, cells[i]? = some x → us[i]? = some y → RepD w' (fun k => (okB C obs Ω w k ∨ w.heap.size ≤ k) ∧ k < w'.heap.size ∧ k ≠ b) x y) :
  Rel C ⟨e, obs ++ [.fix ty (cells.map .d)]⟩ (Ω ++ [.pointer (some ⟨b, 0, none⟩)]) a w' := by
 have hlen : obs.length = Ω.length := hr.mem.len
 have new1 : ∀ {i : Nat} {ob : Ob} {k : Value}, (obs ++ [.fix ty (cells.map .d)])[i]? = some ob → (Ω ++ [.pointer (some ⟨b, 0, none⟩)])[i]? = some k → (obs[i]? = some ob ∧ Ω[i]? = some k) ∨ (i = obs.length ∧ ob = .fix ty (cells.map .d) ∧ k = .pointer (some ⟨b, 0, none⟩)) := fun {i ob k} e1 e2 => by
  rw [List.getElem?_append] at e1 e2
  rw [← hlen] at e2
  split at e1
  ·rename_i hi; rw [if_pos hi] at e2; exact .inl ⟨e1, e2⟩
  ·rename_i hi
   rw [if_neg hi] at e2
   cases hq : i - obs.length with
   | zero =>
    rw [hq] at e1 e2
    exact .inr ⟨by omega, (Option.some.inj e1).symm, (Option.some.inj e2).symm⟩
   | succ m => rw [hq] at e1; simp at e1
 have lt : ∀ {i : Nat} {ob : Ob} {k : Value} {b : Nat}, obs[i]? = some ob → ob.live = true → Ω[i]? = some k → blk k = some b → b < w.heap.size := fun e1 l e2 hbk => (hr.mem.obj _ _ _ e1 e2).lt l hbk
 have hok : ∀ k, okB C obs Ω w k → okB C (obs ++ [.fix ty (cells.map .d)]) (Ω ++ [.pointer (some ⟨b, 0, none⟩)]) w' k ∧ w'.heap[k]? = w.heap[k]? := fun b' hk => ⟨⟨hk.1, Nat.lt_of_lt_of_le hk.2.1 hbel.size, fun i ob k e1 l e2 => by
  rcases new1 e1 e2 with ⟨f1, f2⟩ | ⟨_, rfl, rfl⟩
  ·exact hk.2.2 i ob k f1 l f2
  ·intro he
   have he : b = b' := Option.some.inj he
   have := hk.2.1
   omega⟩, hbel.block b' hk.2.1⟩
 have hokN : ∀ k, ((okB C obs Ω w k ∨ w.heap.size ≤ k) ∧ k < w'.heap.size ∧ k ≠ b) → okB C (obs ++ [.fix ty (cells.map .d)]) (Ω ++ [.pointer (some ⟨b, 0, none⟩)]) w' k ∧ w'.heap[k]? = w'.heap[k]? := fun k hk => by
  rcases hk.1 with h | h
  ·exact ⟨(hok k h).1, rfl⟩
  ·refine ⟨⟨.inr (Nat.le_trans hr.mem.fr.size h), hk.2.1, fun i ob v e1 l e2 he => ?_⟩, rfl⟩
   rcases new1 e1 e2 with ⟨f1, f2⟩ | ⟨_, rfl, rfl⟩
   ·have := lt f1 l f2 he; omega
   ·cases he; exact hk.2.2 rfl
 have hΩ : ∀ (o : Nat) u, Ω[o]? = some u → (Ω ++ [.pointer (some ⟨b, 0, none⟩)])[o]? = some u := fun o u h => by
  rw [List.getElem?_append_left (List.getElem?_eq_some_iff.1 h).1]; exact h
 refine ⟨hr.defers, hr.size, fun q x hq => ?_, ⟨by simp [hlen], fun i ob k e1 e2 => ?_, fun i j x y p q b' hij e1 e2 l1 l2 e3 e4 hp => ?_, fun i ob k b' e1 l1 e2 hp => ?_, ?_⟩⟩
 ·obtain ⟨u, hu, hrep⟩ := hr.env q x hq
  exact ⟨u, hu, hrep.mono hok hΩ⟩
 ·rcases new1 e1 e2 with ⟨f1, f2⟩ | ⟨_, rfl, rfl⟩
  ·exact (hr.mem.obj i ob k f1 f2).mono hok hΩ (fun b hbk l => hbel.block b (lt f1 l f2 hbk))
  ·refine ⟨b, us, rfl, hw, by simp [hl], fun i x y hx hy => ?_, h1⟩
   simp only [List.getElem?_map, Option.map_eq_some_iff] at hx
   obtain ⟨x', hx', rfl⟩ := hx
   exact .d _ _ ((hc i x' y hx' hy).mono hokN)
 ·rcases new1 e1 e3 with ⟨f1, f2⟩ | ⟨h1, rfl, rfl⟩
  ·rcases new1 e2 e4 with ⟨g1, g2⟩ | ⟨_, rfl, rfl⟩
   ·exact hr.mem.sep i j x y p q b' hij f1 g1 l1 l2 f2 g2 hp
   ·intro he
    have he : b = b' := Option.some.inj he
    have h2 := lt f1 l1 f2 hp
    omega
  ·rcases new1 e2 e4 with ⟨g1, g2⟩ | ⟨h2, _, _⟩
   ·intro he
    have hp : b = b' := Option.some.inj hp
    have h2 := lt g1 l2 g2 he
    omega
   ·omega
 ·rcases new1 e1 e2 with ⟨f1, f2⟩ | ⟨_, rfl, rfl⟩
  ·exact hr.mem.new i ob k b' f1 l1 f2 hp
  ·cases hp; left; exact Nat.le_trans hr.mem.fr.size hb
 ·exact ⟨hbel.os.trans hr.mem.fr.os, hbel.tape.trans hr.mem.fr.tape, hbel.output.trans hr.mem.fr.output, Nat.le_trans hr.mem.fr.size hbel.size, fun b e1 e2 => (hbel.block b (Nat.lt_of_lt_of_le e1 hr.mem.fr.size)).trans (hr.mem.fr.block b e1 e2), hr.mem.fr.glob⟩
/-- A call that gives a pointer to a new block. -/
theorem AOp.callA {f : FuncId} {xs : List Operand} {ts : Array TypeId} {ys : List D} {ty : Nat} {cells : List D} (ho : o.op = .call { callee := .value (.func f), args := xs.toArray, argTypes := ts }) (hd : o.dst = some d) (hn : d < C.n) (hm : C.may = [])
  (hx : mapO (argD ⟨e, obs⟩) xs = some ys) (hF : FnA C.P f ys ty (fun r => r = cells)) (h : AO C ops rest ⟨(d, .ptr obs.length 0) :: e, obs ++ [.fix ty (cells.map .d)]⟩ Q) : AOp C ops rest o ⟨e, obs⟩ Q := fun Ω a w hr => by
 obtain ⟨hl, hi⟩ := mapO_get hx
 unfold Oper.wp
 rw [run_call hF.1 ho, Oper.upon_enter, List.map_toArray]
 refine (hF.2 w (okB C obs Ω w) (xs.map a.eval) (hr.mem.fr.holds hm) (fun b hb => hb.2.1) (by simp [hl]) fun i y v hy hv => ?_).mono fun ed w' ⟨b, cs, us, he, hR, hb, hge, hwb, hul, h1, hrr⟩ => ?_
 ·simp only [List.getElem?_map, Option.map_eq_some_iff] at hv
  obtain ⟨x, hxi, rfl⟩ := hv
  have := hi i x y hxi hy
  unfold argD at this
  split at this
  ·rename_i z hz
   exact dataS_rep 9 this (hr.eval hz)
  ·cases this
 ·subst he hR
  rw [hd]
  have hrel := hr.beginFix hb hge hwb hul h1 hrr
  refine h _ _ w' (hrel.put hn (.ptr _ 0 b ?_))
  have := hr.mem.len
  dsimp only at this
  rw [this, List.getElem?_append_right (Nat.le_refl _)]; simp
theorem AC.dec {c : Code} {s : St} (b : Bool) (hy : b = true → AC C c s Q) (hn : b = false → AC C c s Q) : AC C c s Q := by
 cases b with
 | true => exact hy rfl
 | false => exact hn rfl
end
end Go.Vm

/- Arguments of numbers and slices, and the bulk of what is read of them: for rows whose condition bounds it. -/
namespace Go.Vm
set_option linter.unusedVariables false
mutual
def bulkD : D → Nat
 | .v _ => 1
 | .ds _ l => bulkDs l + 1
 | .pt l => bulkDs l + 1
 | .ag l => bulkDs l + 1
 | .ifc _ x => bulkD x + 1
 | .tu l => bulkDs l + 1
def bulkDs : List D → Nat
 | [] => 0
 | x :: l => bulkD x + bulkDs l
end
theorem bulkDs_app : ∀ a b : List D, bulkDs (a ++ b) = bulkDs a + bulkDs b
 | [], b => by simp [bulkDs]
 | x :: a, b => by simp only [List.cons_append, bulkDs, bulkDs_app a b]; omega
/-- Numbers, truth values, strings, and slices of such. -/
def goodB (P : Program) : Nat → TypeId → Bool
 | 0, _ => true
 | n + 1, t => match P.underlying t with
  | some .bool | some (.int _) | some (.float _) | some .string => true
  | some (.slice e) => decide (0 < P.cellsOf e) && goodB P n e
  | _ => false
/-- The same, with an end. -/
def goodBS (P : Program) : Nat → TypeId → Bool
 | 0, _ => false
 | n + 1, t => match P.underlying t with
  | some .bool | some (.int _) | some (.float _) | some .string => true
  | some (.slice e) => decide (0 < P.cellsOf e) && goodBS P n e
  | _ => false
theorem goodBS_B {P : Program} : ∀ (k n : Nat) (t : TypeId), goodBS P k t = true → goodB P n t = true := by
 intro k
 induction k with
 | zero => intro n t h; cases h
 | succ k ih =>
  intro n t h
  cases n with
  | zero => rfl
  | succ n =>
   unfold goodBS at h
   unfold goodB
   cases hu : P.underlying t with
   | none => simp [hu] at h
   | some u =>
    cases u with
    | bool => rfl
    | int _ => rfl
    | float _ => rfl
    | string => rfl
    | slice e =>
     simp only [hu, Bool.and_eq_true] at h ⊢
     exact ⟨h.1, ih _ _ h.2⟩
    | _ => simp [hu] at h
variable {H : Type} {enc : TypeId × Value → H} {P : Program} {W : World}
theorem bulk_rows {B : DataW H → Nat} {Bs : List (DataW H) → Nat} (hBc : ∀ d r, Bs (d :: r) = B d + Bs r) : ∀ {rows : List (List D)} {elems : List (DataW H × List MemPlace)}, rows.length = elems.length →
  (∀ (i : Nat) r, rows[i]? = some r → ∃ y, elems[i]? = some y ∧ bulkDs r ≤ B y.1) → bulkDs rows.flatten ≤ Bs (elems.map (·.1))
 | [], es, _, _ => by simp [bulkDs]
 | r :: rows, [], h, _ => by simp at h
 | r :: rows, e :: es, h, hr => by
  obtain ⟨y, h1, h2⟩ := hr 0 r rfl
  cases h1
  have := bulk_rows hBc (rows := rows) (elems := es) (by simpa using h) (fun i x hx => hr (i + 1) x hx)
  rw [List.flatten_cons, bulkDs_app, List.map_cons, hBc]
  omega
theorem trod_bulk {B : DataW H → Nat} {Bs : List (DataW H) → Nat} (hB1 : ∀ d, 1 ≤ B d) (hBs : ∀ es sp, Bs es + 1 ≤ B (.slice es sp)) (hBc : ∀ d r, Bs (d :: r) = B d + Bs r) : ∀ (n : Nat) (t : TypeId) (cs : List Value) (d : DataW H × List MemPlace), goodB P n t = true → DataW.trod enc P W 0 (fun _ => true) true n t cs = some d →
  ∃ xs, RepC W xs cs ∧ Shape P n t xs ∧ bulkDs xs ≤ B d.1 := by
 intro n
 induction n with
 | zero => intro t cs d _ h; cases h
 | succ n ih =>
  intro t cs d hg h
  have single : ∀ (x : D) (v : Value), RepD W (fun b => b < W.heap.size) x v → RepC W [x] [v] := fun x v hr => ⟨rfl, fun i p q hp hq => by
   cases i with
   | zero => cases hp; cases hq; exact hr
   | succ i => simp at hp⟩
  cases hu : P.underlying t with
  | none => simp [goodB, hu] at hg
  | some u =>
   cases u with
   | bool =>
    obtain ⟨b, rfl, _⟩ := DataW.trod_bool hu h
    exact ⟨_, single _ _ (.v _), (by simp only [Shape, hu]; exact ⟨b, rfl⟩), hB1 _⟩
   | int k =>
    obtain ⟨m, rfl, _, hw⟩ := DataW.trod_int hu h
    exact ⟨_, single _ _ (.v _), (by simp only [Shape, hu]; exact ⟨m, rfl, wf_bounds hw⟩), hB1 _⟩
   | float k =>
    obtain ⟨b, rfl, hw⟩ := trod_float hu h
    exact ⟨_, single _ _ (.v _), (by simp only [Shape, hu]; exact ⟨b, rfl, hw⟩), hB1 _⟩
   | string =>
    obtain ⟨s, rfl, _, hw⟩ := DataW.trod_string hu h
    exact ⟨_, single _ _ (.v _), (by simp only [Shape, hu]; exact ⟨s, rfl, hw⟩), hB1 _⟩
   | slice e =>
    simp only [goodB, hu, Bool.and_eq_true, decide_eq_true_eq] at hg
    rcases DataW.trod_slice hu h with ⟨rfl, _⟩ | ⟨a, len, cap, elems, rest, m, he, rfl, hd1, hb, hlc, hcm, hel, hf, _⟩
    ·refine ⟨_, single (.ds (P.cellsOf e) []) _ (.nil _ _ _), ?_, by simpa [bulkDs, bulkD] using hB1 _⟩
     simp only [Shape, hu]
     exact ⟨[], rfl, by simp, fun r hr => by simp at hr⟩
    ·cases he
     obtain ⟨rows, hrl, hrr⟩ := list_choose (p := fun (i : Nat) (r : List D) => ∃ l, W.cells? 0 (a.add (i * P.cellsOf e)) (P.cellsOf e) = some l ∧ RepC W r l ∧ Shape P n e r ∧ ∃ y, elems[i]? = some y ∧ bulkDs r ≤ B y.1) (List.range len) (fun i hi => by
      have hlt : i < len := by simpa using hi
      have := hf i hlt
      rw [List.getElem?_eq_getElem (by omega)] at this
      rw [Option.bind_eq_some_iff] at this
      obtain ⟨l, h1, h2⟩ := this
      obtain ⟨r, h3, h4, h5⟩ := ih _ _ _ hg.2 h2
      exact ⟨r, l, h1, h3, h4, _, List.getElem?_eq_getElem (by omega), h5⟩)
     simp at hrl
     have hrow : ∀ (i : Nat), i < len → ∃ r l, rows[i]? = some r ∧ W.cells? 0 (a.add (i * P.cellsOf e)) (P.cellsOf e) = some l ∧ RepC W r l ∧ Shape P n e r ∧ ∃ y, elems[i]? = some y ∧ bulkDs r ≤ B y.1 := fun i hi => by
      have h1 : rows[i]? = some rows[i] := List.getElem?_eq_getElem (by omega)
      obtain ⟨l, h2⟩ := hrr i i _ (by simp [hi]) h1
      exact ⟨_, l, h1, h2⟩
     have hall : ∀ r, r ∈ rows → Shape P n e r ∧ r.length = P.cellsOf e := fun r hr => by
      obtain ⟨i, hi⟩ := List.getElem?_of_mem hr
      have hlt := (List.getElem?_eq_some_iff.1 hi).1
      obtain ⟨r', l, h1, h2, h3, h4, _⟩ := hrow i (by omega)
      rw [hi] at h1; cases h1
      exact ⟨h4, by rw [h3.1]; exact (cells?_spec h2).1⟩
     have hbk : bulkDs rows.flatten ≤ Bs (elems.map (·.1)) := bulk_rows hBc (by omega) (fun i r hi => by
      have hlt := (List.getElem?_eq_some_iff.1 hi).1
      obtain ⟨r', l, h1, h2, h3, h4, y, h5, h6⟩ := hrow i (by omega)
      rw [hi] at h1; cases h1
      exact ⟨y, h5, h6⟩)
     refine ⟨[.ds (P.cellsOf e) rows.flatten], single _ _ ?_, (by simp only [Shape, hu]; exact ⟨rows, rfl, by omega, hall⟩), Nat.le_trans (show bulkDs [.ds (P.cellsOf e) rows.flatten] ≤ Bs (elems.map (·.1)) + 1 by simp only [bulkDs, bulkD]; omega) (by rw [hd1]; exact hBs _ _)⟩
     rcases Nat.eq_zero_or_pos len with h0 | hpos
     ·have : rows = [] := List.eq_nil_of_length_eq_zero (by omega)
      subst this; subst h0
      exact .nil _ _ _
     ·-- the address
      obtain ⟨r0, l0, _, hc0, _⟩ := hrow 0 hpos
      rw [Nat.zero_mul, show a.add 0 = a from by simp [Addr.add]] at hc0
      have hc00 := (cells?_spec hc0).2 0 hg.1
      rw [show a.add 0 = a from by simp [Addr.add]] at hc00
      rw [List.getElem?_eq_getElem (by rw [(cells?_spec hc0).1]; exact hg.1)] at hc00
      have hspot := cell_spot hc00
      have hblk := cell_block hc00
      have ha : a = ⟨a.block, a.off, none⟩ := by cases a; simp_all
      have hcell : ∀ (i : Nat), i < len * P.cellsOf e → ∃ r l x, rows[i / P.cellsOf e]? = some r ∧ RepC W r l ∧ rows.flatten[i]? = some x ∧ r[i % P.cellsOf e]? = some x ∧ W.cell? ⟨a.block, a.off + i, none⟩ = l[i % P.cellsOf e]? := fun i hi => by
       have hlt : i < rows.flatten.length := by rw [flatten_len fun r hr => (hall r hr).2, hrl]; exact hi
       have hx : rows.flatten[i]? = some rows.flatten[i] := List.getElem?_eq_getElem hlt
       obtain ⟨r, h1, h2⟩ := flatten_get (fun r hr => (hall r hr).2) i _ hx
       have hq : i / P.cellsOf e < len := by rw [Nat.div_lt_iff_lt_mul hg.1]; exact hi
       obtain ⟨r', l, h3, h4, h5, _⟩ := hrow _ hq
       rw [h1] at h3; cases h3
       refine ⟨r, l, _, h1, h5, hx, h2, ?_⟩
       rw [← (cells?_spec h4).2 _ (Nat.mod_lt _ hg.1), ha, Addr.add_of, Addr.add_of]
       have : a.off + i / P.cellsOf e * P.cellsOf e + i % P.cellsOf e = a.off + i := by rw [Nat.add_assoc, Nat.div_add_mod' i (P.cellsOf e)]
       rw [this]
      rw [ha]
      refine .ds _ _ _ _ _ _ (fun i => (W.cell? ⟨a.block, a.off + i, none⟩).getD undef) (by rw [flatten_len fun r hr => (hall r hr).2, hrl]) hlc hblk (fun i hi => ?_) (fun i x hx => ?_)
      ·rw [flatten_len fun r hr => (hall r hr).2, hrl] at hi
       obtain ⟨r, l, x, _, hrep, _, hx, hc⟩ := hcell i hi
       have hlt := (List.getElem?_eq_some_iff.1 hx).1
       rw [hc, List.getElem?_eq_getElem (by rw [← hrep.1]; exact hlt)]; rfl
      ·have hi := (List.getElem?_eq_some_iff.1 hx).1
       rw [flatten_len fun r hr => (hall r hr).2, hrl] at hi
       obtain ⟨r, l, x', _, hrep, hx', hxr, hc⟩ := hcell i hi
       rw [hx] at hx'; cases hx'
       have hlt := (List.getElem?_eq_some_iff.1 hxr).1
       have hlv : l[i % P.cellsOf e]? = some (l[i % P.cellsOf e]'(by rw [← hrep.1]; exact hlt)) := List.getElem?_eq_getElem _
       rw [hc, hlv]
       exact hrep.2 _ _ _ hxr hlv
   | _ => simp [goodB, hu] at hg

theorem arg_oneB {B : DataW H → Nat} {Bs : List (DataW H) → Nat} (hB1 : ∀ d, 1 ≤ B d) (hBs : ∀ es sp, Bs es + 1 ≤ B (.slice es sp)) (hBc : ∀ d r, Bs (d :: r) = B d + Bs r)
  {k base : Nat} {t : TypeId} {v : Value} {d : DataW H} {p : List MemPlace} (ht : scalarT P t = true) (hg : goodBS P k t = true) (hval : Value.okWide P W .any base t v)
  (h : DataW.Trod enc P W 0 (fun _ => true) true t v d p) : ∃ n x, RepD W (fun b => b < W.heap.size) x v ∧ Shape P n t [x] ∧ bulkD x ≤ B d := by
 obtain ⟨n, hn⟩ := h
 rw [okWide_scalar ht hval] at hn
 obtain ⟨xs, hr, hs, hb⟩ := trod_bulk hB1 hBs hBc n t _ _ (goodBS_B k n t hg) hn
 match xs, hr, hs, hb with
 | [x], hr, hs, hb => exact ⟨n, x, hr.2 0 x v rfl rfl, hs, by simpa [bulkDs] using hb⟩
 | [], hr, _, _ => exact absurd hr.1 (by simp)
 | _ :: _ :: _, hr, _, _ => exact absurd hr.1 (by simp)
end Go.Vm

/- Arguments whose types lead to themselves. -/
namespace Go.Vm
set_option linter.unusedVariables false
section
variable {P : Program} {W : World} {H : Type} {enc : TypeId × Value → H}
/-- Types of a list lead to none outside it, but for numbers, truth values and strings. -/
def closedT (P : Program) (ts : List TypeId) : Bool := ts.all fun t => match P.underlying t with
 | some .bool | some (.int _) | some (.float _) | some .string => true
 | some (.slice e) => decide (0 < P.cellsOf e) && ts.contains e
 | some (.struct fs) => tiles P 0 fs.toList (P.cellsOf t) && fs.toList.all fun f => ts.contains f.type
 | _ => false
theorem shape_sliceR {n : Nat} {t e : TypeId} {xs : List D} (hu : P.underlying t = some (.slice e)) (h : Shape P n t xs) :
  ∃ m rows, n = m + 1 ∧ xs = [.ds (P.cellsOf e) (List.flatten rows)] ∧ rows.length ≤ maxLen ∧ ∀ r, r ∈ rows → Shape P m e r := by
 cases n with
 | zero => simp only [Shape] at h
 | succ n => simp only [Shape, hu] at h; obtain ⟨rows, h1, h2, h3⟩ := h; exact ⟨n, rows, rfl, h1, h2, fun r hr => (h3 r hr).1⟩
theorem shape_structR {n : Nat} {t : TypeId} {fs : List Field} {xs : List D} (hu : P.underlying t = some (.struct fs.toArray)) (h : Shape P n t xs) : ∃ m, n = m + 1 ∧ ShapeL P m (fs.map (·.type)) xs := by
 cases n with
 | zero => simp only [Shape] at h
 | succ n => simp only [Shape, hu] at h; exact ⟨n, rfl, h⟩
theorem flat_map {α : Type} (f : α → List D) (l : List α) : (l.map f).flatten = l.flatMap f := by
 rw [List.flatMap_def]
end
end Go.Vm

/- Arguments of numbers, slices and structs, also of types that lead to themselves, and the bulk of what is read of them; rows whose condition bounds it and lists package variables. -/
namespace Go.Vm
set_option linter.unusedVariables false
/-- Numbers, truth values, strings, slices and structs of such. -/
def goodC (P : Program) : Nat → TypeId → Bool
 | 0, _ => true
 | n + 1, t => match P.underlying t with
  | some .bool | some (.int _) | some (.float _) | some .string => true
  | some (.slice e) => decide (0 < P.cellsOf e) && goodC P n e
  | some (.struct fs) => tiles P 0 fs.toList (P.cellsOf t) && fs.toList.all fun f => goodC P n f.type
  | _ => false
section
variable {P : Program} {W : World} {H : Type} {enc : TypeId × Value → H}
theorem closed_goodC {ts : List TypeId} (h : closedT P ts = true) : ∀ (n : Nat) (t : TypeId), t ∈ ts → goodC P n t = true := by
 intro n
 induction n with
 | zero => intro t _; rfl
 | succ n ih =>
  intro t ht
  have := List.all_eq_true.1 h t ht
  unfold goodC
  split at this
  ·rename_i e; first | rfl | rw [e]
  ·rename_i e; first | rfl | rw [e]
  ·rename_i e; first | rfl | rw [e]
  ·rename_i e; first | rfl | rw [e]
  ·rename_i e q; try rw [q]
   simp only [Bool.and_eq_true, List.contains_iff_mem] at this ⊢
   exact ⟨this.1, ih _ this.2⟩
  ·rename_i fs q; try rw [q]
   simp only [Bool.and_eq_true, List.all_eq_true, List.contains_iff_mem] at this ⊢
   exact ⟨this.1, fun f hf => ih _ (this.2 f hf)⟩
  ·cases this
theorem fields_bulk {B : DataW H → Nat} {Bs : List (DataW H) → Nat} {n : Nat} (hBc : ∀ d r, Bs (d :: r) = B d + Bs r) : ∀ (fs : List Field) (es : List (DataW H)) (off tot : Nat) (cs : List Value), tiles P off fs tot = true → cs.length + off = tot → es.length = fs.length →
  (∀ (i : Nat) f, fs[i]? = some f → ∃ xs y, RepC W xs ((cs.drop (f.offset - off)).take (P.cellsOf f.type)) ∧ Shape P n f.type xs ∧ es[i]? = some y ∧ bulkDs xs ≤ B y) → ∃ xs, RepC W xs cs ∧ ShapeL P n (fs.map (·.type)) xs ∧ bulkDs xs ≤ Bs es := by
 intro fs
 induction fs with
 | nil =>
  intro es off tot cs ht hl he _
  simp [tiles] at ht
  have : cs = [] := List.eq_nil_of_length_eq_zero (by omega)
  subst this
  exact ⟨[], ⟨rfl, fun i x y hx => by simp at hx⟩, by simp [ShapeL], by simp [bulkDs]⟩
 | cons f fs ih =>
  intro es off tot cs ht hl he hf
  match es, he with
  | e0 :: es, he =>
  simp only [tiles, Bool.and_eq_true, beq_iff_eq] at ht
  obtain ⟨h1, h2⟩ := ht
  have hle : off + P.cellsOf f.type ≤ tot := by
   have : ∀ (fs : List Field) (a : Nat), tiles P a fs tot = true → a ≤ tot := by
    intro fs
    induction fs with
    | nil => intro a h; simp [tiles] at h; omega
    | cons g gs ihg => intro a h; simp only [tiles, Bool.and_eq_true, beq_iff_eq] at h; have := ihg _ h.2; omega
   exact this fs _ h2
  obtain ⟨xs, y, hx, hsh, hy0, hbx⟩ := hf 0 f rfl
  cases hy0
  rw [h1, Nat.sub_self, List.drop_zero] at hx
  obtain ⟨ys, hy, hsy, hby⟩ := ih es (off + P.cellsOf f.type) tot (cs.drop (P.cellsOf f.type)) h2 (by simp; omega) (by simpa using he) (fun i g hg => by
   obtain ⟨zs, y, hz, hsz, hy1, hbz⟩ := hf (i + 1) g hg
   refine ⟨zs, y, ?_, hsz, hy1, hbz⟩
   have hge : ∀ (fs : List Field) (a : Nat), tiles P a fs tot = true → ∀ g, g ∈ fs → a ≤ g.offset := by
    intro fs
    induction fs with
    | nil => intro a _ g hg; simp at hg
    | cons g gs ihg =>
     intro a h k hk
     simp only [tiles, Bool.and_eq_true, beq_iff_eq] at h
     rcases List.mem_cons.1 hk with rfl | hk
     ·omega
     ·have := ihg _ h.2 k hk; omega
   have := hge fs _ h2 g (List.mem_of_getElem? hg)
   rw [List.drop_drop]
   have e : P.cellsOf f.type + (g.offset - (off + P.cellsOf f.type)) = g.offset - off := by omega
   rw [e]; exact hz)
  refine ⟨xs ++ ys, ?_, ?_, ?_⟩
  ·have := hx.append hy
   rw [List.take_append_drop] at this
   exact this
  ·simp only [List.map_cons, ShapeL]
   exact ⟨xs, ys, rfl, hsh, by rw [hx.1]; simp; omega, hsy⟩
  ·rw [bulkDs_app, hBc]; omega
theorem trod_bulkC {B : DataW H → Nat} {Bs : List (DataW H) → Nat} (hB1 : ∀ d, 1 ≤ B d) (hBs : ∀ es sp, Bs es + 1 ≤ B (.slice es sp)) (hBc : ∀ d r, Bs (d :: r) = B d + Bs r) (hBa : ∀ es, Bs es ≤ B (.agg es)) : ∀ (n : Nat) (t : TypeId) (cs : List Value) (d : DataW H × List MemPlace), goodC P n t = true → DataW.trod enc P W 0 (fun _ => true) true n t cs = some d →
  ∃ xs, RepC W xs cs ∧ Shape P n t xs ∧ bulkDs xs ≤ B d.1 := by
 intro n
 induction n with
 | zero => intro t cs d _ h; cases h
 | succ n ih =>
  intro t cs d hg h
  have single : ∀ (x : D) (v : Value), RepD W (fun b => b < W.heap.size) x v → RepC W [x] [v] := fun x v hr => ⟨rfl, fun i p q hp hq => by
   cases i with
   | zero => cases hp; cases hq; exact hr
   | succ i => simp at hp⟩
  cases hu : P.underlying t with
  | none => simp [goodC, hu] at hg
  | some u =>
   cases u with
   | bool =>
    obtain ⟨b, rfl, _⟩ := DataW.trod_bool hu h
    exact ⟨_, single _ _ (.v _), (by simp only [Shape, hu]; exact ⟨b, rfl⟩), hB1 _⟩
   | int k =>
    obtain ⟨m, rfl, _, hw⟩ := DataW.trod_int hu h
    exact ⟨_, single _ _ (.v _), (by simp only [Shape, hu]; exact ⟨m, rfl, wf_bounds hw⟩), hB1 _⟩
   | float k =>
    obtain ⟨b, rfl, hw⟩ := trod_float hu h
    exact ⟨_, single _ _ (.v _), (by simp only [Shape, hu]; exact ⟨b, rfl, hw⟩), hB1 _⟩
   | string =>
    obtain ⟨s, rfl, _, hw⟩ := DataW.trod_string hu h
    exact ⟨_, single _ _ (.v _), (by simp only [Shape, hu]; exact ⟨s, rfl, hw⟩), hB1 _⟩
   | struct fs =>
    simp only [goodC, hu, Bool.and_eq_true] at hg
    obtain ⟨xs, m, he, hd, hl, hxl, hf⟩ := DataW.trod_struct hu h
    cases he
    obtain ⟨ys, hy, hsy, hby⟩ := fields_bulk (W := W) (n := n) hBc fs.toList (xs.map (·.1)) 0 (P.cellsOf t) cs hg.1 (by omega) (by simp [hxl]) (fun i f hi => by
     have hi' : fs[i]? = some f := by simpa using hi
     have hlt : i < fs.size := (Array.getElem?_eq_some_iff.1 hi').1
     have := hf i f hi'
     rw [List.getElem?_eq_getElem (by omega)] at this
     rw [Nat.sub_zero]
     obtain ⟨zs, h1, h2, h3⟩ := ih _ _ _ (List.all_eq_true.1 hg.2 f (List.mem_of_getElem? hi)) this
     exact ⟨zs, _, h1, h2, by rw [List.getElem?_map, List.getElem?_eq_getElem (by omega)]; rfl, h3⟩)
    exact ⟨ys, hy, (by simp only [Shape, hu]; exact hsy), by rw [hd]; exact Nat.le_trans hby (hBa _)⟩
   | slice e =>
    simp only [goodC, hu, Bool.and_eq_true, decide_eq_true_eq] at hg
    rcases DataW.trod_slice hu h with ⟨rfl, _⟩ | ⟨a, len, cap, elems, rest, m, he, rfl, hd1, hb, hlc, hcm, hel, hf, _⟩
    ·refine ⟨_, single (.ds (P.cellsOf e) []) _ (.nil _ _ _), ?_, by simpa [bulkDs, bulkD] using hB1 _⟩
     simp only [Shape, hu]
     exact ⟨[], rfl, by simp, fun r hr => by simp at hr⟩
    ·cases he
     obtain ⟨rows, hrl, hrr⟩ := list_choose (p := fun (i : Nat) (r : List D) => ∃ l, W.cells? 0 (a.add (i * P.cellsOf e)) (P.cellsOf e) = some l ∧ RepC W r l ∧ Shape P n e r ∧ ∃ y, elems[i]? = some y ∧ bulkDs r ≤ B y.1) (List.range len) (fun i hi => by
      have hlt : i < len := by simpa using hi
      have := hf i hlt
      rw [List.getElem?_eq_getElem (by omega)] at this
      rw [Option.bind_eq_some_iff] at this
      obtain ⟨l, h1, h2⟩ := this
      obtain ⟨r, h3, h4, h5⟩ := ih _ _ _ hg.2 h2
      exact ⟨r, l, h1, h3, h4, _, List.getElem?_eq_getElem (by omega), h5⟩)
     simp at hrl
     have hrow : ∀ (i : Nat), i < len → ∃ r l, rows[i]? = some r ∧ W.cells? 0 (a.add (i * P.cellsOf e)) (P.cellsOf e) = some l ∧ RepC W r l ∧ Shape P n e r ∧ ∃ y, elems[i]? = some y ∧ bulkDs r ≤ B y.1 := fun i hi => by
      have h1 : rows[i]? = some rows[i] := List.getElem?_eq_getElem (by omega)
      obtain ⟨l, h2⟩ := hrr i i _ (by simp [hi]) h1
      exact ⟨_, l, h1, h2⟩
     have hall : ∀ r, r ∈ rows → Shape P n e r ∧ r.length = P.cellsOf e := fun r hr => by
      obtain ⟨i, hi⟩ := List.getElem?_of_mem hr
      have hlt := (List.getElem?_eq_some_iff.1 hi).1
      obtain ⟨r', l, h1, h2, h3, h4, _⟩ := hrow i (by omega)
      rw [hi] at h1; cases h1
      exact ⟨h4, by rw [h3.1]; exact (cells?_spec h2).1⟩
     have hbk : bulkDs rows.flatten ≤ Bs (elems.map (·.1)) := bulk_rows hBc (by omega) (fun i r hi => by
      have hlt := (List.getElem?_eq_some_iff.1 hi).1
      obtain ⟨r', l, h1, h2, h3, h4, y, h5, h6⟩ := hrow i (by omega)
      rw [hi] at h1; cases h1
      exact ⟨y, h5, h6⟩)
     refine ⟨[.ds (P.cellsOf e) rows.flatten], single _ _ ?_, (by simp only [Shape, hu]; exact ⟨rows, rfl, by omega, hall⟩), Nat.le_trans (show bulkDs [.ds (P.cellsOf e) rows.flatten] ≤ Bs (elems.map (·.1)) + 1 by simp only [bulkDs, bulkD]; omega) (by rw [hd1]; exact hBs _ _)⟩
     rcases Nat.eq_zero_or_pos len with h0 | hpos
     ·have : rows = [] := List.eq_nil_of_length_eq_zero (by omega)
      subst this; subst h0
      exact .nil _ _ _
     ·-- the address
      obtain ⟨r0, l0, _, hc0, _⟩ := hrow 0 hpos
      rw [Nat.zero_mul, show a.add 0 = a from by simp [Addr.add]] at hc0
      have hc00 := (cells?_spec hc0).2 0 hg.1
      rw [show a.add 0 = a from by simp [Addr.add]] at hc00
      rw [List.getElem?_eq_getElem (by rw [(cells?_spec hc0).1]; exact hg.1)] at hc00
      have hspot := cell_spot hc00
      have hblk := cell_block hc00
      have ha : a = ⟨a.block, a.off, none⟩ := by cases a; simp_all
      have hcell : ∀ (i : Nat), i < len * P.cellsOf e → ∃ r l x, rows[i / P.cellsOf e]? = some r ∧ RepC W r l ∧ rows.flatten[i]? = some x ∧ r[i % P.cellsOf e]? = some x ∧ W.cell? ⟨a.block, a.off + i, none⟩ = l[i % P.cellsOf e]? := fun i hi => by
       have hlt : i < rows.flatten.length := by rw [flatten_len fun r hr => (hall r hr).2, hrl]; exact hi
       have hx : rows.flatten[i]? = some rows.flatten[i] := List.getElem?_eq_getElem hlt
       obtain ⟨r, h1, h2⟩ := flatten_get (fun r hr => (hall r hr).2) i _ hx
       have hq : i / P.cellsOf e < len := by rw [Nat.div_lt_iff_lt_mul hg.1]; exact hi
       obtain ⟨r', l, h3, h4, h5, _⟩ := hrow _ hq
       rw [h1] at h3; cases h3
       refine ⟨r, l, _, h1, h5, hx, h2, ?_⟩
       rw [← (cells?_spec h4).2 _ (Nat.mod_lt _ hg.1), ha, Addr.add_of, Addr.add_of]
       have : a.off + i / P.cellsOf e * P.cellsOf e + i % P.cellsOf e = a.off + i := by rw [Nat.add_assoc, Nat.div_add_mod' i (P.cellsOf e)]
       rw [this]
      rw [ha]
      refine .ds _ _ _ _ _ _ (fun i => (W.cell? ⟨a.block, a.off + i, none⟩).getD undef) (by rw [flatten_len fun r hr => (hall r hr).2, hrl]) hlc hblk (fun i hi => ?_) (fun i x hx => ?_)
      ·rw [flatten_len fun r hr => (hall r hr).2, hrl] at hi
       obtain ⟨r, l, x, _, hrep, _, hx, hc⟩ := hcell i hi
       have hlt := (List.getElem?_eq_some_iff.1 hx).1
       rw [hc, List.getElem?_eq_getElem (by rw [← hrep.1]; exact hlt)]; rfl
      ·have hi := (List.getElem?_eq_some_iff.1 hx).1
       rw [flatten_len fun r hr => (hall r hr).2, hrl] at hi
       obtain ⟨r, l, x', _, hrep, hx', hxr, hc⟩ := hcell i hi
       rw [hx] at hx'; cases hx'
       have hlt := (List.getElem?_eq_some_iff.1 hxr).1
       have hlv : l[i % P.cellsOf e]? = some (l[i % P.cellsOf e]'(by rw [← hrep.1]; exact hlt)) := List.getElem?_eq_getElem _
       rw [hc, hlv]
       exact hrep.2 _ _ _ hxr hlv
   | _ => simp [goodC, hu] at hg

theorem arg_oneRB {B : DataW H → Nat} {Bs : List (DataW H) → Nat} (hB1 : ∀ d, 1 ≤ B d) (hBs : ∀ es sp, Bs es + 1 ≤ B (.slice es sp)) (hBc : ∀ d r, Bs (d :: r) = B d + Bs r) (hBa : ∀ es, Bs es ≤ B (.agg es))
  {base : Nat} {t : TypeId} {v : Value} {d : DataW H} {p : List MemPlace} (ts : List TypeId) (hsc : scalarT P t = true) (hc : closedT P ts = true) (hm : ts.contains t = true) (hval : Value.okWide P W .any base t v)
  (h : DataW.Trod enc P W 0 (fun _ => true) true t v d p) : ∃ n x, RepD W (fun b => b < W.heap.size) x v ∧ Shape P n t [x] ∧ bulkD x ≤ B d := by
 obtain ⟨n, hn⟩ := h
 rw [okWide_scalar hsc hval] at hn
 obtain ⟨xs, hr, hs, hb⟩ := trod_bulkC hB1 hBs hBc hBa n t _ _ (closed_goodC hc n t (by simpa using hm)) hn
 match xs, hr, hs, hb with
 | [x], hr, hs, hb => exact ⟨n, x, hr.2 0 x v rfl rfl, hs, by simpa [bulkDs] using hb⟩
 | [], hr, _, _ => exact absurd hr.1 (by simp)
 | _ :: _ :: _, hr, _, _ => exact absurd hr.1 (by simp)
theorem bulk_mem {l : List D} {x : D} (h : x ∈ l) : bulkD x ≤ bulkDs l := by
 induction l with
 | nil => cases h
 | cons a l ih =>
  simp only [bulkDs]
  rcases List.mem_cons.1 h with rfl | h
  ·omega
  ·have := ih h; omega
theorem bulk_len (l : List D) : l.length ≤ bulkDs l := by
 induction l with
 | nil => exact Nat.zero_le _
 | cons a l ih =>
  have : 1 ≤ bulkD a := by cases a <;> simp [bulkD]
  simp only [bulkDs, List.length_cons]; omega
/-- A function whose row bounds what it reads, and lists package variables: out of its contract. -/
theorem handed_cond_and {a : Assume} {C : Checked} {os : Os} {f : FuncId} {fn : Func} {s : OpenSpec} {k : (H : Type) → List (DataW H) → Bool} (hk : s.cond = some k) {F : Stop.Interp} {conds : List PathCond} {apart fresh handsOn again : Bool} {X : World → Array Value → Prop}
  (hX : ∀ (w w' : World) (args : Array Value), w.heap = w'.heap → X w args → X w' args)
  (own : ownKnob C.prog.godebug = none) (started : os.Started) (noInit : C.prog.inits.idxOf? f = none) (hfn : C.prog.funcs[f]? = some fn)
  (witness : ∃ (w : World) (tape : Tape) (i : Input), w.os = os ∧ (w.forCall tape i).Shaped C.prog ∧ i.vars = [] ∧ Input.okWide C.prog (w.forCall tape i) .any w.heap.size f i ∧
   ((s.pre enc C.prog fn conds apart (w.forCall tape i).memory i.args ∧ X (w.forCall tape i).memory i.args) ∧ sizedMet enc C.prog fn s apart (w.forCall tape i).memory i.args) ∧ a.holds C.prog (lone (Frame.enter C.prog f i.args .normal) [] (w.forCall tape i)))
  (contract : ∀ (W : World) (base : Nat) (args : Array Value) (ds gs : List (DataW H)) (before : List MemPlace),
   (∀ (j : Nat) t v, fn.params[j]? = some t → args[j]? = some v → Value.okWide C.prog W .any base t v) →
   DataW.Whole enc C.prog fn.params.toList s.vars apart W args.toList ds gs before → k H (ds ++ gs) = true → X W args →
   Calls C.prog f args W fun e W' => ∃ v, e = .returned v ∧ (s.at F).post enc C.prog fn apart fresh handsOn again W args v W') :
  ReturnsInHanded a C os f .any (fun w args => (s.pre enc C.prog fn conds apart w args ∧ X w args) ∧ sizedMet enc C.prog fn s apart w args) ((s.at F).post enc C.prog fn apart fresh handsOn again) := by
 refine returnsInHanded_of_calls own started noInit witness fun w tape i _ _ _ hok hpre _ => ?_
 obtain ⟨_, _, _, g, hg, _, _, _, _, hval⟩ := hok
 obtain rfl := Option.some.inj (hg.symm.trans hfn)
 obtain ⟨⟨hp, hx⟩, _⟩ := hpre
 obtain ⟨ds, gs, before, hw, _, hkk⟩ := (OpenSpec.pre_some hk conds apart _ _).1 hp
 exact (contract _ _ _ ds gs before hval (DataW.Whole.of_heap (w' := w.forCall tape i) (by rfl) hw) hkk (hX _ _ _ (by rfl) hx)).mono fun e W' ⟨v, he, hq⟩ => by
  subst he
  exact ChangeSpec.post_blind hq
theorem witness_cond_and {C : Checked} {os : Os} {f : FuncId} {fn : Func} {s : OpenSpec} {k : (H : Type) → List (DataW H) → Bool} (hk : s.cond = some k) {conds : List PathCond} {apart : Bool} {X : World → Array Value → Prop} (w0 : World) (args : Array Value) (fuel : Nat) (hos : w0.os = os)
  (hsh : (w0.forCall (fun _ _ => 0) ⟨#[], args, []⟩).Shaped C.prog)
  (hok : Input.okWideB C.prog (w0.forCall (fun _ _ => 0) ⟨#[], args, []⟩) f ⟨#[], args, []⟩ = true)
  {x : List (DataW H) × List (DataW H) × List MemPlace} (hx : DataW.whole enc C.prog (w0.forCall (fun _ _ => 0) ⟨#[], args, []⟩).memory fn.params.toList s.vars apart args.toList fuel = some x)
  (hconds : conds.all (PathCond.test C.prog ⟨fn.params.toList, x.1, s.bare.plain.varTypes C.prog, x.2.1⟩) = true) (hkk : k H (x.1 ++ x.2.1) = true)
  (hsz : s.bare.sizedB enc C.prog fn apart (w0.forCall (fun _ _ => 0) ⟨#[], args, []⟩).memory args fuel = true)
  (hX : X (w0.forCall (fun _ _ => 0) ⟨#[], args, []⟩).memory args) :
  ∃ (w : World) (tape : Tape) (i : Input), w.os = os ∧ (w.forCall tape i).Shaped C.prog ∧ i.vars = [] ∧ Input.okWide C.prog (w.forCall tape i) .any w.heap.size f i ∧
   ((s.pre enc C.prog fn conds apart (w.forCall tape i).memory i.args ∧ X (w.forCall tape i).memory i.args) ∧ sizedMet enc C.prog fn s apart (w.forCall tape i).memory i.args) ∧ ({ modest := false } : Assume).holds C.prog (lone (Frame.enter C.prog f i.args .normal) [] (w.forCall tape i)) :=
 ⟨w0, fun _ _ => 0, ⟨#[], args, []⟩, hos, hsh, (Input.okWide_of_okWideB (base := 0) hok).1, (Input.okWide_of_okWideB hok).2, ⟨⟨(OpenSpec.pre_some hk conds apart _ _).2 ⟨x.1, x.2.1, x.2.2, DataW.Whole_of_whole hx, hconds, hkk⟩, hX⟩, sizedMet_of_sizedB hsz⟩, by
  simp only [Assume.holds]
  exact ⟨by simp, by simp, fun h => by simp at h, by simp, by simp⟩⟩
end
end Go.Vm

/- Whole numbers as rows of limbs of 32 bits, the least first. -/
set_option linter.unusedVariables false
namespace Limb
/-- what a row of limbs is worth -/
def val : List Nat → Nat
 | [] => 0
 | x :: r => x + 4294967296 * val r
/-- every limb has 32 bits -/
def ok (l : List Nat) : Prop := ∀ x, x ∈ l → x < 4294967296
/-- no zeros at the end -/
def trim : List Nat → List Nat
 | [] => []
 | x :: r => match trim r with
  | [] => if x = 0 then [] else [x]
  | y :: s => x :: y :: s
/-- a number's limbs -/
def limbs (n : Nat) : List Nat := if h : n = 0 then [] else (n % 4294967296) :: limbs (n / 4294967296)
termination_by n
decreasing_by omega

theorem limbs_zero : limbs 0 = [] := by unfold limbs; simp
theorem limbs_pos {n : Nat} (h : n ≠ 0) : limbs n = (n % 4294967296) :: limbs (n / 4294967296) := by rw [limbs, dif_neg h]
theorem limbs_ok (n : Nat) : ok (limbs n) := by
 induction n using Nat.strongRecOn with
 | _ n ih =>
  by_cases h : n = 0
  ·subst h; rw [limbs_zero]; intro x hx; simp at hx
  ·rw [limbs_pos h]
   intro x hx
   rcases List.mem_cons.1 hx with rfl | hx
   ·omega
   ·exact ih _ (by omega) x hx
theorem val_limbs (n : Nat) : val (limbs n) = n := by
 induction n using Nat.strongRecOn with
 | _ n ih =>
  by_cases h : n = 0
  ·subst h; rw [limbs_zero]; rfl
  ·rw [limbs_pos h, val, ih _ (by omega)]; omega
theorem trim_limbs : ∀ (l : List Nat), ok l → trim l = limbs (val l)
 | [], _ => by rw [val, limbs_zero]; rfl
 | x :: r, h => by
  have hx := h x (by simp)
  have ih := trim_limbs r fun y hy => h y (by simp [hy])
  by_cases h0 : val r = 0
  ·rw [h0, limbs_zero] at ih
   simp only [trim, ih, val, h0]
   by_cases hx0 : x = 0
   ·subst hx0; rw [if_pos rfl]; exact limbs_zero.symm
   ·rw [if_neg hx0, limbs_pos (by omega)]
    have e1 : (x + 4294967296 * 0) % 4294967296 = x := by omega
    have e2 : (x + 4294967296 * 0) / 4294967296 = 0 := by omega
    rw [e1, e2, limbs_zero]
  ·have hne : limbs (val r) ≠ [] := by rw [limbs_pos h0]; simp
   have hv : x + 4294967296 * val r ≠ 0 := by omega
   have e1 : (x + 4294967296 * val r) % 4294967296 = x := by omega
   have e2 : (x + 4294967296 * val r) / 4294967296 = val r := by omega
   rw [val, limbs_pos hv, e1, e2]
   simp only [trim, ih]
   cases hq : limbs (val r) with
   | nil => exact absurd hq hne
   | cons y s => rfl
theorem val_lt {l : List Nat} (h : ok l) : val l < 4294967296 ^ l.length := by
 induction l with
 | nil => simp [val]
 | cons x r ih =>
  have hx := h x (by simp)
  have := ih fun y hy => h y (by simp [hy])
  simp only [val, List.length_cons, Nat.pow_succ]
  omega
theorem val_append (a b : List Nat) : val (a ++ b) = val a + 4294967296 ^ a.length * val b := by
 induction a with
 | nil => simp [val]
 | cons x r ih => simp only [List.cons_append, val, ih, List.length_cons, Nat.pow_succ]; rw [Nat.mul_add, ← Nat.mul_assoc, Nat.mul_comm 4294967296 (4294967296 ^ r.length)]; omega
theorem trim_snoc (l : List Nat) (x : Nat) : trim (l ++ [x]) = if x = 0 then trim l else l ++ [x] := by
 induction l with
 | nil => simp [trim]
 | cons y r ih =>
  simp only [List.cons_append, trim, ih]
  by_cases hx : x = 0
  ·rw [if_pos hx, if_pos hx]
  ·rw [if_neg hx, if_neg hx]
   cases hq : r ++ [x] with
   | nil => simp at hq
   | cons z s => rfl
theorem val_take_any (l : List Nat) (k : Nat) : val (l.take (k + 1)) = val (l.take k) + 4294967296 ^ k * l.getD k 0 := by
 by_cases h : k < l.length
 ·rw [List.take_succ_eq_append_getElem h, val_append]
  simp [val, h, Nat.min_eq_left (Nat.le_of_lt h)]
 ·rw [List.take_of_length_le (by omega), List.take_of_length_le (by omega), List.getD_eq_getElem?_getD, List.getElem?_eq_none (by omega)]; simp
theorem add_step {x y out : List Nat} {k c s : Nat} (ho : out.length = k) (hv : val out + 4294967296 ^ k * c = val (x.take k) + val (y.take k)) (hs : s = x.getD k 0 + c + y.getD k 0) :
  val (out ++ [s % 4294967296]) + 4294967296 ^ (k + 1) * (s / 4294967296) = val (x.take (k + 1)) + val (y.take (k + 1)) := by
 rw [val_append, ho, val_take_any, val_take_any]
 have h1 : val [s % 4294967296] = s % 4294967296 := by simp [val]
 have h2 : s % 4294967296 + 4294967296 * (s / 4294967296) = s := Nat.mod_add_div _ _
 have h3 : 4294967296 ^ (k + 1) * (s / 4294967296) = 4294967296 ^ k * (4294967296 * (s / 4294967296)) := by rw [Nat.pow_succ, Nat.mul_assoc]
 have h4 : 4294967296 ^ k * (s % 4294967296) + 4294967296 ^ k * (4294967296 * (s / 4294967296)) = 4294967296 ^ k * s := by rw [← Nat.mul_add, h2]
 have h5 : 4294967296 ^ k * s = 4294967296 ^ k * x.getD k 0 + 4294967296 ^ k * c + 4294967296 ^ k * y.getD k 0 := by rw [hs, Nat.mul_add, Nat.mul_add]
 rw [h1, h3]
 omega
theorem ok_snoc {l : List Nat} (h : ok l) {s : Nat} : ok (l ++ [s % 4294967296]) := fun x hx => by
 rcases List.mem_append.1 hx with hx | hx
 ·exact h x hx
 ·rw [List.mem_singleton.1 hx]; omega
theorem limbs_len_lt {a b : Nat} (h : (limbs a).length < (limbs b).length) : a < b := by
 induction b using Nat.strongRecOn generalizing a with
 | _ b ih =>
  by_cases hb : b = 0
  ·subst hb; rw [limbs_zero] at h; simp at h
  ·by_cases ha : a = 0
   ·omega
   ·rw [limbs_pos hb, limbs_pos ha] at h
    have := ih (b / 4294967296) (by omega) (a := a / 4294967296) (by simpa using h)
    omega
theorem val_split (l : List Nat) (j : Nat) (h : j < l.length) : val l = val (l.take j) + 4294967296 ^ j * (l.getD j 0 + 4294967296 * val (l.drop (j + 1))) := by
 have e : l = l.take j ++ (l.getD j 0 :: l.drop (j + 1)) := by
  rw [List.getD_eq_getElem?_getD, List.getElem?_eq_getElem h, Option.getD_some, List.getElem_cons_drop, List.take_append_drop]
 have h1 : val l = val (l.take j ++ (l.getD j 0 :: l.drop (j + 1))) := congrArg val e
 rw [h1, val_append, val]
 simp [Nat.min_eq_left (Nat.le_of_lt h)]
theorem ok_take {l : List Nat} (h : ok l) (j : Nat) : ok (l.take j) := fun x hx => h x (List.mem_of_mem_take hx)
theorem cmp_at {x y : List Nat} (hx : ok x) (hy : ok y) {j : Nat} (h1 : j < x.length) (h2 : j < y.length) (hd : x.drop (j + 1) = y.drop (j + 1)) (hlt : x.getD j 0 < y.getD j 0) : val x < val y := by
 rw [val_split x j h1, val_split y j h2, hd]
 have h3 := val_lt (ok_take hx j)
 rw [List.length_take, Nat.min_eq_left (by omega)] at h3
 have h4 : 4294967296 ^ j * (x.getD j 0 + 4294967296 * val (y.drop (j + 1)) + 1) ≤ 4294967296 ^ j * (y.getD j 0 + 4294967296 * val (y.drop (j + 1))) := Nat.mul_le_mul_left _ (by omega)
 rw [Nat.mul_add _ _ 1, Nat.mul_one] at h4
 omega
end Limb

/- Whole numbers within a bound, as tested by truncation and absolute value. -/
set_option linter.unusedVariables false
set_option linter.unusedSimpArgs false
namespace Flt
open Go Ieee Go.Vm
def wT (K x : Nat) : Bool := feq x (truncN x) && !(fgt (fabs x) K)
theorem fgt_val {x y : Nat} {p q : Rat} (hx : V x = some p) (hy : V y = some q) : fgt x y = decide (q < p) := order_gt hx hy
theorem read_fabs (x : Nat) (s : Bool) (h : double.read x = .infinity s) : double.read (fabs x) = .infinity false := by
 unfold fabs Format.read at *
 rw [double_sw] at *
 simp only [Nat.mod_mod] at *
 have e : (x % 9223372036854775808 / 9223372036854775808 % 2 == 1) = false := by
  have : x % 9223372036854775808 / 9223372036854775808 = 0 := Nat.div_eq_of_lt (Nat.mod_lt _ (by omega))
  rw [this]; rfl
 rw [e]
 generalize (x / 9223372036854775808 % 2 == 1) = s' at h
 split at h
 ·cases h
 ·rename_i h1
  rw [if_neg h1]
  split at h
  ·cases h
  ·rename_i h2
   rw [if_neg h2]
   split at h
   ·rename_i h3; rw [if_pos h3]
   ·cases h
theorem wT_fin {K x : Nat} {k : Rat} (hk : V K = some k) (h : wT K x = true) : ∃ q, V x = some q := by
 unfold wT at h
 simp only [Bool.and_eq_true, Bool.not_eq_true'] at h
 obtain ⟨h1, h2⟩ := h
 cases hd : double.read x with
 | number s m e => exact ⟨_, by unfold V; rw [hd]; rfl⟩
 | nan s t =>
  have hn : isNan x = true := by show (double.read x).isNaN = true; rw [hd]; rfl
  unfold Vm.feq at h1
  rw [show double.order x (truncN x) = none from order_nan' hn] at h1
  cases h1
 | infinity s =>
  obtain ⟨s2, m, i, hr, _⟩ := V_num hk
  unfold Vm.fgt Format.order at h2
  rw [read_fabs x s hd, hr] at h2
  cases s2 <;> simp [Datum.order] at h2
theorem wT_int {K x : Nat} {k : Int} (hk : I K k) (hk0 : 0 ≤ k) (hk1 : k ≤ 4503599627370496) (hn : I (fneg K) (-k)) (h : wT K x = true) : ∃ n, I x n ∧ -k ≤ n ∧ n ≤ k := by
 obtain ⟨q, hq⟩ := wT_fin hk h
 unfold wT at h
 simp only [Bool.and_eq_true, Bool.not_eq_true'] at h
 obtain ⟨h1, h2⟩ := h
 have hnn : isNan x = false := by
  obtain ⟨s, m, i, hr, _⟩ := V_num hq
  show (double.read x).isNaN = false
  rw [hr]; rfl
 rw [truncN_of hnn] at h1
 rw [fgt_val (fabs_V hq) hk, decide_eq_false_iff_not] at h2
 refine okF_int hk hk0 hk1 hn ?_
 unfold okF inR
 rw [h1, fge_val hq hn, fle_val hq hk]
 have a1 : -q ≤ ab q := by unfold ab; split <;> grind
 have a2 : q ≤ ab q := by unfold ab; split <;> grind
 have h3 : ab q ≤ (k : Rat) := by grind
 rw [Rat.intCast_neg]
 have e1 : decide (-(k : Rat) ≤ q) = true := decide_eq_true (by grind)
 have e2 : decide (q ≤ (k : Rat)) = true := decide_eq_true (by grind)
 rw [e1, e2]; rfl
/-- A word for a whole number, and its opposite. -/
theorem wordI {K : Nat} (k : Int) (h : k.natAbs ≤ 9007199254740992) (e1 : K = ofInt k) (e2 : fneg K = ofInt (-k)) : I K k ∧ I (fneg K) (-k) := by
 rw [e2]; subst e1
 exact ⟨ofInt_int h, ofInt_int (by omega)⟩
theorem xor63 (x : Nat) : (x ^^^ 9223372036854775808) % 9223372036854775808 = x % 9223372036854775808 ∧ ((x ^^^ 9223372036854775808) / 9223372036854775808 % 2 == 1) = !(x / 9223372036854775808 % 2 == 1) := by
 constructor
 ·have := @Nat.xor_mod_two_pow x 9223372036854775808 63
  rw [show (2 : Nat) ^ 63 = 9223372036854775808 from by decide] at this
  rw [this]; simp
 ·have h1 : (x ^^^ 9223372036854775808) / 9223372036854775808 = (x / 9223372036854775808) ^^^ 1 := by
   have := @Nat.shiftRight_xor_distrib 63 x 9223372036854775808
   simp only [Nat.shiftRight_eq_div_pow] at this
   rw [show (2 : Nat) ^ 63 = 9223372036854775808 from by decide] at this
   rw [this]
  rw [h1]
  have h2 := @Nat.xor_mod_two_pow (x / 9223372036854775808) 1 1
  rw [show (2 : Nat) ^ 1 = 2 from by decide] at h2
  rw [h2]
  rcases Nat.mod_two_eq_zero_or_one (x / 9223372036854775808) with h | h <;> rw [h] <;> rfl
theorem fneg_V {x : Nat} {q : Rat} (hx : V x = some q) : V (fneg x) = some (-q) := by
 have e0 : fneg x = x ^^^ 9223372036854775808 := rfl
 rw [e0]
 obtain ⟨e1, e2⟩ := xor63 x
 unfold V Format.read at *
 rw [double_sw] at *
 simp only at *
 rw [e1, e2]
 have key : ∀ (s : Bool) (m : Nat) (i : Int), dval (.number s m i) = some q → dval (.number (!s) m i) = some (-q) := fun s m i h => opp_val (x := .number s m i) h
 generalize (x / 9223372036854775808 % 2 == 1) = s at hx
 split at hx
 ·rename_i h; rw [if_pos h]; exact key _ _ _ hx
 ·rename_i h
  rw [if_neg h]
  split at hx
  ·rename_i h2; rw [if_pos h2]; exact key _ _ _ hx
  ·rename_i h2
   split at hx <;> cases hx
theorem fneg_int {x : Nat} {n : Int} (h : I x n) : I (fneg x) (-n) := by
 unfold I; rw [Rat.intCast_neg]; exact fneg_V h
end Flt

/- Floating words, told apart by what they stand for. -/
set_option linter.unusedVariables false
set_option linter.unusedSimpArgs false
namespace Flt
open Go Ieee Go.Vm
def KB (r : Nat) : Nat := if r < 4503599627370496 then r else (4503599627370496 + r % 4503599627370496) * 2 ^ (r / 4503599627370496 - 1)
end Flt

/- Quotients of floating numbers: how near they are. -/
set_option linter.unusedVariables false
set_option linter.unusedSimpArgs false
namespace Flt
open Go Ieee Go.Vm
theorem read_mag {x : Nat} {s : Bool} {m : Nat} {i : Int} (h : double.read x = .number s m i) : m < 9007199254740992 := by
 unfold Format.read at h
 have f2 : double.binade = 4503599627370496 := by decide
 simp only at h
 split at h
 ·rename_i h1; rw [f2] at h1; cases h; omega
 ·split at h
  ·rename_i h1; cases h
   rw [f2]
   have := Nat.mod_lt (x % double.signWeight) (show 0 < 4503599627370496 by omega)
   omega
  ·split at h <;> cases h
/-- r is near q: as a quotient is, rounded. -/
structure Near (r q : Rat) : Prop where
 lo : r - q ≤ ab q * 2 ^ (-52 : Int) + 2 ^ (-1075 : Int)
 hi : q - r ≤ ab q * 2 ^ (-52 : Int) + 2 ^ (-1075 : Int)
theorem log_lt {m k : Nat} (h : m < 2 ^ k) (h0 : m ≠ 0) : m.log2 < k := (Nat.log2_lt h0).2 h
/-- The quotient's digits: a 1 behind them where anything is left over. -/
theorem quot_dig {m n : Nat} (hn : n ≠ 0) (hm : m < 9007199254740992) : ∀ N more : Nat, more = 54 + n.log2 - m.log2 → N = m <<< more →
  (N % n = 0 ∧ (2 * (N / n) + (N % n != 0).toNat) * n = 2 * N) ∨ ((2 * (N / n) + (N % n != 0).toNat) * n ≤ 2 * N + n ∧ 2 * N ≤ (2 * (N / n) + (N % n != 0).toNat) * n + n ∧ 9007199254740992 * n ≤ N) := by
 intro N more hmore hN
 have hd := Nat.div_add_mod N n
 have hr := Nat.mod_lt N (Nat.pos_of_ne_zero hn)
 by_cases h0 : N % n = 0
 ·left
  refine ⟨h0, ?_⟩
  rw [h0] at hd ⊢
  simp only [bne_self_eq_false, Bool.toNat_false, Nat.add_zero] at hd ⊢
  rw [Nat.mul_assoc, Nat.mul_comm (N / n) n, hd]
 ·right
  have e1 : (N % n != 0).toNat = 1 := by simp [h0]
  rw [e1]
  have e2 : (2 * (N / n) + 1) * n = 2 * (n * (N / n)) + n := by rw [Nat.add_mul, Nat.one_mul, Nat.mul_assoc, Nat.mul_comm (N / n) n]
  rw [e2]
  refine ⟨by omega, by omega, ?_⟩
  have hm0 : m ≠ 0 := fun e => by subst e; simp at hN; subst hN; simp at h0
  have l1 : m.log2 < 53 := log_lt (by
   have : (2 : Nat) ^ 53 = 9007199254740992 := by decide
   omega) hm0
  have g1 : 2 ^ m.log2 ≤ m := Nat.log2_self_le hm0
  have g2 : n < 2 ^ (n.log2 + 1) := Nat.lt_log2_self
  have hN' : N = m * 2 ^ more := by rw [hN, Nat.shiftLeft_eq]
  have e3 : 2 ^ (54 + n.log2) ≤ N := by
   have : 54 + n.log2 = m.log2 + more := by omega
   rw [this, Nat.pow_add, hN']
   exact Nat.mul_le_mul_right _ g1
  have e4 : 2 ^ (54 + n.log2) = 9007199254740992 * 2 ^ (n.log2 + 1) := by
   have : 54 + n.log2 = 53 + (n.log2 + 1) := by omega
   rw [this, Nat.pow_add]
  have e5 : 9007199254740992 * n ≤ 9007199254740992 * 2 ^ (n.log2 + 1) := Nat.mul_le_mul_left _ (by omega)
  omega
theorem sg_mul (s t : Bool) (a b : Rat) : sg s a * sg t b = sg (s ^^ t) (a * b) := by
 unfold sg; cases s <;> cases t <;> simp <;> grind
theorem ab_sg' (s : Bool) (q : Rat) : ab (sg s q) = ab q := by unfold ab sg; cases s <;> simp <;> grind
theorem div_rnd {x y : Nat} {p q : Rat} (hx : V x = some p) (hy : V y = some q) (h0 : q ≠ 0) (h : ab (p / q) < 2 ^ (1022 : Int)) : ∃ z r, double.div x y = some z ∧ V z = some r ∧ Near r (p / q) := by
 obtain ⟨s, m, i, hrx, hvx⟩ := V_num hx
 obtain ⟨t, n, j, hry, hvy⟩ := V_num hy
 have hn : n ≠ 0 := fun e => by subst e; apply h0; rw [← hvy]; unfold sg; cases t <;> simp
 have hm := read_mag hrx
 obtain ⟨N, hN⟩ : ∃ N, N = m <<< (54 + n.log2 - m.log2) := ⟨_, rfl⟩
 have hdig := quot_dig hn hm N _ rfl hN
 generalize hmo : 54 + n.log2 - m.log2 = more at *
 generalize hA : 2 * (N / n) + (N % n != 0).toNat = A at *
 have hdiv : double.div x y = some (double.write (.number (s ^^ t) A (i - j - more - 1))) := by
  unfold Format.div
  rw [hrx, hry]
  unfold Datum.quotient
  simp only [if_neg hn]
  have e54 : double.fractionBits + 2 = 54 := by decide
  rw [e54, hmo, ← hN, hA]
  rfl
 -- the quotient, as it is
 have hp : (0 : Rat) < (2 : Rat) ^ (i - j - more - 1) := zpow_pos _
 have hnq : (0 : Rat) < (n : Rat) := by
  have : 0 < n := Nat.pos_of_ne_zero hn
  exact_mod_cast this
 have hB : p / q = sg (s ^^ t) ((2 * (N : Rat) / n) * 2 ^ (i - j - more - 1)) := by
  have hN' : (N : Rat) = (m : Rat) * 2 ^ ((more : Nat) : Int) := by
   rw [hN, Nat.shiftLeft_eq, zpow_nat]
   exact Rat.natCast_mul _ _
  have hqm : q * sg (s ^^ t) ((2 * (N : Rat) / n) * 2 ^ (i - j - more - 1)) = p := by
   rw [← hvx, ← hvy, sg_mul]
   have e : (t ^^ (s ^^ t)) = s := by cases s <;> cases t <;> rfl
   rw [e]
   congr 1
   have e1 : (2 : Rat) ^ i = 2 ^ j * 2 * 2 ^ ((more : Nat) : Int) * 2 ^ (i - j - more - 1) := by
    have e2 : i = j + (1 + (((more : Nat) : Int) + (i - j - more - 1))) := by omega
    have e3 : (2 : Rat) ^ i = 2 ^ (j + (1 + (((more : Nat) : Int) + (i - j - more - 1)))) := congrArg (fun z : Int => (2 : Rat) ^ z) e2
    rw [e3, zpow_add, zpow_add, zpow_add, pow_one']
    grind
   rw [e1, hN']
   have e4 : (n : Rat) * (2 ^ j) * ((2 * ((m : Rat) * 2 ^ ((more : Nat) : Int)) / n) * 2 ^ (i - j - more - 1)) = ((n : Rat) * (2 * ((m : Rat) * 2 ^ ((more : Nat) : Int)) / n)) * (2 ^ j * 2 ^ (i - j - more - 1)) := by grind
   have e5 : (n : Rat) * (2 * ((m : Rat) * 2 ^ ((more : Nat) : Int)) / n) = 2 * ((m : Rat) * 2 ^ ((more : Nat) : Int)) := by
    have hne : (n : Rat) ≠ 0 := fun e => by rw [e] at hnq; exact absurd hnq (by decide)
    have := Rat.mul_inv_cancel (n : Rat) hne
    rw [Rat.div_def]; grind
   rw [e4, e5]
   grind
  rw [← hqm, Rat.div_def, Rat.mul_comm q, Rat.mul_assoc, Rat.mul_inv_cancel _ h0, Rat.mul_one]
 generalize hT : (2 : Rat) ^ (i - j - more - 1) = T at *
 generalize hu : (s ^^ t) = u at *
 have hinv : (n : Rat) * (n : Rat)⁻¹ = 1 := Rat.mul_inv_cancel (n : Rat) (fun e => by rw [e] at hnq; exact absurd hnq (by decide))
 have hinv0 : 0 < (n : Rat)⁻¹ := Rat.inv_pos.2 hnq
 obtain ⟨B, hBd⟩ : ∃ B : Rat, B = 2 * (N : Rat) / n := ⟨_, rfl⟩
 rw [← hBd] at hB
 have hBn : B * n = 2 * (N : Rat) := by rw [hBd, Rat.div_def]; grind
 have hN0 : (0 : Rat) ≤ (N : Rat) := Rat.natCast_nonneg
 have hB0 : 0 ≤ B := by rw [hBd, Rat.div_def]; exact Rat.mul_nonneg (by grind) (Rat.le_of_lt hinv0)
 have e54 : (2 : Rat) ^ (-54 : Int) = 1 / 18014398509481984 := by decide +kernel
 have e53 : (2 : Rat) ^ (-53 : Int) = 1 / 9007199254740992 := by decide +kernel
 have e52 : (2 : Rat) ^ (-52 : Int) = 1 / 4503599627370496 := by decide +kernel
 have key : (A : Rat) - B ≤ B * (1 / 18014398509481984) ∧ B - (A : Rat) ≤ B * (1 / 18014398509481984) := by
  rcases hdig with ⟨_, h1⟩ | ⟨h1, h2, h3⟩
  ·have h1' : (A : Rat) * n = 2 * (N : Rat) := by
    have := congrArg (fun z : Nat => (z : Rat)) h1
    simp only [Rat.natCast_mul] at this
    exact this
   have : (A : Rat) = B := by
    have e1 : (A : Rat) * n * (n : Rat)⁻¹ = B * n * (n : Rat)⁻¹ := by rw [h1', hBn]
    rw [Rat.mul_assoc, Rat.mul_assoc, hinv, Rat.mul_one, Rat.mul_one] at e1
    exact e1
   rw [this]
   have : 0 ≤ B * (1 / 18014398509481984) := Rat.mul_nonneg hB0 (by decide +kernel)
   constructor <;> grind
  ·have c1 : (A : Rat) * n ≤ 2 * (N : Rat) + n := by
    have : ((A * n : Nat) : Rat) ≤ ((2 * N + n : Nat) : Rat) := by exact_mod_cast h1
    simpa [Rat.natCast_mul, Rat.natCast_add] using this
   have c2 : 2 * (N : Rat) ≤ (A : Rat) * n + n := by
    have : ((2 * N : Nat) : Rat) ≤ ((A * n + n : Nat) : Rat) := by exact_mod_cast h2
    simpa [Rat.natCast_mul, Rat.natCast_add] using this
   have c3 : 9007199254740992 * (n : Rat) ≤ (N : Rat) := by
    have : ((9007199254740992 * n : Nat) : Rat) ≤ ((N : Nat) : Rat) := Rat.natCast_le_natCast.2 h3
    rw [Rat.natCast_mul] at this
    exact this
   have d1 : (A : Rat) ≤ B + 1 := by
    have := Rat.mul_le_mul_of_nonneg_right c1 (Rat.le_of_lt hinv0)
    rw [← hBn] at this
    have e1 : (A : Rat) * n * (n : Rat)⁻¹ = A := by rw [Rat.mul_assoc, hinv, Rat.mul_one]
    have e2 : (B * n + n) * (n : Rat)⁻¹ = B + 1 := by rw [Rat.add_mul, Rat.mul_assoc, hinv, Rat.mul_one]
    rw [e1, e2] at this; exact this
   have d2 : B ≤ (A : Rat) + 1 := by
    have := Rat.mul_le_mul_of_nonneg_right c2 (Rat.le_of_lt hinv0)
    rw [← hBn] at this
    have e1 : B * n * (n : Rat)⁻¹ = B := by rw [Rat.mul_assoc, hinv, Rat.mul_one]
    have e2 : ((A : Rat) * n + n) * (n : Rat)⁻¹ = A + 1 := by rw [Rat.add_mul, Rat.mul_assoc, hinv, Rat.mul_one]
    rw [e1, e2] at this; exact this
   have d3 : 18014398509481984 ≤ B := by
    have := Rat.mul_le_mul_of_nonneg_right c3 (Rat.le_of_lt hinv0)
    have e1 : 9007199254740992 * (n : Rat) * (n : Rat)⁻¹ = 9007199254740992 := by rw [Rat.mul_assoc, hinv, Rat.mul_one]
    rw [e1] at this
    have e2 : B = 2 * ((N : Rat) * (n : Rat)⁻¹) := by rw [hBd, Rat.div_def, Rat.mul_assoc]
    rw [e2]; grind
   have d4 : 1 ≤ B * (1 / 18014398509481984) := by
    have := Rat.mul_le_mul_of_nonneg_right d3 (show (0 : Rat) ≤ 1 / 18014398509481984 by decide +kernel)
    have e1 : (18014398509481984 : Rat) * (1 / 18014398509481984) = 1 := by decide +kernel
    rw [e1] at this; exact this
   constructor <;> grind
 have hab : ab (p / q) = B * T := by rw [hB, ab_sg' , ]; unfold ab; rw [if_neg (by have := Rat.mul_nonneg hB0 (Rat.le_of_lt hp); grind)]
 have hBT : 0 ≤ B * T := Rat.mul_nonneg hB0 (Rat.le_of_lt hp)
 have k1 := Rat.mul_le_mul_of_nonneg_right key.1 (Rat.le_of_lt hp)
 have k2 := Rat.mul_le_mul_of_nonneg_right key.2 (Rat.le_of_lt hp)
 have hA0 : 0 ≤ (A : Rat) * T := Rat.mul_nonneg Rat.natCast_nonneg (Rat.le_of_lt hp)
 have hlt : (A : Rat) * T < 2 ^ (1023 : Int) := by
  have e1 : (2 : Rat) ^ (1023 : Int) = 2 * 2 ^ (1022 : Int) := half 1023
  rw [hab] at h
  rw [e1]; grind
 obtain ⟨r, hr, hR⟩ := write_rnd u A (i - j - more - 1) (by rw [hT]; exact hlt)
 rw [hT] at hR
 refine ⟨_, r, hdiv, hr, ?_⟩
 have l1 := hR.lo
 have l2 := hR.hi
 rw [ab_sg u hA0, e53] at l1 l2
 have hs : sg u ((A : Rat) * T) - p / q ≤ B * T * (1 / 18014398509481984) ∧ p / q - sg u ((A : Rat) * T) ≤ B * T * (1 / 18014398509481984) := by
  rw [hB]
  unfold sg
  cases u <;> simp <;> constructor <;> grind
 refine ⟨?_, ?_⟩ <;> rw [hab, e52] <;> grind
end Flt

/- Floors of quotients of whole numbers. -/
set_option linter.unusedVariables false
set_option linter.unusedSimpArgs false
namespace Flt
open Go Ieee Go.Vm
def floorD (x : Nat) : Nat := FloatKind.f64.encode ((FloatKind.f64.decode x).integral .down)
def floorS (x : Nat) (d : Ieee.Datum) : Sem Value :=
 match d with
 | .nan s t =>
  if FloatKind.f64.format.quiet t = t then pure (.float .f64 x) else do
   let kept ← choose (.extern "math.Floor,Ceil,Trunc,RoundToEven.signallingNaN kept" 2)
   pure (.float .f64 (if kept == 1 then x else FloatKind.f64.encode (.nan s (FloatKind.f64.format.quiet t))))
 | d => pure (.float .f64 (FloatKind.f64.encode (d.integral .down)))
/-- A quotient that can be told exactly, is. -/
theorem quo_exact {x y : Nat} {p q : Rat} {c E : Int} (hx : V x = some p) (hy : V y = some q) (h0 : q ≠ 0) (hc : p / q = (c : Rat) * 2 ^ E) (hb : c.natAbs ≤ 9007199254740992) (hE : -1074 ≤ E) (hE2 : E ≤ 900) : ∃ z, double.div x y = some z ∧ V z = some (p / q) := by
 obtain ⟨s, m, i, hrx, hvx⟩ := V_num hx
 obtain ⟨t, n, j, hry, hvy⟩ := V_num hy
 have hn : n ≠ 0 := fun e => by subst e; apply h0; rw [← hvy]; unfold sg; cases t <;> simp
 have hm := read_mag hrx
 obtain ⟨N, hN⟩ : ∃ N, N = m <<< (54 + n.log2 - m.log2) := ⟨_, rfl⟩
 have hdig := quot_dig hn hm N _ rfl hN
 generalize hmo : 54 + n.log2 - m.log2 = more at *
 generalize hA : 2 * (N / n) + (N % n != 0).toNat = A at *
 have hdiv : double.div x y = some (double.write (.number (s ^^ t) A (i - j - more - 1))) := by
  unfold Format.div
  rw [hrx, hry]
  unfold Datum.quotient
  simp only [if_neg hn]
  have e54 : double.fractionBits + 2 = 54 := by decide
  rw [e54, hmo, ← hN, hA]
  rfl
 have hp : (0 : Rat) < (2 : Rat) ^ (i - j - more - 1) := zpow_pos _
 have hnq : (0 : Rat) < (n : Rat) := by
  have : 0 < n := Nat.pos_of_ne_zero hn
  exact_mod_cast this
 have hB : p / q = sg (s ^^ t) ((2 * (N : Rat) / n) * 2 ^ (i - j - more - 1)) := by
  have hN' : (N : Rat) = (m : Rat) * 2 ^ ((more : Nat) : Int) := by
   rw [hN, Nat.shiftLeft_eq, zpow_nat]
   exact Rat.natCast_mul _ _
  have hqm : q * sg (s ^^ t) ((2 * (N : Rat) / n) * 2 ^ (i - j - more - 1)) = p := by
   rw [← hvx, ← hvy, sg_mul]
   have e : (t ^^ (s ^^ t)) = s := by cases s <;> cases t <;> rfl
   rw [e]
   congr 1
   have e1 : (2 : Rat) ^ i = 2 ^ j * 2 * 2 ^ ((more : Nat) : Int) * 2 ^ (i - j - more - 1) := by
    have e2 : i = j + (1 + (((more : Nat) : Int) + (i - j - more - 1))) := by omega
    have e3 : (2 : Rat) ^ i = 2 ^ (j + (1 + (((more : Nat) : Int) + (i - j - more - 1)))) := congrArg (fun z : Int => (2 : Rat) ^ z) e2
    rw [e3, zpow_add, zpow_add, zpow_add, pow_one']
    grind
   rw [e1, hN']
   have e4 : (n : Rat) * (2 ^ j) * ((2 * ((m : Rat) * 2 ^ ((more : Nat) : Int)) / n) * 2 ^ (i - j - more - 1)) = ((n : Rat) * (2 * ((m : Rat) * 2 ^ ((more : Nat) : Int)) / n)) * (2 ^ j * 2 ^ (i - j - more - 1)) := by grind
   have e5 : (n : Rat) * (2 * ((m : Rat) * 2 ^ ((more : Nat) : Int)) / n) = 2 * ((m : Rat) * 2 ^ ((more : Nat) : Int)) := by
    have hne : (n : Rat) ≠ 0 := fun e => by rw [e] at hnq; exact absurd hnq (by decide)
    have := Rat.mul_inv_cancel (n : Rat) hne
    rw [Rat.div_def]; grind
   rw [e4, e5]
   grind
  rw [← hqm, Rat.div_def, Rat.mul_comm q, Rat.mul_assoc, Rat.mul_inv_cancel _ h0, Rat.mul_one]
 have hinv : (n : Rat) * (n : Rat)⁻¹ = 1 := Rat.mul_inv_cancel (n : Rat) (fun e => by rw [e] at hnq; exact absurd hnq (by decide))
 obtain ⟨B, hBd⟩ : ∃ B : Rat, B = 2 * (N : Rat) / n := ⟨_, rfl⟩
 rw [← hBd] at hB
 have hBn : B * n = 2 * (N : Rat) := by rw [hBd, Rat.div_def]; grind
 have hAB : (A : Rat) = B := by
  have h1 : A * n = 2 * N := by
   by_cases hz : N % n = 0
   ·have hd := Nat.div_add_mod N n
    rw [hz, Nat.add_zero] at hd
    have e0 : (N % n != 0).toNat = 0 := by rw [hz]; rfl
    rw [← hA, e0, Nat.add_zero, Nat.mul_assoc, Nat.mul_comm (N / n) n, hd]
   ·exfalso
    apply hz
    rcases hdig with ⟨h1, _⟩ | ⟨_, _, h3⟩
    ·exact h1
    ·have hE0 : (0 : Rat) < 2 ^ E := zpow_pos E
     have hB0 : 0 ≤ B := by
      have hN0 : (0 : Rat) ≤ (N : Rat) := Rat.natCast_nonneg
      rw [hBd, Rat.div_def]; exact Rat.mul_nonneg (by grind) (Rat.le_of_lt (Rat.inv_pos.2 hnq))
     have hac : ab (c : Rat) = (c.natAbs : Rat) := by
      have h := sg_natAbs c
      rw [← h, sg_ab (by rw [zpow_zero', Rat.mul_one]; exact Rat.natCast_nonneg), zpow_zero', Rat.mul_one]
     have hBT : B * 2 ^ (i - j - more - 1) = (c.natAbs : Rat) * 2 ^ E := by
      have h1 : ab (p / q) = B * 2 ^ (i - j - more - 1) := by rw [hB, sg_ab (Rat.mul_nonneg hB0 (Rat.le_of_lt hp))]
      have h2 : ab (p / q) = (c.natAbs : Rat) * 2 ^ E := by rw [hc, ab_mul hE0, hac]
      rw [← h1, h2]
     obtain ⟨e, he⟩ : ∃ e, e = E - (i - j - more - 1) := ⟨_, rfl⟩
     have hEe : (2 : Rat) ^ E = 2 ^ (i - j - more - 1) * 2 ^ e := by rw [← zpow_add]; congr 1; omega
     have hBe : B = (c.natAbs : Rat) * 2 ^ e := by
      rw [hEe] at hBT
      generalize (2 : Rat) ^ (i - j - more - 1) = T at *
      have hT0 : T ≠ 0 := fun h => by rw [h] at hp; exact absurd hp (by decide)
      have h1 : B * T * T⁻¹ = (c.natAbs : Rat) * (T * 2 ^ e) * T⁻¹ := by rw [hBT]
      have h2 := Rat.mul_inv_cancel T hT0
      have h3 : (c.natAbs : Rat) * (T * 2 ^ e) * T⁻¹ = (c.natAbs : Rat) * 2 ^ e * (T * T⁻¹) := by grind
      rw [h3, Rat.mul_assoc, h2, Rat.mul_one, Rat.mul_one] at h1
      exact h1
     have hBge : (18014398509481984 : Rat) ≤ B := by
      have c3 : 9007199254740992 * (n : Rat) ≤ (N : Rat) := by
       have : ((9007199254740992 * n : Nat) : Rat) ≤ ((N : Nat) : Rat) := Rat.natCast_le_natCast.2 h3
       rw [Rat.natCast_mul] at this
       exact this
      have h4 := Rat.mul_le_mul_of_nonneg_right c3 (Rat.le_of_lt (Rat.inv_pos.2 hnq))
      have e1 : 9007199254740992 * (n : Rat) * (n : Rat)⁻¹ = 9007199254740992 := by rw [Rat.mul_assoc, hinv, Rat.mul_one]
      rw [e1] at h4
      have e2 : B = 2 * ((N : Rat) * (n : Rat)⁻¹) := by rw [hBd, Rat.div_def, Rat.mul_assoc]
      rw [e2]; grind
     have hcb : (c.natAbs : Rat) ≤ 9007199254740992 := by
      have : ((c.natAbs : Nat) : Rat) ≤ ((9007199254740992 : Nat) : Rat) := Rat.natCast_le_natCast.2 hb
      exact this
     have he1 : 1 ≤ e := by
      apply Classical.byContradiction
      intro hne
      have h5 : (2 : Rat) ^ e ≤ 1 := by have := zpow_le (a := e) (b := 0) (by omega); rw [zpow_zero'] at this; exact this
      have h9 := Rat.mul_le_mul_of_nonneg_left h5 (show (0 : Rat) ≤ (c.natAbs : Rat) from Rat.natCast_nonneg)
      rw [← hBe, Rat.mul_one] at h9
      grind
     obtain ⟨k, hk⟩ : ∃ k : Nat, e - 1 = (k : Int) := ⟨(e - 1).toNat, by omega⟩
     have h10 : (N : Rat) = (c.natAbs : Rat) * ((2 ^ k : Nat) : Rat) * (n : Rat) := by
      have h11 := half e
      rw [hk, zpow_nat] at h11
      rw [hBe, h11] at hBn
      generalize ((2 ^ k : Nat) : Rat) = M at *
      grind
     have h12 : N = c.natAbs * 2 ^ k * n := by
      rw [← Rat.natCast_mul, ← Rat.natCast_mul] at h10
      exact Rat.natCast_inj.1 h10
     rw [h12]; exact Nat.mul_mod_left _ _
  have h1' : (A : Rat) * n = 2 * (N : Rat) := by
   have := congrArg (fun z : Nat => (z : Rat)) h1
   simp only [Rat.natCast_mul] at this
   exact this
  have e1 : (A : Rat) * n * (n : Rat)⁻¹ = B * n * (n : Rat)⁻¹ := by rw [h1', hBn]
  rw [Rat.mul_assoc, Rat.mul_assoc, hinv, Rat.mul_one, Rat.mul_one] at e1
  exact e1
 have hq : sg (s ^^ t) ((A : Rat) * 2 ^ (i - j - more - 1)) = (c : Rat) * 2 ^ E := by rw [hAB, ← hB, hc]
 obtain ⟨r, hr, hR⟩ := write_rnd (s ^^ t) A (i - j - more - 1) (sg_lt hq (ab_dy hb hE2))
 rw [hq] at hR
 have h13 := hR.exact c E hb hE rfl
 exact ⟨_, hdiv, by rw [hr, h13, hc]⟩
end Flt

/- Floating numbers that are near what is meant: sums, differences, products, with the errors told. -/
set_option linter.unusedVariables false
set_option linter.unusedSimpArgs false
namespace Flt
open Go Ieee Go.Vm
/-- x is nearer than e to q. -/
def App (x : Nat) (q e : Rat) : Prop := ∃ r, V x = some r ∧ r - q ≤ e ∧ q - r ≤ e
def Bd (q B : Rat) : Prop := -B ≤ q ∧ q ≤ B
abbrev u53 : Rat := 1 / 9007199254740992
abbrev tiny : Rat := 1 / 1267650600228229401496703205376
abbrev huge : Rat := 1267650600228229401496703205376
theorem App.int {x : Nat} {n : Int} (h : I x n) : App x n 0 := ⟨n, h, by grind, by grind⟩
theorem App.mono {x : Nat} {q e f : Rat} (h : App x q e) (hf : e ≤ f) : App x q f := by
 obtain ⟨r, h1, h2, h3⟩ := h
 exact ⟨r, h1, by grind, by grind⟩
theorem tiny_le : (2 : Rat) ^ (-1075 : Int) ≤ tiny := by
 have h1 : (2 : Rat) ^ (-1075 : Int) ≤ (2 : Rat) ^ (-100 : Int) := zpow_le (by omega)
 have e : (2 : Rat) ^ (-100 : Int) = tiny := by decide +kernel
 rw [e] at h1; exact h1
theorem e53 : (2 : Rat) ^ (-53 : Int) = u53 := by decide +kernel
theorem ab_le {q B : Rat} (h : Bd q B) : ab q ≤ B := by unfold ab; obtain ⟨h1, h2⟩ := h; split <;> grind
theorem Rnd.near {r q B : Rat} (h : Rnd r q) (hB : Bd q B) : r - q ≤ B * u53 + tiny ∧ q - r ≤ B * u53 + tiny := by
 have h1 := h.lo
 have h2 := h.hi
 have h3 := tiny_le
 have h4 := Rat.mul_le_mul_of_nonneg_right (ab_le hB) (show (0 : Rat) ≤ u53 by decide +kernel)
 rw [e53] at h1 h2
 constructor <;> grind
end Flt

/- Square roots of floating numbers: how near they are. -/
set_option linter.unusedVariables false
set_option linter.unusedSimpArgs false
namespace Flt
open Go Ieee Go.Vm
theorem rootFrom_spec (n : Nat) : ∀ (t r : Nat), r * r ≤ n → n < (r + 2 ^ t) * (r + 2 ^ t) →
  Datum.rootFrom n t r * Datum.rootFrom n t r ≤ n ∧ n < (Datum.rootFrom n t r + 1) * (Datum.rootFrom n t r + 1)
 | 0, r, h1, h2 => ⟨h1, by simpa [Datum.rootFrom] using h2⟩
 | t + 1, r, h1, h2 => by
  unfold Datum.rootFrom
  have e : 1 <<< t = 2 ^ t := by rw [Nat.shiftLeft_eq, Nat.one_mul]
  simp only [e]
  split
  ·rename_i h
   exact rootFrom_spec n t _ h (by
    have e2 : r + 2 ^ (t + 1) = r + 2 ^ t + 2 ^ t := by rw [Nat.pow_succ]; omega
    rw [e2] at h2; exact h2)
  ·rename_i h; exact rootFrom_spec n t _ h1 (by omega)
/-- The digits of a root. -/
theorem root_dig {m : Nat} {i : Int} (hm : m ≠ 0) (hb : m < 9007199254740992) : ∃ (n w : Nat) (E : Int), Datum.root 54 (.number false m i) = some (.number false (2 * w + (w * w != n).toNat) (E - 1)) ∧
  (m : Rat) * 2 ^ i = (n : Rat) * 2 ^ (2 * E) ∧ w * w ≤ n ∧ n ≤ w * w + 2 * w ∧ 18014398509481984 ≤ w := by
 have hl : m.log2 < 53 := log_lt (by
  have : (2 : Nat) ^ 53 = 9007199254740992 := by decide
  omega) hm
 obtain ⟨more, hmore⟩ : ∃ more, more = 2 * 54 - m.log2 + ((i - ((2 * 54 - m.log2 : Nat) : Int)) % 2).toNat := ⟨_, rfl⟩
 obtain ⟨n, hn⟩ : ∃ n, n = m <<< more := ⟨_, rfl⟩
 have hn' : n = m * 2 ^ more := by rw [hn, Nat.shiftLeft_eq]
 have h108 : 2 ^ 108 ≤ n := by
  have g1 : 2 ^ m.log2 ≤ m := Nat.log2_self_le hm
  have g2 : 2 ^ 108 ≤ 2 ^ (m.log2 + more) := Nat.pow_le_pow_right (by omega) (by omega)
  rw [Nat.pow_add] at g2
  rw [hn']; exact Nat.le_trans g2 (Nat.mul_le_mul_right _ g1)
 have hlog : n < 2 ^ (n.log2 + 1) := Nat.lt_log2_self
 obtain ⟨w1, w2⟩ := rootFrom_spec n (n.log2 / 2 + 1) 0 (by omega) (by
  rw [Nat.zero_add, ← Nat.pow_add]
  exact Nat.lt_of_lt_of_le hlog (Nat.pow_le_pow_right (by omega) (by omega)))
 obtain ⟨w, hw⟩ : ∃ w, w = Datum.rootFrom n (n.log2 / 2 + 1) 0 := ⟨_, rfl⟩
 rw [← hw] at w1 w2
 refine ⟨n, w, (i - more) / 2, ?_, ?_, w1, ?_, ?_⟩
 ·unfold Datum.root
  simp only [if_neg hm, Bool.false_eq_true, if_false]
  rw [← hmore, ← hn, ← hw]
 ·have e : i = ((more : Nat) : Int) + 2 * ((i - more) / 2) := by omega
  have e1 : (2 : Rat) ^ i = 2 ^ (((more : Nat) : Int) + 2 * ((i - more) / 2)) := congrArg (fun z : Int => (2 : Rat) ^ z) e
  rw [e1, zpow_add, zpow_nat, hn', Rat.natCast_mul]
  grind
 ·have : (w + 1) * (w + 1) = w * w + 2 * w + 1 := by rw [Nat.add_mul, Nat.mul_add]; omega
  omega
 ·apply Classical.byContradiction
  intro h
  have h1 : w + 1 ≤ 18014398509481984 := by omega
  have h2 := Nat.mul_le_mul h1 h1
  have h3 : 18014398509481984 * 18014398509481984 = 2 ^ 108 := by decide
  omega
theorem zpow_dbl (E : Int) : (2 : Rat) ^ (2 * E) = 2 ^ E * 2 ^ E := by
 have : 2 * E = E + E := by omega
 rw [this, zpow_add]
theorem sq_lt {a b : Rat} (ha : 0 ≤ a) (hb : 0 ≤ b) (h : a * a < b * b) : a < b := by
 apply Classical.byContradiction
 intro hn
 have h1 : b ≤ a := Rat.not_lt.1 hn
 have h2 := Rat.mul_le_mul_of_nonneg_right h1 hb
 have h3 := Rat.mul_le_mul_of_nonneg_right h1 ha
 grind
theorem nat_le_rat {a b : Nat} (h : a ≤ b) : (a : Rat) ≤ (b : Rat) := Rat.natCast_le_natCast.2 h
/-- The root of a number: as near as its digits go, then rounded. -/
theorem sqrt_rnd {x : Nat} {q : Rat} (hx : V x = some q) (h0 : 0 ≤ q) (hlt : q < 2 ^ (2000 : Int)) : ∃ z r s, double.sqrt x = some z ∧ V z = some r ∧ 0 ≤ s ∧ Rnd r s ∧
  s * s - q ≤ s * s * (1 / 18014398509481984) ∧ q - s * s ≤ s * s * (1 / 18014398509481984) ∧ ∀ k : Nat, k ≤ 9007199254740992 → q = (k : Rat) * k → s = k := by
 obtain ⟨b, m, i, hrx, hvx⟩ := V_num hx
 have hm := read_mag hrx
 have e54 : double.fractionBits + 2 = 54 := by decide
 have hi := zpow_pos i
 by_cases hm0 : m = 0
 ·subst hm0
  have hq : q = 0 := by rw [← hvx]; unfold sg; cases b <;> simp
  have hs : double.sqrt x = some (double.write (.number b 0 i)) := by
   unfold Format.sqrt
   rw [hrx, e54]
   simp [Datum.root]
  obtain ⟨r, hr, hR⟩ := write_rnd b 0 i (by
   have e : (((0 : Nat) : Rat)) * (2 : Rat) ^ i = 0 := by simp
   rw [e]; exact zpow_pos 1023)
  have e0 : sg b (((0 : Nat) : Rat) * 2 ^ i) = 0 := by unfold sg; cases b <;> simp
  rw [e0] at hR
  subst hq
  refine ⟨_, r, 0, hs, hr, Rat.le_refl, hR, by grind, by grind, fun k _ hk => ?_⟩
  have hk0 : (0 : Rat) ≤ (k : Rat) := Rat.natCast_nonneg
  apply Classical.byContradiction
  intro hne
  have : (0 : Rat) < (k : Rat) := by grind
  have := Rat.mul_pos this this
  grind
 ·have hmp : (0 : Rat) < (m : Rat) := by
   have : 0 < m := Nat.pos_of_ne_zero hm0
   exact_mod_cast this
  have hb : b = false := by
   cases b with
   | false => rfl
   | true =>
    have := Rat.mul_pos hmp hi
    unfold sg at hvx
    simp at hvx
    grind
  subst hb
  obtain ⟨n, w, E, hroot, hval, h1, h2, h3⟩ := root_dig (i := i) hm0 hm
  have hq : q = (n : Rat) * 2 ^ (2 * E) := by rw [← hvx, ← hval]; rfl
  rw [zpow_dbl] at hq
  have hE := zpow_pos E
  have h1' : (w : Rat) * w ≤ (n : Rat) := by have := nat_le_rat h1; rw [Rat.natCast_mul] at this; exact this
  have h2' : (n : Rat) ≤ (w : Rat) * w + 2 * w := by have := nat_le_rat h2; rw [Rat.natCast_add, Rat.natCast_mul, Rat.natCast_mul] at this; exact this
  have h3' : (18014398509481984 : Rat) ≤ (w : Rat) := by have := nat_le_rat h3; exact this
  obtain ⟨A, hA⟩ : ∃ A, A = 2 * w + (w * w != n).toNat := ⟨_, rfl⟩
  rw [← hA] at hroot
  have hEE : 0 < (2 : Rat) ^ E * 2 ^ E := Rat.mul_pos hE hE
  -- the root's size
  have hsz : (w : Rat) * 2 ^ E < 2 ^ (1000 : Int) := by
   apply sq_lt (Rat.mul_nonneg Rat.natCast_nonneg (Rat.le_of_lt hE)) (Rat.le_of_lt (zpow_pos _))
   have e : (2 : Rat) ^ (2000 : Int) = 2 ^ (1000 : Int) * 2 ^ (1000 : Int) := zpow_dbl 1000
   rw [← e]
   have := Rat.mul_le_mul_of_nonneg_right h1' (Rat.le_of_lt hEE)
   grind
  have hhalf : (2 : Rat) ^ E = 2 * 2 ^ (E - 1) := half E
  have hH := zpow_pos (E - 1)
  have hA1 : (A : Rat) ≤ 2 * (w : Rat) + 1 := by
   have : A ≤ 2 * w + 1 := by rw [hA]; have := Bool.toNat_le (w * w != n); omega
   have := nat_le_rat this
   rw [Rat.natCast_add, Rat.natCast_mul] at this
   exact this
  have hA2 : 2 * (w : Rat) ≤ (A : Rat) := by
   have : 2 * w ≤ A := by omega
   have := nat_le_rat this
   rw [Rat.natCast_mul] at this
   exact this
  have hlt2 : (A : Rat) * 2 ^ (E - 1) < 2 ^ (1023 : Int) := by
   have g1 := Rat.mul_le_mul_of_nonneg_right hA1 (Rat.le_of_lt hH)
   have g2 : 1 * 2 ^ (E - 1) ≤ (w : Rat) * 2 ^ (E - 1) := Rat.mul_le_mul_of_nonneg_right (by grind) (Rat.le_of_lt hH)
   have g3 : (2 : Rat) ^ (1000 : Int) ≤ 2 ^ (1022 : Int) := zpow_le (by omega)
   have g4 : (2 : Rat) ^ (1023 : Int) = 2 * 2 ^ (1022 : Int) := half 1023
   rw [hhalf] at hsz
   grind
  have hs : double.sqrt x = some (double.write (.number false A (E - 1))) := by
   unfold Format.sqrt
   rw [hrx, e54, hroot]
   rfl
  obtain ⟨r, hr, hR⟩ := write_rnd false A (E - 1) hlt2
  have es : sg false ((A : Rat) * 2 ^ (E - 1)) = (A : Rat) * 2 ^ (E - 1) := rfl
  rw [es] at hR
  have hss : (A : Rat) * 2 ^ (E - 1) * ((A : Rat) * 2 ^ (E - 1)) * 4 = (A : Rat) * A * (2 ^ E * 2 ^ E) := by rw [hhalf]; grind
  -- the digits against the number
  have key : ((A : Rat) * A - 4 * (n : Rat)) ≤ (A : Rat) * A * (1 / 18014398509481984) ∧ (4 * (n : Rat) - (A : Rat) * A) ≤ (A : Rat) * A * (1 / 18014398509481984) := by
   have c1 : 36028797018963968 * (A : Rat) ≤ (A : Rat) * A := Rat.mul_le_mul_of_nonneg_right (by grind) Rat.natCast_nonneg
   have c2 : 2 * (A : Rat) ≤ (A : Rat) * A * (1 / 18014398509481984) := by
    have := Rat.mul_le_mul_of_nonneg_right c1 (show (0 : Rat) ≤ 1 / 18014398509481984 by decide +kernel)
    have e : 36028797018963968 * (A : Rat) * (1 / 18014398509481984) = 2 * (A : Rat) := by
     have : (36028797018963968 : Rat) * (1 / 18014398509481984) = 2 := by decide +kernel
     grind
    rw [e] at this; exact this
   by_cases hf : w * w = n
   ·have eA : (A : Rat) = 2 * (w : Rat) := by
     have : A = 2 * w := by rw [hA]; simp [hf]
     rw [this, Rat.natCast_mul]; rfl
    have en : (n : Rat) = (w : Rat) * w := by rw [← hf, Rat.natCast_mul]
    have hA0 : 0 ≤ (A : Rat) := Rat.natCast_nonneg
    have hp2 : 0 ≤ (A : Rat) * A * (1 / 18014398509481984) := Rat.mul_nonneg (Rat.mul_nonneg hA0 hA0) (by decide +kernel)
    have e5 : (A : Rat) * A = 4 * (n : Rat) := by rw [en, eA]; grind
    rw [e5] at hp2 ⊢
    constructor <;> grind
   ·have eA : (A : Rat) = 2 * (w : Rat) + 1 := by
     have : A = 2 * w + 1 := by rw [hA]; simp [hf]
     rw [this, Rat.natCast_add, Rat.natCast_mul]; rfl
    have e6 : (A : Rat) * A = 4 * ((w : Rat) * w) + 4 * w + 1 := by rw [eA]; grind
    clear hval hq hss hlt2 hsz hroot hR es c1
    generalize (A : Rat) * A = AA at *
    generalize (w : Rat) * w = ww at *
    constructor <;> grind
  have k1 := Rat.mul_le_mul_of_nonneg_right key.1 (Rat.le_of_lt hEE)
  have k2 := Rat.mul_le_mul_of_nonneg_right key.2 (Rat.le_of_lt hEE)
  refine ⟨_, r, (A : Rat) * 2 ^ (E - 1), hs, hr, Rat.mul_nonneg Rat.natCast_nonneg (Rat.le_of_lt hH), hR, ?_, ?_, fun k hk hkq => ?_⟩
  ·rw [hq]; grind
  ·rw [hq]; grind
  ·-- whole roots
   have hk0 : (0 : Rat) ≤ (k : Rat) := Rat.natCast_nonneg
   have hEn : E < 0 := by
    apply Classical.byContradiction
    intro hge
    have g1 : (2 : Rat) ^ (0 : Int) ≤ 2 ^ E := zpow_le (by omega)
    rw [zpow_zero'] at g1
    have g2 : (1 : Rat) * 1 ≤ 2 ^ E * 2 ^ E := by
     have := Rat.mul_le_mul_of_nonneg_right g1 (Rat.le_of_lt hE)
     grind
    have g3 := Rat.mul_le_mul_of_nonneg_right g2 (show (0 : Rat) ≤ (n : Rat) from Rat.natCast_nonneg)
    have g4 : (k : Rat) ≤ 9007199254740992 := nat_le_rat hk
    have g5 := Rat.mul_le_mul_of_nonneg_right g4 hk0
    have g6 := Rat.mul_le_mul_of_nonneg_right h3' (show (0 : Rat) ≤ (w : Rat) from Rat.natCast_nonneg)
    have g8 : (k : Rat) * k ≤ 9007199254740992 * 9007199254740992 := by grind
    have g9 : (18014398509481984 : Rat) * 18014398509481984 ≤ (n : Rat) := by grind
    have g10 : (n : Rat) ≤ (k : Rat) * k := by rw [← hkq, hq]; grind
    grind
   obtain ⟨d, hd⟩ : ∃ d : Nat, E = -(d : Int) := ⟨E.natAbs, by omega⟩
   have hD : (2 : Rat) ^ E * ((2 ^ d : Nat) : Rat) = 1 := by
    rw [← zpow_nat, ← zpow_add, hd]
    have : -(d : Int) + (d : Int) = 0 := by omega
    rw [this, zpow_zero']
   have hK : n = (k * 2 ^ d) * (k * 2 ^ d) := by
    have : (n : Rat) = (((k * 2 ^ d) * (k * 2 ^ d) : Nat) : Rat) := by
     rw [Rat.natCast_mul, Rat.natCast_mul]
     have e1 : (n : Rat) = (n : Rat) * (2 ^ E * 2 ^ E) * (((2 ^ d : Nat) : Rat) * ((2 ^ d : Nat) : Rat)) := by grind
     rw [e1, ← hq, hkq]
     grind
    exact Rat.natCast_inj.1 this
   have hwK : w = k * 2 ^ d := by
    clear hA
    generalize k * 2 ^ d = K at *
    rcases Nat.lt_trichotomy w K with h | h | h
    ·have t1 : (w + 1) * (w + 1) ≤ K * K := Nat.mul_le_mul h h
     have e : (w + 1) * (w + 1) = w * w + 2 * w + 1 := by rw [Nat.add_mul, Nat.mul_add]; omega
     omega
    ·exact h
    ·have t1 : (K + 1) * (K + 1) ≤ w * w := Nat.mul_le_mul h h
     have e : (K + 1) * (K + 1) = K * K + 2 * K + 1 := by rw [Nat.add_mul, Nat.mul_add]; omega
     omega
   have eA : A = 2 * w := by rw [hA, hK, ← hwK]; simp
   rw [eA, hwK, Rat.natCast_mul, Rat.natCast_mul]
   have e2 : (2 : Rat) * 2 ^ (E - 1) = 2 ^ E := hhalf.symm
   have e3 : ((2 : Nat) : Rat) = 2 := rfl
   rw [e3]
   have : 2 * ((k : Rat) * ((2 ^ d : Nat) : Rat)) * 2 ^ (E - 1) = (k : Rat) * (((2 ^ d : Nat) : Rat) * (2 * 2 ^ (E - 1))) := by grind
   rw [this, e2]
   grind
theorem sqrt_int {x k : Nat} (hx : I x ((k * k : Nat) : Int)) (hk : k ≤ 9007199254740992) : ∃ z, double.sqrt x = some z ∧ I z (k : Int) := by
 have hq : (((k * k : Nat) : Int) : Rat) = (k : Rat) * k := by rw [Rat.intCast_natCast, Rat.natCast_mul]
 have hx' : V x = some ((k : Rat) * k) := by rw [← hq]; exact hx
 have hk0 : (0 : Rat) ≤ (k : Rat) := Rat.natCast_nonneg
 obtain ⟨z, r, s, h1, h2, _, hR, _, _, h6⟩ := sqrt_rnd hx' (Rat.mul_nonneg hk0 hk0) (by
  have g4 : (k : Rat) ≤ 9007199254740992 := nat_le_rat hk
  have g5 := Rat.mul_le_mul_of_nonneg_right g4 hk0
  have g7 : (2 : Rat) ^ (107 : Int) ≤ 2 ^ (2000 : Int) := zpow_le (by omega)
  have e : (2 : Rat) ^ (107 : Int) = 2 * (9007199254740992 * 9007199254740992) := by decide +kernel
  grind)
 have hs := h6 k hk rfl
 subst hs
 refine ⟨z, h1, ?_⟩
 have hr : r = (k : Rat) := by
  have := hR.exact (k : Int) 0 (by omega) (by omega) (by rw [zpow_zero', Rat.mul_one, Rat.intCast_natCast])
  exact this
 unfold I
 rw [h2, hr, Rat.intCast_natCast]
end Flt

/- What the row's condition on package variables tells of their cells. -/
namespace Go.Vm
open Go.Lib
end Go.Vm
