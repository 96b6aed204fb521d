/- Printed functions: how what they say is taken apart beside a walk; further rules of the view. -/
import Derived.Test.YtbgdonedjgkhiaaVmFreeze
import Derived.Laws.Slices
set_option linter.unusedVariables false
set_option linter.unusedSimpArgs false
namespace Go.Vm

/-- k, where p holds. -/
def need {α : Type} (p : Prop) [Decidable p] (k : Option α) : Option α := if p then k else none
theorem need_elim {α : Type} {p : Prop} [Decidable p] {k : Option α} {r : α} (h : need p k = some r) : p ∧ k = some r := by
  unfold need at h; split at h
  · exact ⟨by assumption, h⟩
  · cases h
theorem need_pos {α : Type} {p : Prop} [Decidable p] (h : p) (k : Option α) : need p k = k := by unfold need; rw [if_pos h]
theorem bind_elim {α β : Type} {o : Option α} {k : α → Option β} {r : β} (h : o.bind k = some r) : ∃ y, o = some y ∧ k y = some r := by
  cases o with
  | none => cases h
  | some y => exact ⟨y, rfl, h⟩
theorem cT {α : Type} {b : Bool} {x y : α} {r : α} (h : cond b x y = r) (hb : b = true) : x = r := by subst hb; exact h
theorem cF {α : Type} {b : Bool} {x y : α} {r : α} (h : cond b x y = r) (hb : b = false) : y = r := by subst hb; exact h
/-- A loop with fuel. -/
def iter {V T : Type} (b : (V → Option T) → V → Option T) : Nat → V → Option T
  | 0, _ => none
  | n + 1, v => b (iter b n) v
theorem iter_elim {V T : Type} {b : (V → Option T) → V → Option T} {n : Nat} {v : V} {r : T} (h : iter b n v = some r) : ∃ m, n = m + 1 ∧ b (iter b m) v = some r := by
  cases n with
  | zero => cases h
  | succ m => exact ⟨m, rfl, h⟩
theorem iter_rule {V T : Type} {b : (V → Option T) → V → Option T} (inv : V → Prop) (post : T → Prop) (μ : V → Nat)
    (step : ∀ K v, inv v → (∀ v', inv v' → μ v' < μ v → ∃ t, K v' = some t ∧ post t) → ∃ t, b K v = some t ∧ post t) : ∀ n v, inv v → μ v < n → ∃ t, iter b n v = some t ∧ post t := by
  intro n
  induction n with
  | zero => intro v _ h; omega
  | succ n ih => intro v hv h; exact step _ v hv fun v' hi hl => ih v' hi (by omega)
/-- Behind a loop: what follows a break, or a result at once. -/
def aft {V R T : Type} (o : Sum V R) (ret : R → Option T) (k : V → Option T) : Option T := match o with
  | .inl v => k v
  | .inr r => ret r
/-- an element, where there is one -/
def idx {α : Type} (l : List α) (i : Int) : Option α := if 0 ≤ i then l[i.toNat]? else none
theorem idx_elim {α β : Type} {l : List α} {i : Int} {k : α → Option β} {r : β} (h : (idx l i).bind k = some r) : ∃ y, (0 ≤ i ∧ l[i.toNat]? = some y) ∧ k y = some r := by
  obtain ⟨y, h1, h2⟩ := bind_elim h
  unfold idx at h1; split at h1
  · exact ⟨y, ⟨by assumption, h1⟩, h2⟩
  · cases h1
theorem idx_some {α : Type} {l : List α} {i : Int} {n : Nat} {y : α} (h : l[n]? = some y) (hi : i = n) : idx l i = some y := by
  subst hi; unfold idx; rw [if_pos (by omega)]; simpa using h
def inI (k : IntKind) (z : Int) : Prop := lo k ≤ z ∧ z ≤ hi k
instance (k : IntKind) (z : Int) : Decidable (inI k z) := by unfold inI; exact inferInstance

/-! ### Lists of cells -/
theorem len1 {α : Type} (f : α → D) (l : List α) : (l.map f).length = l.length * 1 := by simp
theorem lt1 {α : Type} {f : α → D} {l : List α} {i : Nat} {y : α} (h : l[i]? = some y) : i * 1 < (l.map f).length := by
  have := (List.getElem?_eq_some_iff.1 h).1; simp; exact this
theorem at1 {α : Type} {f : α → D} {l : List α} {i : Nat} {y : α} (h : l[i]? = some y) : (l.map f)[i * 1]? = some (f y) := by simp [h]
theorem lenN {α : Type} (f : α → List D) (sz : Nat) (hf : ∀ x, (f x).length = sz) (l : List α) : (l.flatMap f).length = l.length * sz := by
  induction l with
  | nil => simp
  | cons a l ih => simp [ih, hf, Nat.add_mul]; omega
theorem splitN {α : Type} (f : α → List D) (sz : Nat) (hf : ∀ x, (f x).length = sz) : ∀ (l : List α) (i : Nat), (l.flatMap f).drop (i * sz) = (l.drop i).flatMap f
  | [], i => by simp
  | a :: l, 0 => by simp
  | a :: l, i + 1 => by
    have e : (i + 1) * sz = (f a).length + i * sz := by rw [hf, Nat.add_mul]; omega
    rw [List.flatMap_cons, e, ← List.drop_drop, List.drop_left, splitN f sz hf l i]
    rfl
theorem takeN {α : Type} (f : α → List D) (sz : Nat) (hf : ∀ x, (f x).length = sz) : ∀ (l : List α) (i : Nat), (l.flatMap f).take (i * sz) = (l.take i).flatMap f
  | [], i => by simp
  | a :: l, 0 => by simp
  | a :: l, i + 1 => by
    have e : (i + 1) * sz = (f a).length + i * sz := by rw [hf, Nat.add_mul]; omega
    rw [List.flatMap_cons, e, List.take_length_add_append, takeN f sz hf l i]
    simp
theorem ltN {α : Type} {f : α → List D} (sz : Nat) (hf : ∀ x, (f x).length = sz) (h0 : 0 < sz) {l : List α} {i : Nat} {y : α} (h : l[i]? = some y) : i * sz < (l.flatMap f).length := by
  rw [lenN f sz hf]
  exact Nat.mul_lt_mul_of_pos_right (List.getElem?_eq_some_iff.1 h).1 h0
theorem leN {α : Type} {f : α → List D} (sz : Nat) (hf : ∀ x, (f x).length = sz) {l : List α} {i : Nat} {y : α} (h : l[i]? = some y) : i * sz + sz ≤ (l.flatMap f).length := by
  rw [lenN f sz hf]
  have : (i + 1) * sz ≤ l.length * sz := Nat.mul_le_mul_right _ (List.getElem?_eq_some_iff.1 h).1
  rw [Nat.add_mul] at this; omega
theorem atN {α : Type} {f : α → List D} (sz : Nat) (hf : ∀ x, (f x).length = sz) {l : List α} {i : Nat} {y : α} (h : l[i]? = some y) : ((l.flatMap f).drop (i * sz)).take sz = f y := by
  rw [splitN f sz hf]
  have hlt := (List.getElem?_eq_some_iff.1 h).1
  have hy : l[i] = y := (List.getElem?_eq_some_iff.1 h).2
  rw [List.drop_eq_getElem_cons hlt, List.flatMap_cons, hy]
  have : sz = (f y).length := (hf y).symm
  conv => lhs; arg 1; rw [this]
  simp
theorem atNk {α : Type} {f : α → List D} (sz : Nat) (hf : ∀ x, (f x).length = sz) {l : List α} {i : Nat} {y : α} (h : l[i]? = some y) (k : Nat) (hk : k < sz) {z : D} (hz : (f y)[k]? = some z) : (l.flatMap f)[i * sz + k]? = some z := by
  have := atN sz hf h
  rw [← hz, ← this, List.getElem?_take, if_pos hk, List.getElem?_drop]
theorem atNs {α : Type} {f : α → List D} (sz : Nat) (hf : ∀ x, (f x).length = sz) {l : List α} {i : Nat} {y : α} (h : l[i]? = some y) (k n : Nat) (hk : k + n ≤ sz) {z : List D} (hz : ((f y).drop k).take n = z) : ((l.flatMap f).drop (i * sz + k)).take n = z := by
  have e := atN sz hf h
  rw [← hz, ← e, List.drop_take, List.take_take, List.drop_drop]
  congr 1; omega
theorem sub1 {α : Type} (f : α → D) (l : List α) (a b : Nat) : ((l.map f).drop (a * 1)).take ((b - a) * 1) = ((l.drop a).take (b - a)).map f := by simp [List.map_take, List.map_drop]
theorem subN {α : Type} (f : α → List D) (sz : Nat) (hf : ∀ x, (f x).length = sz) (l : List α) (a b : Nat) : ((l.flatMap f).drop (a * sz)).take ((b - a) * sz) = ((l.drop a).take (b - a)).flatMap f := by
  rw [splitN f sz hf, takeN f sz hf]
theorem tk1 {α : Type} (f : α → D) (l : List α) (k : Nat) : (l.map f).take (k * 1) = (l.take k).map f := by simp [List.map_take]
theorem tkN {α : Type} (f : α → List D) (sz : Nat) (hf : ∀ x, (f x).length = sz) (l : List α) (k : Nat) : (l.flatMap f).take (k * sz) = (l.take k).flatMap f := takeN f sz hf l k
theorem cat1 {α : Type} (f : α → D) (l m : List α) : l.map f ++ m.map f = (l ++ m).map f := by simp
theorem catN {α : Type} (f : α → List D) (l m : List α) : l.flatMap f ++ m.flatMap f = (l ++ m).flatMap f := by simp
theorem cat1t {α : Type} (f : α → D) (l m : List α) (k : Nat) : (l.map f).take (k * 1) ++ m.map f = (l.take k ++ m).map f := by simp [List.map_take]
theorem catNt {α : Type} (f : α → List D) (sz : Nat) (hf : ∀ x, (f x).length = sz) (l m : List α) (k : Nat) : (l.flatMap f).take (k * sz) ++ m.flatMap f = (l.take k ++ m).flatMap f := by rw [takeN f sz hf, List.flatMap_append]
theorem one1 {α : Type} (f : α → D) (hf : ∀ x, (f x).one = true) (l : List α) : ∀ x, x ∈ l.map f → x.one = true := fun x hx => by
  obtain ⟨y, _, rfl⟩ := List.mem_map.1 hx; exact hf y
theorem oneN {α : Type} (f : α → List D) (hf : ∀ x, (f x).all D.one = true) (l : List α) : ∀ x, x ∈ l.flatMap f → x.one = true := fun x hx => by
  obtain ⟨y, _, h⟩ := List.mem_flatMap.1 hx; exact List.all_eq_true.1 (hf y) x h
theorem small {n b : Nat} (h : n ≤ 4294967296) (hb : b ≤ 32768) : n * b ≤ 140737488355328 := Nat.le_trans (Nat.mul_le_mul h hb) (by decide)
theorem small' {n b : Nat} (h : n ≤ 4294967296) (hb : b ≤ 32768) : b * n ≤ 281474976710656 := by rw [Nat.mul_comm]; exact Nat.le_trans (small h hb) (by decide)
theorem small63 {n : Nat} (h : n ≤ 4294967296) : n ≤ maxLen := Nat.le_trans h (by decide)

/-! ### One view is told by another -/
def SVLe (x y : SV) : Prop := ∀ w ok Ω v, RepS w ok Ω x v → RepS w ok Ω y v
theorem SVLe.refl (x : SV) : SVLe x x := fun _ _ _ _ h => h
theorem SVLe.any (x : SV) : SVLe x .any := fun _ _ _ v _ => .any v
theorem SVLe.nil (sz : Nat) : SVLe (.d (.v (.slice none 0 0))) (.d (.ds sz [])) := fun w ok Ω v h => by
  rw [h.val]; exact .d _ _ (.nil _ _ _)
/-- data, as it stands in a struct -/
inductive SLe : List SV → List D → Prop
  | nil : SLe [] []
  | cons {x : SV} {y : D} {xs : List SV} {ys : List D} (h : SVLe x (.d y)) (t : SLe xs ys) : SLe (x :: xs) (y :: ys)
theorem SLe.get {xs : List SV} {ys : List D} (h : SLe xs ys) : xs.length = ys.length ∧ ∀ (i : Nat) x y, xs[i]? = some x → ys[i]? = some y → SVLe x (.d y) := by
  induction h with
  | nil => exact ⟨rfl, fun i x y h => by simp at h⟩
  | cons h t ih =>
    refine ⟨by simp [ih.1], fun i x y h1 h2 => ?_⟩
    cases i with
    | zero => cases h1; cases h2; exact h
    | succ i => simp at h1 h2; exact ih.2 i x y h1 h2
theorem RepS.isD {w : World} {ok : Nat → Prop} {Ω : List Value} {y : D} {v : Value} (h : RepS w ok Ω (.d y) v) : RepD w ok y v := by cases h with | d _ _ h => exact h
theorem SVLe.ag {xs : List SV} {ys : List D} (h : SLe xs ys) : SVLe (.ag xs) (.d (.ag ys)) := fun w ok Ω v hr => by
  obtain ⟨hl, hi⟩ := h.get
  cases hr with
  | ag _ vs hl2 hrr =>
    refine .d _ _ (.ag _ _ (by omega) fun i x y hx hy => ?_)
    have hlt := (List.getElem?_eq_some_iff.1 hx).1
    have hc : xs[i]? = some xs[i] := List.getElem?_eq_getElem (by omega)
    exact (hi i _ _ hc hx _ _ _ _ (hrr i _ _ hc hy)).isD
theorem SVLe.agd {xs : List D} {ys : List D} (h : SLe (xs.map .d) ys) : SVLe (.d (.ag xs)) (.d (.ag ys)) := fun w ok Ω v hr => by
  obtain ⟨hl, hi⟩ := h.get
  cases hr with
  | d _ _ hr =>
  cases hr with
  | ag _ vs hl2 hrr =>
    rw [List.length_map] at hl
    refine .d _ _ (.ag _ _ (by omega) fun i x y hx hy => ?_)
    have hlt := (List.getElem?_eq_some_iff.1 hx).1
    have hc : xs[i]? = some xs[i] := List.getElem?_eq_getElem (by omega)
    exact (hi i (.d xs[i]) _ (by rw [List.getElem?_map, hc]; rfl) hx _ _ Ω _ (.d _ _ (hrr i _ _ hc hy))).isD
section
variable {C : Ctx} {Q : Exit → St → Prop} {ops : Array Oper} {rest : List Oper} {o : Oper} {e : List (Nat × SV)} {obs : List Ob} {d : Nat} {t ty : TypeId} {x y : Operand}
theorem Rel.sub {Ω : List Value} {a : Act} {w : World} (hr : Rel C ⟨e, obs⟩ Ω a w) {t : Nat} {x y : SV} (hx : get e t = some x) (hle : SVLe x y) : Rel C ⟨(t, y) :: e, obs⟩ Ω a w := by
  refine ⟨hr.defers, hr.size, fun q z hq => ?_, hr.mem⟩
  simp only [get] at hq
  split at hq
  · rename_i h; subst h; cases hq
    obtain ⟨v, hv, hrep⟩ := hr.env t _ hx
    exact ⟨v, hv, hle _ _ _ _ hrep⟩
  · exact hr.env q z hq
theorem AC.sub (t : Nat) {x y : SV} {c : Code} (hx : get e t = some x) (hle : SVLe x y) (h : AC C c ⟨(t, y) :: e, obs⟩ Q) : AC C c ⟨e, obs⟩ Q := fun Ω a w hr => h Ω a w (hr.sub hx hle)
theorem AO.sub (t : Nat) {x y : SV} {l : List Oper} (hx : get e t = some x) (hle : SVLe x y) (h : AO C ops l ⟨(t, y) :: e, obs⟩ Q) : AO C ops l ⟨e, obs⟩ Q := fun Ω a w hr => h Ω a w (hr.sub hx hle)

/-! ### A slice of one's own becomes data, wherever it stands -/
def SV.thaw (p : Nat) (x : D) : SV → SV
  | .own q => if q = p then .d x else .own q
  | .sl q sz off len cap => if q = p ∧ off = 0 then .d x else .sl q sz off len cap
  | .ag l => .ag (l.map fun | .own q => if q = p then .d x else .own q | z => z)
  | z => z
def thawE (p : Nat) (x : D) : List (Nat × SV) → List (Nat × SV)
  | [] => []
  | (k, y) :: r => (k, y.thaw p x) :: thawE p x r
theorem thawE_get {p : Nat} {x : D} : ∀ {e : List (Nat × SV)} {t : Nat} {z : SV}, get (thawE p x e) t = some z → ∃ y, get e t = some y ∧ z = y.thaw p x
  | [], _, _, h => by cases h
  | (k, y) :: r, t, z, h => by
    simp only [thawE, get] at h ⊢
    split at h
    · rename_i hk; cases h; exact ⟨y, by rw [if_pos hk], rfl⟩
    · rename_i hk; obtain ⟨y', h1, h2⟩ := thawE_get h; exact ⟨y', by rw [if_neg hk]; exact h1, h2⟩
/-- as long as cap is len -/
def SV.fullB (p : Nat) : SV → Bool
  | .sl q _ off len cap => q != p || off != 0 || len == cap
  | _ => true
theorem Rel.freezeGrow {Ω : List Value} {a : Act} {w : World} (hr : Rel C ⟨e, obs⟩ Ω a w) (hm : C.may = []) {p ty sz : Nat} {cells : List D} (hp : obs[p]? = some (.grow ty sz cells)) :
    Rel C ⟨thawE p (.ds sz cells) e, obs.set p .dead⟩ Ω a w := by
  obtain ⟨hmem, hok⟩ := hr.mem.kill p
  have hd : ∀ v, Ω[p]? = some v → RepD w (okB C (obs.set p .dead) Ω w) (.ds sz cells) v := fun v hΩ => by
    obtain ⟨n, xs, how, hxl, hrr⟩ := hr.mem.obj p _ _ hp hΩ
    rcases how.2 with ⟨rfl, h0⟩ | ⟨g, cap, cur, rfl, _, hg, hnc, _, hcs, hct⟩
    · have : cells = [] := List.eq_nil_of_length_eq_zero (by rw [← hxl, how.1, h0]; simp)
      subst this; exact .nil _ _ _
    · have hcell : ∀ (i : Nat), i < cells.length → xs[i]? = some (xs.getD i undef) := fun i hi => by
        rw [List.getD_eq_getElem?_getD, List.getElem?_eq_getElem (by omega)]; rfl
      refine .ds _ _ _ _ _ _ (fun i => xs.getD i undef) (by rw [← hxl, how.1]) hnc ⟨?_, (Array.getElem?_eq_some_iff.1 hg).1, fun i ob k e1 l e2 => ?_⟩ (fun i hi => ?_) (fun i x hx => ?_)
      · rcases hr.mem.new p _ _ g hp rfl hΩ rfl with h | h
        · exact .inr h
        · rw [hm] at h; cases h
      · rcases get_set e1 with ⟨rfl, rfl, _⟩ | ⟨hi, e1⟩
        · cases l
        · exact hr.mem.sep p i _ _ _ _ g (Ne.symm hi) hp e1 rfl l hΩ e2 rfl
      · rw [Nat.zero_add, cell_of_row w g i cur ty (0, 0) hg]
        have hin : i < n * sz := by have := how.1; omega
        have h1 : xs[i]? = cur.toList[i]? := by rw [← hct, List.getElem?_take, if_pos hin]
        have h2 := hcell i hi
        rw [h1] at h2
        simpa using h2
      · exact (hrr i x _ hx (hcell i (List.getElem?_eq_some_iff.1 hx).1)).mono fun b hb => ⟨hok b hb, rfl⟩
  have own : ∀ {v : Value}, RepS w (okB C obs Ω w) Ω (.own p) v → RepS w (okB C (obs.set p .dead) Ω w) Ω (.d (.ds sz cells)) v := fun h => by
    cases h with | own _ _ ho _ => exact .d _ _ (hd _ ho)
  refine ⟨hr.defers, hr.size, fun q z hq => ?_, hmem⟩
  obtain ⟨y, hy, rfl⟩ := thawE_get hq
  obtain ⟨v, hv, hrep⟩ := hr.env q y hy
  have mono : ∀ {z : SV} {u : Value}, RepS w (okB C obs Ω w) Ω z u → RepS w (okB C (obs.set p .dead) Ω w) Ω z u := fun h => h.mono (fun b hb => ⟨hok b hb, rfl⟩) (fun _ _ e => e)
  refine ⟨v, hv, ?_⟩
  cases y with
  | own q =>
    simp only [SV.thaw]
    split
    · rename_i h; subst h; exact own hrep
    · exact mono hrep
  | sl q s off len cap =>
    simp only [SV.thaw]
    split
    · rename_i h
      obtain ⟨rfl, rfl⟩ := h
      cases hrep with
      | sl _ _ _ _ _ b ho =>
        obtain ⟨n, xs, how, _⟩ := hr.mem.obj q _ _ hp ho
        rcases how.2 with ⟨h, _⟩ | ⟨g, cap, cur, h, _⟩ <;> cases h
    · exact mono hrep
  | ag l =>
    cases hrep with
    | ag _ vs hl hrr =>
      refine .ag _ _ (by simp [hl]) fun i x y hx hy => ?_
      rw [List.getElem?_map, Option.map_eq_some_iff] at hx
      obtain ⟨z, hz, rfl⟩ := hx
      have := hrr i z y hz hy
      split
      · split
        · rename_i h; subst h; exact own this
        · exact mono this
      · exact mono this
  | _ => exact mono hrep
theorem AO.freezeG {l : List Oper} (p : Nat) {ty sz : Nat} {cells : List D} {e' : List (Nat × SV)} (hm : C.may = []) (hp : obs[p]? = some (.grow ty sz cells)) (he : thawE p (.ds sz cells) e = e')
    (h : AO C ops l ⟨e', obs.set p .dead⟩ Q) : AO C ops l ⟨e, obs⟩ Q := fun Ω a w hr => h Ω a w (by subst he; exact hr.freezeGrow hm hp)
theorem AC.freezeG {c : Code} (p : Nat) {ty sz : Nat} {cells : List D} {e' : List (Nat × SV)} (hm : C.may = []) (hp : obs[p]? = some (.grow ty sz cells)) (he : thawE p (.ds sz cells) e = e')
    (h : AC C c ⟨e', obs.set p .dead⟩ Q) : AC C c ⟨e, obs⟩ Q := fun Ω a w hr => h Ω a w (by subst he; exact hr.freezeGrow hm hp)

/-- Of one cell or many: what the elements of a made slice are. -/
theorem Rel.freezeFix {Ω : List Value} {a : Act} {w : World} (hr : Rel C ⟨e, obs⟩ Ω a w) (hm : C.may = []) {t p ty sz len cap : Nat} {cells : List SV} {ds : List D} (hx : get e t = some (.sl p sz 0 len cap)) (hp : obs[p]? = some (.fix ty cells))
    (hc : cells = ds.map .d) (hl : ds.length = len * sz) (hcap : len ≤ cap) :
    Rel C ⟨(t, .d (.ds sz ds)) :: e, obs.set p .dead⟩ Ω a w := by
  subst hc
  obtain ⟨hmem, hok⟩ := hr.mem.kill p
  have mono : ∀ {z : SV} {u : Value}, RepS w (okB C obs Ω w) Ω z u → RepS w (okB C (obs.set p .dead) Ω w) Ω z u := fun h => h.mono (fun b hb => ⟨hok b hb, rfl⟩) (fun _ _ e => e)
  refine ⟨hr.defers, hr.size, fun q z hq => ?_, hmem⟩
  simp only [get] at hq
  split at hq
  · rename_i h; subst h; cases hq
    obtain ⟨v, hv, hrep⟩ := hr.env t _ hx
    refine ⟨v, hv, .d _ _ ?_⟩
    cases hrep with
    | sl _ _ _ _ _ b ho =>
      obtain ⟨b', vs, he, hw, hvl, hvr, _⟩ := hr.mem.obj p _ _ hp ho
      cases he
      rw [List.length_map] at hvl
      refine .ds _ _ _ _ _ _ (fun i => vs.getD i undef) hl hcap ⟨?_, (Array.getElem?_eq_some_iff.1 hw).1, fun i ob k e1 l e2 => ?_⟩ (fun i hi => ?_) (fun i x hx => ?_)
      · rcases hr.mem.new p _ _ b hp rfl ho rfl with h | h
        · exact .inr h
        · rw [hm] at h; cases h
      · rcases get_set e1 with ⟨rfl, rfl, _⟩ | ⟨hi, e1⟩
        · cases l
        · exact hr.mem.sep p i _ _ _ _ b (Ne.symm hi) hp e1 rfl l ho e2 rfl
      · rw [Nat.zero_add, cell_of_row w b i _ ty (0, 0) hw]
        have : i < vs.length := by omega
        simp [this]
      · have hi := (List.getElem?_eq_some_iff.1 hx).1
        have hv : vs[i]? = some (vs.getD i undef) := by rw [List.getD_eq_getElem?_getD, List.getElem?_eq_getElem (by omega)]; rfl
        exact (mono (hvr i (.d x) _ (by rw [List.getElem?_map, hx]; rfl) hv)).isD
  · obtain ⟨v, hv, hrep⟩ := hr.env q z hq
    exact ⟨v, hv, mono hrep⟩
theorem AO.freezeF {l : List Oper} (t p : Nat) {ty sz len cap : Nat} {cells : List SV} {ds : List D} (hm : C.may = []) (hx : get e t = some (.sl p sz 0 len cap)) (hp : obs[p]? = some (.fix ty cells))
    (hc : cells = ds.map .d) (hl : ds.length = len * sz) (hcap : len ≤ cap) (h : AO C ops l ⟨(t, .d (.ds sz ds)) :: e, obs.set p .dead⟩ Q) : AO C ops l ⟨e, obs⟩ Q := fun Ω a w hr => h _ a w (hr.freezeFix hm hx hp hc hl hcap)
theorem AC.freezeF {c : Code} (t p : Nat) {ty sz len cap : Nat} {cells : List SV} {ds : List D} (hm : C.may = []) (hx : get e t = some (.sl p sz 0 len cap)) (hp : obs[p]? = some (.fix ty cells))
    (hc : cells = ds.map .d) (hl : ds.length = len * sz) (hcap : len ≤ cap) (h : AC C c ⟨(t, .d (.ds sz ds)) :: e, obs.set p .dead⟩ Q) : AC C c ⟨e, obs⟩ Q := fun Ω a w hr => h _ a w (hr.freezeFix hm hx hp hc hl hcap)

/-! ### Operations -/
/-- The first elements of a slice of the call's own. -/
theorem AOp.slicePre {t el sz p k : Nat} {x y : Operand} {kk : IntKind} {i : Int} {cells : List D} {n : Nat} (ho : o.op = .slice t x none (some y) none) (hd : o.dst = some d) (hn : d < C.n) (hx : opS ⟨e, obs⟩ x = some (.own p))
    (hy : opS ⟨e, obs⟩ y = some (.d (.v (.int kk i)))) (ht : elemT C.P t = some (el, sz)) (hp : obs[p]? = some (.grow el sz cells)) (hsz : 0 < sz) (hc : cells.length = n * sz) (h0 : 0 ≤ i) (hk : i.toNat = k) (hle : k ≤ n)
    (h : AO C ops rest ⟨(d, .pre p k) :: e, obs⟩ Q) : AOp C ops rest o ⟨e, obs⟩ Q :=
  AOp.value hd hn (fun Ω a w hr => by
    obtain ⟨m, xs, hΩ, how, hxl, _⟩ := hr.growV hp (hr.eval hx)
    have hm : m = n := Nat.eq_of_mul_eq_mul_right hsz (by rw [← how.1, hxl, hc])
    subst hm
    obtain ⟨hu, hso⟩ := elem_of ht
    have key : ∃ ad cap, a.eval x = .slice ad m cap ∧ m ≤ cap ∧ (ad.map (fun q : Addr => q.add (0 * sz))) = ad := by
      rcases how.2 with ⟨h1, h2⟩ | ⟨g, cap, cur, h1, _, _, h3, _⟩
      · exact ⟨none, 0, by rw [h1, h2], by omega, rfl⟩
      · exact ⟨_, cap, h1, h3, by simp [Addr.add_of]⟩
    obtain ⟨ad, cap, hev, hcap, had⟩ := key
    rw [hev] at hΩ
    refine ⟨.slice ad k cap, ?_, .pre p k m cap ad hΩ hle⟩
    have := run_slice_h (P := C.P) w t ad m cap hu kk i h0 (by omega)
    simp only [execOp, ho, hev, hr.evalV hy, Option.map_some, Option.map_none, Sem.run_bind, run_sliceAt_slice w t _ _ _ _ hu, this, hso, run_sizeOf (elemT_spec ht).2, Result.andThen_ok, sliced, Sem.run_pure, hk, Nat.sub_zero, had, ite_self]) h
/-- s[:], s a slice into an object of the call's own. -/
theorem AOp.sliceFull {el sz p off len cap : Nat} (ho : o.op = .slice t x none none none) (hd : o.dst = some d) (hn : d < C.n) (hx : opS ⟨e, obs⟩ x = some (.sl p sz off len cap)) (ht : elemT C.P t = some (el, sz))
    (h : AO C ops rest ⟨(d, .sl p sz off len cap) :: e, obs⟩ Q) : AOp C ops rest o ⟨e, obs⟩ Q :=
  AOp.value hd hn (fun Ω a w hr => by
    have hv := hr.eval hx
    generalize hev : a.eval x = v at hv
    cases hv with
    | sl _ _ _ _ _ b hob =>
      obtain ⟨hu, hso⟩ := elem_of ht
      refine ⟨_, ?_, .sl _ _ _ _ _ b hob⟩
      have := run_slice_all (P := C.P) w t (some ⟨b, off, none⟩) len cap hu
      simp only [execOp, ho, hev, Option.map_none, Sem.run_bind, run_sliceAt_slice w t _ _ _ _ hu, this, hso, run_sizeOf (elemT_spec ht).2, Result.andThen_ok, sliced, Sem.run_pure]
      have e1 : (if cap = 0 then some (⟨b, off, none⟩ : Addr) else Option.map (fun q : Addr => q.add (0 * sz)) (some ⟨b, off, none⟩)) = some ⟨b, off, none⟩ := by
        split
        · rfl
        · simp [Addr.add_of]
      rw [e1]
      rfl) h
theorem AOp.sliceD {el sz n l hh : Nat} {lo hi : Option Operand} {cells cells' : List D} (ho : o.op = .slice t x lo hi none) (hd : o.dst = some d) (hn : d < C.n) (hx : opS ⟨e, obs⟩ x = some (.d (.ds sz cells)))
    (hlo : (lo = none ∧ l = 0) ∨ ∃ y k i, lo = some y ∧ opS ⟨e, obs⟩ y = some (.d (.v (.int k i))) ∧ 0 ≤ i ∧ l = i.toNat)
    (hhi : (hi = none ∧ hh = n) ∨ ∃ y k i, hi = some y ∧ opS ⟨e, obs⟩ y = some (.d (.v (.int k i))) ∧ 0 ≤ i ∧ hh = i.toNat)
    (ht : elemT C.P t = some (el, sz)) (hsz : 0 < sz) (hl : cells.length = n * sz) (h1 : l ≤ hh) (h2 : hh ≤ n) (hc : (cells.drop (l * sz)).take ((hh - l) * sz) = cells')
    (h : AO C ops rest ⟨(d, .d (.ds sz cells')) :: e, obs⟩ Q) : AOp C ops rest o ⟨e, obs⟩ Q :=
  AOp.value hd hn (fun Ω a w hr => by
    subst hc
    have hv := hr.eval hx
    generalize hev : a.eval x = v at hv
    cases hv with
    | d _ _ hv =>
      obtain ⟨ad, m, c, rfl, hcap, rfl, hrep⟩ := hv.sliced hsz hl h1 h2
      obtain ⟨hu, hso⟩ := elem_of ht
      refine ⟨_, ?_, .d _ _ hrep⟩
      rcases hlo with ⟨rfl, rfl⟩ | ⟨yl, kl, il, rfl, hyl, hil, rfl⟩ <;> rcases hhi with ⟨rfl, rfl⟩ | ⟨yh, kh, ih, rfl, hyh, hih, rfl⟩
      · have := run_slice_all (P := C.P) w t ad hh c hu
        simp only [execOp, ho, hev, Option.map_none, Sem.run_bind, run_sliceAt_slice w t _ _ _ _ hu, this, hso, run_sizeOf (elemT_spec ht).2, Result.andThen_ok, sliced, Sem.run_pure]
      · have := run_slice_h (P := C.P) w t ad m c hu kh ih hih (by omega)
        simp only [execOp, ho, hev, hr.evalV hyh, Option.map_some, Option.map_none, Sem.run_bind, run_sliceAt_slice w t _ _ _ _ hu, this, hso, run_sizeOf (elemT_spec ht).2, Result.andThen_ok, sliced, Sem.run_pure]
      · have := run_slice_l (P := C.P) w t ad hh c hu kl il hil (by omega)
        simp only [execOp, ho, hev, hr.evalV hyl, Option.map_some, Option.map_none, Sem.run_bind, run_sliceAt_slice w t _ _ _ _ hu, this, hso, run_sizeOf (elemT_spec ht).2, Result.andThen_ok, sliced, Sem.run_pure]
      · have := run_slice_lh (P := C.P) w t ad m c hu kl kh il ih hil (by omega) (by omega)
        simp only [execOp, ho, hev, hr.evalV hyl, hr.evalV hyh, Option.map_some, Option.map_none, Sem.run_bind, run_sliceAt_slice w t _ _ _ _ hu, this, hso, run_sizeOf (elemT_spec ht).2, Result.andThen_ok, sliced, Sem.run_pure]) h

/-- A struct's field, of a struct that is data. -/
theorem AOp.ishr' {k k' : IntKind} {a i : Int} (ho : o.op = .binOp .shr t x y ty) (hd : o.dst = some d) (hn : d < C.n) (hx : opS ⟨e, obs⟩ x = some (.d (di k a))) (hy : opS ⟨e, obs⟩ y = some (.d (di k' i)))
    (hb : 0 ≤ i ∧ i ≤ k.bits) (h0 : 0 ≤ a) (h : AO C ops rest ⟨(d, .d (di k (a / 2 ^ i.toNat))) :: e, obs⟩ Q) : AOp C ops rest o ⟨e, obs⟩ Q := by
  have hi : (i.toNat : Int) = i := Int.toNat_of_nonneg hb.1
  exact AOp.ishr (n := i.toNat) ho hd hn hx (by rw [hi]; exact hy) (by omega) h0 rfl h
theorem AOp.ishl' {k k' : IntKind} {a i : Int} (ho : o.op = .binOp .shl t x y ty) (hd : o.dst = some d) (hn : d < C.n) (hx : opS ⟨e, obs⟩ x = some (.d (di k a))) (hy : opS ⟨e, obs⟩ y = some (.d (di k' i)))
    (hb : 0 ≤ i ∧ i ≤ k.bits) (h : AO C ops rest ⟨(d, .d (di k (k.wrap (a * 2 ^ i.toNat)))) :: e, obs⟩ Q) : AOp C ops rest o ⟨e, obs⟩ Q := by
  have hi : (i.toNat : Int) = i := Int.toNat_of_nonneg hb.1
  exact AOp.ishl (n := i.toNat) ho hd hn hx (by rw [hi]; exact hy) (by omega) rfl h
theorem AOp.inegW {k : IntKind} {a : Int} (ho : o.op = .unOp .neg t x) (hd : o.dst = some d) (hn : d < C.n) (hx : opS ⟨e, obs⟩ x = some (.d (di k a)))
    (h : AO C ops rest ⟨(d, .d (di k (k.wrap (-a)))) :: e, obs⟩ Q) : AOp C ops rest o ⟨e, obs⟩ Q :=
  AOp.un ho hd hn hx (fun w => rfl) (by rw [Int.zero_sub]; exact h)
theorem AOp.iwAdd {k : IntKind} {a b : Int} (ho : o.op = .binOp .add t x y ty) (hd : o.dst = some d) (hn : d < C.n) (hx : opS ⟨e, obs⟩ x = some (.d (di k a))) (hy : opS ⟨e, obs⟩ y = some (.d (di k b)))
    (h : AO C ops rest ⟨(d, .d (di k (k.wrap (a + b)))) :: e, obs⟩ Q) : AOp C ops rest o ⟨e, obs⟩ Q := AOp.iarithW _ ho hd hn hx hy (.inl ⟨rfl, rfl⟩) h
theorem AOp.iwSub {k : IntKind} {a b : Int} (ho : o.op = .binOp .sub t x y ty) (hd : o.dst = some d) (hn : d < C.n) (hx : opS ⟨e, obs⟩ x = some (.d (di k a))) (hy : opS ⟨e, obs⟩ y = some (.d (di k b)))
    (h : AO C ops rest ⟨(d, .d (di k (k.wrap (a - b)))) :: e, obs⟩ Q) : AOp C ops rest o ⟨e, obs⟩ Q := AOp.iarithW _ ho hd hn hx hy (.inr (.inl ⟨rfl, rfl⟩)) h
theorem AOp.iwMul {k : IntKind} {a b : Int} (ho : o.op = .binOp .mul t x y ty) (hd : o.dst = some d) (hn : d < C.n) (hx : opS ⟨e, obs⟩ x = some (.d (di k a))) (hy : opS ⟨e, obs⟩ y = some (.d (di k b)))
    (h : AO C ops rest ⟨(d, .d (di k (k.wrap (a * b)))) :: e, obs⟩ Q) : AOp C ops rest o ⟨e, obs⟩ Q := AOp.iarithW _ ho hd hn hx hy (.inr (.inr ⟨rfl, rfl⟩)) h
/-- Onto a slice of the call's own, cells told. -/
theorem AOp.appendOwn' {t el size bytes p n m : Nat} {x y : Operand} {z : Value} {cells news cells' : List D} (ho : o.op = .call { callee := .builtin .append, args := #[x, y], argTypes := #[t, t] }) (hd : o.dst = some d) (hn : d < C.n)
    (hx : opS ⟨e, obs⟩ x = some (.own p)) (hy : opS ⟨e, obs⟩ y = some (.d (.ds size news))) (ht : elemT C.P t = some (el, size)) (hi : (C.P.info? el).map (fun i => (i.zero, i.size, i.bytes)) = some (some z, size, bytes)) (hzs : z.cells.size = size) (hsz : 0 < size)
    (hp : obs[p]? = some (.grow el size cells)) (hc : cells.length = n * size) (hl : news.length = m * size) (hone : ∀ x, x ∈ news → x.one = true) (h63 : n + m ≤ 4294967296) (hb : bytes ≤ 32768)
    (hno : (obs.set p .dead).all (Ob.noO p) = true) {e' : List (Nat × SV)} (he : dropO p [] e = e') (hcat : cells ++ news = cells')
    (h : AO C ops rest ⟨(d, .own p) :: e', obs.set p (.grow el size cells')⟩ Q) : AOp C ops rest o ⟨e, obs⟩ Q := by
  subst hcat
  exact AOp.appendOwn ho hd hn hx hy ht hi hzs hsz hp hc hl hone (small63 h63) (small h63 hb) hno he h
theorem AOp.appendOwnT' {t t2 el el2 size bytes p n m : Nat} {x y : Operand} {z : Value} {cells news cells' : List D} (ho : o.op = .call { callee := .builtin .append, args := #[x, y], argTypes := #[t, t2] }) (ht2 : C.P.underlying t2 = some (.slice el2)) (hd : o.dst = some d) (hn : d < C.n)
    (hx : opS ⟨e, obs⟩ x = some (.own p)) (hy : opS ⟨e, obs⟩ y = some (.d (.ds size news))) (ht : elemT C.P t = some (el, size)) (hi : (C.P.info? el).map (fun i => (i.zero, i.size, i.bytes)) = some (some z, size, bytes)) (hzs : z.cells.size = size) (hsz : 0 < size)
    (hp : obs[p]? = some (.grow el size cells)) (hc : cells.length = n * size) (hl : news.length = m * size) (hone : ∀ x, x ∈ news → x.one = true) (h63 : n + m ≤ 4294967296) (hb : bytes ≤ 32768)
    (hno : (obs.set p .dead).all (Ob.noO p) = true) {e' : List (Nat × SV)} (he : dropO p [] e = e') (hcat : cells ++ news = cells')
    (h : AO C ops rest ⟨(d, .own p) :: e', obs.set p (.grow el size cells')⟩ Q) : AOp C ops rest o ⟨e, obs⟩ Q := by
  subst hcat
  exact AOp.appendOwnT ho ht2 hd hn hx hy ht hi hzs hsz hp hc hl hone (small63 h63) (small h63 hb) hno he h
end
end Go.Vm
namespace Go.Vm
/-! ### Joins and loops beside printed functions -/
inductive LeL : List (Nat × SV) → List (Nat × SV) → Prop
  | nil : LeL [] []
  | cons {t : Nat} {x y : SV} {a b : List (Nat × SV)} (h : SVLe x y) (r : LeL a b) : LeL ((t, x) :: a) ((t, y) :: b)
theorem LeL.refl : ∀ a : List (Nat × SV), LeL a a
  | [] => .nil
  | (t, x) :: a => .cons (SVLe.refl x) (LeL.refl a)
theorem LeL.get {a b : List (Nat × SV)} (h : LeL a b) : ∀ {t : Nat} {y : SV}, Vm.get b t = some y → ∃ x, Vm.get a t = some x ∧ SVLe x y := by
  induction h with
  | nil => intro t y h; cases h
  | @cons t0 x0 y0 a b h0 r ih =>
    intro t y h
    simp only [Vm.get] at h ⊢
    split at h
    · rename_i e; cases h; exact ⟨x0, by rw [if_pos e], h0⟩
    · rename_i e; obtain ⟨x, h1, h2⟩ := ih h; exact ⟨x, by rw [if_neg e]; exact h1, h2⟩
theorem Rel.le {C : Ctx} {a b : List (Nat × SV)} {obs : List Ob} {Ω : List Value} {ac : Act} {w : World} (hr : Rel C ⟨a, obs⟩ Ω ac w) (h : LeL a b) : Rel C ⟨b, obs⟩ Ω ac w :=
  ⟨hr.defers, hr.size, fun t y hy => by
    obtain ⟨x, hx, hle⟩ := h.get hy
    obtain ⟨v, hv, hrep⟩ := hr.env t x hx
    exact ⟨v, hv, hle _ _ _ _ hrep⟩, hr.mem⟩
/-- The end of a way that is joined with others: v the values, L what stands there. -/
def JoinP {V : Type} (ks : List Nat) (m : Nat) (env : V → List (Nat × SV)) (ob : V → List Ob) (inv : V → Prop) (Q : Exit → St → Prop) : Exit → St → Prop
  | .normal, s => ∃ v L, Vm.keep ks s.env = some L ∧ LeL L (env v) ∧ s.obs.take m = ob v ∧ keepOK m L (ob v) = true ∧ inv v
  | e, s => Q e s
theorem AC.joinP {V : Type} (ksC ksV : List Nat) (m : Nat) (venv : V → List (Nat × SV)) (ob : V → List Ob) (inv : V → Prop) {C : Ctx} {s : St} {Q : Exit → St → Prop} {x y : Code} {cenv : List (Nat × SV)}
    (hC : Vm.keep ksC s.env = some cenv) (h : AC C x s (JoinP (ksC ++ ksV) m (fun v => cenv ++ venv v) ob inv Q)) (rest : ∀ v, inv v → AC C y ⟨cenv ++ venv v, ob v⟩ Q) : AC C (.seq x y) s Q := fun Ω a w hr =>
  wp_seq (wp_mono (h Ω a w hr) fun e a w ⟨s', Ω', hr', hq⟩ => by
    cases e with
    | normal =>
      obtain ⟨v, L, h1, h2, h3, h4, h5⟩ := hq
      have := hr'.keep (m := m) h1 (by rw [h3]; exact h4)
      rw [h3] at this
      exact rest v h5 _ a w (this.le h2)
    | _ => exact ⟨s', Ω', hr', hq⟩)
theorem AC.loopP {V T : Type} (b : (V → Option T) → V → Option T) (t : T) (ksC ksV : List Nat) (m : Nat) (venv : V → List (Nat × SV)) (ob : V → List Ob) (F : Nat) (v0 : V) {C : Ctx} {s : St} {Q : Exit → St → Prop} {c : Code} {cenv L0 : List (Nat × SV)}
    (h0 : iter b F v0 = some t) (hC : Vm.keep ksC s.env = some cenv) (hV : Vm.keep (ksC ++ ksV) s.env = some L0) (hle : LeL L0 (cenv ++ venv v0)) (hO : s.obs.take m = ob v0) (hb : keepOK m L0 (ob v0) = true)
    (round : ∀ n v, b (iter b n) v = some t → AC C c ⟨cenv ++ venv v, ob v⟩ (JoinP (ksC ++ ksV) m (fun v => cenv ++ venv v) ob (fun v' => iter b n v' = some t) Q)) : AC C (.loop c) s Q := by
  have key : ∀ n v, iter b n v = some t → ∀ Ω a w, Rel C ⟨cenv ++ venv v, ob v⟩ Ω a w → ∀ bd k cs,
      ∃ e a' w', Lift C Q e a' w' ∧ Arrives C.P (lone (bd.at a (.code c :: .inLoop c :: k)) cs w) bd k cs e a' w' := by
    intro n
    induction n with
    | zero => intro v h; cases h
    | succ n ih =>
      intro v hv Ω a w hr bd k cs
      obtain ⟨e, a₁, w₁, ⟨s₁, Ω₁, hr₁, hq⟩, harr⟩ := round n v hv Ω a w hr bd (.inLoop c :: k) cs
      cases e with
      | normal =>
        obtain ⟨v', L, h1, h2, h3, h4, h5⟩ := hq
        have hr₂ := hr₁.keep (m := m) h1 (by rw [h3]; exact h4)
        rw [h3] at hr₂
        obtain ⟨e₂, a₂, w₂, hq₂, harr₂⟩ := ih v' h5 _ _ _ (hr₂.le h2) bd k cs
        exact ⟨e₂, a₂, w₂, hq₂, .of_steps (Steps.trans harr (.one step_inLoop)) harr₂⟩
      | exit id => exact ⟨_, a₁, w₁, ⟨s₁, Ω₁, hr₁, hq⟩, .pass (x := .inLoop c) rfl (fun _ _ => .inl (by simp)) harr⟩
      | goto l => exact ⟨_, a₁, w₁, ⟨s₁, Ω₁, hr₁, hq⟩, .pass (x := .inLoop c) rfl (fun _ _ => .inl (by simp)) harr⟩
      | ret => exact ⟨_, a₁, w₁, ⟨s₁, Ω₁, hr₁, hq⟩, .pass (x := .inLoop c) rfl (fun _ _ => .inl (by simp)) harr⟩
      | panic ch => exact ⟨_, a₁, w₁, ⟨s₁, Ω₁, hr₁, hq⟩, .pass (x := .inLoop c) rfl (fun _ _ => .inl (by simp)) harr⟩
      | outgrown => exact ⟨_, a₁, w₁, ⟨s₁, Ω₁, hr₁, hq⟩, .pass (x := .inLoop c) rfl (fun _ _ => .inl (by simp)) harr⟩
  intro Ω a w hr bd k cs
  have hr0 := hr.keep (m := m) hV (by rw [hO]; exact hb)
  rw [hO] at hr0
  obtain ⟨e, a', w', hq, harr⟩ := key F v0 h0 _ a w (hr0.le hle) bd k cs
  exact ⟨e, a', w', hq, .of_steps (.one step_loop) harr⟩
theorem aftL {V R T : Type} {v : V} {ret : R → Option T} {k : V → Option T} {t : T} (h : aft (.inl v) ret k = some t) : k v = some t := h
theorem aftR {V R T : Type} {r : R} {ret : R → Option T} {k : V → Option T} {t : T} (h : aft (.inr r : Sum V R) ret k = some t) : ret r = some t := h
end Go.Vm
