/- Regions that draw their order, over the view: one walk in the order of the text serves every order. -/
import Derived.Test.YtbgdonedjgkhiaaVmVal
import Derived.StillTail
namespace Go.Vm
set_option linter.unusedVariables false

theorem wp_monoQ {P : Program} {o : Oper} {a : Act} {w : World} {K K' : Act → World → Prop} {Q Q' : Exit → Act → World → Prop} (h : ∀ a w, K a w → K' a w) (hq : ∀ e a w, e ≠ .normal → Q e a w → Q' e a w)
    (hh : o.wp P a w K Q) : o.wp P a w K' Q' := by
  unfold Oper.wp at *
  generalize (execOp a.eval o).run P w = r at *
  cases r with
  | ok n w' =>
    cases n <;> simp only [Oper.upon] at hh ⊢ <;>
      first
        | exact h _ _ hh
        | exact Calls.mono hh (fun e w'' he => by cases e <;> first | exact h _ _ he | exact hq _ _ _ (by simp) he | exact (let ⟨a, w, h⟩ := he; ⟨a, w, hq _ _ _ (by simp) h⟩))
        | exact Rows.mono hh (fun _ _ he => h _ _ he)
  | halt x w' => cases x <;> simp only [Oper.upon] at hh ⊢ <;> first | exact hq _ _ _ (by simp) hh | exact hh

abbrev Env := Nat → Option SV
def upd (e : Env) (d : Option Nat) (x : SV) : Env := match d with
  | some d => fun t => if d = t then some x else e t
  | none => e
theorem upd_ne {e : Env} {d : Option Nat} {x : SV} {t : Nat} (h : ∀ k, d = some k → k ≠ t) : upd e d x t = e t := by
  cases d with
  | none => rfl
  | some d => simp only [upd, if_neg (h d rfl)]
theorem upd_comm {e : Env} {d k : Option Nat} {x y : SV} (h : ∀ i, d = some i → k ≠ some i) : upd (upd e d x) k y = upd (upd e k y) d x := by
  cases d with
  | none => rfl
  | some d =>
    cases k with
    | none => rfl
    | some k =>
      have hne : d ≠ k := fun e => h d rfl (by rw [e])
      funext t
      simp only [upd]
      by_cases h1 : d = t <;> by_cases h2 : k = t <;> simp_all
theorem get_upd (l : List (Nat × SV)) (d : Nat) (x : SV) : get ((d, x) :: l) = upd (get l) (some d) x := by
  funext t; rfl

/-- The state's entries are told by 'get' alone. -/
theorem Rel.congr {C : Ctx} {e e' : List (Nat × SV)} {obs : List Ob} {Ω : List Value} {a : Act} {w : World} (h : Rel C ⟨e, obs⟩ Ω a w) (hg : ∀ t x, get e' t = some x → get e t = some x) : Rel C ⟨e', obs⟩ Ω a w :=
  ⟨h.defers, h.size, fun t x hx => h.env t x (hg t x hx), h.mem⟩

section
variable {C : Ctx} {ops : Array Oper} {obs : List Ob} {md : Region.Mode}

/-- Is it carried out? -/
def wantE (ops : Array Oper) (o : Oper) (e : Env) : Option Bool := match o.guard with
  | none => some true
  | some (g, want) => match (ops[g]?).bind (·.dst) with
    | some dj => match e dj with
      | some (.d (.v (.bool b))) => some (b == want)
      | some (.d (.v (.tuple _))) => some false
      | _ => none
    | none => none
theorem wantE_wanted {o : Oper} {l : List (Nat × SV)} {b : Bool} (h : wantE ops o (get l) = some b) {Ω : List Value} {a : Act} {w : World} (hr : Rel C ⟨l, obs⟩ Ω a w) : Region.wanted o (yielded ops a.tmps) = b := by
  unfold wantE at h
  split at h
  · rename_i hg; cases h; simp [Region.wanted, hg]
  · rename_i g want hg
    split at h
    · rename_i dj hj
      split at h
      · rename_i c hc
        obtain ⟨v, hv, hrep⟩ := hr.env dj _ hc
        have hvb := hrep.val
        subst hvb
        cases h
        exact wanted_eq hg hj hv
      · rename_i c hc
        obtain ⟨v, hv, hrep⟩ := hr.env dj _ hc
        have hvb := hrep.val
        subst hvb
        cases h
        unfold Region.wanted
        rw [hg]
        simp [yielded, hj, hv]
      · cases h
    · cases h
theorem wantE_congr {o : Oper} {e e' : Env} (h : ∀ t, t ∈ o.looksAt ops → e' t = e t) : wantE ops o e' = wantE ops o e := by
  unfold wantE
  cases hg : o.guard with
  | none => rfl
  | some p =>
    obtain ⟨g, want⟩ := p
    simp only
    cases hj : (ops[g]?).bind (·.dst) with
    | none => rfl
    | some dj =>
      simp only
      rw [h dj (by unfold Oper.looksAt; rw [hg]; simp only [hj]; simp)]

/-- In every state that tells the same of what o looks at, o gives x, and turns nothing else of the view. -/
def VQ (C : Ctx) (ops : Array Oper) (obs : List Ob) (o : Oper) (x : SV) (e : Env) : Prop :=
  ∀ (l : List (Nat × SV)), (∀ t, t ∈ o.looksAt ops → get l t = e t) → ∀ Ω a w, Rel C ⟨l, obs⟩ Ω a w →
    o.wp C.P a w (fun a' w' => ∃ (l' : List (Nat × SV)) (Ω' : List Value), get l' = upd (get l) o.dst x ∧ Rel C ⟨l', obs⟩ Ω' a' w') (fun _ _ _ => False)
def YV (C : Ctx) (ops : Array Oper) (obs : List Ob) (o : Oper) (x : SV) (e : Env) : Prop :=
  (wantE ops o e = some true ∧ VQ C ops obs o x e) ∨ (wantE ops o e = some false ∧ x = .d (.v undef) ∧ ∀ d, o.dst = some d → d < C.n)
theorem YV.congr {o : Oper} {x : SV} {e e' : Env} (h : YV C ops obs o x e) (he : ∀ t, t ∈ o.looksAt ops → e' t = e t) : YV C ops obs o x e' := by
  unfold YV at *
  rw [wantE_congr he]
  exact h.imp (fun ⟨h1, h2⟩ => ⟨h1, fun l hl => h2 l fun t ht => (hl t ht).trans (he t ht)⟩) id

def vOp (C : Ctx) (ops : Array Oper) (obs : List Ob) (i : Nat) (K : Env → Prop) (e : Env) : Prop := match ops[i]? with
  | none => K e
  | some o => ∃ x, YV C ops obs o x e ∧ K (upd e o.dst x)
theorem vOp_mono {i : Nat} {K K' : Env → Prop} {e : Env} (h : ∀ e, K e → K' e) (hh : vOp C ops obs i K e) : vOp C ops obs i K' e := by
  unfold vOp at *
  split
  · rename_i ho; simp only [ho] at hh; exact h _ hh
  · rename_i o ho; simp only [ho] at hh; exact let ⟨x, h1, h2⟩ := hh; ⟨x, h1, h _ h2⟩
theorem YV.vOp {i : Nat} {o : Oper} {x : SV} {e : Env} (hi : ops[i]? = some o) (hy : YV C ops obs o x e) {K : Env → Prop} (h : K (upd e o.dst x)) : vOp C ops obs i K e := by
  unfold Vm.vOp
  simp only [hi]
  exact ⟨x, hy, h⟩
theorem vOp_put {j : Nat} {oi oj : Oper} {x : SV} (hj : ops[j]? = some oj) (hap : oi.apart ops oj = true) {K : Env → Prop} {e : Env}
    (hy : YV C ops obs oi x e) (h : vOp C ops obs j K (upd e oi.dst x)) : vOp C ops obs j (fun e' => YV C ops obs oi x e' ∧ K (upd e' oi.dst x)) e := by
  obtain ⟨h1, h2, h3⟩ := Oper.apart_spec hap
  unfold vOp at *
  simp only [hj] at *
  obtain ⟨y, hyj, hK⟩ := h
  refine ⟨y, hyj.congr fun t ht => (upd_ne fun k hk e => h1 k hk (e ▸ ht)).symm, hy.congr fun t ht => upd_ne fun k hk e => h3 k hk (e ▸ ht), ?_⟩
  rwa [upd_comm (fun i hi => fun hk => h2 i hi hk)] at hK

theorem wpOp_of_vOp {i : Nat} {K : Env → Prop} {K' : Act → World → Prop} {Q' : Exit → Act → World → Prop} {l : List (Nat × SV)}
    (h : ∀ (l' : List (Nat × SV)), K (get l') → ∀ Ω a w, Rel C ⟨l', obs⟩ Ω a w → K' a w) (hh : vOp C ops obs i K (get l)) {Ω : List Value} {a : Act} {w : World} (hr : Rel C ⟨l, obs⟩ Ω a w) : wpOp C.P ops Q' i K' a w := by
  unfold vOp at hh
  unfold wpOp
  split
  · rename_i ho; simp only [ho] at hh; exact h l hh Ω a w hr
  · rename_i o ho
    simp only [ho] at hh
    obtain ⟨x, hy, hK⟩ := hh
    rcases hy with ⟨h1, h2⟩ | ⟨h1, rfl, h2⟩
    · rw [if_pos (by rw [wantE_wanted h1 hr])]
      refine .inl (wp_monoQ (fun a' w' ⟨l', Ω', hg, hr'⟩ => h l' (by rw [hg]; exact hK) Ω' a' w' hr') (fun _ _ _ _ h => h.elim) (h2 l (fun _ _ => rfl) Ω a w hr))
    · rw [if_neg (by rw [wantE_wanted h1 hr]; simp)]
      cases hd : o.dst with
      | none => rw [hd] at hK; exact h l hK Ω _ w (hr.putNone undef)
      | some d =>
        rw [hd] at hK
        exact h ((d, .d (.v undef)) :: l) (by rw [get_upd]; exact hK) Ω _ w (hr.put (h2 d hd) (.d _ _ (.v _)))

def wpAnyV (C : Ctx) (md : Region.Mode) (ops : Array Oper) (obs : List Ob) (n : Nat) (L : Array Bool → Env → Prop) : Nat → Array Bool → Env → Prop
  | 0, listed, e => L listed e
  | f + 1, listed, e => Region.ready md ops listed ≠ [] ∧ ∀ i ∈ Region.ready md ops listed, i < n ∧ vOp C ops obs i (wpAnyV C md ops obs n L f (listed.setIfInBounds i true)) e

theorem wpAny_of_V {n g : Nat} {L : Array Bool → Env → Prop} {Q' : Exit → Act → World → Prop} (hL : ∀ listed (l : List (Nat × SV)), L listed (get l) → ∀ Ω a w, Rel C ⟨l, obs⟩ Ω a w → wpAny C.P md ops Q' g listed a w) :
    ∀ (f : Nat) (listed : Array Bool) (l : List (Nat × SV)), wpAnyV C md ops obs n L f listed (get l) → ∀ Ω a w, Rel C ⟨l, obs⟩ Ω a w → wpAny C.P md ops Q' (f + g) listed a w
  | 0, listed, l, h, Ω, a, w, hr => by rw [Nat.zero_add]; exact hL _ _ h Ω a w hr
  | f + 1, listed, l, h, Ω, a, w, hr => by
    rw [show f + 1 + g = (f + g) + 1 by omega]
    exact ⟨fun h0 => absurd h0 h.1, fun i hi => wpOp_of_vOp (fun l' h' Ω a w hr => wpAny_of_V hL f _ l' h' Ω a w hr) (h.2 i hi).2 hr⟩

/-- While one of the first n is not yet listed, none of the others is ready. -/
def HeadFirst (md : Region.Mode) (ops : Array Oper) (n : Nat) : Prop := ∀ listed, HeadInv md ops n listed → ∀ i, i < n → listed.getD i true = false → ∀ j ∈ Region.ready md ops listed, j < n

theorem wpAnyV_first {n i : Nat} {oi : Oper} {v : SV} {L : Array Bool → Env → Prop} (hi : ops[i]? = some oi) (hF : HeadFirst md ops n) (hin : i < n)
    (hdone : ∀ listed a, L listed a → ∀ j ∈ Region.ready md ops listed, n ≤ j) :
    ∀ (f : Nat) (listed : Array Bool) (a : Env), HeadInv md ops n listed →
      (∀ j oj, ops[j]? = some oj → j ≠ i → listed.getD j true = false → (∀ e ∈ oj.after, Region.binds md e = true → e.on ≠ i) → oi.apart ops oj = true) →
      i ∈ Region.ready md ops listed → YV C ops obs oi v a →
      wpAnyV C md ops obs n L f (listed.setIfInBounds i true) (upd a oi.dst v) → wpAnyV C md ops obs n L (f + 1) listed a := by
  intro f
  induction f with
  | zero =>
    intro listed a inv _ hr hy H
    have hun := (mem_ready.1 hr).1
    refine ⟨fun h => (by rw [h] at hr; cases hr), fun j hj => ?_⟩
    have hjn : j < n := hF listed inv i hin hun j hj
    refine ⟨hjn, ?_⟩
    by_cases hji : j = i
    · subst hji; exact hy.vOp hi H
    · have := hdone _ _ H j (ready_mono hj hji)
      omega
  | succ f ih =>
    intro listed a inv hfree hr hy H
    have hun := (mem_ready.1 hr).1
    refine ⟨fun h => (by rw [h] at hr; cases hr), fun j hj => ?_⟩
    have hjn : j < n := hF listed inv i hin hun j hj
    refine ⟨hjn, ?_⟩
    by_cases hji : j = i
    · subst hji; exact hy.vOp hi H
    · have h1 := (H.2 j (ready_mono hj hji)).2
      obtain ⟨hjun, oj, hoj, hall⟩ := mem_ready.1 hj
      have hnot : ∀ e ∈ oj.after, Region.binds md e = true → e.on ≠ i := fun e he hb heq => by
        have h1 := hall e he hb
        rw [heq, getD_both hun] at h1
        cases h1
      have h2 := vOp_put hoj (hfree j oj hoj hji hjun hnot) hy h1
      have hfree' : ∀ k ok, ops[k]? = some ok → k ≠ i → (listed.setIfInBounds j true).getD k true = false →
          (∀ e ∈ ok.after, Region.binds md e = true → e.on ≠ i) → oi.apart ops ok = true := fun k ok hk hki hun hno => by
        refine hfree k ok hk hki ?_ hno
        by_cases hjk : j = k
        · subst hjk; exact hjun
        · rw [getD_set_ne true hjk] at hun; exact hun
      refine vOp_mono (fun a' h3 => ih (listed.setIfInBounds j true) a' (inv.set hj hjn) hfree' (ready_mono hr (Ne.symm hji)) h3.1 ?_) h2
      rw [Array.setIfInBounds_comm _ _ hji]
      exact h3.2

/-- The walk of the first n, in the order of the text. -/
def AD (C : Ctx) (ops : Array Oper) : List Oper → St → (St → Prop) → Prop
  | [], s, K => K s
  | o :: rest, s, K => ∃ x l', YV C ops s.obs o x (get s.env) ∧ get l' = upd (get s.env) o.dst x ∧ AD C ops rest ⟨l', s.obs⟩ K

theorem wpAnyV_lex {n g : Nat} {K : St → Prop} (hF : HeadFirst md ops n) :
    ∀ (l : List Oper) (k : Nat) (listed : Array Bool) (e : List (Nat × SV)), (∀ j, j < l.length → l[j]? = ops[k + j]?) → k + l.length = n → HeadInv md ops n listed →
    Region.lexHead md ops g l.length k listed = true → AD C ops l ⟨e, obs⟩ K →
    wpAnyV C md ops obs n (fun listed' a' => Region.seqB md ops g n listed' = true ∧ ∃ l', a' = get l' ∧ K ⟨l', obs⟩) l.length listed (get e)
  | [], k, listed, e, _, hk, _, hB, h => by
    have : k = n := by simpa using hk
    subst this
    exact ⟨by simpa [Region.lexHead] using hB, e, rfl, h⟩
  | o :: l, k, listed, e, hl, hk, inv, hB, h => by
    have h0 : ops[k]? = some o := by simpa using (hl 0 (by simp)).symm
    simp only [List.length_cons, Region.lexHead, Bool.and_eq_true] at hB
    obtain ⟨⟨hr, hf⟩, hB'⟩ := hB
    have hkn : k < n := by simp only [List.length_cons] at hk; omega
    have hr' : k ∈ Region.ready md ops listed := by simpa using hr
    obtain ⟨x, l', hy, hg, hK⟩ := h
    refine wpAnyV_first h0 hF hkn (fun listed' a' hL => seqB_ready hL.1) l.length listed _ inv (Region.free_spec h0 hf) hr' hy ?_
    rw [← hg]
    exact wpAnyV_lex hF l (k + 1) _ l' (fun j hj => by have := hl (j + 1) (by simp; omega); simpa [Nat.add_assoc, Nat.add_comm 1 j] using this) (by simp only [List.length_cons] at hk; omega) (inv.set hr' hkn) hB' hK

def headFirstB (ops : Array Oper) (n : Nat) : Bool := (n == ops.size) || (decide (n < ops.size) && Region.sinkB .any ops n && Region.chainB .any ops n)
def drawB (ops : Array Oper) (n : Nat) : Bool := decide (n ≤ ops.size) && headFirstB ops n && Region.lexHead .any ops (ops.size - n) n 0 (Array.replicate ops.size false)
theorem headFirst_of {n : Nat} (h : headFirstB ops n = true) : HeadFirst .any ops n := by
  simp only [headFirstB, Bool.or_eq_true, Bool.and_eq_true, beq_iff_eq, decide_eq_true_eq] at h
  intro listed inv i hi hun j hj
  rcases h with rfl | ⟨⟨h1, h2⟩, h3⟩
  · obtain ⟨_, o, ho, _⟩ := mem_ready.1 hj
    exact (Array.getElem?_eq_some_iff.1 ho).1
  · rcases Nat.lt_or_ge j n with h | h
    · exact h
    · exact absurd hj (tail_waits h2 h3 h1 inv _ i rfl hi hun j h)

theorem Rel.drew {s : St} {Ω : List Value} {a : Act} {w : World} (h : Rel C s Ω a w) : Rel C s Ω a { w with drawn := w.drawn + 1 } := by
  have hb : RowKit.Below w.heap.size w { w with drawn := w.drawn + 1 } := ⟨rfl, rfl, rfl, Nat.le_refl _, fun _ _ => rfl⟩
  obtain ⟨hm, hok⟩ := h.mem.below hb
  exact ⟨h.defers, h.size, fun t x hx => let ⟨v, h1, h2⟩ := h.env t x hx; ⟨v, h1, h2.mono hok fun _ _ e => e⟩, hm⟩

/-- A region that draws its order: the first n as 'AD' says, then the others, one behind the other. -/
theorem AC.draw {id : Nat} {l : List Oper} {s : St} {Q : Exit → St → Prop} (n : Nat) (hm : C.P.follows .mixedOrders = true) (hB : drawB l.toArray n = true)
    (h : AD C l.toArray (l.take n) s (fun s' => AO C l.toArray (l.drop n) s' Q)) : AC C (.region id l.toArray true) s Q := fun Ω a w hr => by
  simp only [drawB, Bool.and_eq_true, decide_eq_true_eq] at hB
  obtain ⟨⟨hn, hf⟩, hlex⟩ := hB
  have hn' : n ≤ l.length := by simpa using hn
  have htl : (l.take n).length = n := by simp; omega
  have hdl : (l.drop n).length = l.toArray.size - n := by simp
  have inv0 : HeadInv .any l.toArray n (Array.replicate l.toArray.size false) :=
    ⟨by simp, fun j oj _ hl => (by rw [getD_replicate_false] at hl; cases hl), fun t _ ht => getD_in (by simpa using ht) (getD_replicate_false _ _)⟩
  have H := wpAnyV_lex (md := .any) (g := l.toArray.size - n) (headFirst_of hf) (l.take n) 0 _ s.env (fun j hj => by
    have hj' : j < n := by rw [htl] at hj; exact hj
    simp [hj']) (by simpa using htl) inv0 (by rw [htl]; exact hlex) h
  refine wp_region_any hm ?_
  have := wpAny_of_V (Q' := Lift C Q) (g := l.toArray.size - n) (fun listed e hL Ω a w hr => by
    obtain ⟨h1, l', he, hK⟩ := hL
    have := wpAny_of_seq (md := .any) (Q' := Lift C Q) (l.drop n) n listed a w (fun j => by simp [List.getElem?_drop]) (by rw [hdl]; exact h1) (hK Ω a w (hr.congr fun t x hx => by rw [he]; exact hx))
    rwa [hdl] at this) _ _ _ H Ω a _ hr.drew
  rw [htl, show n + (l.toArray.size - n) = l.toArray.size by omega] at this
  exact this

end
theorem Rel.freeze {C : Ctx} {s : St} {Ω : List Value} {a : Act} {w : World} (h : Rel C s Ω a w) (ty : TypeId) (cells : List SV) (vs : List Value) (hl : vs.length = cells.length)
    (hr : ∀ (i : Nat) x y, cells[i]? = some x → vs[i]? = some y → RepS w (okB C s.obs Ω w) Ω x y) (h1 : ∀ y, y ∈ vs → y.oneCell' = true) {ys : List D} (hy : mapO (dataS 9) cells = some ys) :
    Rel C s Ω a (w.alloc (.cells vs.toArray ty)) ∧ ys.length = cells.length ∧
      (∀ (i : Nat) x v, ys[i]? = some x → vs[i]? = some v → RepD (w.alloc (.cells vs.toArray ty)) (okB C s.obs Ω (w.alloc (.cells vs.toArray ty))) x v ∧ (w.alloc (.cells vs.toArray ty)).cell? ⟨w.heap.size, i, none⟩ = some v) ∧
      okB C s.obs Ω (w.alloc (.cells vs.toArray ty)) w.heap.size := by
  have hb : RowKit.Below w.heap.size w (w.alloc (.cells vs.toArray ty)) := ⟨rfl, rfl, rfl, by simp, fun k hk => heap_alloc_old w _ hk⟩
  obtain ⟨hyl, hyi⟩ := mapO_get hy
  refine ⟨h.below hb, hyl, fun i x v hx hv => ?_, ⟨.inr h.mem.fr.size, by simp, fun o ob k e1 l e2 hbk => ?_⟩⟩
  · have hlt := (List.getElem?_eq_some_iff.1 hx).1
    have hc : cells[i]? = some (cells[i]'(by omega)) := List.getElem?_eq_getElem _
    refine ⟨(dataS_rep 9 (hyi i _ _ hc hx) (hr i _ _ hc hv)).mono fun b hb' => (h.mem.below hb).2 b hb', ?_⟩
    unfold World.cell?
    rw [heap_alloc_new w _]
    simpa using hv
  · have := (h.mem.obj o ob k e1 e2).lt l hbk
    omega
section
variable {C : Ctx} {Q : Exit → St → Prop} {ops : Array Oper} {rest : List Oper} {o : Oper} {e : List (Nat × SV)} {obs : List Ob} {d : Nat}
theorem fillS_len {f : Nat → Option (Nat × Nat)} : ∀ {ps : List (Nat × SV)} {l r : List SV}, fillS f l ps = some r → r.length = l.length
  | [], l, r, h => by cases h; rfl
  | (i, x) :: ps, l, r, h => by
    simp only [fillS] at h
    split at h
    · cases h
    · split at h
      · rename_i hc
        rw [fillS_len h]
        simp
        omega
      · cases h
/-- The same; its capacity is its length. -/
theorem AOp.buildSliceF {t el sz len : Nat} {parts : List (Nat × Operand)} {ps : List (Nat × SV)} {z : Value} {r : List SV} {ys : List D} (ho : o.op = .buildSlice t len parts.toArray) (hd : o.dst = some d) (hn : d < C.n)
    (ht : elemT C.P t = some (el, sz)) (hz : (C.P.info? el).map (·.zero) = some (some z)) (h1 : z.cells.toList.all (·.oneCell') = true) (hb : len * sz ≤ 16777216) (hzs : z.cells.size = sz)
    (hx : mapO (partS ⟨e, obs⟩) parts = some ps) (hf : fillS (fun i => some (i * sz, sz)) ((List.range (len * sz)).map fun i => .d (.v (z.cells.toList.getD (i % sz) undef))) ps = some r)
    (hys : mapO (dataS 9) r = some ys) (h : AO C ops rest ⟨(d, .full sz ys) :: e, obs⟩ Q) : AOp C ops rest o ⟨e, obs⟩ Q := by
  refine AOp.step hd hn (fun Ω a w hr => ?_) h
  obtain ⟨hu, hs⟩ := elemT_spec ht
  obtain ⟨hl, hp⟩ := hr.parts hx
  have hzlt : ∀ (i : Nat), i < len * sz → i % sz < z.cells.size := fun i hi => by
    rw [hzs]
    exact Nat.mod_lt _ (Nat.pos_of_ne_zero fun h0 => by subst h0; simp at hi)
  have hget : ∀ (i : Nat), i < len * sz → z.cells[i % z.cells.size]! = z.cells.toList.getD (i % sz) undef ∧ z.cells[i % z.cells.size]! ∈ z.cells.toList := fun i hi => by
    have hlt := hzlt i hi
    have hlt2 : i % z.cells.size < z.cells.size := by rw [hzs] at hlt ⊢; exact hlt
    rw [getElem!_pos z.cells _ hlt2]
    refine ⟨?_, by simp⟩
    have : z.cells.toList[i % sz]? = some z.cells[i % z.cells.size] := by simp [hzs]
    rw [List.getD_eq_getElem?_getD, this]; rfl
  obtain ⟨vs, hfill, hvl, hvr, hv1⟩ := fillS_rep ps _ _ r ((Array.range (len * sz)).map fun i => z.cells[i % z.cells.size]!) hf hl hp (by simp) (fun i p q hp hq => by
    have hi : i < len * sz := by have := (List.getElem?_eq_some_iff.1 hp).1; simpa using this
    have e1 : ((List.range (len * sz)).map fun i => (SV.d (.v (z.cells.toList.getD (i % sz) undef))))[i]? = some (.d (.v (z.cells.toList.getD (i % sz) undef))) := by simp [hi]
    rw [e1] at hp; cases hp
    have e2 : ((Array.range (len * sz)).map fun i => z.cells[i % z.cells.size]!).toList[i]? = some (z.cells[i % z.cells.size]!) := by simp [hi]
    rw [e2] at hq; cases hq
    rw [(hget i hi).1]
    exact .d _ _ (.v _)) (fun y hy => by
      simp only [Array.toList_map, Array.toList_range, List.mem_map, List.mem_range] at hy
      obtain ⟨i, hi, rfl⟩ := hy
      exact List.all_eq_true.1 h1 _ (hget i hi).2)
  obtain ⟨hal, hlen, hfr, hok⟩ := hr.freeze el r vs.toList (by simpa using hvl) hvr hv1 hys
  refine ⟨.slice (some ⟨w.heap.size, 0, none⟩) len len, _, Ω, ?_, hal, .full _ _ _ _ (.ds _ _ _ _ _ _ (fun i => vs.toList.getD i undef) (by rw [hlen, fillS_len hf]; simp) (Nat.le_refl _) hok (fun i hi => ?_) (fun i x hx => ?_))⟩
  · simp only [execOp, ho, Instr.buildSlice, Sem.run_bind, run_underlying hu, Result.andThen_ok, run_sizeOf hs, List.map_toArray, Sem.run_ite]
    rw [if_neg (by omega)]
    by_cases h0 : len * sz = 0
    · simp only [h0, if_true, Sem.run_pure, Result.andThen_ok]
      have e0 : ((Array.range 0).map fun i => (#[] : Array Value)[i % (#[] : Array Value).size]!) = #[] := by simp
      rw [h0] at hfill
      have e1 : ((Array.range 0).map fun i => z.cells[i % z.cells.size]!) = #[] := by simp
      rw [e1] at hfill
      rw [e0, hfill]
      simp [newRow]
    · simp only [h0, if_false, run_zero hz, Sem.run_pure, Sem.run_bind, Result.andThen_ok, hfill, newRow, run_newObj]
      simp
  · have hi' : i < vs.toList.length := by rw [hlen] at hi; simpa using hvl ▸ hi
    have hv : vs.toList[i]? = some vs.toList[i] := List.getElem?_eq_getElem hi'
    have hy : ys[i]? = some ys[i] := List.getElem?_eq_getElem hi
    rw [Nat.zero_add, (hfr i _ _ hy hv).2]
    rw [List.getD_eq_getElem?_getD, hv]; rfl
  · have hi := (List.getElem?_eq_some_iff.1 hx).1
    have hi' : i < vs.toList.length := by rw [hlen] at hi; simpa using hvl ▸ hi
    have hv : vs.toList[i]? = some vs.toList[i] := List.getElem?_eq_getElem hi'
    have := (hfr i _ _ hx hv).1
    rw [List.getD_eq_getElem?_getD, hv]; exact this
theorem AOp.buildSliceD {t el sz len : Nat} {parts : List (Nat × Operand)} {ps : List (Nat × SV)} {z : Value} {r : List SV} {ys : List D} (ho : o.op = .buildSlice t len parts.toArray) (hd : o.dst = some d) (hn : d < C.n)
    (ht : elemT C.P t = some (el, sz)) (hz : (C.P.info? el).map (·.zero) = some (some z)) (h1 : z.cells.toList.all (·.oneCell') = true) (hb : len * sz ≤ 16777216) (hzs : z.cells.size = sz)
    (hx : mapO (partS ⟨e, obs⟩) parts = some ps) (hf : fillS (fun i => some (i * sz, sz)) ((List.range (len * sz)).map fun i => .d (.v (z.cells.toList.getD (i % sz) undef))) ps = some r)
    (hys : mapO (dataS 9) r = some ys) (h : AO C ops rest ⟨(d, .d (.ds sz ys)) :: e, obs⟩ Q) : AOp C ops rest o ⟨e, obs⟩ Q := by
  refine AOp.step hd hn (fun Ω a w hr => ?_) h
  obtain ⟨hu, hs⟩ := elemT_spec ht
  obtain ⟨hl, hp⟩ := hr.parts hx
  have hzlt : ∀ (i : Nat), i < len * sz → i % sz < z.cells.size := fun i hi => by
    rw [hzs]
    exact Nat.mod_lt _ (Nat.pos_of_ne_zero fun h0 => by subst h0; simp at hi)
  have hget : ∀ (i : Nat), i < len * sz → z.cells[i % z.cells.size]! = z.cells.toList.getD (i % sz) undef ∧ z.cells[i % z.cells.size]! ∈ z.cells.toList := fun i hi => by
    have hlt := hzlt i hi
    have hlt2 : i % z.cells.size < z.cells.size := by rw [hzs] at hlt ⊢; exact hlt
    rw [getElem!_pos z.cells _ hlt2]
    refine ⟨?_, by simp⟩
    have : z.cells.toList[i % sz]? = some z.cells[i % z.cells.size] := by simp [hzs]
    rw [List.getD_eq_getElem?_getD, this]; rfl
  obtain ⟨vs, hfill, hvl, hvr, hv1⟩ := fillS_rep ps _ _ r ((Array.range (len * sz)).map fun i => z.cells[i % z.cells.size]!) hf hl hp (by simp) (fun i p q hp hq => by
    have hi : i < len * sz := by have := (List.getElem?_eq_some_iff.1 hp).1; simpa using this
    have e1 : ((List.range (len * sz)).map fun i => (SV.d (.v (z.cells.toList.getD (i % sz) undef))))[i]? = some (.d (.v (z.cells.toList.getD (i % sz) undef))) := by simp [hi]
    rw [e1] at hp; cases hp
    have e2 : ((Array.range (len * sz)).map fun i => z.cells[i % z.cells.size]!).toList[i]? = some (z.cells[i % z.cells.size]!) := by simp [hi]
    rw [e2] at hq; cases hq
    rw [(hget i hi).1]
    exact .d _ _ (.v _)) (fun y hy => by
      simp only [Array.toList_map, Array.toList_range, List.mem_map, List.mem_range] at hy
      obtain ⟨i, hi, rfl⟩ := hy
      exact List.all_eq_true.1 h1 _ (hget i hi).2)
  obtain ⟨hal, hlen, hfr, hok⟩ := hr.freeze el r vs.toList (by simpa using hvl) hvr hv1 hys
  refine ⟨.slice (some ⟨w.heap.size, 0, none⟩) len len, _, Ω, ?_, hal, .d _ _ (.ds _ _ _ _ _ _ (fun i => vs.toList.getD i undef) (by rw [hlen, fillS_len hf]; simp) (Nat.le_refl _) hok (fun i hi => ?_) (fun i x hx => ?_))⟩
  · simp only [execOp, ho, Instr.buildSlice, Sem.run_bind, run_underlying hu, Result.andThen_ok, run_sizeOf hs, List.map_toArray, Sem.run_ite]
    rw [if_neg (by omega)]
    by_cases h0 : len * sz = 0
    · simp only [h0, if_true, Sem.run_pure, Result.andThen_ok]
      have e0 : ((Array.range 0).map fun i => (#[] : Array Value)[i % (#[] : Array Value).size]!) = #[] := by simp
      rw [h0] at hfill
      have e1 : ((Array.range 0).map fun i => z.cells[i % z.cells.size]!) = #[] := by simp
      rw [e1] at hfill
      rw [e0, hfill]
      simp [newRow]
    · simp only [h0, if_false, run_zero hz, Sem.run_pure, Sem.run_bind, Result.andThen_ok, hfill, newRow, run_newObj]
      simp
  · have hi' : i < vs.toList.length := by rw [hlen] at hi; simpa using hvl ▸ hi
    have hv : vs.toList[i]? = some vs.toList[i] := List.getElem?_eq_getElem hi'
    have hy : ys[i]? = some ys[i] := List.getElem?_eq_getElem hi
    rw [Nat.zero_add, (hfr i _ _ hy hv).2]
    rw [List.getD_eq_getElem?_getD, hv]; rfl
  · have hi := (List.getElem?_eq_some_iff.1 hx).1
    have hi' : i < vs.toList.length := by rw [hlen] at hi; simpa using hvl ▸ hi
    have hv : vs.toList[i]? = some vs.toList[i] := List.getElem?_eq_getElem hi'
    have := (hfr i _ _ hx hv).1
    rw [List.getD_eq_getElem?_getD, hv]; exact this
end
section
variable {C : Ctx} {ops : Array Oper} {obs : List Ob} {md : Region.Mode}
/-- What the slots are that o looks at. -/
def looksB (ops : Array Oper) (o : Oper) (ks : List Nat) : Bool := (o.looksAt ops).all (ks.contains ·) && ks.all ((o.looksAt ops).contains ·)

theorem keep_get' : ∀ {ks : List Nat} {e L : List (Nat × SV)}, keep ks e = some L → ∀ t, (t ∈ ks → get L t = get e t ∧ (get e t).isSome) ∧ (t ∉ ks → get L t = none)
  | [], e, L, h, t => by cases h; exact ⟨fun h => by simp at h, fun _ => rfl⟩
  | k :: ks, e, L, h, t => by
    simp only [keep] at h
    split at h
    · rename_i x hx
      split at h
      · rename_i r hr
        cases h
        have ih := keep_get' hr t
        constructor
        · intro ht
          simp only [get]
          by_cases hk : k = t
          · subst hk; rw [if_pos rfl, hx]; exact ⟨rfl, rfl⟩
          · rw [if_neg hk]; exact ih.1 (by simpa [Ne.symm hk] using ht)
        · intro ht
          simp only [get]
          rw [if_neg (fun e => ht (by simp [e]))]
          exact ih.2 (fun h => ht (by simp [h]))
      · cases h
    · cases h
theorem get_append (L e : List (Nat × SV)) (t : Nat) : get (L ++ e) t = match get L t with | some x => some x | none => get e t := by
  induction L with
  | nil => rfl
  | cons p L ih =>
    obtain ⟨k, x⟩ := p
    simp only [List.cons_append, get]
    split
    · rfl
    · exact ih

/-- One operation gives x wherever what it looks at is as L says. -/
def Gives (C : Ctx) (ops : Array Oper) (obs : List Ob) (o : Oper) (L : List (Nat × SV)) (d : Nat) (x : SV) : Prop :=
  ∀ (e : List (Nat × SV)) (Q : Exit → St → Prop), AO C ops [] ⟨(d, x) :: (L ++ e), obs⟩ Q → AOp C ops [] o ⟨L ++ e, obs⟩ Q

theorem VQ.of {o : Oper} {ks : List Nat} {e L : List (Nat × SV)} {d : Nat} {x : SV} (hk : keep ks e = some L) (hl : looksB ops o ks = true) (hd : o.dst = some d) (h : Gives C ops obs o L d x) : VQ C ops obs o x (get e) := by
  intro l hg Ω a w hr
  simp only [looksB, Bool.and_eq_true, List.all_eq_true, List.contains_iff_mem] at hl
  have hsame : ∀ t, get (L ++ l) t = get l t := fun t => by
    rw [get_append]
    by_cases ht : t ∈ ks
    · obtain ⟨h1, h2⟩ := (keep_get' hk t).1 ht
      rw [h1]
      have := hg t (hl.2 t ht)
      rw [this]
      cases get e t <;> rfl
    · rw [(keep_get' hk t).2 ht]
  have hr' : Rel C ⟨L ++ l, obs⟩ Ω a w := hr.congr fun t y hy => by rw [← hsame t]; exact hy
  have H := h l (fun ed s => ed = .normal ∧ s = ⟨(d, x) :: (L ++ l), obs⟩) (AO.nil ⟨rfl, rfl⟩) Ω a w hr'
  refine wp_monoQ (fun a' w' hq => ?_) (fun ed a' w' hne hq => ?_) H
  · obtain ⟨s, Ω', hr2, _, hs⟩ := hq
    subst hs
    refine ⟨_, Ω', ?_, hr2⟩
    rw [hd, get_upd]
    congr 1
    funext t; exact hsame t
  · obtain ⟨s, Ω', _, he, _⟩ := hq
    exact hne he

variable {rest r : List Oper} {o : Oper} {e L : List (Nat × SV)} {d j dj : Nat} {x : SV} {want b : Bool} {K : St → Prop} {Q : Exit → St → Prop}

theorem AD.done {s : St} (h : AO C ops r s Q) : AD C ops [] s (fun s' => AO C ops r s' Q) := h
theorem AD.op (ks : List Nat) (hg : o.guard = none) (hl : looksB ops o ks = true) (hk : keep ks e = some L) (hd : o.dst = some d) (hv : Gives C ops obs o L d x)
    (h : AD C ops rest ⟨(d, x) :: e, obs⟩ K) : AD C ops (o :: rest) ⟨e, obs⟩ K :=
  ⟨x, (d, x) :: e, .inl ⟨by unfold wantE; rw [hg], VQ.of hk hl hd hv⟩, by rw [hd, get_upd], h⟩
theorem AD.opY (ks : List Nat) (hg : o.guard = some (j, want)) (hj : ((ops[j]?).bind (·.dst)) = some dj) (hx : get e dj = some (.d (.v (.bool b)))) (hb : b = want)
    (hl : looksB ops o ks = true) (hk : keep ks e = some L) (hd : o.dst = some d) (hv : Gives C ops obs o L d x)
    (h : AD C ops rest ⟨(d, x) :: e, obs⟩ K) : AD C ops (o :: rest) ⟨e, obs⟩ K :=
  ⟨x, (d, x) :: e, .inl ⟨by unfold wantE; rw [hg]; simp only [hj]; show (match get e dj with | some (.d (.v (.bool b))) => some (b == want) | some (.d (.v (.tuple _))) => some false | _ => none) = _; rw [hx]; simp [hb], VQ.of hk hl hd hv⟩, by rw [hd, get_upd], h⟩
theorem AD.opN (hg : o.guard = some (j, want)) (hj : ((ops[j]?).bind (·.dst)) = some dj) (hd : o.dst = some d) (hn : d < C.n) (hx : get e dj = some (.d (.v (.bool b)))) (hb : b = (!want))
    (h : AD C ops rest ⟨(d, .d (.v undef)) :: e, obs⟩ K) : AD C ops (o :: rest) ⟨e, obs⟩ K :=
  ⟨.d (.v undef), _, .inr ⟨by unfold wantE; rw [hg]; simp only [hj]; show (match get e dj with | some (.d (.v (.bool b))) => some (b == want) | some (.d (.v (.tuple _))) => some false | _ => none) = _; rw [hx]; simp [hb], rfl, fun k hk => by rw [hd] at hk; cases hk; exact hn⟩, by rw [hd, get_upd], h⟩
/-- What a guard looks at was itself passed over. -/
theorem AD.opU (hg : o.guard = some (j, want)) (hj : ((ops[j]?).bind (·.dst)) = some dj) (hd : o.dst = some d) (hn : d < C.n) (hx : get e dj = some (.d (.v undef)))
    (h : AD C ops rest ⟨(d, .d (.v undef)) :: e, obs⟩ K) : AD C ops (o :: rest) ⟨e, obs⟩ K :=
  ⟨.d (.v undef), _, .inr ⟨by unfold wantE; rw [hg]; simp only [hj]; show (match get e dj with | some (.d (.v (.bool b))) => some (b == want) | some (.d (.v (.tuple _))) => some false | _ => none) = _; rw [hx]; rfl, rfl, fun k hk => by rw [hd] at hk; cases hk; exact hn⟩, by rw [hd, get_upd], h⟩
/-- What a guard looks at is not known: both are gone through. -/
theorem AD.split {l : List Oper} (dj : Nat) (want : Bool) (hx : get e dj = some (.d (.v (.bool b)))) (hyes : b = want → AD C ops l ⟨e, obs⟩ K) (hno : b = (!want) → AD C ops l ⟨e, obs⟩ K) : AD C ops l ⟨e, obs⟩ K := by
  by_cases hb : b = want
  · exact hyes hb
  · exact hno (by cases b <;> cases want <;> simp_all)

end
end Go.Vm
