/- Regions that draw their order, in which operations turn memory in whatever order they come. -/
import Derived.Test.YtbgdonedjgkhiaaVmDraw3
set_option linter.unusedVariables false
set_option linter.unusedSimpArgs false
namespace Go.Vm

/-- js: all but the tail, in the order in which they are gone through; ms: those of them that turn memory; OB: the objects, by what is listed; SL: what outlives each of ms. -/
structure Mids where
  js : List Nat
  ms : List Nat
  OB : (Nat → Bool) → List Ob
  SL : List (Nat × (SV → Bool))
def getF : List (Nat × (SV → Bool)) → Nat → SV → Bool
  | [], _ => fun _ => true
  | (k, f) :: r, i => if k = i then f else getF r i
def Mids.sv (p : Mids) (i : Nat) : SV → Bool := getF p.SL i
def Mids.svf (p : Mids) (i : Nat) : SV → Bool := if p.ms.contains i then p.sv i else fun _ => true
def setB (L : Nat → Bool) (i : Nat) : Nat → Bool := fun j => bif Nat.beq j i then true else L j
def lstB (listed : Array Bool) : Nat → Bool := fun j => listed.getD j false

theorem drE_true (e : Env) : drE (fun _ => true) e = e := by
  funext t; unfold drE; cases e t <;> simp
theorem drE_comm (f g : SV → Bool) (e : Env) : drE f (drE g e) = drE g (drE f e) := by
  funext t
  unfold drE
  cases e t with
  | none => rfl
  | some y => simp only [Option.bind_some]; by_cases h1 : f y = true <;> by_cases h2 : g y = true <;> simp [h1, h2]

section
variable {C : Ctx} {ops : Array Oper}

/-- The state tells at least this of what o looks at. -/
def Tells (ops : Array Oper) (o : Oper) (e : Env) (l : List (Nat × SV)) : Prop := ∀ t, t ∈ o.looksAt ops → ∀ y, e t = some y → get l t = some y
def MS (C : Ctx) (ops : Array Oper) (ob ob' : List Ob) (sv : SV → Bool) (o : Oper) (x : SV) (e : Env) : Prop :=
  wantE ops o e = some true ∧ ∀ (l : List (Nat × SV)), Tells ops o e l → ∀ Ω a w, Rel C ⟨l, ob⟩ Ω a w →
    o.wp C.P a w (fun a' w' => ∃ (l' : List (Nat × SV)) (Ω' : List Value), get l' = upd (drE sv (get l)) o.dst x ∧ Rel C ⟨l', ob'⟩ Ω' a' w') (fun _ _ _ => False)
def YS (C : Ctx) (ops : Array Oper) (obs : List Ob) (o : Oper) (x : SV) (e : Env) : Prop :=
  (wantE ops o e = some true ∧ ∀ (l : List (Nat × SV)), Tells ops o e l → ∀ Ω a w, Rel C ⟨l, obs⟩ Ω a w →
    o.wp C.P a w (fun a' w' => ∃ (l' : List (Nat × SV)) (Ω' : List Value), get l' = upd (get l) o.dst x ∧ Rel C ⟨l', obs⟩ Ω' a' w') (fun _ _ _ => False)) ∨
  (wantE ops o e = some false ∧ x = .d (.v undef) ∧ ∀ d, o.dst = some d → d < C.n)
theorem wantE_mono {o : Oper} {e e' : Env} {b : Bool} (h : ∀ t, t ∈ o.looksAt ops → ∀ y, e t = some y → e' t = some y) (hw : wantE ops o e = some b) : wantE ops o e' = some b := by
  unfold wantE at *
  cases hg : o.guard with
  | none => rw [hg] at hw; exact hw
  | some p =>
    obtain ⟨g, want⟩ := p
    rw [hg] at hw
    simp only at hw ⊢
    cases hj : (ops[g]?).bind (·.dst) with
    | none => rw [hj] at hw; cases hw
    | some dj =>
      rw [hj] at hw
      simp only at hw ⊢
      have hm : dj ∈ o.looksAt ops := by unfold Oper.looksAt; rw [hg]; simp only [hj]; simp
      cases he : e dj with
      | none => rw [he] at hw; cases hw
      | some y => rw [h dj hm y he]; rw [he] at hw; exact hw
theorem Tells.mono {o : Oper} {e e' : Env} {l : List (Nat × SV)} (h : ∀ t, t ∈ o.looksAt ops → ∀ y, e t = some y → e' t = some y) (ht : Tells ops o e' l) : Tells ops o e l := fun t hm y hy => ht t hm y (h t hm y hy)

/-- What may be listed when number i comes up. -/
def Adm (ops : Array Oper) (p : Mids) (L : Nat → Bool) (i : Nat) : Prop := L i = false ∧ ∀ k, k ∈ p.ms → (ancB .any ops ops.size i k = true → L k = true) ∧ (ancB .any ops ops.size k i = true → L k = false)
def ST (C : Ctx) (ops : Array Oper) (p : Mids) (i : Nat) (o : Oper) (x : SV) (e : Env) : Prop := ∀ L, Adm ops p L i →
  (p.ms.contains i = false ∧ YS C ops (p.OB L) o x e) ∨ (p.ms.contains i = true ∧ MS C ops (p.OB L) (p.OB (setB L i)) (p.sv i) o x e)
/-- The value outlives those that do not come ahead of it. -/
def SX (ops : Array Oper) (p : Mids) (i : Nat) (x : SV) : Prop := ∀ k, k ∈ p.ms → k ≠ i → ancB .any ops ops.size i k = false → ancB .any ops ops.size k i = false → p.sv k x = true
def SK (ops : Array Oper) (p : Mids) (i : Nat) (o : Oper) (e : Env) : Prop := ∀ k, k ∈ p.ms → k ≠ i → ancB .any ops ops.size i k = false → ancB .any ops ops.size k i = false → ∀ t, t ∈ o.looksAt ops → ∀ y, e t = some y → p.sv k y = true
theorem ST.mono {p : Mids} {i : Nat} {o : Oper} {x : SV} {e e' : Env} (h : ∀ t, t ∈ o.looksAt ops → ∀ y, e t = some y → e' t = some y) (hs : ST C ops p i o x e) : ST C ops p i o x e' := fun L hL => by
  rcases hs L hL with ⟨h1, h2⟩ | ⟨h1, h2, h3⟩
  · refine .inl ⟨h1, ?_⟩
    rcases h2 with ⟨h2, h3⟩ | ⟨h2, h3⟩
    · exact .inl ⟨wantE_mono h h2, fun l hl => h3 l (hl.mono h)⟩
    · exact .inr ⟨wantE_mono h h2, h3⟩
  · exact .inr ⟨h1, wantE_mono h h2, fun l hl => h3 l (hl.mono h)⟩

def wpAnyS (C : Ctx) (ops : Array Oper) (p : Mids) (K : Array Bool → Env → Prop) : Nat → Array Bool → Env → Prop
  | 0, listed, e => K listed e
  | f + 1, listed, e => Region.ready .any ops listed ≠ [] ∧ ∀ i ∈ Region.ready .any ops listed, i ∈ p.js ∧ ∃ o x, ops[i]? = some o ∧ ST C ops p i o x e ∧ SX ops p i x ∧
      wpAnyS C ops p K f (listed.setIfInBounds i true) (upd (drE (p.svf i) e) o.dst x)

theorem adm_of {p : Mids} {i : Nat} {listed : Array Bool} (inv : HInv .any ops p.js listed) (hi : i ∈ Region.ready .any ops listed) : Adm ops p (lstB listed) i := by
  obtain ⟨hun, oi, hoi, hall⟩ := mem_ready.1 hi
  refine ⟨getD_both hun, fun k hk => ⟨fun ha => ?_, fun ha => ?_⟩⟩
  · exact anc_listed inv _ i k ha fun oj hj e he hb => by rw [hoi] at hj; cases hj; exact hall e he hb
  · cases hq : lstB listed k with
    | false => rfl
    | true =>
      have := anc_listed inv _ k i ha fun ok hok e he hb => inv.closed k ok hok hq e he hb
      rw [getD_both hun] at this; cases this
theorem lst_set {listed : Array Bool} {i j : Nat} (h : i < listed.size) : lstB (listed.setIfInBounds i true) j = setB (lstB listed) i j := by
  unfold lstB setB
  by_cases e : j = i
  · subst e; simp [Array.getD, h]
  · rw [getD_set_ne false (fun h => e h.symm)]; simp [e]

theorem wpAny_of_S {p : Mids} {g : Nat} {K : Array Bool → Env → Prop} {Q' : Exit → Act → World → Prop} (hOB : ∀ L L', (∀ j ∈ p.ms, L j = L' j) → p.OB L = p.OB L')
    (hL : ∀ listed (l : List (Nat × SV)), K listed (get l) → ∀ Ω a w, Rel C ⟨l, p.OB (lstB listed)⟩ Ω a w → wpAny C.P .any ops Q' g listed a w) :
    ∀ (f : Nat) (listed : Array Bool) (l : List (Nat × SV)), HInv .any ops p.js listed → wpAnyS C ops p K f listed (get l) → ∀ Ω a w, Rel C ⟨l, p.OB (lstB listed)⟩ Ω a w → wpAny C.P .any ops Q' (f + g) listed a w
  | 0, listed, l, _, h, Ω, a, w, hr => by rw [Nat.zero_add]; exact hL _ _ h Ω a w hr
  | f + 1, listed, l, inv, h, Ω, a, w, hr => by
    rw [show f + 1 + g = (f + g) + 1 by omega]
    refine ⟨fun h0 => absurd h0 h.1, fun i hi => ?_⟩
    obtain ⟨hin, o, x, ho, hst, _, hK⟩ := h.2 i hi
    have inv' := inv.set hi hin
    have hlt : i < listed.size := by rw [inv.size]; exact (Array.getElem?_eq_some_iff.1 ho).1
    have hob' : p.OB (setB (lstB listed) i) = p.OB (lstB (listed.setIfInBounds i true)) := hOB _ _ fun j _ => (lst_set hlt).symm
    rcases hst _ (adm_of inv hi) with ⟨hm, hy⟩ | ⟨hm, hg, hmv⟩
    · have hob : p.OB (lstB listed) = p.OB (lstB (listed.setIfInBounds i true)) := hOB _ _ fun j hj => by
        rw [lst_set hlt]
        have : j ≠ i := fun e => by subst e; simp [hj] at hm
        simp [setB, this]
      have hsv : p.svf i = fun _ => true := by unfold Mids.svf; rw [hm]; rfl
      rw [hsv, drE_true] at hK
      unfold wpOp
      simp only [ho]
      rcases hy with ⟨h1, h2⟩ | ⟨h1, rfl, h2⟩
      · rw [if_pos (by rw [wantE_wanted h1 hr])]
        refine .inl (wp_monoQ (fun a' w' ⟨l', Ω', hg, hr'⟩ => ?_) (fun _ _ _ _ h => h.elim) (h2 l (fun _ _ _ h => h) Ω a w hr))
        exact wpAny_of_S hOB hL f _ l' inv' (by rw [hg]; exact hK) Ω' a' w' (hob ▸ hr')
      · rw [if_neg (by rw [wantE_wanted h1 hr]; simp)]
        cases hd : o.dst with
        | none => rw [hd] at hK; exact wpAny_of_S hOB hL f _ l inv' hK Ω _ w (hob ▸ (hr.putNone undef))
        | some d =>
          rw [hd] at hK
          exact wpAny_of_S hOB hL f _ ((d, .d (.v undef)) :: l) inv' (by rw [get_upd]; exact hK) Ω _ w (hob ▸ (hr.put (h2 d hd) (.d _ _ (.v _))))
    · unfold wpOp
      simp only [ho]
      rw [if_pos (by rw [wantE_wanted hg hr])]
      refine .inl (wp_monoQ (fun a' w' ⟨l', Ω', hg, hr'⟩ => ?_) (fun _ _ _ _ h => h.elim) (hmv l (fun _ _ _ h => h) Ω a w hr))
      have hsv : p.svf i = p.sv i := by unfold Mids.svf; rw [hm]; rfl
      exact wpAny_of_S hOB hL f _ l' inv' (by rw [hg, ← hsv]; exact hK) Ω' a' w' (hob' ▸ hr')

theorem svf_eq {p : Mids} {k : Nat} {y : SV} (h : k ∈ p.ms → p.sv k y = true) : p.svf k y = true := by
  unfold Mids.svf
  split
  · rename_i hk; exact h (List.contains_iff_mem.1 hk)
  · rfl
theorem wpAnyS_first {p : Mids} {i : Nat} {oi : Oper} {v : SV} {K : Array Bool → Env → Prop} (hi : ops[i]? = some oi) (hF : HFirst .any ops p.js) (hin : i ∈ p.js)
    (hdone : ∀ listed a, K listed a → ∀ j ∈ Region.ready .any ops listed, j ∉ p.js) :
    ∀ (f : Nat) (listed : Array Bool) (a : Env), HInv .any ops p.js listed →
      (∀ j oj, ops[j]? = some oj → j ≠ i → listed.getD j true = false → (∀ e ∈ oj.after, Region.binds .any e = true → e.on ≠ i) → oi.apart ops oj = true) →
      i ∈ Region.ready .any ops listed → ST C ops p i oi v a → SX ops p i v → SK ops p i oi a →
      wpAnyS C ops p K f (listed.setIfInBounds i true) (upd (drE (p.svf i) a) oi.dst v) → wpAnyS C ops p K (f + 1) listed a := by
  intro f
  induction f with
  | zero =>
    intro listed a inv _ hr hy hx hs H
    have hun := (mem_ready.1 hr).1
    refine ⟨fun h => (by rw [h] at hr; cases hr), fun j hj => ?_⟩
    have hjn : j ∈ p.js := hF listed inv i hin hun j hj
    refine ⟨hjn, ?_⟩
    by_cases hji : j = i
    · subst hji; exact ⟨oi, v, hi, hy, hx, H⟩
    · exact absurd hjn (hdone _ _ H j (ready_mono hj hji))
  | succ f ih =>
    intro listed a inv hfree hr hy hx hs H
    have hun := (mem_ready.1 hr).1
    refine ⟨fun h => (by rw [h] at hr; cases hr), fun j hj => ?_⟩
    have hjn : j ∈ p.js := hF listed inv i hin hun j hj
    refine ⟨hjn, ?_⟩
    by_cases hji : j = i
    · subst hji; exact ⟨oi, v, hi, hy, hx, H⟩
    · obtain ⟨hjun, oj, hoj, hall⟩ := mem_ready.1 hj
      have hnot : ∀ e ∈ oj.after, Region.binds .any e = true → e.on ≠ i := fun e he hb heq => by
        have h1 := hall e he hb
        rw [heq, getD_both hun] at h1
        cases h1
      have hap := hfree j oj hoj hji hjun hnot
      obtain ⟨a1, a2, a3⟩ := Oper.apart_spec hap
      have hfree' : ∀ k ok, ops[k]? = some ok → k ≠ i → (listed.setIfInBounds j true).getD k true = false →
          (∀ e ∈ ok.after, Region.binds .any e = true → e.on ≠ i) → oi.apart ops ok = true := fun k ok hk hki hun hno => by
        refine hfree k ok hk hki ?_ hno
        by_cases hjk : j = k
        · subst hjk; exact hjun
        · rw [getD_set_ne true hjk] at hun; exact hun
      have notanc : ∀ {j k : Nat}, j ∈ Region.ready .any ops listed → listed.getD k true = false → ancB .any ops ops.size j k = false := fun {j k} hj hun => by
        obtain ⟨_, oj, hoj, hall⟩ := mem_ready.1 hj
        cases hq : ancB .any ops ops.size j k with
        | false => rfl
        | true =>
          have := anc_listed inv _ j k hq (fun ok hok e he hb => by rw [hoj] at hok; cases hok; exact hall e he hb)
          rw [getD_both hun] at this; cases this
      obtain ⟨_, oj', y, hoj', hstj, hxj, hK⟩ := H.2 j (ready_mono hj hji)
      rw [hoj] at hoj'; cases hoj'
      have sjv : p.svf j v = true := svf_eq fun hjm => hx j hjm hji (notanc hr hjun) (notanc hj hun)
      have siy : p.svf i y = true := svf_eq fun him => hxj i him (Ne.symm hji) (notanc hj hun) (notanc hr hjun)
      refine ⟨oj, y, hoj, hstj.mono (fun t ht z hz => ?_), hxj, ?_⟩
      · rw [upd_ne fun k hk e => a1 k hk (e ▸ ht)] at hz
        exact (drE_some hz).1
      · refine ih (listed.setIfInBounds j true) _ (inv.set hj hjn) hfree' (ready_mono hr (Ne.symm hji)) (hy.mono fun t ht z hz => ?_) hx (fun k hk hki ha hb t ht z hz => ?_) ?_
        · rw [upd_ne fun k hk e => a3 k hk (e ▸ ht)]
          have hz' : p.svf j z = true := svf_eq fun hjm => hs j hjm hji (notanc hr hjun) (notanc hj hun) t ht z hz
          simp [drE, hz, hz']
        · rw [upd_ne fun k hk e => a3 k hk (e ▸ ht)] at hz
          exact hs k hk hki ha hb t ht z (drE_some hz).1
        · rw [drE_upd siy, drE_comm, Array.setIfInBounds_comm _ _ hji]
          rw [drE_upd sjv] at hK
          rw [upd_comm (fun i hi => fun hk => a2 i hi hk)] at hK
          exact hK

/-- The walk. -/
def AS (C : Ctx) (ops : Array Oper) (p : Mids) : List Nat → List (Nat × SV) → (List (Nat × SV) → Prop) → Prop
  | [], e, K => K e
  | i :: rest, e, K => ∃ o x l', ops[i]? = some o ∧ ST C ops p i o x (get e) ∧ SX ops p i x ∧ SK ops p i o (get e) ∧ get l' = upd (drE (p.svf i) (get e)) o.dst x ∧ AS C ops p rest l' K

theorem wpAnyS_lex {p : Mids} {ts : List Nat} {K : List (Nat × SV) → Prop} (hF : HFirst .any ops p.js) (htl : ∀ t ∈ ts, t ∉ p.js) :
    ∀ (is : List Nat) (listed : Array Bool) (e : List (Nat × SV)), (∀ i ∈ is, i < ops.size ∧ i ∈ p.js) → (∀ j ∈ p.js, j ∈ is ∨ listed.getD j false = true) → HInv .any ops p.js listed →
    headO .any ops ts is listed = true → AS C ops p is e K →
    wpAnyS C ops p (fun listed' a' => (tailO .any ops ts listed' = true ∧ ∀ j ∈ p.js, listed'.getD j false = true) ∧ ∃ l', a' = get l' ∧ K l') is.length listed (get e)
  | [], listed, e, _, hall, inv, hB, h => ⟨⟨hB, fun j hj => (hall j hj).resolve_left (by simp)⟩, e, rfl, h⟩
  | i :: is, listed, e, hl, hall, inv, hB, h => by
    have hi := hl i (by simp)
    simp only [headO, Bool.and_eq_true] at hB
    obtain ⟨⟨hr, hf⟩, hB'⟩ := hB
    have hr' : i ∈ Region.ready .any ops listed := by simpa using hr
    obtain ⟨o, x, l', h0, hy, hx, hs, hg, hK⟩ := h
    refine wpAnyS_first h0 hF hi.2 (fun listed' a' hL => ?_) is.length listed _ inv (Region.free_spec h0 hf) hr' hy hx hs ?_
    · intro j hj
      cases ts with
      | nil => have := hL.1.1; simp only [tailO, List.isEmpty_iff] at this; rw [this] at hj; cases hj
      | cons t ts =>
        have := hL.1.1
        simp only [tailO, Bool.and_eq_true, decide_eq_true_eq] at this
        rw [this.1] at hj
        have : j = t := by simpa using hj
        subst this
        exact htl j (by simp)
    · rw [← hg]
      refine wpAnyS_lex hF htl is _ l' (fun j hj => hl j (by simp [hj])) (fun j hj => ?_) (inv.set hr' hi.2) hB' hK
      by_cases hji : j = i
      · subst hji; right
        have : j < listed.size := by rw [inv.size]; exact hi.1
        simp [Array.getD, this]
      · rcases hall j hj with h | h
        · left; rcases List.mem_cons.1 h with h | h
          · exact absurd h hji
          · exact h
        · right; exact getD_set_true h

def drawSB (ops : Array Oper) (js ms ts : List Nat) : Bool :=
  js.all (· < ops.size) && ts.all (· < ops.size) && ts.all (fun t => !js.contains t) && (js.length + ts.length == ops.size) && ms.all (js.contains ·) &&
  ((List.range ops.size).all fun t => js.contains t || (ts.contains t && js.all (ancB .any ops ops.size t))) && headO .any ops ts js (Array.replicate ops.size false)

theorem AC.drawS {id : Nat} {l : List Oper} {s : St} {Q : Exit → St → Prop} (js ms ts : List Nat) (OB : (Nat → Bool) → List Ob) (SL : List (Nat × (SV → Bool))) (hm : C.P.follows .mixedOrders = true) (hB : drawSB l.toArray js ms ts = true)
    (hOB : ∀ L L', (∀ j ∈ ms, L j = L' j) → OB L = OB L') (h0 : OB (fun _ => false) = s.obs)
    (h : AS C l.toArray ⟨js, ms, OB, SL⟩ js s.env (fun e' => AO C l.toArray (opsAt l.toArray ts) ⟨e', OB (fun _ => true)⟩ Q)) : AC C (.region id l.toArray true) s Q := fun Ω a w hr => by
  simp only [drawSB, Bool.and_eq_true, beq_iff_eq] at hB
  obtain ⟨⟨⟨⟨⟨⟨b1, b2⟩, b3⟩, b4⟩, b4'⟩, b5⟩, b6⟩ := hB
  have hF : HFirst .any l.toArray js := by
    intro listed inv i hi hun j hj
    obtain ⟨_, oj, hoj, hall⟩ := mem_ready.1 hj
    have hlt := (Array.getElem?_eq_some_iff.1 hoj).1
    have := List.all_eq_true.1 b5 j (List.mem_range.2 hlt)
    simp only [Bool.or_eq_true, Bool.and_eq_true, List.contains_iff_mem] at this
    rcases this with h | ⟨_, h⟩
    · exact h
    · have ha := anc_listed inv _ j i (List.all_eq_true.1 h i hi) (fun ok hk e he hb => by
        have : ok = oj := Option.some.inj (hk.symm.trans hoj)
        subst this
        exact hall e he hb)
      rw [getD_both hun] at ha
      cases ha
  have inv0 : HInv .any l.toArray js (Array.replicate l.toArray.size false) :=
    ⟨by simp, fun j oj _ hl => (by rw [getD_replicate_false] at hl; cases hl), fun t _ ht => getD_in (by simpa using ht) (getD_replicate_false _ _)⟩
  have H := wpAnyS_lex (p := ⟨js, ms, OB, SL⟩) (ts := ts) hF (fun t ht => by have := List.all_eq_true.1 b3 t ht; simpa using this) js _ s.env (fun i hi => ⟨by have := List.all_eq_true.1 b1 i hi; simpa using this, hi⟩) (fun j hj => .inl hj) inv0 b6 h
  refine wp_region_any hm ?_
  have := wpAny_of_S (Q' := Lift C Q) (p := ⟨js, ms, OB, SL⟩) (g := ts.length) hOB (fun listed e hL Ω a w hr => by
    obtain ⟨⟨h7, h8⟩, l', he, hK⟩ := hL
    have hob : OB (lstB listed) = OB (fun _ => true) := hOB _ _ fun j hj => h8 j (by have := List.all_eq_true.1 b4' j hj; simpa using this)
    have hr' : Rel C ⟨e, OB (fun _ => true)⟩ Ω a w := hob ▸ hr
    exact wpAny_of_tailO ts listed a w b2 h7 (hK Ω a w (hr'.congr fun t x hx => by rw [he]; exact hx))) _ _ s.env inv0 H Ω a _ (by
      have e0 : OB (lstB (Array.replicate l.toArray.size false)) = s.obs := by
        rw [← h0]; exact hOB _ _ fun j _ => getD_replicate_false _ _
      show Rel C ⟨s.env, OB _⟩ Ω a _
      rw [e0]; exact hr.drew)
  have e4 : js.length + ts.length = l.toArray.size := b4
  rw [e4] at this
  exact this

/-! ### How the walk is printed -/
variable {p : Mids} {o : Oper} {e Ls : List (Nat × SV)} {d j dj i : Nat} {x : SV} {want b : Bool} {K : List (Nat × SV) → Prop} {is : List Nat}
/-- What is listed for sure, what is not, and else L. -/
def elemN : List Nat → Nat → Bool
  | [], _ => false
  | a :: r, k => bif Nat.beq a k then true else elemN r k
theorem elemN_mem {k : Nat} : ∀ {l : List Nat}, elemN l k = true → k ∈ l
  | [], h => by cases h
  | a :: r, h => by
    simp only [elemN] at h
    by_cases e : a = k
    · subst e; simp
    · cases q : Nat.beq a k with
      | true => exact absurd (Nat.eq_of_beq_eq_true q) e
      | false => rw [q] at h; exact List.mem_cons_of_mem _ (elemN_mem h)
def force (T F : List Nat) (L : Nat → Bool) : Nat → Bool := fun k => bif elemN T k then true else bif elemN F k then false else L k
def relS (ops : Array Oper) (ms : List Nat) (i : Nat) (T F su : List Nat) : Bool :=
  T.all (fun k => ms.contains k && ancB .any ops ops.size i k) && F.all (fun k => k == i || (ms.contains k && ancB .any ops ops.size k i)) && ms.all (fun k => k == i || ancB .any ops ops.size i k || ancB .any ops ops.size k i || su.contains k)
def SAS (p : Mids) (Ls : List (Nat × SV)) (x : SV) (su : List Nat) : Bool := su.all fun k => p.sv k x && Ls.all fun q => p.sv k q.2
theorem force_eq {T F su : List Nat} {L : Nat → Bool} (hr : relS ops p.ms i T F su = true) (hL : Adm ops p L i) : force T F L = L := by
  simp only [relS, Bool.and_eq_true, List.all_eq_true, List.contains_iff_mem, Bool.or_eq_true, beq_iff_eq] at hr
  obtain ⟨⟨h1, h2⟩, _⟩ := hr
  funext k
  unfold force
  cases q1 : elemN T k with
  | true => have := h1 k (elemN_mem q1); exact ((hL.2 k this.1).1 this.2).symm
  | false =>
    cases q2 : elemN F k with
    | true =>
      rcases h2 k (elemN_mem q2) with rfl | h
      · exact hL.1.symm
      · exact ((hL.2 k h.1).2 h.2).symm
    | false => rfl
theorem mem_of_get {e : List (Nat × SV)} {t : Nat} {y : SV} (h : get e t = some y) : (t, y) ∈ e := get_mem h
theorem keeps {ks : List Nat} (hk : keep ks e = some Ls) (hl : looksB ops o ks = true) {t : Nat} (ht : t ∈ o.looksAt ops) {y : SV} (hy : get e t = some y) : (t, y) ∈ Ls := by
  simp only [looksB, Bool.and_eq_true, List.all_eq_true, List.contains_iff_mem] at hl
  obtain ⟨h1, _⟩ := (keep_get' hk t).1 (hl.1 t ht)
  rw [← h1] at hy
  exact get_mem hy
theorem sx_sk {ks T F su : List Nat} (hr : relS ops p.ms i T F su = true) (hk : keep ks e = some Ls) (hl : looksB ops o ks = true) (hs : SAS p Ls x su = true) : SX ops p i x ∧ SK ops p i o (get e) := by
  simp only [relS, Bool.and_eq_true, List.all_eq_true, List.contains_iff_mem, Bool.or_eq_true, beq_iff_eq] at hr
  simp only [SAS, Bool.and_eq_true, List.all_eq_true] at hs
  have h3 : ∀ k, k ∈ p.ms → k ≠ i → ancB .any ops ops.size i k = false → ancB .any ops ops.size k i = false → k ∈ su := fun k h1 h2 h3 h4 => by
    rcases hr.2 k h1 with ((h | h) | h) | h
    · exact absurd h h2
    · rw [h3] at h; cases h
    · rw [h4] at h; cases h
    · exact h
  exact ⟨fun k h1 h2 h4 h5 => (hs k (h3 k h1 h2 h4 h5)).1, fun k h1 h2 h4 h5 t ht y hy => (hs k (h3 k h1 h2 h4 h5)).2 (t, y) (keeps hk hl ht hy)⟩
theorem tells_same {ks : List Nat} {l : List (Nat × SV)} (hk : keep ks e = some Ls) (hl : looksB ops o ks = true) (ht : Tells ops o (get e) l) : ∀ t, get (Ls ++ l) t = get l t := fun t => by
  simp only [looksB, Bool.and_eq_true, List.all_eq_true, List.contains_iff_mem] at hl
  rw [get_append]
  by_cases hm : t ∈ ks
  · obtain ⟨h1, h2⟩ := (keep_get' hk t).1 hm
    rw [h1]
    obtain ⟨y, hy⟩ := Option.isSome_iff_exists.1 h2
    rw [hy]
    exact (ht t (hl.2 t hm) y hy).symm
  · rw [(keep_get' hk t).2 hm]
theorem gives_run {obs : List Ob} {ks : List Nat} (hk : keep ks e = some Ls) (hl : looksB ops o ks = true) (hd : o.dst = some d) (hv : Gives C ops obs o Ls d x) (l : List (Nat × SV)) (ht : Tells ops o (get e) l) (Ω : List Value) (a : Act) (w : World) (hr : Rel C ⟨l, obs⟩ Ω a w) :
    o.wp C.P a w (fun a' w' => ∃ (l' : List (Nat × SV)) (Ω' : List Value), get l' = upd (get l) o.dst x ∧ Rel C ⟨l', obs⟩ Ω' a' w') (fun _ _ _ => False) := by
  have hsame := tells_same hk hl ht
  have hr' : Rel C ⟨Ls ++ l, obs⟩ Ω a w := hr.congr fun t y hy => by rw [← hsame t]; exact hy
  have H := hv l (fun ed s => ed = .normal ∧ s = ⟨(d, x) :: (Ls ++ l), obs⟩) (AO.nil ⟨rfl, rfl⟩) Ω a w hr'
  refine wp_monoQ (fun a' w' hq => ?_) (fun ed a' w' hne hq => ?_) H
  · obtain ⟨s, Ω', hr2, _, hs⟩ := hq
    subst hs
    refine ⟨_, Ω', ?_, hr2⟩
    rw [hd, get_upd]
    congr 1
    funext t; exact hsame t
  · obtain ⟨s, Ω', _, he, _⟩ := hq
    exact hne he
theorem AS.done (h : K e) : AS C ops p [] e K := h
theorem AS.give (hm : p.ms.contains i = false) {T F su ks : List Nat} (h0 : ops[i]? = some o) (hd : o.dst = some d) (hl : looksB ops o ks = true) (hr : relS ops p.ms i T F su = true) (hk : keep ks e = some Ls) (hs : SAS p Ls x su = true)
    (hy : ∀ L, YS C ops (p.OB (force T F L)) o x (get e)) (h : AS C ops p is ((d, x) :: e) K) : AS C ops p (i :: is) e K :=
  ⟨o, x, (d, x) :: e, h0, fun L hL => .inl ⟨hm, by have := hy L; rw [force_eq hr hL] at this; exact this⟩, (sx_sk hr hk hl hs).1, (sx_sk hr hk hl hs).2, by simp only [Mids.svf, hm]; rw [if_neg (by simp), drE_true, hd, get_upd], h⟩
theorem AS.op (ks T F su : List Nat) (h0 : ops[i]? = some o) (hm : p.ms.contains i = false) (hg : o.guard = none) (hl : looksB ops o ks = true) (hr : relS ops p.ms i T F su = true) (hk : keep ks e = some Ls) (hd : o.dst = some d)
    (hv : ∀ L, Gives C ops (p.OB (force T F L)) o Ls d x) (hs : SAS p Ls x su = true) (h : AS C ops p is ((d, x) :: e) K) : AS C ops p (i :: is) e K :=
  AS.give hm h0 hd hl hr hk hs (fun L => .inl ⟨by unfold wantE; rw [hg], gives_run hk hl hd (hv L)⟩) h
theorem want_eq {b : Bool} (hg : o.guard = some (j, want)) (hj : ((ops[j]?).bind (·.dst)) = some dj) (hx : get e dj = some (.d (.v (.bool b)))) : wantE ops o (get e) = some (b == want) := by
  unfold wantE; rw [hg]; simp only [hj]; show (match get e dj with | some (.d (.v (.bool b))) => some (b == want) | some (.d (.v (.tuple _))) => some false | _ => none) = _; rw [hx]
theorem AS.opY (ks T F su : List Nat) (h0 : ops[i]? = some o) (hm : p.ms.contains i = false) (hg : o.guard = some (j, want)) (hj : ((ops[j]?).bind (·.dst)) = some dj) (hx : get e dj = some (.d (.v (.bool b)))) (hb : b = want)
    (hl : looksB ops o ks = true) (hr : relS ops p.ms i T F su = true) (hk : keep ks e = some Ls) (hd : o.dst = some d)
    (hv : ∀ L, Gives C ops (p.OB (force T F L)) o Ls d x) (hs : SAS p Ls x su = true) (h : AS C ops p is ((d, x) :: e) K) : AS C ops p (i :: is) e K :=
  AS.give hm h0 hd hl hr hk hs (fun L => .inl ⟨by rw [want_eq hg hj hx]; simp [hb], gives_run hk hl hd (hv L)⟩) h
theorem AS.opN (ks T F su : List Nat) (h0 : ops[i]? = some o) (hm : p.ms.contains i = false) (hg : o.guard = some (j, want)) (hj : ((ops[j]?).bind (·.dst)) = some dj) (hx : get e dj = some (.d (.v (.bool b)))) (hb : b = (!want))
    (hl : looksB ops o ks = true) (hr : relS ops p.ms i T F su = true) (hk : keep ks e = some Ls) (hd : o.dst = some d) (hn : d < C.n)
    (hs : SAS p Ls (.d (.v undef)) su = true) (h : AS C ops p is ((d, .d (.v undef)) :: e) K) : AS C ops p (i :: is) e K :=
  AS.give hm h0 hd hl hr hk hs (fun L => .inr ⟨by rw [want_eq hg hj hx]; simp [hb], rfl, fun k hk => by rw [hd] at hk; cases hk; exact hn⟩) h
theorem AS.split (dj : Nat) (want : Bool) (hx : get e dj = some (.d (.v (.bool b)))) (hyes : b = want → AS C ops p is e K) (hno : b = (!want) → AS C ops p is e K) : AS C ops p is e K := by
  by_cases hb : b = want
  · exact hyes hb
  · exact hno (by cases b <;> cases want <;> simp_all)
theorem AS.dec (b : Bool) (hyes : b = true → AS C ops p is e K) (hno : b = false → AS C ops p is e K) : AS C ops p is e K := by
  cases b
  · exact hno rfl
  · exact hyes rfl
theorem AS.midW (ks T F su : List Nat) {sv : SV → Bool} (h0 : ops[i]? = some o) (hm : p.ms.contains i = true) (hsv : p.sv i = sv) (hg : wantE ops o (get e) = some true) (hl : looksB ops o ks = true) (hr : relS ops p.ms i T F su = true) (hk : keep ks e = some Ls) (hd : o.dst = some d)
    (hv : ∀ (L : Nat → Bool) (e : List (Nat × SV)) (Q : Exit → St → Prop), AO C ops [] ⟨(d, x) :: dropS sv [] (Ls ++ e), p.OB (setB (force T F L) i)⟩ Q → AOp C ops [] o ⟨Ls ++ e, p.OB (force T F L)⟩ Q)
    (hs : SAS p Ls x su = true) {e' : List (Nat × SV)} (he : dropS sv [] e = e') (h : AS C ops p is ((d, x) :: e') K) : AS C ops p (i :: is) e K := by
  subst he hsv
  have hdr : ∀ l : List (Nat × SV), get (dropS (p.sv i) [] l) = drE (p.sv i) (get l) := fun l => by funext t; rw [get_dropS]; simp
  refine ⟨o, x, _, h0, fun L hL => .inr ⟨hm, hg, ?_⟩, (sx_sk hr hk hl hs).1, (sx_sk hr hk hl hs).2, by rw [hd, get_upd, hdr]; simp only [Mids.svf, hm, if_true], h⟩
  intro l ht Ω a w hrl
  have hv := hv L
  rw [force_eq hr hL] at hv
  have hsame := tells_same hk hl ht
  have hr' : Rel C ⟨Ls ++ l, p.OB L⟩ Ω a w := hrl.congr fun t y hy => by rw [← hsame t]; exact hy
  have H := hv l (fun ed s => ed = .normal ∧ s = ⟨(d, x) :: dropS (p.sv i) [] (Ls ++ l), p.OB (setB L i)⟩) (AO.nil ⟨rfl, rfl⟩) Ω a w hr'
  refine wp_monoQ (fun a' w' hq => ?_) (fun ed a' w' hne hq => ?_) H
  · obtain ⟨s, Ω', hr2, _, hs⟩ := hq
    subst hs
    refine ⟨_, Ω', ?_, hr2⟩
    rw [hd, get_upd, hdr]
    congr 1
    congr 1
    funext t; exact hsame t
  · obtain ⟨s, Ω', _, he, _⟩ := hq
    exact hne he
theorem AS.mid (ks T F su : List Nat) {sv : SV → Bool} (h0 : ops[i]? = some o) (hm : p.ms.contains i = true) (hsv : p.sv i = sv) (hg : o.guard = none) (hl : looksB ops o ks = true) (hr : relS ops p.ms i T F su = true) (hk : keep ks e = some Ls) (hd : o.dst = some d)
    (hv : ∀ (L : Nat → Bool) (e : List (Nat × SV)) (Q : Exit → St → Prop), AO C ops [] ⟨(d, x) :: dropS sv [] (Ls ++ e), p.OB (setB (force T F L) i)⟩ Q → AOp C ops [] o ⟨Ls ++ e, p.OB (force T F L)⟩ Q)
    (hs : SAS p Ls x su = true) {e' : List (Nat × SV)} (he : dropS sv [] e = e') (h : AS C ops p is ((d, x) :: e') K) : AS C ops p (i :: is) e K :=
  AS.midW ks T F su h0 hm hsv (by unfold wantE; rw [hg]) hl hr hk hd hv hs he h
theorem AS.midY (ks T F su : List Nat) {sv : SV → Bool} (h0 : ops[i]? = some o) (hm : p.ms.contains i = true) (hsv : p.sv i = sv) (hg : o.guard = some (j, want)) (hj : ((ops[j]?).bind (·.dst)) = some dj) (hx : get e dj = some (.d (.v (.bool b)))) (hb : b = want) (hl : looksB ops o ks = true) (hr : relS ops p.ms i T F su = true) (hk : keep ks e = some Ls) (hd : o.dst = some d)
    (hv : ∀ (L : Nat → Bool) (e : List (Nat × SV)) (Q : Exit → St → Prop), AO C ops [] ⟨(d, x) :: dropS sv [] (Ls ++ e), p.OB (setB (force T F L) i)⟩ Q → AOp C ops [] o ⟨Ls ++ e, p.OB (force T F L)⟩ Q)
    (hs : SAS p Ls x su = true) {e' : List (Nat × SV)} (he : dropS sv [] e = e') (h : AS C ops p is ((d, x) :: e') K) : AS C ops p (i :: is) e K :=
  AS.midW ks T F su h0 hm hsv (by rw [want_eq hg hj hx]; simp [hb]) hl hr hk hd hv hs he h
/-- A store among them. -/
theorem AS.mid0W (ks T F su : List Nat) {sv : SV → Bool} (h0 : ops[i]? = some o) (hm : p.ms.contains i = true) (hsv : p.sv i = sv) (hg : wantE ops o (get e) = some true) (hl : looksB ops o ks = true) (hr : relS ops p.ms i T F su = true) (hk : keep ks e = some Ls) (hd : o.dst = none)
    (hv : ∀ (L : Nat → Bool) (e : List (Nat × SV)) (Q : Exit → St → Prop), AO C ops [] ⟨dropS sv [] (Ls ++ e), p.OB (setB (force T F L) i)⟩ Q → AOp C ops [] o ⟨Ls ++ e, p.OB (force T F L)⟩ Q)
    (hs : SAS p Ls .any su = true) {e' : List (Nat × SV)} (he : dropS sv [] e = e') (h : AS C ops p is e' K) : AS C ops p (i :: is) e K := by
  subst he hsv
  have hdr : ∀ l : List (Nat × SV), get (dropS (p.sv i) [] l) = drE (p.sv i) (get l) := fun l => by funext t; rw [get_dropS]; simp
  refine ⟨o, .any, _, h0, fun L hL => .inr ⟨hm, hg, ?_⟩, (sx_sk hr hk hl hs).1, (sx_sk hr hk hl hs).2, by rw [hd, hdr]; simp only [Mids.svf, hm, if_true]; rfl, h⟩
  intro l ht Ω a w hrl
  have hv := hv L
  rw [force_eq hr hL] at hv
  have hsame := tells_same hk hl ht
  have hr' : Rel C ⟨Ls ++ l, p.OB L⟩ Ω a w := hrl.congr fun t y hy => by rw [← hsame t]; exact hy
  have H := hv l (fun ed s => ed = .normal ∧ s = ⟨dropS (p.sv i) [] (Ls ++ l), p.OB (setB L i)⟩) (AO.nil ⟨rfl, rfl⟩) Ω a w hr'
  refine wp_monoQ (fun a' w' hq => ?_) (fun ed a' w' hne hq => ?_) H
  · obtain ⟨s, Ω', hr2, _, hs⟩ := hq
    subst hs
    refine ⟨_, Ω', ?_, hr2⟩
    rw [hd, hdr]
    show drE (p.sv i) (get (Ls ++ l)) = drE (p.sv i) (get l)
    congr 1
    funext t; exact hsame t
  · obtain ⟨s, Ω', _, he, _⟩ := hq
    exact hne he
theorem AS.mid0 (ks T F su : List Nat) {sv : SV → Bool} (h0 : ops[i]? = some o) (hm : p.ms.contains i = true) (hsv : p.sv i = sv) (hg : o.guard = none) (hl : looksB ops o ks = true) (hr : relS ops p.ms i T F su = true) (hk : keep ks e = some Ls) (hd : o.dst = none)
    (hv : ∀ (L : Nat → Bool) (e : List (Nat × SV)) (Q : Exit → St → Prop), AO C ops [] ⟨dropS sv [] (Ls ++ e), p.OB (setB (force T F L) i)⟩ Q → AOp C ops [] o ⟨Ls ++ e, p.OB (force T F L)⟩ Q)
    (hs : SAS p Ls .any su = true) {e' : List (Nat × SV)} (he : dropS sv [] e = e') (h : AS C ops p is e' K) : AS C ops p (i :: is) e K :=
  AS.mid0W ks T F su h0 hm hsv (by unfold wantE; rw [hg]) hl hr hk hd hv hs he h
theorem AS.mid0Y (ks T F su : List Nat) {sv : SV → Bool} (h0 : ops[i]? = some o) (hm : p.ms.contains i = true) (hsv : p.sv i = sv) (hg : o.guard = some (j, want)) (hj : ((ops[j]?).bind (·.dst)) = some dj) (hx : get e dj = some (.d (.v (.bool b)))) (hb : b = want) (hl : looksB ops o ks = true) (hr : relS ops p.ms i T F su = true) (hk : keep ks e = some Ls) (hd : o.dst = none)
    (hv : ∀ (L : Nat → Bool) (e : List (Nat × SV)) (Q : Exit → St → Prop), AO C ops [] ⟨dropS sv [] (Ls ++ e), p.OB (setB (force T F L) i)⟩ Q → AOp C ops [] o ⟨Ls ++ e, p.OB (force T F L)⟩ Q)
    (hs : SAS p Ls .any su = true) {e' : List (Nat × SV)} (he : dropS sv [] e = e') (h : AS C ops p is e' K) : AS C ops p (i :: is) e K :=
  AS.mid0W ks T F su h0 hm hsv (by rw [want_eq hg hj hx]; simp [hb]) hl hr hk hd hv hs he h
theorem AO.dropT {l : List Oper} {obs : List Ob} {Q : Exit → St → Prop} {sv : SV → Bool} {e : List (Nat × SV)} (h : AO C ops l ⟨dropS sv [] e, obs⟩ Q) : AO C ops l ⟨e, obs⟩ Q :=
  AO.forget (fun q z hq => by
    rw [get_dropS] at hq
    simp only [List.not_mem_nil, if_false] at hq
    exact (drE_some hq).1) h
end

/-! ### Room for objects that are made in whatever order -/
/-- It leads neither to k nor to m. -/
def SV.noO2 (k m : Nat) (x : SV) : Bool := x.noO k && x.noO m
def Ob.noO2 (k m : Nat) (x : Ob) : Bool := x.noO k && x.noO m
inductive AllNo (k m : Nat) : List Ob → Prop
  | nil : AllNo k m []
  | cons {ob : Ob} {r : List Ob} (h : ob.noO2 k m = true) (t : AllNo k m r) : AllNo k m (ob :: r)
theorem noO2_cond {k m : Nat} {b : Bool} {x y : Ob} (hx : x.noO2 k m = true) (hy : y.noO2 k m = true) : (bif b then x else y).noO2 k m = true := by cases b <;> assumption
theorem noO2_fixl {α : Type} {k m ty : Nat} {f : α → SV} {l : List α} (hf : ∀ z, (f z).noO2 k m = true) : (Ob.fix ty (l.map f)).noO2 k m = true := by
  simp only [Ob.noO2, Ob.noO, Bool.and_eq_true, List.all_eq_true]
  refine ⟨fun x hx => ?_, fun x hx => ?_⟩ <;> obtain ⟨z, _, rfl⟩ := List.mem_map.1 hx <;> have := hf z <;> simp only [SV.noO2, Bool.and_eq_true] at this
  · exact this.1
  · exact this.2
theorem AllNo.get {k m : Nat} : ∀ {l : List Ob}, AllNo k m l → ∀ {i : Nat} {ob : Ob}, l[i]? = some ob → ob.noO2 k m = true
  | _, .cons h t, 0, _, e => by cases e; exact h
  | _, .cons h t, i + 1, ob, e => t.get (by simpa using e)
theorem RepS.moved {w w' : World} {ok ok' : Nat → Prop} {Ω Ω' : List Value} {k m : Nat} (h : ∀ b, ok b → ok' b ∧ w'.heap[b]? = w.heap[b]?) (hΩ : ∀ o v, o ≠ k → o ≠ m → Ω[o]? = some v → Ω'[o]? = some v)
    {x : SV} {v : Value} (hx : x.noO2 k m = true) (hr : RepS w ok Ω x v) : RepS w' ok' Ω' x v := by
  simp only [SV.noO2, Bool.and_eq_true] at hx
  obtain ⟨hx, hx2⟩ := hx
  have ht : ∀ {o : Nat} {v : Value}, (o != k) = true → (o != m) = true → Ω[o]? = some v → Ω'[o]? = some v := fun h1 h2 e => hΩ _ _ (by simpa using h1) (by simpa using h2) e
  induction hr with
  | any v => exact .any v
  | d x v hd => exact .d x v (hd.mono h)
  | ptr o off b ho => exact .ptr o off b (ht hx hx2 ho)
  | ptrG o off b len cap ho => exact .ptrG o off b len cap (ht hx hx2 ho)
  | sl o sz off len cap b ho => exact .sl o sz off len cap b (ht hx hx2 ho)
  | own o v ho h1 => exact .own o v (ht hx hx2 ho) h1
  | pre o k n cap a ho hk => exact .pre o k n cap a (ht hx hx2 ho) hk
  | full sz cells a n hd => exact .full sz cells a n (hd.mono h)
  | ep b off i cells vals hb2 hcell hr => exact .ep b off i cells vals (h b hb2).1 (fun j hj => by rw [cell_heap (h b hb2).2]; exact hcell j hj) (fun j x hj => (hr j x hj).mono h)
  | ag cells vs hl _ ih => exact .ag cells vs hl fun i x y h1 h2 => ih i x y h1 h2 (SV.noOL_get hx h1) (SV.noOL_get hx2 h1)
  | tu cells vs hl _ ih => exact .tu cells vs hl fun i x y h1 h2 => ih i x y h1 h2 (SV.noOL_get hx h1) (SV.noOL_get hx2 h1)
  | ifc t x u _ ih => exact .ifc t x u (ih hx hx2)
  | fv fn first caps fs cs hf hc _ _ ih1 ih2 =>
    have g1 : SV.noOL k first = true ∧ SV.noOL k caps = true := by simpa only [SV.noO, Bool.and_eq_true] using hx
    have g2 : SV.noOL m first = true ∧ SV.noOL m caps = true := by simpa only [SV.noO, Bool.and_eq_true] using hx2
    exact .fv fn first caps fs cs hf hc (fun i x y h1 h2 => ih1 i x y h1 h2 (SV.noOL_get g1.1 h1) (SV.noOL_get g2.1 h1)) (fun i x y h1 h2 => ih2 i x y h1 h2 (SV.noOL_get g1.2 h1) (SV.noOL_get g2.2 h1))

theorem allNo {k : Nat} {l : List Ob} (h : AllNo k k l) : l.all (Ob.noO k) = true := List.all_eq_true.2 fun ob hm => by
  obtain ⟨i, hi⟩ := List.getElem?_of_mem hm
  have := h.get hi
  simp only [Ob.noO2, Bool.and_self] at this
  exact this
/-- What leads to the last object leads to number k instead. -/
def SV.sunk (m k : Nat) : SV → Option SV
  | .ptr o off => if o = m then some (.ptr k off) else none
  | .sl o sz off len cap => if o = m then some (.sl k sz off len cap) else none
  | .own o => if o = m then some (.own k) else none
  | _ => none
theorem RepS.sunk {w w' : World} {ok ok' : Nat → Prop} {Ω Ω' : List Value} {k m : Nat} (hΩ : ∀ v, Ω[m]? = some v → Ω'[k]? = some v) {x y : SV} {v : Value} (hx : x.sunk m k = some y) (hr : RepS w ok Ω x v) : RepS w' ok' Ω' y v := by
  cases hr with
  | ptr o off b ho => simp only [SV.sunk] at hx; split at hx <;> cases hx; subst_vars; exact .ptr _ _ _ (hΩ _ ho)
  | ptrG o off b len cap ho => simp only [SV.sunk] at hx; split at hx <;> cases hx; subst_vars; exact .ptrG _ _ _ _ _ (hΩ _ ho)
  | sl o sz off len cap b ho => simp only [SV.sunk] at hx; split at hx <;> cases hx; subst_vars; exact .sl _ _ _ _ _ _ (hΩ _ ho)
  | own o v ho h1 => simp only [SV.sunk] at hx; split at hx <;> cases hx; subst_vars; exact .own _ _ (hΩ _ ho) h1
  | _ => cases hx

theorem Rel.sink {C : Ctx} {e : List (Nat × SV)} {obs : List Ob} {new : Ob} {Ω : List Value} {a : Act} {w : World} {d k m : Nat} {x y : SV} (h : Rel C ⟨(d, x) :: e, obs ++ [new]⟩ Ω a w) (hm : obs.length = m) (hk : obs[k]? = some .dead) (hx : x.sunk m k = some y)
    (hno : AllNo k m obs) (hnew : new.noO2 k m = true) : ∃ Ω', Rel C ⟨(d, y) :: dropS (SV.noO2 k m) [] e, obs.set k new⟩ Ω' a w := by
  obtain ⟨hdf, hsz, henv, hmem⟩ := h
  have hlen : Ω.length = m + 1 := by have := hmem.len; simp at this; omega
  have hkm : k < m := by have := (List.getElem?_eq_some_iff.1 hk).1; omega
  obtain ⟨v0, hv0⟩ : ∃ v, Ω[m]? = some v := ⟨_, List.getElem?_eq_getElem (by omega)⟩
  have hold : ∀ o v, o ≠ k → o ≠ m → Ω[o]? = some v → ((Ω.take m).set k v0)[o]? = some v := fun o v h1 h2 h3 => by
    have : o < m := by have := (List.getElem?_eq_some_iff.1 h3).1; omega
    rw [List.getElem?_set_ne (Ne.symm h1), List.getElem?_take, if_pos this]; exact h3
  have hkk : ((Ω.take m).set k v0)[k]? = some v0 := by rw [List.getElem?_set_self (by simp; omega)]
  -- whence an entry comes
  have hfrom : ∀ {i : Nat} {ob : Ob}, (obs.set k new)[i]? = some ob → (i = k ∧ ob = new) ∨ (i ≠ k ∧ i < m ∧ obs[i]? = some ob) := fun {i ob} e => by
    rcases get_set e with ⟨h1, h2, _⟩ | ⟨h1, h2⟩
    · exact .inl ⟨h1, h2⟩
    · exact .inr ⟨h1, by have := (List.getElem?_eq_some_iff.1 h2).1; omega, h2⟩
  have hval : ∀ {i : Nat} {v : Value}, ((Ω.take m).set k v0)[i]? = some v → (i = k ∧ v = v0) ∨ (i ≠ k ∧ Ω[i]? = some v) := fun {i v} e => by
    rcases get_set e with ⟨h1, h2, _⟩ | ⟨h1, h2⟩
    · exact .inl ⟨h1, h2⟩
    · rw [List.getElem?_take] at h2
      split at h2
      · exact .inr ⟨h1, h2⟩
      · cases h2
  have hnewat : (obs ++ [new])[m]? = some new := by rw [← hm]; simp
  have hat : ∀ {i : Nat} {ob : Ob} {v : Value}, (obs.set k new)[i]? = some ob → ((Ω.take m).set k v0)[i]? = some v → ∃ i', (obs ++ [new])[i']? = some ob ∧ Ω[i']? = some v ∧ (i' = if i = k then m else i) := fun {i ob v} e1 e2 => by
    rcases hfrom e1 with ⟨h1, h2⟩ | ⟨h1, h2, h3⟩
    · rcases hval e2 with ⟨_, h4⟩ | ⟨h4, _⟩
      · subst h2 h4; exact ⟨m, hnewat, hv0, by simp [h1]⟩
      · exact absurd h1 h4
    · rcases hval e2 with ⟨h4, _⟩ | ⟨_, h4⟩
      · exact absurd h4 h1
      · exact ⟨i, get_left h3, h4, by simp [h1]⟩
  have hok : ∀ b, okB C (obs ++ [new]) Ω w b → okB C (obs.set k new) ((Ω.take m).set k v0) w b ∧ w.heap[b]? = w.heap[b]? := fun b hb => ⟨⟨hb.1, hb.2.1, fun i ob v e1 hl e2 => by
    obtain ⟨i', e1', e2', _⟩ := hat e1 e2
    exact hb.2.2 i' ob v e1' hl e2'⟩, rfl⟩
  refine ⟨(Ω.take m).set k v0, hdf, hsz, fun t z hz => ?_, ?_⟩
  · simp only [Vm.get] at hz
    split at hz
    · rename_i ht; cases hz
      obtain ⟨v, hv, hr⟩ := henv t x (by simp [Vm.get, ht])
      exact ⟨v, hv, hr.sunk (fun v hv => by rw [hv0] at hv; cases hv; exact hkk) hx⟩
    · rename_i ht
      rw [get_dropS] at hz
      simp only [List.not_mem_nil, if_false] at hz
      obtain ⟨h1, h2⟩ := drE_some hz
      obtain ⟨v, hv, hr⟩ := henv t z (by simp only [Vm.get, if_neg ht]; exact h1)
      exact ⟨v, hv, hr.moved hok hold h2⟩
  · refine ⟨by simp [hlen]; omega, fun i ob v e1 e2 => ?_, fun i j a b v u y hij e1 e2 l1 l2 e3 e4 => ?_, fun i ob v b e1 l e2 hb => ?_, hmem.fr⟩
    · have hnob : ob.noO2 k m = true := by
        rcases hfrom e1 with ⟨_, h2⟩ | ⟨_, _, h3⟩
        · rw [h2]; exact hnew
        · exact hno.get h3
      obtain ⟨i', e1', e2', _⟩ := hat e1 e2
      have H := hmem.obj i' ob v e1' e2'
      cases ob with
      | dead => trivial
      | frame vs env =>
        simp only [Ob.noO2, Ob.noO, Bool.and_eq_true] at hnob
        exact ⟨H.1, fun t x hx => let ⟨v, hv, hr⟩ := H.2 t x hx; ⟨v, hv, hr.moved hok hold (by
          simp only [SV.noO2, Bool.and_eq_true]
          exact ⟨List.all_eq_true.1 hnob.1 (t, x) (get_mem hx), List.all_eq_true.1 hnob.2 (t, x) (get_mem hx)⟩)⟩⟩
      | grow ty sz cells =>
        obtain ⟨n, xs, ho, hl, hr⟩ := H
        exact ⟨n, xs, ho, hl, fun i x y hx hy => (hr i x y hx hy).mono hok⟩
      | fix ty cells =>
        obtain ⟨b, vs, rfl, hw, hl, hr, h1⟩ := H
        simp only [Ob.noO2, Ob.noO, Bool.and_eq_true] at hnob
        exact ⟨b, vs, rfl, hw, hl, fun i x y hx hy => (hr i x y hx hy).moved hok hold (by
          simp only [SV.noO2, Bool.and_eq_true]
          exact ⟨List.all_eq_true.1 hnob.1 x (List.mem_of_getElem? hx), List.all_eq_true.1 hnob.2 x (List.mem_of_getElem? hx)⟩), h1⟩
    · obtain ⟨i', e1', e3', hi'⟩ := hat e1 e3
      obtain ⟨j', e2', e4', hj'⟩ := hat e2 e4
      have : i' ≠ j' := by
        intro he
        have hi := (List.getElem?_eq_some_iff.1 e1).1
        have hj := (List.getElem?_eq_some_iff.1 e2).1
        simp at hi hj
        by_cases h1 : i = k <;> by_cases h2 : j = k
        · exact hij (h1.trans h2.symm)
        · rw [if_pos h1] at hi'; rw [if_neg h2] at hj'; omega
        · rw [if_neg h1] at hi'; rw [if_pos h2] at hj'; omega
        · rw [if_neg h1] at hi'; rw [if_neg h2] at hj'; omega
      exact hmem.sep i' j' a b v u y this e1' e2' l1 l2 e3' e4'
    · obtain ⟨i', e1', e2', _⟩ := hat e1 e2
      exact hmem.new i' ob v b e1' l e2' hb

section
variable {C : Ctx} {Q : Exit → St → Prop} {ops : Array Oper} {e : List (Nat × SV)} {obs : List Ob} {d : Nat}
theorem AO.sink {l : List Oper} {new : Ob} (k m : Nat) {x y : SV} (hm : obs.length = m) (hk : obs[k]? = some .dead) (hx : x.sunk m k = some y) (hno : AllNo k m obs) (hnew : new.noO2 k m = true)
    (h : AO C ops l ⟨(d, y) :: dropS (SV.noO2 k m) [] e, obs.set k new⟩ Q) : AO C ops l ⟨(d, x) :: e, obs ++ [new]⟩ Q := fun Ω a w hr => by
  obtain ⟨Ω', hr'⟩ := hr.sink hm hk hx hno hnew
  exact h Ω' a w hr'
theorem AO.objs {l : List Oper} {obs' : List Ob} (ho : obs' = obs) (h : AO C ops l ⟨e, obs'⟩ Q) : AO C ops l ⟨e, obs⟩ Q := ho ▸ h
theorem Rel.room {s : St} {Ω : List Value} {a : Act} {w : World} (h : Rel C s Ω a w) : Rel C ⟨s.env, s.obs ++ [.dead]⟩ (Ω ++ [undef]) a w := by
  have hok : ∀ b, okB C s.obs Ω w b → okB C (s.obs ++ [.dead]) (Ω ++ [undef]) w b ∧ w.heap[b]? = w.heap[b]? := fun b hb => ⟨⟨hb.1, hb.2.1, fun i ob v e1 hl e2 => by
    rcases list_get_append e1 with e1 | ⟨_, rfl⟩
    · rcases list_get_append e2 with e2 | ⟨h1, _⟩
      · exact hb.2.2 i ob v e1 hl e2
      · have := (List.getElem?_eq_some_iff.1 e1).1; have := h.mem.len; omega
    · cases hl⟩, rfl⟩
  have hΩ : ∀ (o : Nat) v, Ω[o]? = some v → (Ω ++ [undef])[o]? = some v := fun o v e => get_left e
  have hval : ∀ {i : Nat} {ob : Ob} {v : Value}, (s.obs ++ [.dead])[i]? = some ob → ob.live = true → (Ω ++ [undef])[i]? = some v → s.obs[i]? = some ob ∧ Ω[i]? = some v := fun {i ob v} e1 hl e2 => by
    rcases list_get_append e1 with e1 | ⟨_, rfl⟩
    · rcases list_get_append e2 with e2 | ⟨h1, _⟩
      · exact ⟨e1, e2⟩
      · have := (List.getElem?_eq_some_iff.1 e1).1; have := h.mem.len; omega
    · cases hl
  refine ⟨h.defers, h.size, fun t x hx => let ⟨v, h1, h2⟩ := h.env t x hx; ⟨v, h1, h2.mono hok hΩ⟩, by simp [h.mem.len], fun i ob v e1 e2 => ?_, fun i j a b v u y hij e1 e2 l1 l2 e3 e4 => ?_, fun i ob v b e1 l e2 hb => ?_, h.mem.fr⟩
  · cases hl : ob.live with
    | false => cases ob <;> first | trivial | cases hl
    | true =>
      obtain ⟨e1', e2'⟩ := hval e1 hl e2
      exact (h.mem.obj i ob v e1' e2').mono hok hΩ fun b _ _ => rfl
  · obtain ⟨q1, q2⟩ := hval e1 l1 e3
    obtain ⟨q3, q4⟩ := hval e2 l2 e4
    exact h.mem.sep i j a b v u y hij q1 q3 l1 l2 q2 q4
  · obtain ⟨q1, q2⟩ := hval e1 l e2
    exact h.mem.new i ob v b q1 l q2 hb
theorem AC.room {c : Code} {s : St} (h : AC C c ⟨s.env, s.obs ++ [.dead]⟩ Q) : AC C c s Q := fun Ω a w hr => h _ a w hr.room
end
end Go.Vm
