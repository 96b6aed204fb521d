/- Regions that draw their order, in which some operations turn memory while others still wait. -/
import Derived.Test.YtbgdonedjgkhiaaVmPure2
import Derived.Test.YtbgdonedjgkhiaaVmAdopt
import Derived.Test.YtbgdonedjgkhiaaVmOwn
set_option linter.unusedVariables false
set_option linter.unusedSimpArgs false
namespace Go.Vm

def drE (sv : SV → Bool) (e : Env) : Env := fun t => (e t).bind fun y => if sv y = true then some y else none
def dropS (sv : SV → Bool) : List Nat → List (Nat × SV) → List (Nat × SV)
  | _, [] => []
  | seen, (k, x) :: r => if seen.contains k then dropS sv seen r else if sv x then (k, x) :: dropS sv (k :: seen) r else dropS sv (k :: seen) r
theorem get_dropS (sv : SV → Bool) : ∀ (e : List (Nat × SV)) (seen : List Nat) (t : Nat), get (dropS sv seen e) t = if t ∈ seen then none else drE sv (get e) t
  | [], seen, t => by simp [dropS, get, drE]
  | (k, x) :: r, seen, t => by
    simp only [dropS]
    split
    · rename_i hk
      rw [get_dropS sv r seen t]
      split
      · rfl
      · rename_i ht
        have : k ≠ t := fun e => ht (by subst e; simpa using hk)
        simp [drE, get, this]
    · rename_i hk
      have hk' : k ∉ seen := by simpa using hk
      split
      · rename_i hx
        simp only [get]
        split
        · rename_i e; subst e; rw [if_neg hk']; simp [drE, get, hx]
        · rename_i e
          rw [get_dropS sv r (k :: seen) t]
          simp [drE, get, e, Ne.symm e]
      · rename_i hx
        rw [get_dropS sv r (k :: seen) t]
        by_cases e : k = t
        · subst e; simp [hk', drE, get, hx]
        · simp [drE, get, e, Ne.symm e]
theorem drE_some {sv : SV → Bool} {e : Env} {t : Nat} {y : SV} (h : drE sv e t = some y) : e t = some y ∧ sv y = true := by
  unfold drE at h
  cases he : e t with
  | none => rw [he] at h; cases h
  | some z =>
    rw [he, Option.bind_some] at h
    split at h
    · rename_i hz; cases h; exact ⟨rfl, hz⟩
    · cases h
theorem drE_keep {sv : SV → Bool} {e : Env} {t : Nat} (h : ∀ y, e t = some y → sv y = true) : drE sv e t = e t := by
  unfold drE
  cases he : e t with
  | none => rfl
  | some z => simp [h z he]
theorem drE_upd {sv : SV → Bool} {e : Env} {d : Option Nat} {x : SV} (h : sv x = true) : drE sv (upd e d x) = upd (drE sv e) d x := by
  cases d with
  | none => rfl
  | some d => funext t; simp only [drE, upd]; split <;> simp [h]

section
variable {C : Ctx} {ops : Array Oper} {md : Region.Mode}

/-- o turns memory from ob to ob'. -/
def MV (C : Ctx) (ops : Array Oper) (ob ob' : List Ob) (sv : SV → Bool) (o : Oper) (x : SV) (e : Env) : Prop :=
  o.guard = none ∧ ∀ (l : List (Nat × SV)), (∀ t, t ∈ o.looksAt ops → get l t = e t) → ∀ Ω a w, Rel C ⟨l, ob⟩ Ω a w →
    o.wp C.P a w (fun a' w' => ∃ (l' : List (Nat × SV)) (Ω' : List Value), get l' = upd (drE sv (get l)) o.dst x ∧ Rel C ⟨l', ob'⟩ Ω' a' w') (fun _ _ _ => False)

/-- hs: what gives values; ms: what turns memory, in its order; OL: the objects ahead of each of ms, and at the end; SL: what outlives each of ms. -/
structure Plan where
  hs : List Nat
  ms : List Nat
  OL : List (List Ob)
  SL : List (SV → Bool)

/-- Number i may come up behind the first k of those that turn memory. -/
def relK (md : Region.Mode) (ops : Array Oper) (p : Plan) (i : Nat) : Nat → Bool
  | 0 => true
  | k + 1 => match p.ms[k]? with
    | some j => !ancB md ops ops.size j i
    | none => true
def YA (C : Ctx) (md : Region.Mode) (ops : Array Oper) (p : Plan) (i : Nat) (o : Oper) (x : SV) (e : Env) : Prop := ∀ (k : Nat) (ob : List Ob), p.OL[k]? = some ob → relK md ops p i k = true → YV C ops ob o x e
/-- What o looks at outlives what the others turn, those that do not wait for it. -/
def SU (md : Region.Mode) (ops : Array Oper) (p : Plan) (i : Nat) (o : Oper) (x : SV) (e : Env) : Prop := ∀ (k : Nat) (sv : SV → Bool) (j : Nat), p.SL[k]? = some sv → p.ms[k]? = some j → ancB md ops ops.size j i = false → sv x = true ∧ ∀ t, t ∈ o.looksAt ops → ∀ y, e t = some y → sv y = true
def DN (p : Plan) (listed : Array Bool) (k : Nat) : Prop := ∀ (k' j : Nat), k' < k → p.ms[k']? = some j → listed.getD j false = true

def wpAnyT (C : Ctx) (md : Region.Mode) (ops : Array Oper) (p : Plan) (L : Array Bool → Env → Prop) : Nat → Array Bool → Env → Nat → Prop
  | 0, listed, e, k => k = p.ms.length ∧ L listed e
  | f + 1, listed, e, k => Region.ready md ops listed ≠ [] ∧ ∀ i ∈ Region.ready md ops listed,
      (i ∈ p.hs ∧ ∃ o x ob, ops[i]? = some o ∧ p.OL[k]? = some ob ∧ YV C ops ob o x e ∧ wpAnyT C md ops p L f (listed.setIfInBounds i true) (upd e o.dst x) k) ∨
      (p.ms[k]? = some i ∧ ∃ o x ob ob' sv, ops[i]? = some o ∧ p.OL[k]? = some ob ∧ p.OL[k + 1]? = some ob' ∧ p.SL[k]? = some sv ∧ MV C ops ob ob' sv o x e ∧
        wpAnyT C md ops p L f (listed.setIfInBounds i true) (upd (drE sv e) o.dst x) (k + 1))

theorem wpAny_of_T {p : Plan} {g : Nat} {L : Array Bool → Env → Prop} {Q' : Exit → Act → World → Prop} {obm : List Ob} (hm : p.OL[p.ms.length]? = some obm)
    (hL : ∀ listed (l : List (Nat × SV)), L listed (get l) → ∀ Ω a w, Rel C ⟨l, obm⟩ Ω a w → wpAny C.P md ops Q' g listed a w) :
    ∀ (f : Nat) (listed : Array Bool) (l : List (Nat × SV)) (k : Nat) (ob : List Ob), p.OL[k]? = some ob → wpAnyT C md ops p L f listed (get l) k → ∀ Ω a w, Rel C ⟨l, ob⟩ Ω a w → wpAny C.P md ops Q' (f + g) listed a w
  | 0, listed, l, k, ob, hk, h, Ω, a, w, hr => by
    rw [Nat.zero_add]
    obtain ⟨h1, h2⟩ := h
    subst h1
    rw [hm] at hk; cases hk
    exact hL _ _ h2 Ω a w hr
  | f + 1, listed, l, k, ob, hk, h, Ω, a, w, hr => by
    rw [show f + 1 + g = (f + g) + 1 by omega]
    refine ⟨fun h0 => absurd h0 h.1, fun i hi => ?_⟩
    rcases h.2 i hi with ⟨hh, o, x, ob1, ho, h1, hy, hK⟩ | ⟨hmi, o, x, ob1, ob', sv, ho, h1, h2, h3, hmv, hK⟩
    · rw [hk] at h1; cases h1
      have hv : vOp C ops ob i (fun e => wpAnyT C md ops p L f (listed.setIfInBounds i true) e k) (get l) := hy.vOp ho hK
      exact wpOp_of_vOp (obs := ob) (fun l' h' Ω a w hr => wpAny_of_T hm hL f _ l' k ob hk h' Ω a w hr) hv hr
    · rw [hk] at h1; cases h1
      unfold wpOp
      simp only [ho]
      rw [if_pos (by simp [Region.wanted, hmv.1])]
      refine .inl (wp_monoQ (fun a' w' ⟨l', Ω', hg, hr'⟩ => ?_) (fun _ _ _ _ h => h.elim) (hmv.2 l (fun _ _ => rfl) Ω a w hr))
      exact wpAny_of_T hm hL f _ l' (k + 1) ob' h2 (by rw [hg]; exact hK) Ω' a' w' hr'

theorem rel_of {p : Plan} {i k : Nat} {listed : Array Bool} (inv : HInv md ops (p.hs ++ p.ms) listed) (hun : listed.getD i true = false) (hd : DN p listed k) : relK md ops p i k = true := by
  cases k with
  | zero => rfl
  | succ k =>
    cases hj : p.ms[k]? with
    | none => simp [relK, hj]
    | some j =>
      cases hq : ancB md ops ops.size j i with
      | false => simp [relK, hj, hq]
      | true =>
        have hl := hd k j (by omega) hj
        have := anc_listed inv _ j i hq (fun oj hoj e he hb => inv.closed j oj hoj hl e he hb)
        rw [getD_both hun] at this; cases this
theorem wpAnyT_first {p : Plan} {i : Nat} {oi : Oper} {v : SV} {L : Array Bool → Env → Prop} (hi : ops[i]? = some oi) (hF : HFirst md ops (p.hs ++ p.ms)) (hin : i ∈ p.hs) (hOL : ∀ k, k ≤ p.ms.length → ∃ ob, p.OL[k]? = some ob)
    (hdone : ∀ listed a, L listed a → ∀ j ∈ Region.ready md ops listed, j ∉ p.hs ++ p.ms) :
    ∀ (f : Nat) (listed : Array Bool) (a : Env) (k : Nat), HInv md ops (p.hs ++ p.ms) listed → DN p listed k → k ≤ p.ms.length →
      (∀ j oj, ops[j]? = some oj → j ≠ i → listed.getD j true = false → (∀ e ∈ oj.after, Region.binds md e = true → e.on ≠ i) → oi.apart ops oj = true) →
      i ∈ Region.ready md ops listed → YA C md ops p i oi v a → SU md ops p i oi v a →
      wpAnyT C md ops p L f (listed.setIfInBounds i true) (upd a oi.dst v) k → wpAnyT C md ops p L (f + 1) listed a k := by
  intro f
  induction f with
  | zero =>
    intro listed a k inv hdn hkm _ hr hy hs H
    have hun := (mem_ready.1 hr).1
    obtain ⟨ob, hob⟩ := hOL k hkm
    refine ⟨fun h => (by rw [h] at hr; cases hr), fun j hj => ?_⟩
    have hjn := hF listed inv i (List.mem_append_left _ hin) hun j hj
    by_cases hji : j = i
    · subst hji; exact .inl ⟨hin, oi, v, ob, hi, hob, hy k ob hob (rel_of inv hun hdn), H⟩
    · exact absurd hjn (hdone _ _ H.2 j (ready_mono hj hji))
  | succ f ih =>
    intro listed a k inv hdn hkm hfree hr hy hs H
    have hun := (mem_ready.1 hr).1
    obtain ⟨ob, hob⟩ := hOL k hkm
    refine ⟨fun h => (by rw [h] at hr; cases hr), fun j hj => ?_⟩
    have hjn := hF listed inv i (List.mem_append_left _ hin) hun j hj
    by_cases hji : j = i
    · subst hji; exact .inl ⟨hin, oi, v, ob, hi, hob, hy k ob hob (rel_of inv hun hdn), H⟩
    · obtain ⟨hjun, oj, hoj, hall⟩ := mem_ready.1 hj
      have hnot : ∀ e ∈ oj.after, Region.binds md e = true → e.on ≠ i := fun e he hb heq => by
        have h1 := hall e he hb
        rw [heq, getD_both hun] at h1
        cases h1
      have hap := hfree j oj hoj hji hjun hnot
      obtain ⟨a1, a2, a3⟩ := Oper.apart_spec hap
      have hfree' : ∀ k ok, ops[k]? = some ok → k ≠ i → (listed.setIfInBounds j true).getD k true = false →
          (∀ e ∈ ok.after, Region.binds md e = true → e.on ≠ i) → oi.apart ops ok = true := fun k ok hk hki hun hno => by
        refine hfree k ok hk hki ?_ hno
        by_cases hjk : j = k
        · subst hjk; exact hjun
        · rw [getD_set_ne true hjk] at hun; exact hun
      have dn' : DN p (listed.setIfInBounds j true) k := fun k' j' hk' hj' => getD_set_true (hdn k' j' hk' hj')
      rcases H.2 j (ready_mono hj hji) with ⟨hh, o, x, ob1, ho, h1, hyj, hK⟩ | ⟨hmi, o, x, ob1, ob', sv, ho, h1, h2, h3, hmv, hK⟩
      · rw [hoj] at ho; cases ho
        refine .inl ⟨hh, oj, x, ob1, hoj, h1, hyj.congr fun t ht => (upd_ne fun k hk e => a1 k hk (e ▸ ht)).symm, ?_⟩
        refine ih (listed.setIfInBounds j true) _ k (inv.set hj hjn) dn' hkm hfree' (ready_mono hr (Ne.symm hji)) (fun k' ob hob hrel => (hy k' ob hob hrel).congr fun t ht => upd_ne fun k hk e => a3 k hk (e ▸ ht)) ?_ ?_
        · exact fun k' sv j' h1 h2 h3 => ⟨(hs k' sv j' h1 h2 h3).1, fun t ht y hy => (hs k' sv j' h1 h2 h3).2 t ht y (by rw [upd_ne fun k hk e => a3 k hk (e ▸ ht)] at hy; exact hy)⟩
        · rw [upd_comm (fun i hi => fun hk => a2 i hi hk)] at hK
          rw [Array.setIfInBounds_comm _ _ hji]
          exact hK
      · rw [hoj] at ho; cases ho
        have hna : ancB md ops ops.size j i = false := by
          cases hq : ancB md ops ops.size j i with
          | false => rfl
          | true =>
            have := anc_listed inv _ j i hq (fun ok hok e he hb => by rw [hoj] at hok; cases hok; exact hall e he hb)
            rw [getD_both hun] at this; cases this
        have hsv := hs k sv j h3 hmi hna
        have same : ∀ t, t ∈ oi.looksAt ops → upd (drE sv a) oj.dst x t = a t := fun t ht => by
          rw [upd_ne fun k hk e => a3 k hk (e ▸ ht)]
          exact drE_keep (hsv.2 t ht)
        have hlt := (List.getElem?_eq_some_iff.1 hmi).1
        have hjl : (listed.setIfInBounds j true).getD j false = true := by
          have hj2 := (Array.getElem?_eq_some_iff.1 hoj).1
          have : j < listed.size := by rw [inv.size]; exact hj2
          simp [Array.getD, this]
        refine .inr ⟨hmi, oj, x, ob1, ob', sv, hoj, h1, h2, h3, ⟨hmv.1, fun l hl => hmv.2 l fun t ht => (hl t ht).trans (upd_ne fun k hk e => a1 k hk (e ▸ ht)).symm⟩, ?_⟩
        refine ih (listed.setIfInBounds j true) _ (k + 1) (inv.set hj hjn) (fun k' j' hk' hj' => ?_) hlt hfree' (ready_mono hr (Ne.symm hji)) (fun k' ob hob hrel => (hy k' ob hob hrel).congr same) ?_ ?_
        · by_cases he : k' = k
          · subst he; rw [hmi] at hj'; cases hj'; exact hjl
          · exact dn' k' j' (by omega) hj'
        · exact fun k' sv' j' h1 h2 h3 => ⟨(hs k' sv' j' h1 h2 h3).1, fun t ht y hy => (hs k' sv' j' h1 h2 h3).2 t ht y (by rw [same t ht] at hy; exact hy)⟩
        · rw [drE_upd hsv.1, upd_comm (fun i hi => fun hk => a2 i hi hk)] at hK
          rw [Array.setIfInBounds_comm _ _ hji]
          exact hK

/-- The walk: what gives values first, then what turns memory. -/
def AM (C : Ctx) (ops : Array Oper) (p : Plan) : Nat → List Nat → List (Nat × SV) → (St → Prop) → Prop
  | k, [], e, K => ∃ ob, p.OL[k]? = some ob ∧ K ⟨e, ob⟩
  | k, i :: is, e, K => ∃ o x ob ob' sv l', ops[i]? = some o ∧ p.OL[k]? = some ob ∧ p.OL[k + 1]? = some ob' ∧ p.SL[k]? = some sv ∧ MV C ops ob ob' sv o x (get e) ∧ get l' = upd (drE sv (get e)) o.dst x ∧ AM C ops p (k + 1) is l' K
def AH (C : Ctx) (md : Region.Mode) (ops : Array Oper) (p : Plan) : List Nat → List (Nat × SV) → (List (Nat × SV) → Prop) → Prop
  | [], e, K => K e
  | i :: rest, e, K => ∃ o x l', ops[i]? = some o ∧ YA C md ops p i o x (get e) ∧ SU md ops p i o x (get e) ∧ get l' = upd (get e) o.dst x ∧ AH C md ops p rest l' K

theorem wpAnyT_mids {p : Plan} {ts : List Nat} {K : St → Prop} : ∀ (is : List Nat) (k : Nat) (listed : Array Bool) (e : List (Nat × SV)), p.ms.drop k = is → k + is.length = p.ms.length → tailO md ops (is ++ ts) listed = true → AM C ops p k is e K →
    wpAnyT C md ops p (fun listed' a' => tailO md ops ts listed' = true ∧ ∃ l' ob, p.OL[p.ms.length]? = some ob ∧ a' = get l' ∧ K ⟨l', ob⟩) is.length listed (get e) k
  | [], k, listed, e, hd, hl, hB, h => by
    obtain ⟨ob, h1, h2⟩ := h
    have : k = p.ms.length := by simpa using hl
    subst this
    exact ⟨rfl, hB, e, ob, h1, rfl, h2⟩
  | i :: is, k, listed, e, hd, hl, hB, h => by
    obtain ⟨o, x, ob, ob', sv, l', h1, h2, h3, h4, h5, h6, h7⟩ := h
    simp only [List.cons_append, tailO, Bool.and_eq_true, decide_eq_true_eq] at hB
    refine ⟨fun h0 => (by rw [hB.1] at h0; cases h0), fun j hj => ?_⟩
    rw [hB.1] at hj
    have : j = i := by simpa using hj
    subst this
    have hk : p.ms[k]? = some j := by
      have : (p.ms.drop k)[0]? = some j := by rw [hd]; rfl
      rwa [List.getElem?_drop, Nat.add_zero] at this
    refine .inr ⟨hk, o, x, ob, ob', sv, h1, h2, h3, h4, h5, ?_⟩
    rw [← h6]
    exact wpAnyT_mids is (k + 1) _ l' (by rw [← List.drop_drop, hd]; rfl) (by simp only [List.length_cons] at hl; omega) hB.2 h7
theorem wpAnyT_lex {p : Plan} {ts : List Nat} {K : St → Prop} (hOL : ∀ k, k ≤ p.ms.length → ∃ ob, p.OL[k]? = some ob) (hF : HFirst md ops (p.hs ++ p.ms)) (htl : ∀ t ∈ ts, t ∉ p.hs ++ p.ms) :
    ∀ (is : List Nat) (listed : Array Bool) (e : List (Nat × SV)), (∀ i ∈ is, i < ops.size ∧ i ∈ p.hs) → HInv md ops (p.hs ++ p.ms) listed →
    headO md ops (p.ms ++ ts) is listed = true → AH C md ops p is e (fun e' => AM C ops p 0 p.ms e' K) →
    wpAnyT C md ops p (fun listed' a' => tailO md ops ts listed' = true ∧ ∃ l' ob, p.OL[p.ms.length]? = some ob ∧ a' = get l' ∧ K ⟨l', ob⟩) (is.length + p.ms.length) listed (get e) 0
  | [], listed, e, _, _, hB, h => by
    rw [List.length_nil, Nat.zero_add]
    exact wpAnyT_mids p.ms 0 listed e rfl (by simp) hB h
  | i :: is, listed, e, hl, inv, hB, h => by
    have hi := hl i (by simp)
    simp only [headO, Bool.and_eq_true] at hB
    obtain ⟨⟨hr, hf⟩, hB'⟩ := hB
    have hr' : i ∈ Region.ready md ops listed := by simpa using hr
    obtain ⟨o, x, l', h0, hy, hs, hg, hK⟩ := h
    rw [show (i :: is).length + p.ms.length = (is.length + p.ms.length) + 1 by simp; omega]
    refine wpAnyT_first h0 hF hi.2 hOL (fun listed' a' hL => ?_) _ listed _ 0 inv (fun k' j hk' => absurd hk' (Nat.not_lt_zero _)) (Nat.zero_le _) (Region.free_spec h0 hf) hr' hy hs ?_
    · intro j hj
      cases ts with
      | nil => simp only [tailO, List.isEmpty_iff] at hL; rw [hL.1] at hj; cases hj
      | cons t ts =>
        simp only [tailO, Bool.and_eq_true, decide_eq_true_eq] at hL
        rw [hL.1.1] at hj
        have : j = t := by simpa using hj
        subst this
        exact htl j (by simp)
    · rw [← hg]
      exact wpAnyT_lex hOL hF htl is _ l' (fun j hj => hl j (by simp [hj])) (inv.set hr' (List.mem_append_left _ hi.2)) hB' hK

def drawMB (ops : Array Oper) (hs ms ts : List Nat) : Bool :=
  hs.all (· < ops.size) && ts.all (· < ops.size) && ts.all (fun t => !(hs ++ ms).contains t) && (hs.length + ms.length + ts.length == ops.size) &&
  ((List.range ops.size).all fun t => (hs ++ ms).contains t || (ts.contains t && (hs ++ ms).all (ancB .any ops ops.size t))) && headO .any ops (ms ++ ts) hs (Array.replicate ops.size false)

theorem AC.drawM {id : Nat} {l : List Oper} {s : St} {Q : Exit → St → Prop} (hs ms ts : List Nat) (OL : List (List Ob)) (SL : List (SV → Bool)) (hm : C.P.follows .mixedOrders = true) (hB : drawMB l.toArray hs ms ts = true)
    (h0 : OL[0]? = some s.obs) {obm : List Ob} (h1 : OL[ms.length]? = some obm)
    (h : AH C .any l.toArray ⟨hs, ms, OL, SL⟩ hs s.env (fun e' => AM C l.toArray ⟨hs, ms, OL, SL⟩ 0 ms e' (fun s' => AO C l.toArray (opsAt l.toArray ts) s' Q))) : AC C (.region id l.toArray true) s Q := fun Ω a w hr => by
  simp only [drawMB, Bool.and_eq_true, beq_iff_eq] at hB
  obtain ⟨⟨⟨⟨⟨b1, b2⟩, b3⟩, b4⟩, b5⟩, b6⟩ := hB
  have hF : HFirst .any l.toArray (hs ++ ms) := by
    intro listed inv i hi hun j hj
    obtain ⟨_, oj, hoj, hall⟩ := mem_ready.1 hj
    have hlt := (Array.getElem?_eq_some_iff.1 hoj).1
    have := List.all_eq_true.1 b5 j (List.mem_range.2 hlt)
    simp only [Bool.or_eq_true, Bool.and_eq_true, List.contains_iff_mem] at this
    rcases this with h | ⟨_, h⟩
    · exact h
    · have ha := anc_listed inv _ j i (List.all_eq_true.1 h i hi) (fun ok hk e he hb => by
        have : ok = oj := Option.some.inj (hk.symm.trans hoj)
        subst this
        exact hall e he hb)
      rw [getD_both hun] at ha
      cases ha
  have inv0 : HInv .any l.toArray (hs ++ ms) (Array.replicate l.toArray.size false) :=
    ⟨by simp, fun j oj _ hl => (by rw [getD_replicate_false] at hl; cases hl), fun t _ ht => getD_in (by simpa using ht) (getD_replicate_false _ _)⟩
  have H := wpAnyT_lex (md := .any) (p := ⟨hs, ms, OL, SL⟩) (ts := ts) (fun k hk => ⟨OL[k]'(by have := (List.getElem?_eq_some_iff.1 h1).1; have hk' : k ≤ ms.length := hk; omega), List.getElem?_eq_getElem _⟩) hF (fun t ht => by have := List.all_eq_true.1 b3 t ht; simpa using this) hs _ s.env (fun i hi => ⟨by have := List.all_eq_true.1 b1 i hi; simpa using this, hi⟩) inv0 b6 h
  refine wp_region_any hm ?_
  have := wpAny_of_T (Q' := Lift C Q) (p := ⟨hs, ms, OL, SL⟩) (g := ts.length) h1 (fun listed e hL Ω a w hr => by
    obtain ⟨h7, l', ob, ho, he, hK⟩ := hL
    have ho' : OL[ms.length]? = some ob := ho
    rw [h1] at ho'; cases ho'
    exact wpAny_of_tailO ts listed a w b2 h7 (hK Ω a w (hr.congr fun t x hx => by rw [he]; exact hx))) _ _ s.env 0 s.obs h0 H Ω a _ hr.drew
  have e4 : hs.length + ms.length + ts.length = l.toArray.size := b4
  rw [e4] at this
  exact this

/-! ### How the walk is printed -/
variable {p : Plan} {rest : List Oper} {o : Oper} {e L : List (Nat × SV)} {d j dj : Nat} {x : SV} {want b : Bool} {K : List (Nat × SV) → Prop} {KS : St → Prop}
def GA (C : Ctx) (ops : Array Oper) (OL : List (List Ob)) (ks : List Nat) (o : Oper) (L : List (Nat × SV)) (d : Nat) (x : SV) : Prop := ∀ k ∈ ks, ∀ ob, OL[k]? = some ob → Gives C ops ob o L d x
theorem GA.nil {OL : List (List Ob)} {o : Oper} {L : List (Nat × SV)} {d : Nat} {x : SV} : GA C ops OL [] o L d x := fun k h => by cases h
theorem GA.cons {OL : List (List Ob)} {k : Nat} {ks : List Nat} {o : Oper} {L : List (Nat × SV)} {d : Nat} {x : SV} {ob : List Ob} (hk : OL[k]? = some ob) (h : Gives C ops ob o L d x) (t : GA C ops OL ks o L d x) : GA C ops OL (k :: ks) o L d x := fun k' hk' ob' hb => by
  rcases List.mem_cons.1 hk' with rfl | h'
  · rw [hk] at hb; cases hb; exact h
  · exact t k' h' ob' hb
def SA (SL : List (SV → Bool)) (L : List (Nat × SV)) (x : SV) : List Nat → Bool
  | [] => true
  | k :: ks => (match SL[k]? with | some sv => sv x && L.all fun q => sv q.2 | none => true) && SA SL L x ks
theorem SA.spec {SL : List (SV → Bool)} {L : List (Nat × SV)} {x : SV} : ∀ {ks : List Nat}, SA SL L x ks = true → ∀ k ∈ ks, ∀ sv, SL[k]? = some sv → sv x = true ∧ L.all (fun q => sv q.2) = true
  | [], _, k, hk, _, _ => by cases hk
  | k0 :: ks, h, k, hk, sv, hsv => by
    simp only [SA, Bool.and_eq_true] at h
    rcases List.mem_cons.1 hk with rfl | h'
    · rw [hsv] at h; simpa using h.1
    · exact SA.spec h.2 k h' sv hsv
/-- ks: behind how many of those that turn memory number i may come up; ss: which of them do not wait for it. -/
def relB (ops : Array Oper) (ms : List Nat) (i : Nat) (ks ss : List Nat) : Bool :=
  (List.range (ms.length + 1)).all (fun k => (match k with | 0 => false | k + 1 => match ms[k]? with | some j => ancB .any ops ops.size j i | none => false) || ks.contains k) &&
  (List.range ms.length).all (fun k => (match ms[k]? with | some j => ancB .any ops ops.size j i | none => false) || ss.contains k)
theorem keep_all {ks : List Nat} (hk : keep ks e = some L) (hl : looksB ops o ks = true) {sv : SV → Bool} (h : L.all (fun q => sv q.2) = true) : ∀ t, t ∈ o.looksAt ops → ∀ y, get e t = some y → sv y = true := fun t ht y hy => by
  simp only [looksB, Bool.and_eq_true, List.all_eq_true, List.contains_iff_mem] at hl
  obtain ⟨h1, _⟩ := (keep_get' hk t).1 (hl.1 t ht)
  rw [← h1] at hy
  have hmem : ∀ {l : List (Nat × SV)}, get l t = some y → (t, y) ∈ l := fun {l} => by
    induction l with
    | nil => intro h; cases h
    | cons q l ih =>
      obtain ⟨k, z⟩ := q
      intro h
      simp only [get] at h
      split at h
      · rename_i e; subst e; cases h; simp
      · simp [ih h]
  exact List.all_eq_true.1 h _ (hmem hy)
theorem AH.done (h : AM C ops p 0 p.ms e KS) : AH C .any ops p [] e (fun e' => AM C ops p 0 p.ms e' KS) := h
theorem AH.op {i : Nat} {is : List Nat} (ls ks ss : List Nat) (h0 : ops[i]? = some o) (hg : o.guard = none) (hl : looksB ops o ls = true) (hrel : relB ops p.ms i ks ss = true) (hlen : p.OL.length = p.ms.length + 1) (hk : keep ls e = some L) (hd : o.dst = some d)
    (hv : GA C ops p.OL ks o L d x) (hs : SA p.SL L x ss = true) (h : AH C .any ops p is ((d, x) :: e) K) : AH C .any ops p (i :: is) e K := by
  simp only [relB, Bool.and_eq_true, List.all_eq_true, List.mem_range, Bool.or_eq_true, List.contains_iff_mem] at hrel
  refine ⟨o, x, (d, x) :: e, h0, fun k ob hob hr => .inl ⟨by unfold wantE; rw [hg], VQ.of hk hl hd (hv k ?_ ob hob)⟩, fun k sv j h1 h2 h3 => ?_, by rw [hd, get_upd], h⟩
  · have hlt := (List.getElem?_eq_some_iff.1 hob).1
    rcases hrel.1 k (by omega) with h | h
    · exfalso
      cases k with
      | zero => cases h
      | succ k =>
        simp only [relK] at hr
        simp only at h
        split at h
        · rename_i j hj
          rw [hj] at hr
          simp [h] at hr
        · cases h
    · exact h
  · have hlt := (List.getElem?_eq_some_iff.1 h2).1
    rcases hrel.2 k hlt with h | h
    · rw [h2] at h; simp only at h; rw [h3] at h; cases h
    · obtain ⟨q1, q2⟩ := SA.spec hs k h sv h1
      exact ⟨q1, keep_all hk hl q2⟩
theorem AM.done {k : Nat} {ob : List Ob} (h1 : p.OL[k]? = some ob) (h : KS ⟨e, ob⟩) : AM C ops p k [] e KS := ⟨ob, h1, h⟩
theorem AM.op {k i : Nat} {is : List Nat} (ks : List Nat) {ob ob' : List Ob} {sv : SV → Bool} (h1 : ops[i]? = some o) (h2 : p.OL[k]? = some ob) (h3 : p.OL[k + 1]? = some ob') (h4 : p.SL[k]? = some sv) (hg : o.guard = none)
    (hl : looksB ops o ks = true) (hk : keep ks e = some L) (hd : o.dst = some d)
    (hv : ∀ (e : List (Nat × SV)) (Q : Exit → St → Prop), AO C ops [] ⟨(d, x) :: dropS sv [] (L ++ e), ob'⟩ Q → AOp C ops [] o ⟨L ++ e, ob⟩ Q)
    {e' : List (Nat × SV)} (he : dropS sv [] e = e') (h : AM C ops p (k + 1) is ((d, x) :: e') KS) : AM C ops p k (i :: is) e KS := by
  subst he
  have hdr : ∀ l : List (Nat × SV), get (dropS sv [] l) = drE sv (get l) := fun l => by funext t; rw [get_dropS]; simp
  refine ⟨o, x, ob, ob', sv, (d, x) :: dropS sv [] e, h1, h2, h3, h4, ⟨hg, ?_⟩, by rw [hd, get_upd, hdr], h⟩
  intro l hg' Ω a w hr
  simp only [looksB, Bool.and_eq_true, List.all_eq_true, List.contains_iff_mem] at hl
  have hsame : ∀ t, get (L ++ l) t = get l t := fun t => by
    rw [get_append]
    by_cases ht : t ∈ ks
    · obtain ⟨h1, h2⟩ := (keep_get' hk t).1 ht
      rw [h1]
      have := hg' t (hl.2 t ht)
      rw [this]
      cases get e t <;> rfl
    · rw [(keep_get' hk t).2 ht]
  have hr' : Rel C ⟨L ++ l, ob⟩ Ω a w := hr.congr fun t y hy => by rw [← hsame t]; exact hy
  have H := hv l (fun ed s => ed = .normal ∧ s = ⟨(d, x) :: dropS sv [] (L ++ l), ob'⟩) (AO.nil ⟨rfl, rfl⟩) Ω a w hr'
  refine wp_monoQ (fun a' w' hq => ?_) (fun ed a' w' hne hq => ?_) H
  · obtain ⟨s, Ω', hr2, _, hs⟩ := hq
    subst hs
    refine ⟨_, Ω', ?_, hr2⟩
    rw [hd, get_upd, hdr]
    congr 1
    congr 1
    funext t; exact hsame t
  · obtain ⟨s, Ω', _, he, _⟩ := hq
    exact hne he
end
section
variable {C : Ctx} {Q : Exit → St → Prop} {ops : Array Oper} {rest : List Oper} {o : Oper} {e : List (Nat × SV)} {obs : List Ob} {d : Nat}
theorem dropO_dropS (p : Nat) : ∀ (e : List (Nat × SV)) (seen : List Nat), dropO p seen e = dropS (SV.noO p) seen e
  | [], seen => rfl
  | (k, x) :: r, seen => by simp only [dropO, dropS, dropO_dropS p r]
/-- The slots that remain are told. -/
theorem AO.forget {l : List Oper} {e' : List (Nat × SV)} (hg : ∀ t y, get e' t = some y → get e t = some y) (h : AO C ops l ⟨e', obs⟩ Q) : AO C ops l ⟨e, obs⟩ Q := fun Ω a w hr => h Ω a w (hr.congr hg)
theorem AO.dropped {l : List Oper} {p : Nat} {x : SV} (h : AO C ops l ⟨(d, x) :: dropS (SV.noO p) [] e, obs⟩ Q) : AO C ops l ⟨(d, x) :: dropO p [] e, obs⟩ Q := by rw [dropO_dropS]; exact h
theorem AO.dropLe {l : List Oper} {sv : SV → Bool} {x : SV} (h : AO C ops l ⟨(d, x) :: dropS sv [] e, obs⟩ Q) : AO C ops l ⟨(d, x) :: e, obs⟩ Q :=
  AO.forget (fun q z hq => by
    simp only [get] at hq ⊢
    split at hq
    · rename_i h; rw [if_pos h]; exact hq
    · rename_i h
      rw [if_neg h]
      rw [get_dropS] at hq
      simp only [List.not_mem_nil, if_false] at hq
      exact (drE_some hq).1) h
theorem thaw_noO {p : Nat} {x : D} {y : SV} (h : y.noO p = true) : y.thaw p x = y := by
  cases y with
  | own q => simp [SV.thaw, SV.noO] at *; exact fun e => absurd e h
  | sl q sz off len cap => simp [SV.thaw, SV.noO] at *; intro e; exact absurd e h
  | ag l =>
    simp only [SV.thaw, SV.noO] at *
    congr 1
    have : ∀ z ∈ l, (match z with | .own q => if q = p then SV.d x else .own q | z => z) = z := fun z hz => by
      obtain ⟨i, hi⟩ := List.getElem?_of_mem hz
      have := SV.noOL_get h hi
      cases z <;> first | rfl | (simp [SV.noO] at this; simp [this])
    exact (List.map_congr_left this).trans (List.map_id' l)
  | _ => rfl
theorem thawE_some {p : Nat} {x : D} : ∀ {e : List (Nat × SV)} {t : Nat} {y : SV}, get e t = some y → get (thawE p x e) t = some (y.thaw p x)
  | [], _, _, h => by cases h
  | (k, z) :: r, t, y, h => by
    simp only [thawE, get] at h ⊢
    split at h
    · rename_i hk; cases h; rw [if_pos hk]
    · rename_i hk; rw [if_neg hk]; exact thawE_some h
/-- A slice of one's own becomes data in one slot; the others are forgotten. -/
theorem AOp.freezeDrop (t p : Nat) {ty sz : Nat} {cells : List D} (hm : C.may = []) (hx : get e t = some (.own p)) (hp : obs[p]? = some (.grow ty sz cells))
    (h : AOp C ops rest o ⟨(t, .d (.ds sz cells)) :: dropS (SV.noO p) [] e, obs.set p .dead⟩ Q) : AOp C ops rest o ⟨e, obs⟩ Q := fun Ω a w hr => by
  refine h Ω a w ((hr.freezeGrow hm hp).congr fun q y hq => ?_)
  simp only [get] at hq
  split at hq
  · rename_i hqt; subst hqt; cases hq
    rw [thawE_some hx]
    simp [SV.thaw]
  · rw [get_dropS] at hq
    simp only [List.not_mem_nil, if_false] at hq
    obtain ⟨h1, h2⟩ := drE_some hq
    rw [thawE_some h1, thaw_noO h2]
theorem AO.forget1 {l : List Oper} {t d : Nat} {x y : SV} {sv : SV → Bool} (hx : sv x = false ∨ True) (h : AO C ops l ⟨(d, y) :: dropS sv [] e, obs⟩ Q) (hn : get (dropS sv [] e) t = none ∨ t = d ∨ get (dropS sv [] e) t = some x) : AO C ops l ⟨(d, y) :: (t, x) :: dropS sv [] e, obs⟩ Q :=
  AO.forget (fun q z hq => by
    simp only [get] at hq ⊢
    split at hq
    · rename_i h; rw [if_pos h]; exact hq
    · rename_i h
      rw [if_neg h]
      by_cases ht : t = q
      · subst ht
        rw [if_pos rfl]
        rcases hn with hn | hn | hn
        · rw [hn] at hq; cases hq
        · exact absurd hn.symm h
        · rw [hn] at hq; exact hq
      · rw [if_neg ht]; exact hq) h
/-- A slot that is dropped is not there. -/
theorem dropped_none {p : Nat} {t : Nat} {e : List (Nat × SV)} {x : SV} (hx : get e t = some x) (h : x.noO p = false) : get (dropS (SV.noO p) [] e) t = none := by
  rw [get_dropS]; simp [drE, hx, h]
end
end Go.Vm
