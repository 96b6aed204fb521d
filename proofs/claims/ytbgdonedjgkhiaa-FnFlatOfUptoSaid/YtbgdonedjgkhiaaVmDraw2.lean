/- Regions that draw their order, walked in an order of one's own. -/
import Derived.Test.YtbgdonedjgkhiaaVmMore
set_option linter.unusedVariables false
namespace Go.Vm

section
variable {C : Ctx} {ops : Array Oper} {obs : List Ob} {md : Region.Mode}

structure HInv (md : Region.Mode) (ops : Array Oper) (hs : List Nat) (listed : Array Bool) : Prop where
  size : listed.size = ops.size
  closed : ∀ j oj, ops[j]? = some oj → listed.getD j false = true → ∀ e ∈ oj.after, Region.binds md e = true → listed.getD e.on false = true
  tail : ∀ t, t ∉ hs → t < ops.size → listed.getD t true = false

theorem HInv.set {hs : List Nat} {i : Nat} {listed : Array Bool} (inv : HInv md ops hs listed) (hi : i ∈ Region.ready md ops listed) (hin : i ∈ hs) : HInv md ops hs (listed.setIfInBounds i true) := by
  obtain ⟨_, oi, hoi, hall⟩ := mem_ready.1 hi
  refine ⟨by simp [inv.size], fun j oj hj hl e he hb => ?_, fun t ht ht' => by rw [getD_set_ne true (show i ≠ t from fun e => ht (by rw [← e]; exact hin))]; exact inv.tail t ht ht'⟩
  by_cases hij : i = j
  · subst hij
    have : oj = oi := Option.some.inj (hj.symm.trans hoi)
    subst this
    exact getD_set_true (hall e he hb)
  · rw [getD_set_ne false hij] at hl
    exact getD_set_true (inv.closed j oj hj hl e he hb)

/-- Number j waits for number i, through others. -/
def ancB (md : Region.Mode) (ops : Array Oper) : Nat → Nat → Nat → Bool
  | 0, _, _ => false
  | f + 1, j, i => match ops[j]? with
    | some oj => oj.after.any fun e => Region.binds md e && (e.on == i || ancB md ops f e.on i)
    | none => false
theorem anc_listed {hs : List Nat} {listed : Array Bool} (inv : HInv md ops hs listed) : ∀ (f j i : Nat), ancB md ops f j i = true → (∀ oj, ops[j]? = some oj → ∀ e ∈ oj.after, Region.binds md e = true → listed.getD e.on false = true) → listed.getD i false = true
  | 0, _, _, h, _ => by cases h
  | f + 1, j, i, h, hd => by
    unfold ancB at h
    split at h
    · rename_i oj hj
      obtain ⟨e, he, hb⟩ := Array.any_eq_true'.1 h
      simp only [Bool.and_eq_true, Bool.or_eq_true, beq_iff_eq] at hb
      have hl := hd oj hj e he hb.1
      rcases hb.2 with rfl | hb2
      · exact hl
      · exact anc_listed inv f e.on i hb2 (fun ok hk e' he' hb' => inv.closed e.on ok hk hl e' he' hb')
    · cases h

def HFirst (md : Region.Mode) (ops : Array Oper) (hs : List Nat) : Prop := ∀ listed, HInv md ops hs listed → ∀ i ∈ hs, listed.getD i true = false → ∀ j ∈ Region.ready md ops listed, j ∈ hs

def wpAnyO (C : Ctx) (md : Region.Mode) (ops : Array Oper) (obs : List Ob) (hs : List Nat) (L : Array Bool → Env → Prop) : Nat → Array Bool → Env → Prop
  | 0, listed, e => L listed e
  | f + 1, listed, e => Region.ready md ops listed ≠ [] ∧ ∀ i ∈ Region.ready md ops listed, i ∈ hs ∧ vOp C ops obs i (wpAnyO C md ops obs hs L f (listed.setIfInBounds i true)) e

theorem wpAny_of_O {hs : List Nat} {g : Nat} {L : Array Bool → Env → Prop} {Q' : Exit → Act → World → Prop} (hL : ∀ listed (l : List (Nat × SV)), L listed (get l) → ∀ Ω a w, Rel C ⟨l, obs⟩ Ω a w → wpAny C.P md ops Q' g listed a w) :
    ∀ (f : Nat) (listed : Array Bool) (l : List (Nat × SV)), wpAnyO C md ops obs hs L f listed (get l) → ∀ Ω a w, Rel C ⟨l, obs⟩ Ω a w → wpAny C.P md ops Q' (f + g) listed a w
  | 0, listed, l, h, Ω, a, w, hr => by rw [Nat.zero_add]; exact hL _ _ h Ω a w hr
  | f + 1, listed, l, h, Ω, a, w, hr => by
    rw [show f + 1 + g = (f + g) + 1 by omega]
    exact ⟨fun h0 => absurd h0 h.1, fun i hi => wpOp_of_vOp (fun l' h' Ω a w hr => wpAny_of_O hL f _ l' h' Ω a w hr) (h.2 i hi).2 hr⟩

theorem wpAnyO_first {hs : List Nat} {i : Nat} {oi : Oper} {v : SV} {L : Array Bool → Env → Prop} (hi : ops[i]? = some oi) (hF : HFirst md ops hs) (hin : i ∈ hs)
    (hdone : ∀ listed a, L listed a → ∀ j ∈ Region.ready md ops listed, j ∉ hs) :
    ∀ (f : Nat) (listed : Array Bool) (a : Env), HInv md ops hs listed →
      (∀ j oj, ops[j]? = some oj → j ≠ i → listed.getD j true = false → (∀ e ∈ oj.after, Region.binds md e = true → e.on ≠ i) → oi.apart ops oj = true) →
      i ∈ Region.ready md ops listed → YV C ops obs oi v a →
      wpAnyO C md ops obs hs L f (listed.setIfInBounds i true) (upd a oi.dst v) → wpAnyO C md ops obs hs L (f + 1) listed a := by
  intro f
  induction f with
  | zero =>
    intro listed a inv _ hr hy H
    have hun := (mem_ready.1 hr).1
    refine ⟨fun h => (by rw [h] at hr; cases hr), fun j hj => ?_⟩
    have hjn : j ∈ hs := hF listed inv i hin hun j hj
    refine ⟨hjn, ?_⟩
    by_cases hji : j = i
    · subst hji; exact hy.vOp hi H
    · exact absurd hjn (hdone _ _ H j (ready_mono hj hji))
  | succ f ih =>
    intro listed a inv hfree hr hy H
    have hun := (mem_ready.1 hr).1
    refine ⟨fun h => (by rw [h] at hr; cases hr), fun j hj => ?_⟩
    have hjn : j ∈ hs := hF listed inv i hin hun j hj
    refine ⟨hjn, ?_⟩
    by_cases hji : j = i
    · subst hji; exact hy.vOp hi H
    · have h1 := (H.2 j (ready_mono hj hji)).2
      obtain ⟨hjun, oj, hoj, hall⟩ := mem_ready.1 hj
      have hnot : ∀ e ∈ oj.after, Region.binds md e = true → e.on ≠ i := fun e he hb heq => by
        have h1 := hall e he hb
        rw [heq, getD_both hun] at h1
        cases h1
      have h2 := vOp_put hoj (hfree j oj hoj hji hjun hnot) hy h1
      have hfree' : ∀ k ok, ops[k]? = some ok → k ≠ i → (listed.setIfInBounds j true).getD k true = false →
          (∀ e ∈ ok.after, Region.binds md e = true → e.on ≠ i) → oi.apart ops ok = true := fun k ok hk hki hun hno => by
        refine hfree k ok hk hki ?_ hno
        by_cases hjk : j = k
        · subst hjk; exact hjun
        · rw [getD_set_ne true hjk] at hun; exact hun
      refine vOp_mono (fun a' h3 => ih (listed.setIfInBounds j true) a' (inv.set hj hjn) hfree' (ready_mono hr (Ne.symm hji)) h3.1 ?_) h2
      rw [Array.setIfInBounds_comm _ _ hji]
      exact h3.2

def tailO (md : Region.Mode) (ops : Array Oper) : List Nat → Array Bool → Bool
  | [], listed => (Region.ready md ops listed).isEmpty
  | t :: ts, listed => decide (Region.ready md ops listed = [t]) && tailO md ops ts (listed.setIfInBounds t true)
def headO (md : Region.Mode) (ops : Array Oper) (ts : List Nat) : List Nat → Array Bool → Bool
  | [], listed => tailO md ops ts listed
  | i :: is, listed => (Region.ready md ops listed).contains i && Region.free md ops listed i && headO md ops ts is (listed.setIfInBounds i true)
def opsAt (ops : Array Oper) (is : List Nat) : List Oper := is.map fun i => ops.getD i default

theorem wpAny_of_tailO {Q' : Exit → Act → World → Prop} {P : Program} : ∀ (ts : List Nat) (listed : Array Bool) (a : Act) (w : World), ts.all (· < ops.size) = true →
    tailO md ops ts listed = true → wpList P ops Q' (opsAt ops ts) a w → wpAny P md ops Q' ts.length listed a w
  | [], _, _, _, _, hB, h => ⟨by simpa [tailO] using hB, h⟩
  | t :: ts, listed, a, w, hl, hB, h => by
    simp only [List.all_cons, Bool.and_eq_true, decide_eq_true_eq] at hl
    have h0 : ops[t]? = some (ops.getD t default) := by simp [hl.1]
    simp only [tailO, Bool.and_eq_true, decide_eq_true_eq] at hB
    refine ⟨fun h1 => (by rw [hB.1] at h1; cases h1), fun i hi => ?_⟩
    rw [hB.1] at hi
    have hik : i = t := by simpa using hi
    subst hik
    have hw : wpOp P ops Q' i (wpList P ops Q' (opsAt ops ts)) a w := by unfold wpOp; simp only [h0]; exact h
    exact wpOp_mono (fun a' w' h' => wpAny_of_tailO ts _ a' w' hl.2 hB.2 h') hw

theorem wpAnyO_lex {hs ts : List Nat} {K : St → Prop} (hF : HFirst md ops hs) (htl : ∀ t ∈ ts, t ∉ hs) :
    ∀ (is : List Nat) (listed : Array Bool) (e : List (Nat × SV)), (∀ i ∈ is, i < ops.size ∧ i ∈ hs) → HInv md ops hs listed →
    headO md ops ts is listed = true → AD C ops (opsAt ops is) ⟨e, obs⟩ K →
    wpAnyO C md ops obs hs (fun listed' a' => tailO md ops ts listed' = true ∧ ∃ l', a' = get l' ∧ K ⟨l', obs⟩) is.length listed (get e)
  | [], listed, e, _, _, hB, h => ⟨hB, e, rfl, h⟩
  | i :: is, listed, e, hl, inv, hB, h => by
    have hi := hl i (by simp)
    have h0 : ops[i]? = some (ops.getD i default) := by simp [hi.1]
    simp only [headO, Bool.and_eq_true] at hB
    obtain ⟨⟨hr, hf⟩, hB'⟩ := hB
    have hr' : i ∈ Region.ready md ops listed := by simpa using hr
    obtain ⟨x, l', hy, hg, hK⟩ := h
    refine wpAnyO_first h0 hF hi.2 (fun listed' a' hL => ?_) is.length listed _ inv (Region.free_spec h0 hf) hr' hy ?_
    · intro j hj
      cases ts with
      | nil => simp only [tailO, List.isEmpty_iff] at hL; rw [hL.1] at hj; cases hj
      | cons t ts =>
        simp only [tailO, Bool.and_eq_true, decide_eq_true_eq] at hL
        rw [hL.1.1] at hj
        have : j = t := by simpa using hj
        subst this
        exact htl j (by simp)
    · rw [← hg]
      exact wpAnyO_lex hF htl is _ l' (fun j hj => hl j (by simp [hj])) (inv.set hr' hi.2) hB' hK

def drawOB (ops : Array Oper) (is ts : List Nat) : Bool :=
  is.all (· < ops.size) && ts.all (· < ops.size) && ts.all (fun t => !is.contains t) && (is.length + ts.length == ops.size) &&
  ((List.range ops.size).all fun t => is.contains t || (ts.contains t && is.all (ancB .any ops ops.size t))) && headO .any ops ts is (Array.replicate ops.size false)

theorem AC.drawO {id : Nat} {l : List Oper} {s : St} {Q : Exit → St → Prop} (is ts : List Nat) (hm : C.P.follows .mixedOrders = true) (hB : drawOB l.toArray is ts = true)
    (h : AD C l.toArray (opsAt l.toArray is) s (fun s' => AO C l.toArray (opsAt l.toArray ts) s' Q)) : AC C (.region id l.toArray true) s Q := fun Ω a w hr => by
  simp only [drawOB, Bool.and_eq_true, beq_iff_eq] at hB
  obtain ⟨⟨⟨⟨⟨h1, h2⟩, h3⟩, h4⟩, h5⟩, h6⟩ := hB
  have hF : HFirst .any l.toArray is := by
    intro listed inv i hi hun j hj
    obtain ⟨_, oj, hoj, hall⟩ := mem_ready.1 hj
    have hlt := (Array.getElem?_eq_some_iff.1 hoj).1
    have := List.all_eq_true.1 h5 j (List.mem_range.2 hlt)
    simp only [Bool.or_eq_true, Bool.and_eq_true, List.contains_iff_mem] at this
    rcases this with h | ⟨_, h⟩
    · exact h
    · have ha := anc_listed inv _ j i (List.all_eq_true.1 h i hi) (fun ok hk e he hb => by
        have : ok = oj := Option.some.inj (hk.symm.trans hoj)
        subst this
        exact hall e he hb)
      rw [getD_both hun] at ha
      cases ha
  have inv0 : HInv .any l.toArray is (Array.replicate l.toArray.size false) :=
    ⟨by simp, fun j oj _ hl => (by rw [getD_replicate_false] at hl; cases hl), fun t _ ht => getD_in (by simpa using ht) (getD_replicate_false _ _)⟩
  have H := wpAnyO_lex (md := .any) (ts := ts) hF (fun t ht => by have := List.all_eq_true.1 h3 t ht; simpa using this) is _ s.env (fun i hi => ⟨by have := List.all_eq_true.1 h1 i hi; simpa using this, hi⟩) inv0 h6 h
  refine wp_region_any hm ?_
  have := wpAny_of_O (Q' := Lift C Q) (g := ts.length) (fun listed e hL Ω a w hr => by
    obtain ⟨h7, l', he, hK⟩ := hL
    exact wpAny_of_tailO ts listed a w h2 h7 (hK Ω a w (hr.congr fun t x hx => by rw [he]; exact hx))) _ _ _ H Ω a _ hr.drew
  rw [h4] at this
  exact this
end
end Go.Vm
