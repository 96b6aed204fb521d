/- Regions that draw their order, with one operation (a call gone through in place) for which all ahead of it wait, and which all behind it wait for. -/
import Derived.Test.YtbgdonedjgkhiaaVmErr
set_option linter.unusedVariables false
namespace Go.Vm
section
variable {C : Ctx} {ops : Array Oper} {obs : List Ob} {md : Region.Mode}
/-- What is listed at the end: then only the call is ready; behind it the others come in the text's order. -/
def callE (ops : Array Oper) (n : Nat) (listed : Array Bool) : Bool := (Region.ready .any ops listed == [n]) && Region.lexHead .any ops 0 (ops.size - (n + 1)) (n + 1) (listed.setIfInBounds n true)
def lexC (ops : Array Oper) (n : Nat) : Nat → Nat → Array Bool → Bool
  | 0, _, listed => callE ops n listed
  | f + 1, k, listed => (Region.ready .any ops listed).contains k && Region.free .any ops listed k && lexC ops n f (k + 1) (listed.setIfInBounds k true)
theorem callE_ready {n : Nat} {listed : Array Bool} (h : callE ops n listed = true) : ∀ j ∈ Region.ready .any ops listed, n ≤ j := by
  intro j hj
  simp only [callE, Bool.and_eq_true, beq_iff_eq] at h
  rw [h.1] at hj
  have : j = n := by simpa using hj
  omega
theorem wpAnyV_lexC {n : Nat} {K : St → Prop} (hF : HeadFirst .any ops n) :
    ∀ (l : List Oper) (k : Nat) (listed : Array Bool) (e : List (Nat × SV)), (∀ j, j < l.length → l[j]? = ops[k + j]?) → k + l.length = n → HeadInv .any ops n listed →
    lexC ops n l.length k listed = true → AD C ops l ⟨e, obs⟩ K →
    wpAnyV C .any ops obs n (fun listed' a' => (callE ops n listed' = true ∧ HeadInv .any ops n listed') ∧ ∃ l', a' = get l' ∧ K ⟨l', obs⟩) l.length listed (get e)
  | [], k, listed, e, _, hk, inv, hB, h => ⟨⟨hB, inv⟩, e, rfl, h⟩
  | o :: l, k, listed, e, hl, hk, inv, hB, h => by
    have h0 : ops[k]? = some o := by simpa using (hl 0 (by simp)).symm
    simp only [List.length_cons, lexC, Bool.and_eq_true] at hB
    obtain ⟨⟨hr, hf⟩, hB'⟩ := hB
    have hkn : k < n := by simp only [List.length_cons] at hk; omega
    have hr' : k ∈ Region.ready .any ops listed := by simpa using hr
    obtain ⟨x, l', hy, hg, hK⟩ := h
    refine wpAnyV_first h0 hF hkn (fun listed' a' hL => callE_ready hL.1.1) l.length listed _ inv (Region.free_spec h0 hf) hr' hy ?_
    rw [← hg]
    exact wpAnyV_lexC hF l (k + 1) _ l' (fun j hj => by have := hl (j + 1) (by simp; omega); simpa [Nat.add_assoc, Nat.add_comm 1 j] using this) (by simp only [List.length_cons] at hk; omega) (inv.set hr' hkn) hB' hK
/-- The others wait for all of the first n. -/
def waitB (ops : Array Oper) (n : Nat) : Bool := (List.range ops.size).all fun t => decide (t < n) || (List.range n).all (ancB .any ops ops.size t)
theorem headFirst_wait {n : Nat} (h : waitB ops n = true) : HeadFirst .any ops n := by
  intro listed inv i hi hun j hj
  obtain ⟨_, oj, hoj, hall⟩ := mem_ready.1 hj
  have hlt := (Array.getElem?_eq_some_iff.1 hoj).1
  have := List.all_eq_true.1 h j (List.mem_range.2 hlt)
  simp only [Bool.or_eq_true, decide_eq_true_eq] at this
  rcases this with h | h
  · exact h
  · have inv' : HInv .any ops (List.range n) listed := ⟨inv.size, inv.closed, fun t h1 h2 => inv.tail t (by simpa using h1) h2⟩
    have ha := anc_listed inv' _ j i (List.all_eq_true.1 h i (List.mem_range.2 hi)) (fun ok hk e he hb => by
      have : ok = oj := Option.some.inj (hk.symm.trans hoj)
      subst this
      exact hall e he hb)
    rw [getD_both hun] at ha
    cases ha
def drawCB (ops : Array Oper) (n : Nat) : Bool := decide (n < ops.size) && waitB ops n && lexC ops n n 0 (Array.replicate ops.size false)
/-- Behind the call: the others, in whatever order. -/
def CallQ (C : Ctx) (ops : Array Oper) (l : List Oper) (Q : Exit → St → Prop) : Exit → St → Prop
  | .normal, s => AD C ops l s (fun s' => AO C ops [] s' Q)
  | e, s => Q e s
theorem CallQ.ne {l : List Oper} {Q : Exit → St → Prop} {e : Exit} {s : St} (he : e ≠ .normal) : CallQ C ops l Q e s = Q e s := by
  cases e <;> first | rfl | exact absurd rfl he
theorem AC.drawC {id : Nat} {l : List Oper} {s : St} {Q : Exit → St → Prop} (n : Nat) {o : Oper} (hm : C.P.follows .mixedOrders = true) (hB : drawCB l.toArray n = true) (ho : l[n]? = some o)
    (h : AD C l.toArray (l.take n) s (fun s' => AO C l.toArray [o] s' (CallQ C l.toArray (l.drop (n + 1)) Q))) : AC C (.region id l.toArray true) s Q := fun Ω a w hr => by
  simp only [drawCB, Bool.and_eq_true, decide_eq_true_eq] at hB
  obtain ⟨⟨hn, hf⟩, hlex⟩ := hB
  have hn' : n < l.length := by simpa using hn
  have htl : (l.take n).length = n := by simp; omega
  have inv0 : HeadInv .any l.toArray n (Array.replicate l.toArray.size false) :=
    ⟨by simp, fun j oj _ hl => (by rw [getD_replicate_false] at hl; cases hl), fun t _ ht => getD_in (by simpa using ht) (getD_replicate_false _ _)⟩
  have H := wpAnyV_lexC (headFirst_wait hf) (l.take n) 0 _ s.env (fun j hj => by
    have hj' : j < n := by rw [htl] at hj; exact hj
    simp [hj']) (by simpa using htl) inv0 (by rw [htl]; exact hlex) h
  refine wp_region_any hm ?_
  have := wpAny_of_V (Q' := Lift C Q) (g := l.toArray.size - n) (fun listed e hL Ω a w hr => by
    obtain ⟨⟨hE, inv⟩, l', he, hK⟩ := hL
    simp only [callE, Bool.and_eq_true, beq_iff_eq] at hE
    obtain ⟨hrd, hlex2⟩ := hE
    have hw := hK Ω a w (hr.congr fun t x hx => by rw [he]; exact hx)
    have ho' : l.toArray[n]? = some o := by simpa using ho
    rw [show l.toArray.size - n = (l.toArray.size - (n + 1)) + 1 by omega]
    refine ⟨fun h1 => (by rw [hrd] at h1; cases h1), fun i hi => ?_⟩
    rw [hrd] at hi
    obtain rfl : i = n := by simpa using hi
    have hrdi : i ∈ Region.ready .any l.toArray listed := by rw [hrd]; simp
    -- behind the call
    have next : ∀ a' w', Lift C (CallQ C l.toArray (l.drop (i + 1)) Q) .normal a' w' → wpAny C.P .any l.toArray (Lift C Q) (l.toArray.size - (i + 1)) (listed.setIfInBounds i true) a' w' := by
      intro a' w' ⟨s2, Ω2, hr2, hA⟩
      have hA' : AD C l.toArray (l.drop (i + 1)) s2 (fun s' => AO C l.toArray [] s' Q) := hA
      have hdl : (l.drop (i + 1)).length = l.toArray.size - (i + 1) := by simp
      have inv2 : HeadInv .any l.toArray l.toArray.size (listed.setIfInBounds i true) := by
        have i2 : HeadInv .any l.toArray l.toArray.size listed := ⟨inv.size, inv.closed, fun t h1 h2 => by omega⟩
        exact i2.set hrdi hn
      have hF2 : HeadFirst .any l.toArray l.toArray.size := headFirst_of (by simp [headFirstB])
      have H2 := wpAnyV_lex (md := .any) (g := 0) (K := fun s' => AO C l.toArray [] s' Q) hF2 (l.drop (i + 1)) (i + 1) _ s2.env (fun j hj => by simp [List.getElem?_drop]) (by rw [hdl]; omega) inv2 (by rw [hdl]; exact hlex2) hA'
      have T := wpAny_of_V (Q' := Lift C Q) (g := 0) (fun listed3 e3 hL3 Ω3 a3 w3 hr3 => by
        obtain ⟨h1, l3, he3, hK3⟩ := hL3
        have h2 := hK3 Ω3 a3 w3 (hr3.congr fun t x hx => by rw [he3]; exact hx)
        exact ⟨by simpa [Region.seqB] using h1, h2⟩) _ _ _ H2 Ω2 a' w' hr2
      rw [hdl, Nat.add_zero] at T
      exact T
    unfold wpOp
    simp only [ho']
    unfold wpList at hw
    split
    · rename_i hwant
      rw [if_pos hwant] at hw
      rcases hw with hw | ⟨h1, h2⟩
      · refine .inl (wp_monoQ (fun a' w' hk => next a' w' hk) (fun e a' w' hne hk => ?_) hw)
        obtain ⟨s2, Ω2, hr2, hq⟩ := hk
        rw [CallQ.ne hne] at hq
        exact ⟨s2, Ω2, hr2, hq⟩
      · refine .inr ⟨h1, ?_⟩
        obtain ⟨a2, w2, s2, Ω2, hr2, hq⟩ := h2
        exact ⟨a2, w2, s2, Ω2, hr2, hq⟩
    · rename_i hwant
      rw [if_neg hwant] at hw
      exact next _ _ hw) _ _ _ H Ω a _ hr.drew
  rw [htl, show n + (l.toArray.size - n) = l.toArray.size by omega] at this
  exact this
end
end Go.Vm
