/- Proved: plain texts of a law, joined. -/
import Derived.Test.YtbinnbmpedmabaaGreatLibC
import Derived.Test.YtbinnbmpedmabaaGreatPEp
set_option linter.unusedVariables false
set_option linter.unusedSimpArgs false
namespace Go.Proofs.YtbinnbmpedmabaaGreat.Wk
open Go.Vm
theorem fold_exit {α σ St V T : Type} (L : List α) (b : (St → Option (Sum V T)) → St → Option (Sum V T)) (mk : Nat → σ → St) (step : σ → α → σ) (p : α → Bool) (badv : T) (out : σ → V) (Inv : Nat → σ → Prop)
  (hend : ∀ K s, Inv L.length s → b K (mk L.length s) = some (.inl (out s)))
  (hstep : ∀ K i x s, L[i]? = some x → Inv i s → b K (mk i s) = if p x = true then K (mk (i + 1) (step s x)) else some (.inr badv))
  (hinv : ∀ i x s, L[i]? = some x → Inv i s → p x = true → Inv (i + 1) (step s x)) :
  ∀ (F i : Nat) (s : σ), L.length - i < F → i ≤ L.length → Inv i s → iter b F (mk i s) = some (if (L.drop i).all p = true then .inl (out ((L.drop i).foldl step s)) else .inr badv) := by
 intro F
 induction F with
 | zero => intro i s h; omega
 | succ F ih =>
  intro i s h hi hs
  show b (iter b F) (mk i s) = _
  by_cases hk : i < L.length
  ·have hx : L[i]? = some L[i] := List.getElem?_eq_getElem hk
   rw [hstep _ i _ s hx hs, List.drop_eq_getElem_cons hk, List.all_cons, List.foldl_cons]
   cases hb : p L[i] with
   | false => rw [if_neg (by simp), Bool.false_and, if_neg (by simp)]
   | true => rw [if_pos rfl, Bool.true_and]; exact ih (i + 1) _ (by omega) (by omega) (hinv i _ s hx hs hb)
  ·have : i = L.length := by omega
   subst this
   rw [hend _ s hs, List.drop_length]; rfl
theorem fold_all {α σ St V T : Type} (L : List α) (b : (St → Option (Sum V T)) → St → Option (Sum V T)) (mk : Nat → σ → St) (step : σ → α → σ) (out : σ → V) (Inv : Nat → σ → Prop)
  (hend : ∀ K s, Inv L.length s → b K (mk L.length s) = some (.inl (out s)))
  (hstep : ∀ K i x s, L[i]? = some x → Inv i s → b K (mk i s) = K (mk (i + 1) (step s x)))
  (hinv : ∀ i x s, L[i]? = some x → Inv i s → Inv (i + 1) (step s x)) :
  ∀ (F i : Nat) (s : σ), L.length - i < F → i ≤ L.length → Inv i s → iter b F (mk i s) = some (.inl (out ((L.drop i).foldl step s))) := by
 intro F
 induction F with
 | zero => intro i s h; omega
 | succ F ih =>
  intro i s h hi hs
  show b (iter b F) (mk i s) = _
  by_cases hk : i < L.length
  ·have hx : L[i]? = some L[i] := List.getElem?_eq_getElem hk
   rw [hstep _ i _ s hx hs, List.drop_eq_getElem_cons hk, List.foldl_cons]
   exact ih (i + 1) _ (by omega) (by omega) (hinv i _ s hx hs)
  ·have : i = L.length := by omega
   subst this
   rw [hend _ s hs, List.drop_length]; rfl
theorem dlt {i n : Nat} (h : i < n) : decide ((i : Int) < (n : Int)) = true := decide_eq_true (by omega)
theorem dge {n : Nat} : decide ((n : Int) < (n : Int)) = false := decide_eq_false (by omega)
theorem mem_get {α : Type} {l : List α} {i : Nat} {x : α} (h : l[i]? = some x) : x ∈ l := List.mem_of_getElem? h
theorem lt_get {α : Type} {l : List α} {i : Nat} {x : α} (h : l[i]? = some x) : i < l.length := (List.getElem?_eq_some_iff.1 h).1
theorem i64s {k : Nat} (h : k < 4611686018427387904) : inI .i64 ((k : Int) + 1) := in64 (by omega) (by omega)
end Go.Proofs.YtbinnbmpedmabaaGreat.Wk

namespace Go.Proofs.YtbinnbmpedmabaaGreat.Wk
open Go.Vm
set_option linter.unusedVariables false
set_option linter.unusedSimpArgs false
mutual
def gF : TImpl_Geom → Nat
 | .mk _ _ _ f e es ks => 1 + f.length + e.length + es.length + ks.length + (es.map List.length).sum + gFs ks
def gFs : List TImpl_Geom → Nat
 | [] => 0
 | g :: r => gF g + gFs r
end
mutual
def WfG : TImpl_Geom → Prop
 | .mk a b c f e es ks => (lo .i64 ≤ a ∧ a ≤ hi .i64) ∧ (lo .i64 ≤ b ∧ b ≤ hi .i64) ∧ (lo .i64 ≤ c ∧ c ≤ hi .i64) ∧ (f.length ≤ maxLen ∧ ∀ x ∈ f, (Lit.float .f64 x).wf = true) ∧ (e.length ≤ maxLen ∧ ∀ x ∈ e, lo .i64 ≤ x ∧ x ≤ hi .i64) ∧
  (es.length ≤ maxLen ∧ ∀ l ∈ es, l.length ≤ maxLen ∧ ∀ x ∈ l, lo .i64 ≤ x ∧ x ≤ hi .i64) ∧ ks.length ≤ maxLen ∧ WfGs ks
def WfGs : List TImpl_Geom → Prop
 | [] => True
 | g :: r => WfG g ∧ WfGs r
end
theorem wfGs_mem : ∀ {l : List TImpl_Geom}, WfGs l → ∀ k ∈ l, WfG k
 | [], _, k, h => by cases h
 | g :: r, h, k, hk => by
  simp only [WfGs] at h
  rcases List.mem_cons.1 hk with rfl | hk
  ·exact h.1
  ·exact wfGs_mem h.2 k hk
theorem wfGs_of : ∀ {l : List TImpl_Geom}, (∀ k ∈ l, WfG k) → WfGs l
 | [], _ => by simp only [WfGs]
 | g :: r, h => by simp only [WfGs]; exact ⟨h g (by simp), wfGs_of fun k hk => h k (by simp [hk])⟩
theorem gFs_mem : ∀ {l : List TImpl_Geom}, ∀ k ∈ l, gF k ≤ gFs l
 | [], k, h => by cases h
 | g :: r, k, hk => by
  simp only [gFs]
  rcases List.mem_cons.1 hk with rfl | hk
  ·omega
  ·have := gFs_mem k hk; omega
theorem sum_mem {l : List Nat} {x : Nat} (h : x ∈ l) : x ≤ l.sum := by
 induction l with
 | nil => cases h
 | cons a r ih =>
  simp only [List.sum_cons]
  rcases List.mem_cons.1 h with rfl | h
  ·omega
  ·have := ih h; omega
structure Wf (g : TImpl_Geom) : Prop where
 kind : lo .i64 ≤ g.Kind ∧ g.Kind ≤ hi .i64
 layout : lo .i64 ≤ g.Layout ∧ g.Layout ≤ hi .i64
 srid : lo .i64 ≤ g.SRID ∧ g.SRID ≤ hi .i64
 flat : g.Flat.length ≤ maxLen ∧ ∀ x ∈ g.Flat, (Lit.float .f64 x).wf = true
 ends : g.Ends.length ≤ maxLen ∧ ∀ x ∈ g.Ends, lo .i64 ≤ x ∧ x ≤ hi .i64
 endss : g.Endss.length ≤ maxLen ∧ ∀ l ∈ g.Endss, l.length ≤ maxLen ∧ ∀ x ∈ l, lo .i64 ≤ x ∧ x ≤ hi .i64
 kids : g.Kids.length ≤ maxLen
 kid : ∀ k ∈ g.Kids, WfG k ∧ gF k < gF g
 big : g.Flat.length < gF g ∧ g.Ends.length < gF g ∧ g.Endss.length < gF g ∧ g.Kids.length < gF g ∧ ∀ l ∈ g.Endss, l.length < gF g
theorem WfG.tell {g : TImpl_Geom} (h : WfG g) : Wf g := by
 cases g with
 | mk a b c f e es ks =>
  simp only [WfG] at h
  obtain ⟨h1, h2, h3, h4, h5, h6, h7, h8⟩ := h
  refine ⟨h1, h2, h3, h4, h5, h6, h7, fun k hk => ⟨wfGs_mem h8 k hk, ?_⟩, ?_, ?_, ?_, ?_, fun l hl => ?_⟩
  ·have hk' : k ∈ ks := hk
   have := gFs_mem k hk'; simp only [gF]; omega
  ·simp only [gF]; omega
  ·simp only [gF]; omega
  ·simp only [gF]; omega
  ·simp only [gF]; omega
  ·have : l.length ∈ es.map List.length := List.mem_map.2 ⟨l, hl, rfl⟩
   have := sum_mem this
   simp only [gF]; omega
theorem maxLenV : maxLen = 9223372036854775807 := by decide +kernel
theorem inM {i L : Nat} (h : i < L) (hL : L ≤ maxLen) : inI .i64 ((i : Int) + 1) := in64 (by omega) (by rw [maxLenV] at hL; omega)
theorem tot_loop {σ S ρ : Type} {L : Nat} {P : σ → Prop} {Post : ρ → Prop} (mk : σ → Int → S) (b : (S → Option ρ) → S → Option ρ)
  (hend : ∀ K s, P s → ∃ o, b K (mk s (L : Int)) = some o ∧ Post o)
  (hstep : ∀ K s (i : Nat), i < L → P s → (∃ o, b K (mk s (i : Int)) = some o ∧ Post o) ∨ ∃ s', P s' ∧ b K (mk s (i : Int)) = K (mk s' ((i + 1 : Nat) : Int))) :
  ∀ n i s, L - i < n → i ≤ L → P s → ∃ o, iter b n (mk s (i : Int)) = some o ∧ Post o := by
 intro n
 induction n with
 | zero => intro i s h; omega
 | succ n ih =>
  intro i s h hi hp
  show ∃ o, b (iter b n) (mk s (i : Int)) = some o ∧ Post o
  by_cases hil : i < L
  ·rcases hstep (iter b n) s i hil hp with h1 | ⟨s', h1, h2⟩
   ·exact h1
   ·rw [h2]; exact ih (i + 1) s' (by omega) (by omega) h1
  ·obtain rfl : i = L := by omega
   exact hend _ s hp
theorem weight_t : ∀ (N : Nat) (g : TImpl_Geom), gF g ≤ N → WfG g → ∀ F, gF g < F → ∀ a, ∃ n, p_Weight F g a = some n := by
 intro N
 induction N with
 | zero => intro g h hw; have := hw.tell.big.1; omega
 | succ N ih =>
  intro g h hw F hF a
  have W := hw.tell
  obtain ⟨G, rfl⟩ : ∃ G, F = G + 1 := ⟨F - 1, by omega⟩
  show ∃ n, p_Weight_b (fun a0 a1 => p_Weight G a0 a1) G g a = some n
  unfold p_Weight_b
  have h1 := tot_loop (L := g.Endss.length) (P := fun _ => True) (Post := fun o : Sum Int Int => ∃ v, o = .inl v) (fun s i => (s, i)) (p_Weight_l4 g) (fun K s _ => by
   unfold p_Weight_l4; dsimp only; rw [cond_f (decide_eq_false (by omega))]; exact ⟨_, rfl, _, rfl⟩) (fun K s i hi _ => by
   refine .inr ⟨IntKind.i64.wrap (s + IntKind.i64.wrap ((1 : Int) + ((g.Endss[i].length : Nat) : Int))), trivial, ?_⟩
   unfold p_Weight_l4; dsimp only
   rw [cond_t (decide_eq_true (by omega)), idx_get (List.getElem?_eq_getElem hi), Option.bind_some, need_pos (inM hi W.endss.1), succ_cast]) G 0
  obtain ⟨o, h2, v, rfl⟩ := h1 (IntKind.i64.wrap ((IntKind.i64.wrap ((1 : Int) + ((g.Flat.length : Nat) : Int))) + ((g.Ends.length : Nat) : Int))) (by have := W.big; omega) (by omega) trivial
  rw [show ((0 : Nat) : Int) = 0 from rfl] at h2
  rw [h2, Option.bind_some, aft_inl]
  unfold p_Weight_k1
  have h3 := tot_loop (L := g.Kids.length) (P := fun _ => True) (Post := fun o : Sum Int Int => ∃ v, o = .inl v ∨ o = .inr v) (fun s i => (s, i)) (p_Weight_l3 g a (fun a0 a1 => p_Weight G a0 a1)) (fun K s _ => by
   unfold p_Weight_l3; dsimp only; rw [cond_f (decide_eq_false (by omega))]; exact ⟨_, rfl, _, .inl rfl⟩) (fun K s i hi _ => by
   have hk := W.kid _ (List.getElem_mem hi)
   by_cases c : a < s
   ·refine .inl ⟨.inr s, ?_, s, .inr rfl⟩
    unfold p_Weight_l3; dsimp only
    rw [cond_t (decide_eq_true (by omega)), idx_get (List.getElem?_eq_getElem hi), Option.bind_some, cond_t (decide_eq_true c)]
   ·obtain ⟨n, hn⟩ := ih _ (by omega) hk.1 G (by omega) (IntKind.i64.wrap (a - s))
    refine .inr ⟨IntKind.i64.wrap (s + n), trivial, ?_⟩
    unfold p_Weight_l3; dsimp only
    rw [cond_t (decide_eq_true (by omega)), idx_get (List.getElem?_eq_getElem hi), Option.bind_some, cond_f (decide_eq_false c), hn, Option.bind_some, need_pos (inM hi W.kids), succ_cast]) G 0 v (by have := W.big; omega) (by omega) trivial
  obtain ⟨o, h4, u, h5⟩ := h3
  rw [show ((0 : Nat) : Int) = 0 from rfl] at h4
  rw [h4, Option.bind_some]
  rcases h5 with rfl | rfl
  ·exact ⟨_, rfl⟩
  ·exact ⟨_, rfl⟩
theorem layouts_t (a : Int) : ∀ (N : Nat) (g : TImpl_Geom), gF g ≤ N → WfG g → ∀ F, gF g < F → ∃ b, p_gLayouts F g a = some b := by
 intro N
 induction N with
 | zero => intro g h hw; have := hw.tell.big.1; omega
 | succ N ih =>
  intro g h hw F hF
  have W := hw.tell
  obtain ⟨G, rfl⟩ : ∃ G, F = G + 1 := ⟨F - 1, by omega⟩
  show ∃ n, p_gLayouts_b (fun a0 a1 => p_gLayouts G a0 a1) G g a = some n
  unfold p_gLayouts_b
  have h3 := tot_loop (L := g.Kids.length) (P := fun _ => True) (Post := fun o : Sum Unit Bool => True) (fun (s : Unit) i => i) (p_gLayouts_l2 g a (fun a0 a1 => p_gLayouts G a0 a1)) (fun K s _ => by
   unfold p_gLayouts_l2; dsimp only; rw [cond_f (decide_eq_false (by omega))]; exact ⟨_, rfl, trivial⟩) (fun K s i hi _ => by
   have hk := W.kid _ (List.getElem_mem hi)
   obtain ⟨b, hb⟩ := ih _ (by omega) hk.1 G (by omega)
   have e : p_gLayouts_l2 g a (fun a0 a1 => p_gLayouts G a0 a1) K (i : Int) = cond (!b) (some (Sum.inr false)) (K ((i + 1 : Nat) : Int)) := by
    unfold p_gLayouts_l2
    dsimp only
    rw [cond_t (decide_eq_true (by omega)), idx_get (List.getElem?_eq_getElem hi), Option.bind_some, hb, Option.bind_some, need_pos (inM hi W.kids), succ_cast]
   cases b with
   | false => exact .inl ⟨_, e, trivial⟩
   | true => exact .inr ⟨(), trivial, e⟩) G 0 () (by have := W.big; omega) (by omega) trivial
  obtain ⟨o, h4, -⟩ := h3
  rw [show ((0 : Nat) : Int) = 0 from rfl] at h4
  rw [h4, Option.bind_some]
  cases o with
  | inr r => exact ⟨_, rfl⟩
  | inl v =>
   rw [aft_inl]
   unfold p_gLayouts_k1
   cases decide (g.Layout ≤ a) <;> cases decide ((1 : Int) ≤ g.Layout) <;> cases decide (g.Kind = 7) <;> exact ⟨_, rfl⟩
theorem cover_t (a b : Int) : ∃ c, p_Cover a b = some c := by
 unfold p_Cover
 cases decide (a = 2) <;> cases decide (b = 3) <;> cases decide (a = 3) <;> cases decide (b = 2) <;> exact ⟨_, rfl⟩
theorem layoutOf_t : ∀ (N : Nat) (g : TImpl_Geom), gF g ≤ N → WfG g → ∀ F, gF g < F → ∃ b, p_LayoutOf F g = some b := by
 intro N
 induction N with
 | zero => intro g h hw; have := hw.tell.big.1; omega
 | succ N ih =>
  intro g h hw F hF
  have W := hw.tell
  obtain ⟨G, rfl⟩ : ∃ G, F = G + 1 := ⟨F - 1, by omega⟩
  show ∃ n, p_LayoutOf_b (fun a0 => p_LayoutOf G a0) G g = some n
  have key : ∀ c, ∃ n, p_LayoutOf_k1 g G (fun a0 => p_LayoutOf G a0) c = some n := fun c => by
   unfold p_LayoutOf_k1
   cases c with
   | true => exact ⟨_, rfl⟩
   | false =>
    rw [cond_f rfl]
    have h3 := tot_loop (L := g.Kids.length) (P := fun _ => True) (Post := fun o : Sum Int Int => ∃ v, o = .inl v) (fun s i => (s, i)) (p_LayoutOf_l3 g (fun a0 => p_LayoutOf G a0)) (fun K s _ => by
     unfold p_LayoutOf_l3; dsimp only; rw [cond_f (decide_eq_false (by omega))]; exact ⟨_, rfl, _, rfl⟩) (fun K s i hi _ => by
     have hk := W.kid _ (List.getElem_mem hi)
     obtain ⟨n, hn⟩ := ih _ (by omega) hk.1 G (by omega)
     obtain ⟨m, hm⟩ := cover_t s n
     refine .inr ⟨m, trivial, ?_⟩
     unfold p_LayoutOf_l3; dsimp only
     rw [cond_t (decide_eq_true (by omega)), idx_get (List.getElem?_eq_getElem hi), Option.bind_some, hn, Option.bind_some, hm, Option.bind_some, need_pos (inM hi W.kids), succ_cast]) G 0 g.Layout (by have := W.big; omega) (by omega) trivial
    obtain ⟨o, h4, u, rfl⟩ := h3
    rw [show ((0 : Nat) : Int) = 0 from rfl] at h4
    rw [h4, Option.bind_some]
    exact ⟨_, rfl⟩
  unfold p_LayoutOf_b
  cases (!decide (g.Kind = (7 : Int))) with
  | true => rw [cond_t rfl]; exact key _
  | false => rw [cond_f rfl]; exact key _
theorem goodEnds_t {l : List Int} (h1 : l.length ≤ maxLen) (h2 : ∀ x ∈ l, lo .i64 ≤ x ∧ x ≤ hi .i64) {F : Nat} (hF : l.length < F) {a s : Int} (ha : 0 ≤ a) (hs : s ≠ 0) (hhi : a ≤ hi .i64) (c : Bool) :
  ∃ n b, p_goodEnds F l a s c = some (n, b) ∧ 0 ≤ n ∧ n ≤ hi .i64 := by
 unfold p_goodEnds
 have h3 := tot_loop (L := l.length) (P := fun x : Int => 0 ≤ x ∧ x ≤ hi .i64) (Post := fun o : Sum Int (Int × Bool) => ∃ v, 0 ≤ v ∧ v ≤ hi .i64 ∧ (o = .inl v ∨ ∃ b, o = .inr (v, b))) (fun s i => (s, i)) (p_goodEnds_l2 l s c) (fun K v hv => by
  unfold p_goodEnds_l2; dsimp only; rw [cond_f (decide_eq_false (by omega))]; exact ⟨_, rfl, v, hv.1, hv.2, .inl rfl⟩) (fun K v i hi hv => by
  have hx := h2 _ (List.getElem_mem hi)
  obtain ⟨x, hxe⟩ : ∃ x, x = l[i] := ⟨_, rfl⟩
  rw [← hxe] at hx
  have step : ∀ b, (∃ o, p_goodEnds_k3 (v, (i : Int)) K x b = some o ∧ ∃ v, 0 ≤ v ∧ v ≤ Vm.hi .i64 ∧ (o = .inl v ∨ ∃ b, o = .inr (v, b))) ∨ (b = false ∧ p_goodEnds_k3 (v, (i : Int)) K x b = K (x, ((i + 1 : Nat) : Int))) := fun b => by
   unfold p_goodEnds_k3; dsimp only
   cases b with
   | true => exact .inl ⟨_, rfl, v, hv.1, hv.2, .inr ⟨_, rfl⟩⟩
   | false => rw [cond_f rfl, need_pos (inM hi h1), succ_cast]; exact .inr ⟨rfl, rfl⟩
  have go : ∀ b, (b = false → v ≤ x) → p_goodEnds_l2 l s c K (v, (i : Int)) = p_goodEnds_k3 (v, (i : Int)) K x b → (∃ o, p_goodEnds_l2 l s c K (v, (i : Int)) = some o ∧ ∃ v, 0 ≤ v ∧ v ≤ Vm.hi .i64 ∧ (o = .inl v ∨ ∃ b, o = .inr (v, b))) ∨
    ∃ s', (0 ≤ s' ∧ s' ≤ Vm.hi .i64) ∧ p_goodEnds_l2 l s c K (v, (i : Int)) = K (s', ((i + 1 : Nat) : Int)) := fun b hb e => by
   rcases step b with ⟨o, h4, h5⟩ | ⟨h4, h5⟩
   ·exact .inl ⟨o, e.trans h4, h5⟩
   ·exact .inr ⟨x, ⟨by have := hb h4; omega, hx.2⟩, e.trans h5⟩
  by_cases c1 : x < v
  ·refine go true (fun h => by cases h) ?_
   unfold p_goodEnds_l2; dsimp only
   rw [cond_t (decide_eq_true (by omega)), idx_get (List.getElem?_eq_getElem hi), Option.bind_some, ← hxe, cond_t (decide_eq_true c1)]
  ·have hin : inI .i64 (x - v) := in64 (by omega) (by have := hx.2; simp only [Vm.hi] at this; omega)
   by_cases c2 : Int.tmod (x - v) s = 0
   ·cases c with
    | false =>
     refine go false (fun _ => by omega) ?_
     unfold p_goodEnds_l2; dsimp only
     rw [cond_t (decide_eq_true (by omega)), idx_get (List.getElem?_eq_getElem hi), Option.bind_some, ← hxe, cond_f (decide_eq_false c1), need_pos hin, need_pos hs, cond_f (nF c2), cond_f rfl]
    | true =>
     refine go (decide (s < x - v)) (fun _ => by omega) ?_
     unfold p_goodEnds_l2; dsimp only
     rw [cond_t (decide_eq_true (by omega)), idx_get (List.getElem?_eq_getElem hi), Option.bind_some, ← hxe, cond_f (decide_eq_false c1), need_pos hin, need_pos hs, cond_f (nF c2), cond_t rfl, need_pos hin]
   ·refine go true (fun h => by cases h) ?_
    unfold p_goodEnds_l2; dsimp only
    rw [cond_t (decide_eq_true (by omega)), idx_get (List.getElem?_eq_getElem hi), Option.bind_some, ← hxe, cond_f (decide_eq_false c1), need_pos hin, need_pos hs, cond_t (nT c2)]) F 0 a (by omega) (by omega) ⟨ha, hhi⟩
 obtain ⟨o, h4, v, h5, h6, h7⟩ := h3
 rw [show ((0 : Nat) : Int) = 0 from rfl] at h4
 rw [h4, Option.bind_some]
 rcases h7 with rfl | ⟨b, rfl⟩
 ·exact ⟨v, true, rfl, h5, h6⟩
 ·exact ⟨v, b, rfl, h5, h6⟩
theorem stride_t (a : Int) : ∃ s : Nat, p_Stride a = some (s : Int) ∧ (s ≠ 0 → 1 ≤ a ∧ 2 ≤ s ∧ p_Layout_Stride a = some (s : Int) ∧ (a ≤ 9 → s ≤ 9) ∧ (5 ≤ a → a = s)) ∧ (s = 0 → a ≤ 0) := by
 unfold p_Stride p_Layout_Stride
 by_cases c : a < 1
 ·exact ⟨0, by rw [cond_t (decide_eq_true c)]; rfl, fun h => absurd rfl h, fun _ => by omega⟩
 ·rw [cond_f (decide_eq_false c), cond_f (b := decide (a = 0)) (decide_eq_false (by omega))]
  by_cases c1 : a = 1
  ·subst c1; exact ⟨2, rfl, fun _ => ⟨by omega, by omega, rfl, by omega, by omega⟩, by omega⟩
  rw [cond_f (decide_eq_false c1)]
  by_cases c2 : a = 2
  ·subst c2; exact ⟨3, rfl, fun _ => ⟨by omega, by omega, rfl, by omega, by omega⟩, by omega⟩
  rw [cond_f (decide_eq_false c2)]
  by_cases c3 : a = 3
  ·subst c3; exact ⟨3, rfl, fun _ => ⟨by omega, by omega, rfl, by omega, by omega⟩, by omega⟩
  rw [cond_f (decide_eq_false c3), cond_f (decide_eq_false c1), cond_f (decide_eq_false c2), cond_f (decide_eq_false c3)]
  refine ⟨a.toNat, by rw [show ((a.toNat : Nat) : Int) = a by omega], fun _ => ⟨by omega, by omega, ?_, by omega, by omega⟩, by omega⟩
  rw [show ((a.toNat : Nat) : Int) = a by omega]
  by_cases c4 : a = 4
  ·rw [cond_t (decide_eq_true c4), c4]
  ·rw [cond_f (decide_eq_false c4)]
end Go.Proofs.YtbinnbmpedmabaaGreat.Wk

namespace Go.Proofs.YtbinnbmpedmabaaGreat.Wk
open Go.Vm
set_option linter.unusedVariables false
set_option linter.unusedSimpArgs false
theorem good_k4_t {g : TImpl_Geom} (W : Wf g) {F : Nat} (hF : gF g ≤ F) {s : Int} (hs : s ≠ 0) : ∃ b, p_Good_k4 g F s () = some b := by
 have k6 : ∀ c, ∃ b, p_Good_k6 g F s c = some b := fun c => by
  unfold p_Good_k6
  cases c with
  | true =>
   rw [cond_t rfl]
   obtain ⟨n, b, h, _⟩ := goodEnds_t W.ends.1 W.ends.2 (F := F) (by have := W.big; omega) (a := 0) (s := s) (by omega) hs (by simp only [Vm.hi]; omega) (decide (g.Kind = 4))
   rw [h, Option.bind_some]
   cases b with
   | true => exact ⟨_, rfl⟩
   | false => exact ⟨_, rfl⟩
  | false =>
   rw [cond_f rfl]
   cases decide (g.Kind = (6 : Int)) with
   | false => exact ⟨_, rfl⟩
   | true =>
    rw [cond_t rfl]
    have h3 := tot_loop (L := g.Endss.length) (P := fun x : Int × Bool => 0 ≤ x.1 ∧ x.1 ≤ hi .i64) (Post := fun o : Sum (Int × Bool) Bool => ∃ v, o = .inl v) (fun x i => (x.1, x.2, i)) (p_Good_l8 g F s) (fun K x hx => by
     unfold p_Good_l8; dsimp only; rw [cond_f (decide_eq_false (by omega))]; exact ⟨_, rfl, _, rfl⟩) (fun K x i hi hx => by
     have hm := List.getElem_mem hi
     obtain ⟨n, b, h, h1, h2⟩ := goodEnds_t (W.endss.2 _ hm).1 (W.endss.2 _ hm).2 (F := F) (by have := W.big.2.2.2.2 _ hm; omega) (a := x.1) (s := s) hx.1 hs hx.2 false
     refine .inr ⟨(n, x.2 && b), ⟨h1, h2⟩, ?_⟩
     unfold p_Good_l8; dsimp only
     rw [cond_t (decide_eq_true (by omega)), idx_get (List.getElem?_eq_getElem hi), Option.bind_some, h, Option.bind_some]
     cases x.2 with
     | true => rw [cond_t rfl, need_pos (inM hi W.endss.1), succ_cast]; rfl
     | false => rw [cond_f rfl, need_pos (inM hi W.endss.1), succ_cast]; rfl) F 0 ((0 : Int), true) (by have := W.big; omega) (by omega) ⟨by omega, by simp only [Vm.hi]; omega⟩
    obtain ⟨o, h4, v, rfl⟩ := h3
    have h5 : iter (p_Good_l8 g F s) F ((0 : Int), true, (0 : Int)) = some (.inl v) := h4
    rw [h5, Option.bind_some, aft_inl]
    unfold p_Good_k7
    cases v.2 <;> cases decide (v.1 = ((g.Flat.length : Nat) : Int)) <;> exact ⟨_, rfl⟩
 have k5 : ∀ c, ∃ b, p_Good_k5 g F s c = some b := fun c => by
  unfold p_Good_k5
  cases c with
  | true => exact ⟨_, rfl⟩
  | false =>
   rw [cond_f rfl]
   by_cases c1 : g.Kind = 3
   ·rw [cond_t (decide_eq_true c1)]; exact k6 _
   ·rw [cond_f (decide_eq_false c1)]
    by_cases c2 : g.Kind = 4
    ·rw [cond_t (decide_eq_true c2)]; exact k6 _
    ·rw [cond_f (decide_eq_false c2)]; exact k6 _
 unfold p_Good_k4
 by_cases c1 : g.Kind = 1
 ·rw [cond_t (decide_eq_true c1)]
  cases decide (((g.Ends.length : Nat) : Int) = 0) <;> exact ⟨_, rfl⟩
 ·rw [cond_f (decide_eq_false c1)]
  by_cases c2 : g.Kind = 2
  ·rw [cond_t (decide_eq_true c2)]; exact k5 _
  ·rw [cond_f (decide_eq_false c2)]; exact k5 _
structure GoodG (F : Nat) (g : TImpl_Geom) (s : Nat) : Prop where
 s2 : 2 ≤ s
 lay : 1 ≤ g.Layout
 str : p_Stride g.Layout = some (s : Int)
 str' : p_Layout_Stride g.Layout = some (s : Int)
 s9 : g.Layout ≤ 9 → s ≤ 9
 s5 : 5 ≤ g.Layout → g.Layout = s
 dvd : g.Flat.length % s = 0
 kids : g.Kids = []
 endss : g.Kind ≠ 6 → g.Endss = []
 k4 : p_Good_k4 g F s () = some true
theorem good_b {g : TImpl_Geom} (W : Wf g) {F : Nat} (hF : gF g ≤ F) (R : TImpl_Geom → Option Bool) (h7 : g.Kind ≠ 7) : ∃ b, p_Good_b R F g = some b ∧ (b = true → ∃ s, GoodG F g s) := by
 obtain ⟨s, hs, h1, h2⟩ := stride_t g.Layout
 unfold p_Good_b
 rw [hs, Option.bind_some, cond_f (decide_eq_false h7)]
 by_cases c0 : s = 0
 ·rw [cond_t (decide_eq_true (by omega))]; exact ⟨_, rfl, fun h => by cases h⟩
 rw [cond_f (decide_eq_false (by omega)), need_pos (by omega)]
 obtain ⟨b1, b2, b3, b4, b5⟩ := h1 c0
 by_cases c1 : Int.tmod ((g.Flat.length : Nat) : Int) (s : Int) = 0
 ·rw [cond_f (nF c1)]
  by_cases c2 : (0 : Int) < ((g.Kids.length : Nat) : Int)
  ·rw [cond_t (decide_eq_true c2)]; exact ⟨_, rfl, fun h => by cases h⟩
  rw [cond_f (decide_eq_false c2)]
  obtain ⟨b, hb⟩ := good_k4_t W hF (s := (s : Int)) (by omega)
  have hd : g.Flat.length % s = 0 := by
   have : Int.tmod ((g.Flat.length : Nat) : Int) (s : Int) = ((g.Flat.length % s : Nat) : Int) := by
    rw [Int.tmod_eq_emod_of_nonneg (by omega)]; rfl
   omega
  have hkids : g.Kids = [] := List.length_eq_zero_iff.1 (by omega)
  by_cases c3 : (0 : Int) < ((g.Endss.length : Nat) : Int)
  ·rw [cond_t (decide_eq_true c3)]
   by_cases c4 : g.Kind = 6
   ·rw [cond_f (nF c4), hb]
    exact ⟨b, rfl, fun h => ⟨s, b2, b1, hs, b3, b4, b5, hd, hkids, fun h => absurd c4 h, by rw [hb, h]⟩⟩
   ·rw [cond_t (nT c4)]; exact ⟨_, rfl, fun h => by cases h⟩
  ·rw [cond_f (decide_eq_false c3), hb]
   exact ⟨b, rfl, fun h => ⟨s, b2, b1, hs, b3, b4, b5, hd, hkids, fun _ => List.length_eq_zero_iff.1 (by omega), by rw [hb, h]⟩⟩
 ·rw [cond_t (nT c1)]; exact ⟨_, rfl, fun h => by cases h⟩
theorem good_t : ∀ (N : Nat) (g : TImpl_Geom), gF g ≤ N → WfG g → ∀ F, gF g < F → ∃ b, p_Good F g = some b ∧ (b = true → g.Kind ≠ 7 → ∃ s, GoodG (F - 1) g s) := by
 intro N
 induction N with
 | zero => intro g h hw; have := hw.tell.big.1; omega
 | succ N ih =>
  intro g h hw F hF
  have W := hw.tell
  obtain ⟨G, rfl⟩ : ∃ G, F = G + 1 := ⟨F - 1, by omega⟩
  show ∃ b, p_Good_b (fun a0 => p_Good G a0) G g = some b ∧ (b = true → g.Kind ≠ 7 → ∃ s, GoodG G g s)
  by_cases c7 : g.Kind = 7
  ·obtain ⟨s, hs, -, -⟩ := stride_t g.Layout
   unfold p_Good_b
   rw [hs, Option.bind_some, cond_t (decide_eq_true c7)]
   have h3 := tot_loop (L := g.Kids.length) (P := fun _ => True) (Post := fun o : Sum Unit Bool => True) (fun (s : Unit) i => i) (p_Good_l3 g G (fun a0 => p_Good G a0)) (fun K s _ => by
    unfold p_Good_l3; dsimp only; rw [cond_f (decide_eq_false (by omega))]; exact ⟨_, rfl, trivial⟩) (fun K s i hi _ => by
    have hk := W.kid _ (List.getElem_mem hi)
    obtain ⟨b, hb, -⟩ := ih _ (by omega) hk.1 G (by omega)
    obtain ⟨n, hn⟩ := layoutOf_t _ _ (Nat.le_refl _) hk.1 G (by omega)
    by_cases cc : b = true ∧ (g.Layout ≠ 0 → n = g.Layout)
    ·refine .inr ⟨(), trivial, ?_⟩
     unfold p_Good_l3; dsimp only
     rw [cond_t (decide_eq_true (by omega)), idx_get (List.getElem?_eq_getElem hi), Option.bind_some, hb, Option.bind_some, cc.1, cond_f (rfl : (!true) = false), need_pos (inM hi W.kids), succ_cast]
     by_cases c0 : g.Layout = 0
     ·rw [cond_f (nF c0)]
     ·rw [cond_t (nT c0), hn, Option.bind_some, cond_f (nF (cc.2 c0))]
    ·refine .inl ⟨.inr false, ?_, trivial⟩
     unfold p_Good_l3; dsimp only
     rw [cond_t (decide_eq_true (by omega)), idx_get (List.getElem?_eq_getElem hi), Option.bind_some, hb, Option.bind_some]
     cases b with
     | false => rw [cond_t (rfl : (!false) = true)]
     | true =>
      rw [cond_f (rfl : (!true) = false), need_pos (inM hi W.kids)]
      have c0 : g.Layout ≠ 0 := fun h => cc ⟨rfl, fun h2 => absurd h h2⟩
      rw [cond_t (nT c0), hn, Option.bind_some, cond_t (nT fun h => cc ⟨rfl, fun _ => h⟩)]) G 0 () (by have := W.big; omega) (by omega) trivial
   obtain ⟨o, h4, -⟩ := h3
   rw [show ((0 : Nat) : Int) = 0 from rfl] at h4
   rw [h4, Option.bind_some]
   cases o with
   | inr r => exact ⟨_, rfl, fun _ h => absurd c7 h⟩
   | inl v =>
    rw [aft_inl]
    unfold p_Good_k1 p_Good_k2
    cases decide ((0 : Int) ≤ g.Layout) <;> exact ⟨_, rfl, fun _ h => absurd c7 h⟩
  ·obtain ⟨b, hb, h1⟩ := good_b W (show gF g ≤ G by omega) (fun a0 => p_Good G a0) c7
   exact ⟨b, hb, fun h _ => h1 h⟩
theorem iter_one {S ρ : Type} (b : (S → Option ρ) → S → Option ρ) (n : Nat) (s : S) : iter b (n + 1) s = b (iter b n) s := rfl
theorem gGood_p {g : TImpl_Geom} (hw : WfG g) {F : Nat} (hF : gF g + 10 ≤ F) : ∃ b, p_gGood F [g] = some b ∧ (b = true → (g.Kind ≠ 7 → ∃ s, GoodG (F - 1) g s) ∧ p_gLayouts F g 9 = some true ∧ ∃ n, p_Weight F g 2000 = some n ∧ ¬ IntKind.i64.wrap (2000 - n) < 0) := by
 obtain ⟨G, rfl⟩ : ∃ G, F = G + 2 := ⟨F - 2, by omega⟩
 have hlen : (([g] : List TImpl_Geom).length : Int) = 1 := rfl
 have hi0 : idx [g] (0 : Int) = some g := rfl
 obtain ⟨n, hn⟩ := weight_t _ g (Nat.le_refl _) hw (G + 2) (by omega) 2000
 obtain ⟨c, hc⟩ := layouts_t 9 _ g (Nat.le_refl _) hw (G + 2) (by omega)
 obtain ⟨b, hb, hb2⟩ := good_t _ g (Nat.le_refl _) hw (G + 2) (by omega)
 have small : p_gSmall (G + 2) [g] = some (!decide (IntKind.i64.wrap (2000 - n) < 0) && c) := by
  unfold p_gSmall
  rw [iter_one]
  obtain ⟨K, hK⟩ : ∃ K, K = iter (p_gSmall_l2 [g] (G + 2)) (G + 1) := ⟨_, rfl⟩
  rw [← hK]
  unfold p_gSmall_l2
  dsimp only
  rw [hlen, cond_t (decide_eq_true (by omega)), hi0, Option.bind_some, hn, Option.bind_some]
  by_cases c1 : IntKind.i64.wrap (2000 - n) < 0
  ·rw [cond_t (decide_eq_true c1), decide_eq_true c1]; rfl
  ·rw [cond_f (decide_eq_false c1), decide_eq_false c1, hc, Option.bind_some]
   cases c with
   | false => rfl
   | true =>
    rw [cond_f (rfl : (!true) = false), need_pos (in64 (by omega) (by omega)), hK, iter_one]
    unfold p_gSmall_l2
    dsimp only
    rw [hlen, cond_f (decide_eq_false (by omega)), Option.bind_some, aft_inl]
    rfl
 unfold p_gGood
 rw [small, Option.bind_some]
 cases hsm : (!decide (IntKind.i64.wrap (2000 - n) < 0) && c) with
 | false => exact ⟨false, rfl, fun h => by cases h⟩
 | true =>
  rw [cond_f (rfl : (!true) = false)]
  rw [Bool.and_eq_true] at hsm
  have e : iter (p_gGood_l2 [g] (G + 2)) (G + 2) (0 : Int) = some (if b = true then .inl () else .inr false) := by
   rw [iter_one]
   obtain ⟨K, hK⟩ : ∃ K, K = iter (p_gGood_l2 [g] (G + 2)) (G + 1) := ⟨_, rfl⟩
   rw [← hK]
   unfold p_gGood_l2
   rw [hlen, cond_t (decide_eq_true (by omega)), hi0, Option.bind_some, hb, Option.bind_some]
   cases b with
   | false => rfl
   | true =>
    rw [cond_f (rfl : (!true) = false), need_pos (in64 (by omega) (by omega)), hK, iter_one]
    unfold p_gGood_l2
    rw [hlen, cond_f (decide_eq_false (by omega))]
    rfl
  rw [e, Option.bind_some]
  cases b with
  | false => exact ⟨false, rfl, fun h => by cases h⟩
  | true =>
   exact ⟨true, rfl, fun _ => ⟨fun h => hb2 rfl h, by rw [hc, hsm.2], n, hn, by simpa using hsm.1⟩⟩
theorem zzFits2_p {g : TImpl_Geom} {F : Nat} (hF : gF g < F) (hw : WfG g) : ∃ b, p_zzFits2 F g = some b ∧ (b = true → g.Flat.length ≤ 2147483647 ∧ g.Ends.length ≤ 2147483647 ∧ g.Endss.length ≤ 2147483647 ∧ g.Kids.length ≤ 2147483647 ∧ ∀ l ∈ g.Endss, l.length ≤ 2147483647) := by
 have W := hw.tell
 unfold p_zzFits2
 by_cases c1 : (2147483647 : Int) < ((g.Flat.length : Nat) : Int)
 ·rw [cond_t (decide_eq_true c1)]; exact ⟨_, rfl, fun h => by cases h⟩
 rw [cond_f (decide_eq_false c1)]
 by_cases c2 : (2147483647 : Int) < ((g.Ends.length : Nat) : Int)
 ·rw [cond_t (decide_eq_true c2)]; exact ⟨_, rfl, fun h => by cases h⟩
 rw [cond_f (decide_eq_false c2)]
 have h3 : ∃ b, p_zzFits3 F g.Endss = some b ∧ (b = true → g.Endss.length ≤ 2147483647 ∧ ∀ l ∈ g.Endss, l.length ≤ 2147483647) := by
  unfold p_zzFits3
  by_cases c3 : (2147483647 : Int) < ((g.Endss.length : Nat) : Int)
  ·rw [cond_t (decide_eq_true c3)]; exact ⟨_, rfl, fun h => by cases h⟩
  rw [cond_f (decide_eq_false c3)]
  have h4 := scan_loop0 g.Endss (p_zzFits3_l2 g.Endss) (fun l => decide (l.length ≤ 2147483647)) false (fun K k hk => by
   unfold p_zzFits3_l2; rw [cond_f (decide_eq_false (by omega))]) (fun K k x hx => by
   have hk := (List.getElem?_eq_some_iff.1 hx).1
   unfold p_zzFits3_l2
   rw [cond_t (decide_eq_true (by omega)), idx_get hx, Option.bind_some]
   by_cases c4 : x.length ≤ 2147483647
   ·rw [cond_f (decide_eq_false (by omega)), need_pos (in64 (by omega) (by omega)), if_pos (decide_eq_true c4), succ_cast]
   ·rw [cond_t (decide_eq_true (by omega)), if_neg (by simpa using c4)]) (F := F) (by have := W.big; omega)
  rw [h4, Option.bind_some]
  by_cases c5 : (g.Endss.all fun l => decide (l.length ≤ 2147483647)) = true
  ·rw [if_pos c5, aft_inl]
   exact ⟨true, rfl, fun _ => ⟨by omega, fun l hl => of_decide_eq_true (List.all_eq_true.1 c5 l hl)⟩⟩
  ·rw [if_neg c5, aft_inr]; exact ⟨_, rfl, fun h => by cases h⟩
 obtain ⟨b, hb, h5⟩ := h3
 rw [hb, Option.bind_some]
 cases b with
 | false => exact ⟨_, rfl, fun h => by cases h⟩
 | true =>
  rw [cond_f (rfl : (!true) = false)]
  by_cases c6 : (2147483647 : Int) < ((g.Kids.length : Nat) : Int)
  ·rw [cond_t (decide_eq_true c6)]; exact ⟨_, rfl, fun h => by cases h⟩
  rw [cond_f (decide_eq_false c6)]
  exact ⟨_, rfl, fun _ => ⟨by omega, by omega, (h5 rfl).1, by omega, (h5 rfl).2⟩⟩
end Go.Proofs.YtbinnbmpedmabaaGreat.Wk

namespace Go.Proofs.YtbinnbmpedmabaaGreat.Wk
open Go.Vm
set_option linter.unusedVariables false
set_option linter.unusedSimpArgs false
structure Small (F : Nat) (g : TImpl_Geom) (s : Nat) : Prop extends GoodG F g s where
 lay9 : g.Layout ≤ 9
 few : g.Flat.length + g.Ends.length ≤ 1999
 nil : g.Endss = []
end Go.Proofs.YtbinnbmpedmabaaGreat.Wk

set_option linter.unusedVariables false
set_option linter.unusedSimpArgs false
namespace Go.Proofs.YtbinnbmpedmabaaGreat.Wk
open Go.Vm
theorem wu32 {z : Int} (h1 : 0 ≤ z) (h2 : z < 4294967296) : IntKind.u32.wrap z = z := wrap_in .u32 z (by simp only [lo]; omega) (by simp only [hi]; omega)
theorem wu8 (z : Int) : IntKind.u8.wrap z = z % 256 := rfl
def ord (big : Bool) (l : List Int) : List Int := if big = true then l else l.reverse
theorem ord_len (big : Bool) (l : List Int) : (ord big l).length = l.length := by unfold ord; split <;> simp
def b4 (v : Int) : List Int := [v / 2 ^ 24 % 256, v / 2 ^ 16 % 256, v / 2 ^ 8 % 256, v % 256]
def b8 (v : Int) : List Int := [v / 2 ^ 56 % 256, v / 2 ^ 48 % 256, v / 2 ^ 40 % 256, v / 2 ^ 32 % 256, v / 2 ^ 24 % 256, v / 2 ^ 16 % 256, v / 2 ^ 8 % 256, v % 256]
def c4 (big : Bool) (v : Int) : List Int := ord big (b4 v)
def n8 (big : Bool) (x : Nat) : List Int := ord big (b8 (x : Int))
theorem c4_len (big : Bool) (v : Int) : (c4 big v).length = 4 := by unfold c4; rw [ord_len]; rfl
theorem n8_len (big : Bool) (x : Nat) : (n8 big x).length = 8 := by unfold n8; rw [ord_len]; rfl
theorem wu32_p (big : Bool) {v b0 : Int} {B : List Int} (h0 : 0 ≤ v) (hl : B.length ≤ 2000000000) : p_WriteUInt32 big v b0 B = some (0, B ++ c4 big v) := by
 unfold p_WriteUInt32
 rw [show idx [(0 : Int), (0 : Int), (0 : Int), (0 : Int)] (3 : Int) = some 0 from rfl]
 simp only [Option.bind_some]
 cases big with
 | true =>
  rw [cond_true]
  repeat rw [need_pos (by first | omega | (simp; done) | (simp; omega))]
  rfl
 | false =>
  rw [cond_false]
  repeat rw [need_pos (by first | omega | (simp; done) | (simp; omega))]
  rfl
theorem byte_p {v b0 : Int} {B : List Int} (hl : B.length ≤ 2000000000) : p_WriteByte v b0 B = some (0, B ++ [v]) := by
 unfold p_WriteByte
 rw [need_pos (show 1 = [v].length from rfl), need_pos (by simp only [List.length_singleton]; omega)]
theorem set8 (A R : List Int) (i : Nat) (hA : A.length = 8 * i) {z0 z1 z2 z3 z4 z5 z6 z7 : Int} (a0 a1 a2 a3 a4 a5 a6 a7 : Int) {j0 j1 j2 j3 j4 j5 j6 j7 : Nat} (h0 : j0 = 8 * i) (h1 : j1 = 8 * i + 1) (h2 : j2 = 8 * i + 2) (h3 : j3 = 8 * i + 3) (h4 : j4 = 8 * i + 4) (h5 : j5 = 8 * i + 5) (h6 : j6 = 8 * i + 6) (h7 : j7 = 8 * i + 7) :
  ((((((((A ++ z0 :: z1 :: z2 :: z3 :: z4 :: z5 :: z6 :: z7 :: R).set j0 a0).set j1 a1).set j2 a2).set j3 a3).set j4 a4).set j5 a5).set j6 a6).set j7 a7 = A ++ a0 :: a1 :: a2 :: a3 :: a4 :: a5 :: a6 :: a7 :: R := by
 subst h0 h1 h2 h3 h4 h5 h6 h7
 rw [← hA]
 simp only [List.set_append_right _ _ (Nat.le_refl _), List.set_append_right _ _ (Nat.le_add_right _ _), Nat.sub_self, Nat.add_sub_cancel_left, List.set_cons_zero, List.set_cons_succ]
theorem eight {c : List Int} (h : 8 ≤ c.length) : ∃ c0 c1 c2 c3 c4 c5 c6 c7 r, c = c0 :: c1 :: c2 :: c3 :: c4 :: c5 :: c6 :: c7 :: r := by
 match c, h with
 | c0 :: c1 :: c2 :: c3 :: c4 :: c5 :: c6 :: c7 :: r, _ => exact ⟨c0, c1, c2, c3, c4, c5, c6, c7, r, rfl⟩
theorem eight_at {L : List Int} {i n : Nat} (hL : L.length = 8 * n) (hi : i < n) : ∃ A z0 z1 z2 z3 z4 z5 z6 z7 R, L = A ++ z0 :: z1 :: z2 :: z3 :: z4 :: z5 :: z6 :: z7 :: R ∧ A.length = 8 * i ∧ A = L.take (8 * i) ∧ R = L.drop (8 * i + 8) := by
 obtain ⟨c0, c1, c2, c3, c4, c5, c6, c7, r, h⟩ := eight (c := L.drop (8 * i)) (by rw [List.length_drop]; omega)
 refine ⟨L.take (8 * i), c0, c1, c2, c3, c4, c5, c6, c7, r, by rw [← h, List.take_append_drop], by rw [List.length_take]; omega, rfl, ?_⟩
 rw [← List.drop_drop, h]
 rfl
theorem take_next {L : List Int} {A R w : List Int} {i : Nat} (hA : A.length = 8 * i) (hw : w.length = 8) : (A ++ (w ++ R)).take (8 * (i + 1)) = A ++ w := by
 rw [← List.append_assoc, show 8 * (i + 1) = (A ++ w).length by rw [List.length_append]; omega, List.take_left]
theorem wf_loop (big : Bool) {a1 : List Nat} (hl : a1.length ≤ 2000000) : ∀ (F i : Nat) (L : List Int), a1.length - i < F → i ≤ a1.length → L.length = 8 * a1.length → L.take (8 * i) = (a1.take i).flatMap (n8 big) →
  iter (p_WriteFloatArray_l2 big a1) F ((i : Int), L) = some (.inl (a1.flatMap (n8 big))) := by
 intro F
 induction F with
 | zero => intro i L h; omega
 | succ F ih =>
  intro i L h hi hL ht
  show p_WriteFloatArray_l2 big a1 (iter (p_WriteFloatArray_l2 big a1) F) _ = _
  generalize hK : iter (p_WriteFloatArray_l2 big a1) F = K at *
  unfold p_WriteFloatArray_l2
  dsimp only
  by_cases hil : i < a1.length
  ·obtain ⟨x, hxi⟩ : ∃ x, a1[i]? = some x := ⟨_, List.getElem?_eq_getElem hil⟩
   obtain ⟨A, z0, z1, z2, z3, z4, z5, z6, z7, R, hLe, hA, hAe, hRe⟩ := eight_at hL hil
   have h7 : idx L ((8 : Int) * (i : Int) + (7 : Int)) = some z7 := by
    refine idx_some (n := 8 * i + 7) ?_ (by omega)
    rw [hLe, List.getElem?_append_right (by omega), hA, Nat.add_sub_cancel_left]; rfl
   have e := ih (i + 1) (A ++ (n8 big x ++ R)) (by omega) (by omega) (by
    have := congrArg List.length hLe
    simp only [List.length_append, List.length_cons, n8_len] at this ⊢
    omega) (by
    rw [take_next (L := L) hA (n8_len _ _), List.take_add_one, hxi, Option.toList_some, List.flatMap_append, ← ht, hAe]
    simp)
   rw [cond_t (decide_eq_true (by omega)), idx_get hxi, Option.bind_some, need_pos (in64 (by omega) (by omega)), need_pos (by omega)]
   cases big with
   | true =>
    rw [cond_true, need_pos (by omega), h7, Option.bind_some]
    repeat rw [need_pos (by first | omega | (simp only [List.length_set]; omega) | exact in64m (by omega) (by omega))]
    rw [hLe, set8 A R i hA _ _ _ _ _ _ _ _ (by omega) (by omega) (by omega) (by omega) (by omega) (by omega) (by omega) (by omega), succ_cast]
    exact e
   | false =>
    rw [cond_false, need_pos (by omega), h7, Option.bind_some]
    repeat rw [need_pos (by first | omega | (simp only [List.length_set]; omega) | exact in64m (by omega) (by omega))]
    rw [hLe, set8 A R i hA _ _ _ _ _ _ _ _ (by omega) (by omega) (by omega) (by omega) (by omega) (by omega) (by omega) (by omega), succ_cast]
    exact e
  ·have hie : i = a1.length := by omega
   subst hie
   rw [cond_f (decide_eq_false (by omega))]
   rw [List.take_of_length_le (by omega), List.take_of_length_le (Nat.le_refl _)] at ht
   rw [ht]
theorem fm_len (big : Bool) : ∀ l : List Nat, (l.flatMap (n8 big)).length = 8 * l.length
 | [] => rfl
 | x :: r => by rw [List.flatMap_cons, List.length_append, fm_len big r, n8_len, List.length_cons]; omega
theorem wfa_p (big : Bool) {F : Nat} {a1 : List Nat} (hF : a1.length < F) {b0 : Int} {B : List Int} (hl : a1.length ≤ 2000000) (h2 : B.length ≤ 2000000000) : p_WriteFloatArray F big a1 b0 B = some (0, B ++ a1.flatMap (n8 big)) := by
 unfold p_WriteFloatArray
 have e : ((8 : Int) * ((a1.length : Nat) : Int)).toNat = 8 * a1.length := by omega
 have := wf_loop big hl F 0 (List.replicate (8 * a1.length) 0) (by omega) (by omega) (by simp) (by simp)
 rw [need_pos (in64 (by omega) (by omega)), need_pos (by omega), e, show ((0 : Int), List.replicate (8 * a1.length) (0 : Int)) = (((0 : Nat) : Int), List.replicate (8 * a1.length) (0 : Int)) from rfl, this, Option.bind_some, aft_inl]
 unfold p_WriteFloatArray_k1
 rw [e, need_pos (by rw [fm_len]), need_pos (by rw [fm_len]; omega)]
def row8 (big : Bool) (t : Nat) (l : List Nat) : List Int := c4 big ((l.length / t : Nat) : Int) ++ l.flatMap (n8 big)
theorem row8_len (big : Bool) (t : Nat) (l : List Nat) : (row8 big t l).length = 4 + 8 * l.length := by unfold row8; rw [List.length_append, c4_len, fm_len]
theorem tdiv_nat (a t : Nat) : Int.tdiv (a : Int) (t : Int) = ((a / t : Nat) : Int) := rfl
theorem wrap32 {n : Nat} (h : n < 4294967296) : IntKind.u32.wrap (n : Int) = n := wu32 (by omega) (by omega)
theorem wr0_p (big : Bool) {F : Nat} {x : List Nat} (hF : x.length < F) (hl : x.length ≤ 2000000) {b0 : Int} {B : List Int} (h2 : B.length ≤ 2000000000) : p_WriteFlatCoords0 F big x b0 B = some (0, B ++ x.flatMap (n8 big)) := by
 unfold p_WriteFlatCoords0
 rw [wfa_p big hF hl h2, Option.bind_some]
theorem wr1_p (big : Bool) {F : Nat} {x : List Nat} {t : Nat} (ht : 1 ≤ t) (hF : x.length < F) (hl : x.length ≤ 2000000) {b0 : Int} {B : List Int} (h2 : B.length ≤ 1999999990) : p_WriteFlatCoords1 F big x (t : Int) b0 B = some (0, B ++ row8 big t x) := by
 have hd : x.length / t ≤ x.length := Nat.div_le_self _ _
 unfold p_WriteFlatCoords1 row8
 rw [tdiv_nat]
 generalize x.length / t = q at hd ⊢
 rw [need_pos ⟨by omega, in64 (by omega) (by omega)⟩, wu32 (by omega) (by omega), wu32_p big (by omega) (by omega), Option.bind_some]
 dsimp only
 rw [wfa_p big hF hl (by rw [List.length_append, c4_len]; omega), Option.bind_some, List.append_assoc]
abbrev nanW : Nat := 9221120237041090560
theorem nan_loop {n : Nat} (hn : n ≤ 100) : ∀ (F i : Nat), n - i < F → i ≤ n →
  iter (p_WriteEmptyPointAsNaN_l2 (n : Int)) F ((i : Int), List.replicate i nanW ++ List.replicate (n - i) 0) = some (.inl (List.replicate n nanW)) := by
 intro F
 induction F with
 | zero => intro i h; omega
 | succ F ih =>
  intro i h hi
  show p_WriteEmptyPointAsNaN_l2 (n : Int) (iter (p_WriteEmptyPointAsNaN_l2 (n : Int)) F) _ = _
  generalize hK : iter (p_WriteEmptyPointAsNaN_l2 (n : Int)) F = K at *
  unfold p_WriteEmptyPointAsNaN_l2
  dsimp only
  by_cases hil : i < n
  ·have e := ih (i + 1) (by omega) (by omega)
   have pe : p_PointEmptyCoord = some nanW := by decide
   rw [cond_t (decide_eq_true (by omega)), pe, Option.bind_some, need_pos (by omega), need_pos (by simp; omega), need_pos (in64 (by omega) (by omega)), succ_cast]
   have hs : (List.replicate i nanW ++ List.replicate (n - i) 0).set ((i : Int)).toNat nanW = List.replicate (i + 1) nanW ++ List.replicate (n - (i + 1)) 0 := by
    rw [show ((i : Int)).toNat = i from rfl, show n - i = (n - (i + 1)) + 1 by omega, List.replicate_succ]
    rw [List.set_append_right _ _ (by simp), List.length_replicate, Nat.sub_self, List.set_cons_zero, List.replicate_succ', List.append_assoc]; rfl
   rw [hs]
   exact e
  ·have hie : i = n := by omega
   subst hie
   rw [cond_f (decide_eq_false (by omega))]
   simp
theorem nan_p (big : Bool) {F : Nat} (hF : 101 < F) {n : Nat} (hn : n ≤ 100) {b0 : Int} {B : List Int} (h2 : B.length ≤ 2000000000) : p_WriteEmptyPointAsNaN F big (n : Int) b0 B = some (0, B ++ (List.replicate n nanW).flatMap (n8 big)) := by
 unfold p_WriteEmptyPointAsNaN
 have := nan_loop hn F 0 (by omega) (by omega)
 rw [need_pos (by omega), show ((0 : Int), List.replicate ((n : Int)).toNat (0 : Nat)) = (((0 : Nat) : Int), List.replicate 0 nanW ++ List.replicate (n - 0) 0) by simp, this, Option.bind_some, aft_inl]
 unfold p_WriteEmptyPointAsNaN_k1
 rw [need_pos (by simp), wr0_p big (by simp; omega) (by simp; omega) h2, Option.bind_some]
end Go.Proofs.YtbinnbmpedmabaaGreat.Wk

set_option linter.unusedVariables false
set_option linter.unusedSimpArgs false
namespace Go.Proofs.YtbinnbmpedmabaaGreat.Wk
open Go.Vm
noncomputable section
def strd (a : Int) : Int := if a = 0 then 0 else if a = 1 then 2 else if a = 2 then 3 else if a = 3 then 3 else if a = 4 then 4 else a
theorem strd_p (a : Int) : p_Layout_Stride a = some (strd a) := by
 unfold p_Layout_Stride strd
 simp only [cond_if, decide_eq_true_eq]
 repeat' split
 all_goals rfl
mutual
def toV : TImpl_Geom → IfcV
 | .mk k l s f e es ks =>
  if k = 1 then ⟨67, c_TGeom_Point ⟨⟨l, strd l, f, s⟩⟩⟩
  else if k = 2 then ⟨70, c_TGeom_LineString ⟨⟨⟨l, strd l, f, s⟩⟩⟩⟩
  else if k = 8 then ⟨73, c_TGeom_LineString ⟨⟨⟨l, strd l, f, s⟩⟩⟩⟩
  else if k = 3 then ⟨76, c_TGeom_Polygon ⟨⟨⟨⟨l, strd l, f, s⟩⟩, e⟩⟩⟩
  else if k = 4 then ⟨80, c_TGeom_Polygon ⟨⟨⟨⟨l, strd l, f, s⟩⟩, e⟩⟩⟩
  else if k = 5 then ⟨86, c_TGeom_Polygon ⟨⟨⟨⟨l, strd l, f, s⟩⟩, e⟩⟩⟩
  else if k = 6 then ⟨89, c_TGeom_MultiPolygon ⟨⟨⟨⟨l, strd l, f, s⟩⟩, es⟩⟩⟩
  else ⟨93, c_TGeom_GeometryCollection ⟨l, toVs ks, s⟩⟩
def toVs : List TImpl_Geom → List IfcV
 | [] => []
 | g :: r => toV g :: toVs r
end
theorem toVs_map : ∀ l : List TImpl_Geom, toVs l = l.map toV
 | [] => by simp [toVs]
 | g :: r => by simp [toVs, toVs_map r]
def cov (a b : Int) : Int := if (a = 2 ∧ b = 3) ∨ (a = 3 ∧ b = 2) then 4 else if a < b then b else a
mutual
def lay : TImpl_Geom → Int
 | .mk k l _ _ _ _ ks => if k ≠ 7 then l else if l ≠ 0 then l else lays l ks
def lays : Int → List TImpl_Geom → Int
 | a, [] => a
 | a, g :: r => lays (cov a (lay g)) r
end
theorem lays_fold : ∀ (l : List TImpl_Geom) (a : Int), lays a l = l.foldl (fun s k => cov s (lay k)) a
 | [], a => by simp [lays]
 | g :: r, a => by rw [lays, lays_fold r, List.foldl_cons]
theorem lay_eq (g : TImpl_Geom) : lay g = if g.Kind ≠ 7 then g.Layout else if g.Layout ≠ 0 then g.Layout else lays g.Layout g.Kids := by
 cases g; simp only [lay]
theorem cov_p (a b : Int) : p_Cover a b = some (cov a b) := by
 unfold p_Cover cov
 simp only [cond_if, decide_eq_true_eq]
 repeat' split
 all_goals first | rfl | (exfalso; omega) | skip

mutual
def VG : TImpl_Geom → Prop
 | .mk k _ _ _ _ _ ks => (1 ≤ k ∧ k ≤ 7) ∧ VGs ks
def VGs : List TImpl_Geom → Prop
 | [] => True
 | g :: r => VG g ∧ VGs r
end
theorem VGs_mem : ∀ {l : List TImpl_Geom}, VGs l → ∀ k ∈ l, VG k
 | [], _, _, h => by cases h
 | g :: r, h, k, hk => by
  simp only [VGs] at h
  rcases List.mem_cons.1 hk with rfl | hk
  ·exact h.1
  ·exact VGs_mem h.2 k hk
theorem VGs_of : ∀ {l : List TImpl_Geom}, (∀ k ∈ l, VG k) → VGs l
 | [], _ => by simp [VGs]
 | g :: r, h => by simp only [VGs]; exact ⟨h g (by simp), VGs_of fun k hk => h k (by simp [hk])⟩
theorem VG.kind {g : TImpl_Geom} (h : VG g) : 1 ≤ g.Kind ∧ g.Kind ≤ 7 := by cases g; simp only [VG] at h; exact h.1
theorem VG.kid {g : TImpl_Geom} (h : VG g) : ∀ k ∈ g.Kids, VG k := by cases g; simp only [VG] at h; exact VGs_mem h.2
theorem VG.of {g : TImpl_Geom} (h : 1 ≤ g.Kind ∧ g.Kind ≤ 7) (hk : ∀ k ∈ g.Kids, VG k) : VG g := by cases g; simp only [VG]; exact ⟨h, VGs_of hk⟩
theorem layoutOf_p : ∀ (N : Nat) (g : TImpl_Geom), gF g ≤ N → WfG g → ∀ F, gF g < F → p_LayoutOf F g = some (lay g) := by
 intro N
 induction N with
 | zero => intro g h hw; have := hw.tell.big.1; omega
 | succ N ih =>
  intro g h hw F hF
  have W := hw.tell
  obtain ⟨G, rfl⟩ : ∃ G, F = G + 1 := ⟨F - 1, by omega⟩
  show p_LayoutOf_b (fun a0 => p_LayoutOf G a0) G g = _
  have k0 : p_LayoutOf_k1 g G (fun a0 => p_LayoutOf G a0) true = some g.Layout := rfl
  unfold p_LayoutOf_b
  rw [lay_eq]
  by_cases c7 : g.Kind = 7
  ·rw [cond_f (nF c7), if_neg (by simpa using c7)]
   by_cases c0 : g.Layout = 0
   ·rw [nF c0, if_neg (by simpa using c0)]
    unfold p_LayoutOf_k1
    rw [cond_f rfl]
    have := fold_all (V := Int) (T := Int) g.Kids (p_LayoutOf_l3 g (fun a0 => p_LayoutOf G a0)) (fun i s => (s, (i : Int))) (fun s k => cov s (lay k)) (fun s => s) (fun _ _ => True)
     (fun K s _ => by unfold p_LayoutOf_l3; dsimp only; rw [cond_f dge])
     (fun K i x s hx _ => by
      have hi := lt_get hx
      have hk := W.kid _ (mem_get hx)
      unfold p_LayoutOf_l3; dsimp only
      rw [cond_t (dlt hi), idx_get hx, Option.bind_some, ih x (by omega) hk.1 G (by omega), Option.bind_some, cov_p, Option.bind_some, need_pos (inM hi W.kids), succ_cast])
     (fun _ _ _ _ _ => trivial) G 0 g.Layout (by have := W.big; omega) (by omega) trivial
    rw [List.drop_zero, ← lays_fold] at this
    rw [show (0 : Int) = ((0 : Nat) : Int) from rfl, this, Option.bind_some, aft_inl]
    rfl
   ·rw [nT c0, if_pos c0]; exact k0
  ·rw [cond_t (nT c7), if_pos c7]; exact k0
theorem di_inj {k : IntKind} {a b : Int} (h : di k a = di k b) : a = b := by
 have h1 := D.v.inj h
 injection h1
def vlay {ρ : Type} (R : TGeom_GeometryCollection → Option Int) (x : IfcV) (K : Int → Option ρ) : Option ρ :=
 cond (decide (x.dt = 67)) ((decodeD c_TGeom_Point x.cells).bind fun y => K y.geom0.layout) (cond (decide (x.dt = 70)) ((decodeD c_TGeom_LineString x.cells).bind fun y => K y.geom1.geom0.layout) (cond (decide (x.dt = 76)) ((decodeD c_TGeom_Polygon x.cells).bind fun y => K y.geom2.geom1.geom0.layout)
  (cond (decide (x.dt = 80)) ((decodeD c_TGeom_Polygon x.cells).bind fun y => K y.geom2.geom1.geom0.layout) (cond (decide (x.dt = 86)) ((decodeD c_TGeom_Polygon x.cells).bind fun y => K y.geom2.geom1.geom0.layout)
  (cond (decide (x.dt = 89)) ((decodeD c_TGeom_MultiPolygon x.cells).bind fun y => K y.geom3.geom1.geom0.layout) (cond (decide (x.dt = 93)) ((decodeD c_TGeom_GeometryCollection x.cells).bind fun y => (R y).bind fun v => K v) none))))))
theorem fl_inj {a b : List Nat} (h : eS1 a = eS1 b) : a = b := by
 refine (List.map_inj_right (fun x y h => ?_)).1 (D.ds.inj h).2
 have h1 := D.v.inj h
 injection h1
theorem in_inj {a b : List Int} (h : eS2 a = eS2 b) : a = b := (List.map_inj_right (fun x y h => di_inj h)).1 (D.ds.inj h).2
theorem il_inj {a b : List (List Int)} (h : eS3 a = eS3 b) : a = b := (List.map_inj_right (fun x y h => in_inj h)).1 (D.ds.inj h).2
theorem poly_dec (y : TGeom_Polygon) : decodeD c_TGeom_Polygon (c_TGeom_Polygon y) = some y := by
 obtain ⟨y', h1, h2⟩ := decodeD_of c_TGeom_Polygon y
 simp only [List.cons.injEq] at h2
 obtain ⟨a, b, c, d, e, _⟩ := h2
 rw [h1]
 obtain ⟨⟨⟨⟨x1, x2, x3, x4⟩⟩, x5⟩⟩ := y
 obtain ⟨⟨⟨⟨z1, z2, z3, z4⟩⟩, z5⟩⟩ := y'
 obtain rfl := di_inj a
 obtain rfl := di_inj b
 obtain rfl := fl_inj c
 obtain rfl := di_inj d
 obtain rfl := in_inj e
 rfl
theorem mpoly_dec (y : TGeom_MultiPolygon) : decodeD c_TGeom_MultiPolygon (c_TGeom_MultiPolygon y) = some y := by
 obtain ⟨y', h1, h2⟩ := decodeD_of c_TGeom_MultiPolygon y
 simp only [List.cons.injEq] at h2
 obtain ⟨a, b, c, d, e, _⟩ := h2
 rw [h1]
 obtain ⟨⟨⟨⟨x1, x2, x3, x4⟩⟩, x5⟩⟩ := y
 obtain ⟨⟨⟨⟨z1, z2, z3, z4⟩⟩, z5⟩⟩ := y'
 obtain rfl := di_inj a
 obtain rfl := di_inj b
 obtain rfl := fl_inj c
 obtain rfl := di_inj d
 obtain rfl := il_inj e
 rfl
theorem point_dec (y : TGeom_Point) : decodeD c_TGeom_Point (c_TGeom_Point y) = some y := by
 obtain ⟨y', h1, h2⟩ := decodeD_of c_TGeom_Point y
 simp only [List.cons.injEq] at h2
 obtain ⟨a, b, c, d, _⟩ := h2
 rw [h1]
 obtain ⟨⟨x1, x2, x3, x4⟩⟩ := y
 obtain ⟨⟨z1, z2, z3, z4⟩⟩ := y'
 obtain rfl := di_inj a
 obtain rfl := di_inj b
 obtain rfl := fl_inj c
 obtain rfl := di_inj d
 rfl
theorem line_dec (y : TGeom_LineString) : decodeD c_TGeom_LineString (c_TGeom_LineString y) = some y := by
 obtain ⟨y', h1, h2⟩ := decodeD_of c_TGeom_LineString y
 simp only [List.cons.injEq] at h2
 obtain ⟨a, b, c, d, _⟩ := h2
 rw [h1]
 obtain ⟨⟨⟨x1, x2, x3, x4⟩⟩⟩ := y
 obtain ⟨⟨⟨z1, z2, z3, z4⟩⟩⟩ := y'
 obtain rfl := di_inj a
 obtain rfl := di_inj b
 obtain rfl := fl_inj c
 obtain rfl := di_inj d
 rfl
theorem ifc_inj {x y : IfcV} (h : keS5 x = keS5 y) : x = y := by
 cases x; cases y
 have h1 := D.ifc.inj h
 have h2 := D.pt.inj h1.2
 obtain rfl := h1.1
 obtain rfl := h2
 rfl
theorem coll_dec (y : TGeom_GeometryCollection) : decodeD c_TGeom_GeometryCollection (c_TGeom_GeometryCollection y) = some y := by
 obtain ⟨y', h1, h2⟩ := decodeD_of c_TGeom_GeometryCollection y
 simp only [List.cons.injEq] at h2
 have e1 := di_inj h2.1
 have e2 := (List.map_inj_right (fun x y h => ifc_inj h)).1 (D.ds.inj h2.2.1).2
 have e3 := di_inj h2.2.2.1
 rw [h1]
 cases y; cases y'
 simp only at e1 e2 e3
 subst e1; subst e2; subst e3
 rfl
theorem vlay_p {ρ : Type} {g : TImpl_Geom} (hk : 1 ≤ g.Kind ∧ g.Kind ≤ 7) (R : TGeom_GeometryCollection → Option Int) (K : Int → Option ρ) (hR : g.Kind = 7 → R ⟨g.Layout, toVs g.Kids, g.SRID⟩ = some (lay g)) : vlay R (toV g) K = K (lay g) := by
 have hl : g.Kind ≠ 7 → lay g = g.Layout := fun h => by rw [lay_eq, if_pos h]
 cases g with
 | mk k l s f e es ks =>
  simp only at hk hR hl
  unfold toV
  by_cases h1 : k = 1
  ·rw [if_pos h1, hl (by omega)]
   unfold vlay
   dsimp only
   rw [cond_t (by rfl), point_dec, Option.bind_some]
  rw [if_neg h1]
  by_cases h2 : k = 2
  ·rw [if_pos h2, hl (by omega)]
   unfold vlay
   dsimp only
   rw [cond_f (by rfl), cond_t (by rfl), line_dec, Option.bind_some]
  rw [if_neg h2]
  rw [if_neg (by omega)]
  by_cases h3 : k = 3
  ·rw [if_pos h3, hl (by omega)]
   unfold vlay
   dsimp only
   rw [cond_f (by rfl), cond_f (by rfl), cond_t (by rfl), poly_dec, Option.bind_some]
  rw [if_neg h3]
  by_cases h4 : k = 4
  ·rw [if_pos h4, hl (by omega)]
   unfold vlay
   dsimp only
   rw [cond_f (by rfl), cond_f (by rfl), cond_f (by rfl), cond_t (by rfl), poly_dec, Option.bind_some]
  rw [if_neg h4]
  by_cases h5 : k = 5
  ·rw [if_pos h5, hl (by omega)]
   unfold vlay
   dsimp only
   rw [cond_f (by rfl), cond_f (by rfl), cond_f (by rfl), cond_f (by rfl), cond_t (by rfl), poly_dec, Option.bind_some]
  rw [if_neg h5]
  by_cases h6 : k = 6
  ·rw [if_pos h6, hl (by omega)]
   unfold vlay
   dsimp only
   rw [cond_f (by rfl), cond_f (by rfl), cond_f (by rfl), cond_f (by rfl), cond_f (by rfl), cond_t (by rfl), mpoly_dec, Option.bind_some]
  rw [if_neg h6]
  unfold vlay
  dsimp only
  rw [cond_f (by rfl), cond_f (by rfl), cond_f (by rfl), cond_f (by rfl), cond_f (by rfl), cond_f (by rfl), cond_t (by rfl), coll_dec, Option.bind_some, hR (by omega), Option.bind_some]
end
end Go.Proofs.YtbinnbmpedmabaaGreat.Wk

set_option linter.unusedVariables false
set_option linter.unusedSimpArgs false
namespace Go.Proofs.YtbinnbmpedmabaaGreat.Wk
open Go.Vm
noncomputable section
def stepK {ρ : Type} (m i : Int) (K : Int × Int → Option ρ) (v : Int) : Option ρ :=
 cond (decide (v = 2)) (cond (decide (m = 3)) (need (inI .i64 (i + 1)) (K (4, i + 1))) (cond (decide (m < v)) (need (inI .i64 (i + 1)) (K (v, i + 1))) (need (inI .i64 (i + 1)) (K (m, i + 1)))))
  (cond (decide (v = 3)) (cond (decide (m = 2)) (need (inI .i64 (i + 1)) (K (4, i + 1))) (cond (decide (m < v)) (need (inI .i64 (i + 1)) (K (v, i + 1))) (need (inI .i64 (i + 1)) (K (m, i + 1)))))
   (cond (decide (m < v)) (need (inI .i64 (i + 1)) (K (v, i + 1))) (need (inI .i64 (i + 1)) (K (m, i + 1)))))
theorem stepK_p {ρ : Type} {m i v : Int} {K : Int × Int → Option ρ} (hi : inI .i64 (i + 1)) : stepK m i K v = K (cov m v, i + 1) := by
 unfold stepK cov
 rw [need_pos hi, need_pos hi, need_pos hi]
 by_cases h2 : v = 2
 ·subst h2
  rw [cond_t (by rfl)]
  by_cases h3 : m = 3
  ·subst h3; rw [cond_t (by rfl), if_pos (by omega)]
  ·rw [cond_f (decide_eq_false h3), if_neg (by omega)]
   by_cases h : m < 2
   ·rw [cond_t (decide_eq_true h), if_pos h]
   ·rw [cond_f (decide_eq_false h), if_neg h]
 ·rw [cond_f (decide_eq_false h2)]
  by_cases h3 : v = 3
  ·subst h3
   rw [cond_t (by rfl)]
   by_cases h4 : m = 2
   ·subst h4; rw [cond_t (by rfl), if_pos (by omega)]
   ·rw [cond_f (decide_eq_false h4), if_neg (by omega)]
    by_cases h : m < 3
    ·rw [cond_t (decide_eq_true h), if_pos h]
    ·rw [cond_f (decide_eq_false h), if_neg h]
  ·rw [cond_f (decide_eq_false h3), if_neg (by omega)]
   by_cases h : m < v
   ·rw [cond_t (decide_eq_true h), if_pos h]
   ·rw [cond_f (decide_eq_false h), if_neg h]
theorem l2_eq (a : TGeom_GeometryCollection) (R : TGeom_GeometryCollection → Option Int) (K : Int × Int → Option (Sum Int Int)) (g : Int × Int) :
  p_GeometryCollection_Layout_l2 a R K g = cond (decide (g.2 < ((a.geoms.length : Nat) : Int))) ((idx a.geoms g.2).bind fun x => vlay R x (stepK g.1 g.2 K)) (some (.inl g.1)) := rfl
theorem glay_p : ∀ (N : Nat) (g : TImpl_Geom), gF g ≤ N → WfG g → VG g → g.Kind = 7 → ∀ F, gF g < F → p_GeometryCollection_Layout F ⟨g.Layout, toVs g.Kids, g.SRID⟩ = some (lay g) := by
 intro N
 induction N with
 | zero => intro g h hw; have := hw.tell.big.1; omega
 | succ N ih =>
  intro g h hw hv h7 F hF
  have W := hw.tell
  obtain ⟨G, rfl⟩ : ∃ G, F = G + 1 := ⟨F - 1, by omega⟩
  show p_GeometryCollection_Layout_b (fun a0 => p_GeometryCollection_Layout G a0) G _ = _
  unfold p_GeometryCollection_Layout_b
  dsimp only
  rw [lay_eq, if_neg (by simpa using h7)]
  by_cases c0 : g.Layout = 0
  ·rw [cond_f (nF c0), if_neg (by simpa using c0), toVs_map]
   have := fold_all (V := Int) (T := Int) g.Kids (p_GeometryCollection_Layout_l2 ⟨g.Layout, g.Kids.map toV, g.SRID⟩ (fun a0 => p_GeometryCollection_Layout G a0)) (fun i s => (s, (i : Int))) (fun s k => cov s (lay k)) (fun s => s) (fun _ _ => True)
    (fun K s _ => by rw [l2_eq]; dsimp only; rw [List.length_map, cond_f dge])
    (fun K i x s hx _ => by
     have hi := lt_get hx
     have hk := W.kid _ (mem_get hx)
     have hvx := hv.kid _ (mem_get hx)
     have hxm : (g.Kids.map toV)[i]? = some (toV x) := by rw [List.getElem?_map, hx]; rfl
     rw [l2_eq]; dsimp only
     rw [List.length_map, cond_t (dlt hi), idx_get hxm, Option.bind_some, vlay_p hvx.kind _ _ (fun hx7 => ih x (by omega) hk.1 hvx hx7 G (by omega)), stepK_p (inM hi W.kids), succ_cast])
    (fun _ _ _ _ _ => trivial) G 0 g.Layout (by have := W.big; omega) (by omega) trivial
   rw [List.drop_zero, ← lays_fold, c0] at this
   have t2 : iter (p_GeometryCollection_Layout_l2 ⟨g.Layout, g.Kids.map toV, g.SRID⟩ (fun a0 => p_GeometryCollection_Layout G a0)) G ((0 : Int), (0 : Int)) = some (.inl (lays 0 g.Kids)) := by rw [c0]; exact this
   rw [t2, Option.bind_some, aft_inl, c0]
   rfl
  ·rw [cond_t (nT c0), if_pos c0]
theorem good_kids {g : TImpl_Geom} (hw : WfG g) {G : Nat} (hG : gF g ≤ G) (h7 : g.Kind = 7) (h : p_Good (G + 1) g = some true) : ∀ k ∈ g.Kids, p_Good G k = some true ∧ (g.Layout ≠ 0 → lay k = g.Layout) := by
 have W := hw.tell
 have h' : p_Good_b (fun a0 => p_Good G a0) G g = some true := h
 obtain ⟨s, hs, -, -⟩ := stride_t g.Layout
 unfold p_Good_b at h'
 rw [hs, Option.bind_some, cond_t (decide_eq_true h7)] at h'
 have hF := fold_exit (V := Unit) (σ := Unit) g.Kids (p_Good_l3 g G (fun a0 => p_Good G a0)) (fun i _ => (i : Int)) (fun s _ => s) (fun x => (p_Good G x == some true) && (g.Layout == 0 || lay x == g.Layout)) false (fun s => s) (fun _ _ => True)
  (fun K s _ => by unfold p_Good_l3; dsimp only; rw [cond_f dge])
  (fun K i x s hx _ => by
   have hi := lt_get hx
   have hk := W.kid _ (mem_get hx)
   obtain ⟨b, hb, -⟩ := good_t _ _ (Nat.le_refl _) hk.1 G (by omega)
   have hn := layoutOf_p _ _ (Nat.le_refl _) hk.1 G (by omega)
   unfold p_Good_l3; dsimp only
   rw [cond_t (dlt hi), idx_get hx, Option.bind_some, hb, Option.bind_some]
   cases b with
   | false => rw [cond_t (rfl : (!false) = true), if_neg (by simp)]
   | true =>
    rw [cond_f (rfl : (!true) = false), need_pos (inM hi W.kids)]
    by_cases c0 : g.Layout = 0
    ·rw [cond_f (nF c0), if_pos (by simp [c0]), succ_cast]
    ·rw [cond_t (nT c0), hn, Option.bind_some]
     by_cases cl : lay x = g.Layout
     ·rw [cond_f (nF cl), if_pos (by simp [cl]), succ_cast]
     ·rw [cond_t (nT cl), if_neg (by simp [c0, cl])])
  (fun _ _ _ _ _ _ => trivial) G 0 () (by have := W.big; omega) (by omega) trivial
 rw [List.drop_zero] at hF
 have hF' : iter (p_Good_l3 g G (fun a0 => p_Good G a0)) G (0 : Int) = _ := hF
 rw [hF', Option.bind_some] at h'
 by_cases ha : (g.Kids.all fun x => (p_Good G x == some true) && (g.Layout == 0 || lay x == g.Layout)) = true
 ·intro k hk
  have := List.all_eq_true.1 ha k hk
  simp only [Bool.and_eq_true, beq_iff_eq, Bool.or_eq_true] at this
  exact ⟨this.1, fun h0 => this.2.resolve_left h0⟩
 ·rw [if_neg ha, aft_inr] at h'
  cases h'
theorem k4_kind {F : Nat} {g : TImpl_Geom} {s : Int} (h : p_Good_k4 g F s () = some true) (h7 : g.Kind ≠ 7) : 1 ≤ g.Kind ∧ g.Kind ≤ 8 := by
 by_cases h1 : g.Kind = 1
 ·omega
 by_cases h2 : g.Kind = 2
 ·omega
 by_cases h8 : g.Kind = 8
 ·omega
 by_cases h3 : g.Kind = 3
 ·omega
 by_cases h4 : g.Kind = 4
 ·omega
 by_cases h5 : g.Kind = 5
 ·omega
 by_cases h6 : g.Kind = 6
 ·omega
 unfold p_Good_k4 p_Good_k5 p_Good_k6 at h
 rw [cond_f (decide_eq_false h1), cond_f (decide_eq_false h2), cond_f (decide_eq_false h8), cond_f (decide_eq_false h3), cond_f (decide_eq_false h4), cond_f (decide_eq_false h5), cond_f (decide_eq_false h6)] at h
 cases h
theorem ring_f {F : Nat} {g : TImpl_Geom} (hw : Wf g) (hG : g.Kids.length < F) (h : p_yRing (F + 1) g = some false) : g.Kind ≠ 8 ∧ ∀ k ∈ g.Kids, p_yRing F k = some false := by
 have h' : p_yRing_b (fun a0 => p_yRing F a0) F g = some false := h
 unfold p_yRing_b at h'
 have key : ∀ (n i : Nat), g.Kids.length - i < n → (∀ o, (iter (p_yRing_l2 g fun a0 => p_yRing F a0) n (i : Int)) = some o → o.elim (fun _ => True) (fun b => b = true)) ∧
   (iter (p_yRing_l2 g fun a0 => p_yRing F a0) n (i : Int) = some (.inl ()) → ∀ k ∈ g.Kids.drop i, p_yRing F k = some false) := by
  intro n
  induction n with
  | zero => intro i hn; omega
  | succ n ih =>
   intro i hn
   have e : iter (p_yRing_l2 g fun a0 => p_yRing F a0) (n + 1) (i : Int) = p_yRing_l2 g (fun a0 => p_yRing F a0) (iter (p_yRing_l2 g fun a0 => p_yRing F a0) n) (i : Int) := rfl
   have step : ∀ (K : Int → Option (Sum Unit Bool)) (j : Int), p_yRing_l2 g (fun a0 => p_yRing F a0) K j = cond (decide (j < ((g.Kids.length : Nat) : Int))) ((idx g.Kids j).bind fun x => (p_yRing F x).bind fun b => cond b (some (.inr true)) (need (inI .i64 (j + 1)) (K (j + 1)))) (some (.inl ())) := fun _ _ => rfl
   rw [e, step]
   by_cases hi : i < g.Kids.length
   ·rw [cond_t (decide_eq_true (by omega)), idx_get (List.getElem?_eq_getElem hi), Option.bind_some]
    cases hr : p_yRing F g.Kids[i] with
    | none => exact ⟨fun o ho => (by cases ho), fun ho => (by cases ho)⟩
    | some b =>
     rw [Option.bind_some]
     cases b with
     | true => exact ⟨fun o ho => by cases ho; rfl, fun ho => (by cases ho)⟩
     | false =>
      rw [cond_false, need_pos (inM hi hw.kids), succ_cast]
      obtain ⟨i1, i2⟩ := ih (i + 1) (by omega)
      refine ⟨i1, fun ho k hk => ?_⟩
      rw [List.drop_eq_getElem_cons hi] at hk
      rcases List.mem_cons.1 hk with rfl | hk
      ·exact hr
      ·exact i2 ho k hk
   ·rw [cond_f (decide_eq_false (by omega))]
    refine ⟨fun o ho => by cases ho; trivial, fun _ k hk => ?_⟩
    rw [List.drop_eq_nil_of_le (by omega)] at hk
    cases hk
 obtain ⟨k1, k2⟩ := key F 0 (by omega)
 rw [show ((0 : Nat) : Int) = 0 from rfl] at k1 k2
 cases hit : iter (p_yRing_l2 g fun a0 => p_yRing F a0) F (0 : Int) with
 | none => rw [hit] at h'; cases h'
 | some o =>
  rw [hit, Option.bind_some] at h'
  cases o with
  | inr b =>
   have := k1 _ hit
   have hb : b = true := this
   subst hb
   cases h'
  | inl u =>
   have h2 : some (decide (g.Kind = (8 : Int))) = some false := h'
   exact ⟨fun h8 => (by rw [decide_eq_true h8] at h2; cases h2), fun k hk => k2 hit k (by rw [List.drop_zero]; exact hk)⟩
theorem mp_empty {F : Nat} (hF : 0 < F) {g : TImpl_Geom} {s : Int} (h : p_Good_k4 g F s () = some true) (h4 : g.Kind = 4) (he : g.Ends = []) : g.Flat = [] := by
 unfold p_Good_k4 p_Good_k5 p_Good_k6 at h
 rw [cond_f (decide_eq_false (by omega)), cond_f (decide_eq_false (by omega)), cond_f (decide_eq_false (by omega)), cond_f (decide_eq_false (by omega)), cond_t (decide_eq_true h4), cond_t (decide_eq_true h4), he] at h
 match F, hF with
 | F + 1, _ =>
  have : p_goodEnds (F + 1) [] (0 : Int) s (decide (g.Kind = 4)) = some (0, true) := rfl
  rw [this, Option.bind_some] at h
  have h2 : some (decide ((0 : Int) = ((g.Flat.length : Nat) : Int))) = some true := h
  have h3 := of_decide_eq_true (Option.some.inj h2)
  exact List.length_eq_zero_iff.1 (by omega)
theorem nmp_p {F : Nat} (hF : 2 ≤ F) {a : Int} {f : List Nat} {e : List Int} (h : e = [] → f = []) : p_NewMultiPointFlat F a f [e] = some ⟨⟨⟨⟨a, strd a, f, 0⟩⟩, e⟩⟩ := by
 unfold p_NewMultiPointFlat
 rw [strd_p, Option.bind_some]
 match F, hF with
 | F + 2, _ =>
  have : iter (p_NewMultiPointFlat_l3 [e]) (F + 2) ((0 : Int), []) = some (.inl e) := by
   show p_NewMultiPointFlat_l3 [e] (iter (p_NewMultiPointFlat_l3 [e]) (F + 1)) ((0 : Int), []) = _
   have h2 : iter (p_NewMultiPointFlat_l3 [e]) (F + 1) ((0 : Int) + 1, e) = some (.inl e) := rfl
   generalize iter (p_NewMultiPointFlat_l3 [e]) (F + 1) = K at *
   unfold p_NewMultiPointFlat_l3
   dsimp only
   rw [cond_t (by rfl), show idx [e] (0 : Int) = some e from rfl, Option.bind_some, need_pos (in64m (by omega) (by omega)), h2]
  rw [this, Option.bind_some, aft_inl]
  unfold p_NewMultiPointFlat_k1
  cases e with
  | nil =>
   rw [h rfl]
   exact agr_same rfl rfl
  | cons x e => rfl
theorem intss_q {F : Nat} (hF : 1048576 < F) (x : List (List Int)) (hx : x.length ≤ 1048576) (hy : ∀ y ∈ x, y.length ≤ 1048576) : p_intss F x = some x := by
 have key := fold_all (σ := List (List Int)) x (p_intss_l2 x) (fun i s => ((i : Int), s)) (fun s y => s ++ [y]) (fun s => s) (fun i s => s.length = i)
  (fun K s _ => by unfold p_intss_l2; dsimp only; rw [cond_f dge])
  (fun K i y s hyy h1 => by
   have hi := lt_get hyy
   have hy1 := hy y (mem_get hyy)
   unfold p_intss_l2 p_ints
   dsimp only
   rw [cond_t (dlt hi), idx_get hyy, Option.bind_some, need_pos (by omega), Option.bind_some, need_pos (by simp only [List.length_cons, List.length_nil]; omega), need_pos (i64s (by omega)), succ_cast])
  (fun i y s hy h1 => by rw [List.length_append, h1]; rfl) F 0 [] (by omega) (by omega) rfl
 have key' : iter (p_intss_l2 x) F ((0 : Int), []) = _ := key
 have fc : ∀ (l r : List (List Int)), l.foldl (fun s y => s ++ [y]) r = r ++ l := by
  intro l
  induction l with
  | nil => simp
  | cons a l ih => intro r; rw [List.foldl_cons, ih]; simp
 unfold p_intss
 rw [key', Option.bind_some, aft_inl, List.drop_zero, fc]
 rfl
theorem l4_eq (a : TImpl_Geom) (F : Nat) (g : List IfcV) (K : Int → Option (Sum Unit IfcV)) (i : Int) :
  p_geometry_l4 a F g K i = cond (decide (i < ((g.length : Nat) : Int))) (need (0 ≤ i ∧ i < ((g.length : Nat) : Int)) ((idx g i).bind fun x => vlay (p_GeometryCollection_Layout F) x (fun v => cond (!decide (v = a.Layout)) none (need (inI .i64 (i + 1)) (K (i + 1)))))) (some (.inl ())) := rfl
end
end Go.Proofs.YtbinnbmpedmabaaGreat.Wk

set_option linter.unusedVariables false
set_option linter.unusedSimpArgs false
namespace Go.Proofs.YtbinnbmpedmabaaGreat.Wk
open Go.Vm
noncomputable section
def flg (L : Int) : Int := if L = 2 then 2147483648 else if L = 3 then 1073741824 else if L = 4 then 3221225472 else 0
def hdr (big : Bool) (code L srid : Int) : List Int :=
 [if big = true then 0 else 1] ++ c4 big (code + flg L + (if srid = 0 then 0 else 536870912)) ++ (if srid = 0 then [] else c4 big (IntKind.u32.wrap srid))
def hdE {R : Type} (big : Bool) (code L srid b0 : Int) (B : List Int) (K4 : Int × List Int → Option R) (bad0 : Option R) (zero bad : Int × List Int → Option R) : Option R :=
 let k3 : Int × List Int → Int → Option R := fun y2 g8 => (p_WriteUInt32 big g8 y2.1 y2.2).bind fun y9 => cond (!decide ((bits .and .u32 g8 (536870912 : Int)) = (0 : Int))) ((p_WriteUInt32 big (IntKind.u32.wrap srid) y9.1 y9.2).bind fun y => K4 (y.1, y.2)) (K4 (y9.1, y9.2))
 let k2 : Int × List Int → Int → Option R := fun y2 g5 => cond (!decide (srid = (0 : Int))) (k3 y2 (bits .or .u32 g5 (536870912 : Int))) (k3 y2 g5)
 let k1 : Int → Option R := fun g1 => (p_WriteByte g1 b0 B).bind fun y2 => cond (decide (L = (0 : Int))) (zero y2) (cond (decide (L = (1 : Int))) (k2 y2 code) (cond (decide (L = (2 : Int))) (k2 y2 (bits .or .u32 code (2147483648 : Int))) (cond (decide (L = (3 : Int))) (k2 y2 (bits .or .u32 code (1073741824 : Int))) (cond (decide (L = (4 : Int))) (k2 y2 (bits .or .u32 code (3221225472 : Int))) (bad y2)))))
 cond big (k1 (0 : Int)) (cond (!big) (k1 (1 : Int)) bad0)
theorem code7 {P : Int → Prop} {c : Int} (h : 1 ≤ c ∧ c ≤ 7) (h1 : P 1) (h2 : P 2) (h3 : P 3) (h4 : P 4) (h5 : P 5) (h6 : P 6) (h7 : P 7) : P c := by
 have : c = 1 ∨ c = 2 ∨ c = 3 ∨ c = 4 ∨ c = 5 ∨ c = 6 ∨ c = 7 := by omega
 rcases this with rfl | rfl | rfl | rfl | rfl | rfl | rfl <;> assumption
theorem orL {c : Int} (h : 1 ≤ c ∧ c ≤ 7) : bits .or .u32 c 2147483648 = c + 2147483648 ∧ bits .or .u32 c 1073741824 = c + 1073741824 ∧ bits .or .u32 c 3221225472 = c + 3221225472 :=
 code7 (P := fun c => bits .or .u32 c 2147483648 = c + 2147483648 ∧ bits .or .u32 c 1073741824 = c + 1073741824 ∧ bits .or .u32 c 3221225472 = c + 3221225472) h (by decide +kernel) (by decide +kernel) (by decide +kernel) (by decide +kernel) (by decide +kernel) (by decide +kernel) (by decide +kernel)
def codeOk (g : Int) : Prop := bits .or .u32 g 536870912 = g + 536870912 ∧ bits .and .u32 g 536870912 = 0 ∧ bits .and .u32 (g + 536870912) 536870912 = 536870912
instance (g : Int) : Decidable (codeOk g) := by unfold codeOk; infer_instance
theorem codes {c : Int} (h : 1 ≤ c ∧ c ≤ 7) : codeOk c ∧ codeOk (c + 2147483648) ∧ codeOk (c + 1073741824) ∧ codeOk (c + 3221225472) :=
 code7 (P := fun c => codeOk c ∧ codeOk (c + 2147483648) ∧ codeOk (c + 1073741824) ∧ codeOk (c + 3221225472)) h (by decide +kernel) (by decide +kernel) (by decide +kernel) (by decide +kernel) (by decide +kernel) (by decide +kernel) (by decide +kernel)
theorem wrap0 (z : Int) : 0 ≤ IntKind.u32.wrap z := by
 have : IntKind.u32.wrap z = z % 4294967296 := rfl
 rw [this]; omega
theorem hdr_len (big : Bool) (code L srid : Int) : (hdr big code L srid).length = if srid = 0 then 5 else 9 := by
 unfold hdr
 rw [List.length_append, List.length_append, c4_len]
 by_cases hs : srid = 0
 ·rw [if_pos hs, if_pos hs]; cases big <;> rfl
 ·rw [if_neg hs, if_neg hs, c4_len]; cases big <;> rfl
theorem tail_p {R : Type} (big : Bool) {srid g5 b1 : Int} {B : List Int} {K4 : Int × List Int → Option R} (h0 : 0 ≤ g5) (hg : codeOk g5) (hB : B.length ≤ 1900000000) :
  (cond (!decide (srid = (0 : Int))) ((p_WriteUInt32 big (bits .or .u32 g5 (536870912 : Int)) b1 B).bind fun y9 => cond (!decide ((bits .and .u32 (bits .or .u32 g5 (536870912 : Int)) (536870912 : Int)) = (0 : Int))) ((p_WriteUInt32 big (IntKind.u32.wrap srid) y9.1 y9.2).bind fun y => K4 (y.1, y.2)) (K4 (y9.1, y9.2)))
   ((p_WriteUInt32 big g5 b1 B).bind fun y9 => cond (!decide ((bits .and .u32 g5 (536870912 : Int)) = (0 : Int))) ((p_WriteUInt32 big (IntKind.u32.wrap srid) y9.1 y9.2).bind fun y => K4 (y.1, y.2)) (K4 (y9.1, y9.2)))) =
  K4 (0, B ++ (c4 big (g5 + (if srid = 0 then 0 else 536870912)) ++ (if srid = 0 then [] else c4 big (IntKind.u32.wrap srid)))) := by
 obtain ⟨h1, h2, h3⟩ := hg
 by_cases hs : srid = 0
 ·rw [cond_f (nF hs), wu32_p big h0 (by omega), Option.bind_some, h2, cond_f (by rfl), if_pos hs, if_pos hs, Int.add_zero, List.append_nil]
 ·rw [cond_t (nT hs), h1, h3, wu32_p big (by omega) (by omega), Option.bind_some, cond_t (by rfl)]
  dsimp only
  rw [wu32_p big (wrap0 _) (by rw [List.length_append, c4_len]; omega), Option.bind_some, if_neg hs, if_neg hs, List.append_assoc]
theorem head_p {R : Type} (big : Bool) {code L srid b0 : Int} {B : List Int} {K4 : Int × List Int → Option R} {bad0 : Option R} {zero bad : Int × List Int → Option R} (hc : 1 ≤ code ∧ code ≤ 7) (hL : 1 ≤ L ∧ L ≤ 4) (hB : B.length ≤ 1800000000) :
  hdE big code L srid b0 B K4 bad0 zero bad = K4 (0, B ++ hdr big code L srid) := by
 obtain ⟨o1, o2, o3⟩ := orL hc
 obtain ⟨c1, c2, c3, c4'⟩ := codes hc
 have key : ∀ x : Int, ((p_WriteByte x b0 B).bind fun y2 => cond (decide (L = (0 : Int))) (zero y2) (cond (decide (L = (1 : Int))) ((fun (y2 : Int × List Int) g5 => cond (!decide (srid = (0 : Int))) ((fun (y2 : Int × List Int) g8 => (p_WriteUInt32 big g8 y2.1 y2.2).bind fun y9 => cond (!decide ((bits .and .u32 g8 (536870912 : Int)) = (0 : Int))) ((p_WriteUInt32 big (IntKind.u32.wrap srid) y9.1 y9.2).bind fun y => K4 (y.1, y.2)) (K4 (y9.1, y9.2))) y2 (bits .or .u32 g5 (536870912 : Int))) ((fun (y2 : Int × List Int) g8 => (p_WriteUInt32 big g8 y2.1 y2.2).bind fun y9 => cond (!decide ((bits .and .u32 g8 (536870912 : Int)) = (0 : Int))) ((p_WriteUInt32 big (IntKind.u32.wrap srid) y9.1 y9.2).bind fun y => K4 (y.1, y.2)) (K4 (y9.1, y9.2))) y2 g5)) y2 code)
   (cond (decide (L = (2 : Int))) ((fun (y2 : Int × List Int) g5 => cond (!decide (srid = (0 : Int))) ((fun (y2 : Int × List Int) g8 => (p_WriteUInt32 big g8 y2.1 y2.2).bind fun y9 => cond (!decide ((bits .and .u32 g8 (536870912 : Int)) = (0 : Int))) ((p_WriteUInt32 big (IntKind.u32.wrap srid) y9.1 y9.2).bind fun y => K4 (y.1, y.2)) (K4 (y9.1, y9.2))) y2 (bits .or .u32 g5 (536870912 : Int))) ((fun (y2 : Int × List Int) g8 => (p_WriteUInt32 big g8 y2.1 y2.2).bind fun y9 => cond (!decide ((bits .and .u32 g8 (536870912 : Int)) = (0 : Int))) ((p_WriteUInt32 big (IntKind.u32.wrap srid) y9.1 y9.2).bind fun y => K4 (y.1, y.2)) (K4 (y9.1, y9.2))) y2 g5)) y2 (bits .or .u32 code (2147483648 : Int)))
   (cond (decide (L = (3 : Int))) ((fun (y2 : Int × List Int) g5 => cond (!decide (srid = (0 : Int))) ((fun (y2 : Int × List Int) g8 => (p_WriteUInt32 big g8 y2.1 y2.2).bind fun y9 => cond (!decide ((bits .and .u32 g8 (536870912 : Int)) = (0 : Int))) ((p_WriteUInt32 big (IntKind.u32.wrap srid) y9.1 y9.2).bind fun y => K4 (y.1, y.2)) (K4 (y9.1, y9.2))) y2 (bits .or .u32 g5 (536870912 : Int))) ((fun (y2 : Int × List Int) g8 => (p_WriteUInt32 big g8 y2.1 y2.2).bind fun y9 => cond (!decide ((bits .and .u32 g8 (536870912 : Int)) = (0 : Int))) ((p_WriteUInt32 big (IntKind.u32.wrap srid) y9.1 y9.2).bind fun y => K4 (y.1, y.2)) (K4 (y9.1, y9.2))) y2 g5)) y2 (bits .or .u32 code (1073741824 : Int)))
   (cond (decide (L = (4 : Int))) ((fun (y2 : Int × List Int) g5 => cond (!decide (srid = (0 : Int))) ((fun (y2 : Int × List Int) g8 => (p_WriteUInt32 big g8 y2.1 y2.2).bind fun y9 => cond (!decide ((bits .and .u32 g8 (536870912 : Int)) = (0 : Int))) ((p_WriteUInt32 big (IntKind.u32.wrap srid) y9.1 y9.2).bind fun y => K4 (y.1, y.2)) (K4 (y9.1, y9.2))) y2 (bits .or .u32 g5 (536870912 : Int))) ((fun (y2 : Int × List Int) g8 => (p_WriteUInt32 big g8 y2.1 y2.2).bind fun y9 => cond (!decide ((bits .and .u32 g8 (536870912 : Int)) = (0 : Int))) ((p_WriteUInt32 big (IntKind.u32.wrap srid) y9.1 y9.2).bind fun y => K4 (y.1, y.2)) (K4 (y9.1, y9.2))) y2 g5)) y2 (bits .or .u32 code (3221225472 : Int))) (bad y2)))))) = K4 (0, B ++ ([x] ++ (c4 big (code + flg L + (if srid = 0 then 0 else 536870912)) ++ (if srid = 0 then [] else c4 big (IntKind.u32.wrap srid))))) := fun x => by
  have hB2 : (B ++ [x]).length ≤ 1900000000 := by rw [List.length_append, List.length_singleton]; omega
  rw [byte_p (by omega), Option.bind_some, cond_f (decide_eq_false (by omega)), ← List.append_assoc]
  have : L = 1 ∨ L = 2 ∨ L = 3 ∨ L = 4 := by omega
  rcases this with rfl | rfl | rfl | rfl
  ·rw [cond_t (by rfl)]
   dsimp only
   rw [tail_p big (by omega) c1 hB2, show flg 1 = 0 from rfl, Int.add_zero]
  ·rw [cond_f (by rfl), cond_t (by rfl)]
   dsimp only
   rw [o1, tail_p big (by omega) c2 hB2, show flg 2 = 2147483648 from rfl]
  ·rw [cond_f (by rfl), cond_f (by rfl), cond_t (by rfl)]
   dsimp only
   rw [o2, tail_p big (by omega) c3 hB2, show flg 3 = 1073741824 from rfl]
  ·rw [cond_f (by rfl), cond_f (by rfl), cond_f (by rfl), cond_t (by rfl)]
   dsimp only
   rw [o3, tail_p big (by omega) c4' hB2, show flg 4 = 3221225472 from rfl]
 unfold hdr
 rw [List.append_assoc]
 unfold hdE
 cases big with
 | true => exact key 0
 | false => exact key 1
theorem hPt (F : Nat) (big : Bool) (y : TGeom_Point) (b0 : Int) (B : List Int) : p_Write_Point F big y b0 B = hdE big 1 y.geom0.layout y.geom0.srid b0 B (p_Write_Point_k4 big y F) none (fun _ => none) (fun _ => none) := rfl
theorem hLs (F : Nat) (big : Bool) (y : TGeom_LineString) (b0 : Int) (B : List Int) : p_Write_LineString F big y b0 B = hdE big 2 y.geom1.geom0.layout y.geom1.geom0.srid b0 B (p_Write_LineString_k4 big y F) none (fun _ => none) (fun _ => none) := rfl
theorem hPg (F : Nat) (big : Bool) (y : TGeom_Polygon) (b0 : Int) (B : List Int) : p_Write_Polygon F big y b0 B = hdE big 3 y.geom2.geom1.geom0.layout y.geom2.geom1.geom0.srid b0 B (p_Write_Polygon_k4 big y F) none (fun _ => none) (fun _ => none) := rfl
theorem hMp (F : Nat) (big : Bool) (y : TGeom_Polygon) (b0 : Int) (B : List Int) : p_Write_MultiPoint F big y b0 B = hdE big 4 y.geom2.geom1.geom0.layout y.geom2.geom1.geom0.srid b0 B (p_Write_MultiPoint_k4 big y F) none (fun _ => none) (fun _ => none) := rfl
theorem hMl (F : Nat) (big : Bool) (y : TGeom_Polygon) (b0 : Int) (B : List Int) : p_Write_MultiLineString F big y b0 B = hdE big 5 y.geom2.geom1.geom0.layout y.geom2.geom1.geom0.srid b0 B (p_Write_MultiLineString_k4 big y F) none (fun _ => none) (fun _ => none) := rfl
theorem hMg (F : Nat) (big : Bool) (y : TGeom_MultiPolygon) (b0 : Int) (B : List Int) : p_Write_MultiPolygon F big y b0 B = hdE big 6 y.geom3.geom1.geom0.layout y.geom3.geom1.geom0.srid b0 B (p_Write_MultiPolygon_k4 big y F) none (fun _ => none) (fun _ => none) := rfl
def st (L : Int) : Nat := if L = 1 then 2 else if L = 4 then 4 else 3
theorem strd_st {L : Int} (h : 1 ≤ L ∧ L ≤ 4) : strd L = (st L : Int) := by
 have : L = 1 ∨ L = 2 ∨ L = 3 ∨ L = 4 := by omega
 rcases this with rfl | rfl | rfl | rfl <;> rfl
theorem st_b (L : Int) : 2 ≤ st L ∧ st L ≤ 4 := by unfold st; split <;> (try split) <;> omega
def encPt (big : Bool) (L sr : Int) (fl : List Nat) : List Int := hdr big 1 L sr ++ (if fl = [] then (List.replicate (st L) nanW).flatMap (n8 big) else fl.flatMap (n8 big))
def encLs (big : Bool) (L sr : Int) (fl : List Nat) : List Int := hdr big 2 L sr ++ row8 big (st L) fl
def cuts (l : List Nat) : Nat → List Int → List (List Nat)
 | _, [] => []
 | a, e :: r => ((l.drop a).take (e.toNat - a)) :: cuts l e.toNat r
def encPg (big : Bool) (L sr : Int) (fl : List Nat) (es : List Int) : List Int := hdr big 3 L sr ++ (c4 big (es.length : Int) ++ (cuts fl 0 es).flatMap (row8 big (st L)))
theorem point_p (big : Bool) {F : Nat} {L sr b0 : Int} {fl : List Nat} {B : List Int} (hL : 1 ≤ L ∧ L ≤ 4) (hF : fl.length + 101 < F) (hl : fl.length ≤ 2000000) (hB : B.length ≤ 1800000000) :
  p_Write_Point F big ⟨⟨L, strd L, fl, sr⟩⟩ b0 B = some (0, B ++ encPt big L sr fl) := by
 have hb := st_b L
 have hh : (B ++ hdr big 1 L sr).length ≤ 1900000000 := by
  rw [List.length_append, hdr_len]; split <;> omega
 rw [hPt, head_p big (by omega) hL hB]
 unfold p_Write_Point_k4
 rw [show p_geom0_Empty ⟨L, strd L, fl, sr⟩ = some (decide (((fl.length : Nat) : Int) = 0)) from rfl, Option.bind_some]
 unfold encPt
 by_cases he : fl = []
 ·rw [cond_t (decide_eq_true (by rw [he]; rfl)), show p_geom0_Stride ⟨L, strd L, fl, sr⟩ = some (strd L) from rfl, Option.bind_some, strd_st hL]
  dsimp only
  rw [nan_p big (by omega) (by omega) (by omega), Option.bind_some, if_pos he, List.append_assoc]
 ·rw [cond_f (decide_eq_false (by intro h; exact he (List.length_eq_zero_iff.1 (by omega)))), show p_geom0_FlatCoords ⟨L, strd L, fl, sr⟩ = some fl from rfl, Option.bind_some]
  dsimp only
  rw [wr0_p big (by omega) hl (by omega), Option.bind_some, if_neg he, List.append_assoc]
theorem line_p (big : Bool) {F : Nat} {L sr b0 : Int} {fl : List Nat} {B : List Int} (hL : 1 ≤ L ∧ L ≤ 4) (hF : fl.length < F) (hl : fl.length ≤ 2000000) (hB : B.length ≤ 1800000000) :
  p_Write_LineString F big ⟨⟨⟨L, strd L, fl, sr⟩⟩⟩ b0 B = some (0, B ++ encLs big L sr fl) := by
 have hb := st_b L
 have hh : (B ++ hdr big 2 L sr).length ≤ 1900000000 := by
  rw [List.length_append, hdr_len]; split <;> omega
 rw [hLs, head_p big (by omega) hL hB]
 unfold p_Write_LineString_k4
 rw [show p_geom0_FlatCoords ⟨L, strd L, fl, sr⟩ = some fl from rfl, Option.bind_some, show p_geom0_Stride ⟨L, strd L, fl, sr⟩ = some (strd L) from rfl, Option.bind_some, strd_st hL]
 dsimp only
 rw [wr1_p big (by omega) hF hl (by omega), Option.bind_some]
 unfold encLs
 rw [List.append_assoc]
def Asc (n : Nat) : Nat → List Int → Prop
 | a, [] => a ≤ n
 | a, e :: r => (a : Int) ≤ e ∧ Asc n e.toNat r
theorem Asc.le {n : Nat} : ∀ {r : List Int} {a : Nat}, Asc n a r → a ≤ n
 | [], a, h => h
 | e :: r, a, h => by
  have := Asc.le h.2
  have h1 := h.1
  omega
theorem wr2_loop (big : Bool) {l : List Nat} (hl : l.length ≤ 2000000) {t : Nat} (ht : 1 ≤ t) {G : Nat} (hG : l.length < G) (es : List Int) (hes : es.length ≤ 2000000) : ∀ (r : List Int) (F i a : Nat) (b0 : Int) (B : List Int), es.drop i = r → r.length < F → Asc l.length a r →
  B.length + 4 * r.length + 8 * (l.length - a) ≤ 1900000000 → ∃ b1, iter (p_WriteFlatCoords2_l2 big l es (t : Int) G) F ((a : Int), (i : Int), b0, B) = some (.inl (b1, B ++ (cuts l a r).flatMap (row8 big t))) := by
 intro r
 induction r with
 | nil =>
  intro F i a b0 B hd hF ha hB
  obtain ⟨F, rfl⟩ : ∃ H, F = H + 1 := ⟨F - 1, by simp at hF; omega⟩
  have hle : es.length ≤ i := List.drop_eq_nil_iff.1 hd
  refine ⟨b0, ?_⟩
  show p_WriteFlatCoords2_l2 big l es (t : Int) G (iter (p_WriteFlatCoords2_l2 big l es (t : Int) G) F) _ = _
  unfold p_WriteFlatCoords2_l2
  rw [cond_f (decide_eq_false (by simp only; omega))]
  simp [cuts]
 | cons e r ih =>
  intro F i a b0 B hd hF ha hB
  obtain ⟨F, rfl⟩ : ∃ H, F = H + 1 := ⟨F - 1, by simp at hF; omega⟩
  have hx : es[i]? = some e := by
   have := congrArg (fun z => z[0]?) hd
   simpa [List.getElem?_drop] using this
  have hi := (List.getElem?_eq_some_iff.1 hx).1
  have hd2 : es.drop (i + 1) = r := by rw [← List.drop_drop, hd]; rfl
  obtain ⟨ha1, ha2⟩ := ha
  have hen := ha2.le
  show ∃ b1, p_WriteFlatCoords2_l2 big l es (t : Int) G (iter (p_WriteFlatCoords2_l2 big l es (t : Int) G) F) _ = _
  generalize hK : iter (p_WriteFlatCoords2_l2 big l es (t : Int) G) F = K at *
  unfold p_WriteFlatCoords2_l2
  dsimp only
  have hp : ((l.drop a).take (e.toNat - a)).length = e.toNat - a := by rw [List.length_take, List.length_drop]; omega
  simp only [List.length_cons] at hF hB
  rw [cond_t (decide_eq_true (by omega)), idx_get hx, Option.bind_some, need_pos ⟨⟨by omega, by omega⟩, by omega, hen⟩, show ((a : Int)).toNat = a from rfl, wr1_p big ht (by rw [hp]; omega) (by rw [hp]; omega) (by omega), Option.bind_some, need_pos (i64s (by omega)), succ_cast]
  have he : e = ((e.toNat : Nat) : Int) := by omega
  obtain ⟨b1, h1⟩ := ih F (i + 1) e.toNat 0 (B ++ row8 big t ((l.drop a).take (e.toNat - a))) hd2 (by omega) ha2 (by rw [List.length_append, row8_len, hp]; omega)
  refine ⟨b1, ?_⟩
  rw [← hK]
  rw [List.append_assoc] at h1
  rw [cuts, List.flatMap_cons]
  rw [← he] at h1
  exact h1
theorem wr2_p (big : Bool) {F : Nat} {l : List Nat} {es : List Int} {t : Nat} (ht : 1 ≤ t) (hF : l.length < F) (hF2 : es.length < F) (hl : l.length ≤ 2000000) (he : es.length ≤ 2000000) (ha : Asc l.length 0 es) {b0 : Int} {B : List Int} (hB : B.length ≤ 1800000000) :
  ∃ b1, p_WriteFlatCoords2 F big l es (t : Int) b0 B = some (b1, B ++ (c4 big (es.length : Int) ++ (cuts l 0 es).flatMap (row8 big t))) := by
 unfold p_WriteFlatCoords2
 rw [wrap32 (by omega), wu32_p big (by omega) (by omega), Option.bind_some]
 obtain ⟨b1, h⟩ := wr2_loop big hl ht hF es he es F 0 0 0 (B ++ c4 big (es.length : Int)) rfl hF2 ha (by rw [List.length_append, c4_len]; omega)
 refine ⟨b1, ?_⟩
 have h' : iter (p_WriteFlatCoords2_l2 big l es (t : Int) F) F ((0 : Int), (0 : Int), (0 : Int), B ++ c4 big (es.length : Int)) = _ := h
 rw [h', Option.bind_some, aft_inl, List.append_assoc]
 rfl
theorem poly_p (big : Bool) {F : Nat} {L sr b0 : Int} {fl : List Nat} {es : List Int} {B : List Int} (hL : 1 ≤ L ∧ L ≤ 4) (hF : fl.length < F) (hF2 : es.length < F) (hl : fl.length ≤ 2000000) (he : es.length ≤ 2000000) (ha : Asc fl.length 0 es) (hB : B.length ≤ 1700000000) :
  ∃ b1, p_Write_Polygon F big ⟨⟨⟨⟨L, strd L, fl, sr⟩⟩, es⟩⟩ b0 B = some (b1, B ++ encPg big L sr fl es) := by
 have hb := st_b L
 have hh : (B ++ hdr big 3 L sr).length ≤ 1800000000 := by
  rw [List.length_append, hdr_len]; split <;> omega
 rw [hPg, head_p big (by omega) hL (by omega)]
 unfold p_Write_Polygon_k4
 rw [show p_geom0_FlatCoords ⟨L, strd L, fl, sr⟩ = some fl from rfl, Option.bind_some, show p_geom2_Ends ⟨⟨⟨L, strd L, fl, sr⟩⟩, es⟩ = some es from rfl, Option.bind_some, show p_geom0_Stride ⟨L, strd L, fl, sr⟩ = some (strd L) from rfl, Option.bind_some, strd_st hL]
 dsimp only
 obtain ⟨b1, h⟩ := wr2_p big (t := st L) (by omega) hF hF2 hl he ha (b0 := 0) hh
 refine ⟨b1, ?_⟩
 rw [h, Option.bind_some]
 unfold encPg
 rw [List.append_assoc]
end
end Go.Proofs.YtbinnbmpedmabaaGreat.Wk

set_option linter.unusedVariables false
set_option linter.unusedSimpArgs false
namespace Go.Proofs.YtbinnbmpedmabaaGreat.Wk
open Go.Vm
noncomputable section
structure Wq (k l : Int) (f : List Nat) (e : List Int) (es : List (List Int)) (ks : List TImpl_Geom) : Prop where
 kind : 1 ≤ k ∧ k ≤ 7
 lay : k ≠ 7 → 1 ≤ l ∧ l ≤ 4
 lay0 : k = 7 → 0 ≤ l ∧ l ≤ 4
 lay7 : k = 7 → l ≠ 0 → ∀ x ∈ ks, Wk.lay x = l
 asc : k = 3 ∨ k = 4 ∨ k = 5 → Asc f.length 0 e
 mp : k = 4 → e = [] → f = []
 asc6 : k = 6 → Asc f.length 0 es.flatten
mutual
def WG : TImpl_Geom → Prop
 | .mk k l s f e es ks => Wq k l f e es ks ∧ WGs ks
def WGs : List TImpl_Geom → Prop
 | [] => True
 | g :: r => WG g ∧ WGs r
end
theorem WGs_mem : ∀ {l : List TImpl_Geom}, WGs l → ∀ k ∈ l, WG k
 | [], _, k, h => by cases h
 | g :: r, h, k, hk => by
  simp only [WGs] at h
  rcases List.mem_cons.1 hk with rfl | hk
  ·exact h.1
  ·exact WGs_mem h.2 k hk
theorem WGs_of : ∀ {l : List TImpl_Geom}, (∀ k ∈ l, WG k) → WGs l
 | [], _ => by simp only [WGs]
 | g :: r, h => by simp only [WGs]; exact ⟨h g (by simp), WGs_of fun k hk => h k (by simp [hk])⟩
structure Wt (g : TImpl_Geom) : Prop extends Wq g.Kind g.Layout g.Flat g.Ends g.Endss g.Kids where
 kid : ∀ k ∈ g.Kids, WG k
theorem WG.tell {g : TImpl_Geom} (h : WG g) : Wt g := by
 cases g with
 | mk k l s f e es ks => simp only [WG] at h; exact ⟨h.1, WGs_mem h.2⟩
theorem WG.of {g : TImpl_Geom} (h : Wq g.Kind g.Layout g.Flat g.Ends g.Endss g.Kids) (hk : ∀ k ∈ g.Kids, WG k) : WG g := by
 cases g with
 | mk k l s f e es ks => simp only [WG]; exact ⟨h, WGs_of hk⟩
theorem WG.vgN : ∀ (N : Nat) (g : TImpl_Geom), gF g ≤ N → WfG g → WG g → VG g := by
 intro N
 induction N with
 | zero => intro g h hw; have := hw.tell.big.1; omega
 | succ N ih =>
  intro g h hw hq
  have W := hw.tell
  exact VG.of hq.tell.kind fun k hk => ih k (by have := (W.kid k hk).2; omega) (W.kid k hk).1 (hq.tell.kid k hk)
theorem geom_q : ∀ (N : Nat) (g : TImpl_Geom), gF g ≤ N → WfG g → WG g → gF g ≤ 1048576 → ∀ G, gF g + 1048600 < G → p_geometry G g = some (toV g) := by
 intro N
 induction N with
 | zero => intro g h hw; have := hw.tell.big.1; omega
 | succ N ih =>
  intro g h hw hq hB G hG
  have Q := hq.tell
  have W := hw.tell
  have big := W.big
  have kd := Q.kind
  obtain ⟨G, rfl⟩ : ∃ G', G = G' + 1 := ⟨G - 1, by omega⟩
  show p_geometry_b (fun a0 => p_geometry G a0) G g = _
  unfold p_geometry_b
  have fl : p_floats g.Flat = some g.Flat := by unfold p_floats; rw [need_pos (by omega)]
  have il : p_ints g.Ends = some g.Ends := by unfold p_ints; rw [need_pos (by omega)]
  rw [fl, Option.bind_some]
  by_cases h1 : g.Kind = 1
  ·rw [cond_t (decide_eq_true h1)]
   unfold p_NewPointFlat
   rw [strd_p, Option.bind_some, Option.bind_some]
   cases g; simp only at h1; subst h1; simp only [toV]; rfl
  rw [cond_f (decide_eq_false h1)]
  by_cases h2 : g.Kind = 2
  ·rw [cond_t (decide_eq_true h2)]
   unfold p_NewLineStringFlat
   rw [strd_p, Option.bind_some, Option.bind_some]
   cases g; simp only at h2; subst h2; simp only [toV]; rfl
  rw [cond_f (decide_eq_false h2)]
  have h8 : g.Kind ≠ 8 := by omega
  rw [cond_f (decide_eq_false h8)]
  by_cases h3 : g.Kind = 3
  ·rw [cond_t (decide_eq_true h3), il, Option.bind_some]
   unfold p_NewPolygonFlat
   rw [strd_p, Option.bind_some, Option.bind_some]
   cases g; simp only at h3; subst h3; simp only [toV]; rfl
  rw [cond_f (decide_eq_false h3)]
  by_cases h4 : g.Kind = 4
  ·rw [cond_t (decide_eq_true h4), il, Option.bind_some, show p_NewMultiPointFlatOptionWithEnds g.Ends = some g.Ends from rfl, Option.bind_some, nmp_p (by omega) (Q.mp h4), Option.bind_some]
   cases g; simp only at h4; subst h4; simp only [toV]; rfl
  rw [cond_f (decide_eq_false h4)]
  by_cases h5 : g.Kind = 5
  ·rw [cond_t (decide_eq_true h5), il, Option.bind_some]
   unfold p_NewMultiLineStringFlat
   rw [strd_p, Option.bind_some, Option.bind_some]
   cases g; simp only at h5; subst h5; simp only [toV]; rfl
  rw [cond_f (decide_eq_false h5)]
  by_cases h6 : g.Kind = 6
  ·rw [cond_t (decide_eq_true h6), intss_q (by omega) g.Endss (by omega) (fun y hy => by have := big.2.2.2.2 y hy; omega), Option.bind_some]
   unfold p_NewMultiPolygonFlat
   rw [strd_p, Option.bind_some, Option.bind_some]
   cases g; simp only at h6; subst h6; simp only [toV]; rfl
  rw [cond_f (decide_eq_false h6)]
  have h7 : g.Kind = 7 := by omega
  rw [cond_t (decide_eq_true h7)]
  have loop := fold_all (V := List IfcV) (T := IfcV) g.Kids (p_geometry_l5 g (fun a0 => p_geometry G a0)) (fun i s => ((i : Int), s)) (fun s x => s ++ [toV x]) (fun s => s) (fun i s => s.length = i)
   (fun K s _ => by unfold p_geometry_l5; dsimp only; rw [cond_f dge])
   (fun K i x s hx h1 => by
    have hi := lt_get hx
    have hm := W.kid _ (mem_get hx)
    unfold p_geometry_l5
    dsimp only
    rw [cond_t (dlt hi), idx_get hx, Option.bind_some, ih x (by omega) hm.1 (Q.kid _ (mem_get hx)) (by omega) G (by omega), Option.bind_some, cond_f (by rfl), need_pos (by simp only [List.length_cons, List.length_nil]; omega), need_pos (i64s (by omega)), succ_cast])
   (fun i y s hy h1 => by rw [List.length_append, h1]; rfl) G 0 [] (by omega) (by omega) rfl
  have fc : ∀ (l : List TImpl_Geom) (r : List IfcV), l.foldl (fun s y => s ++ [toV y]) r = r ++ l.map toV := by
   intro l
   induction l with
   | nil => simp
   | cons a l ih => intro r; rw [List.foldl_cons, ih]; simp
  rw [List.drop_zero, fc, List.nil_append] at loop
  have loop' : iter (p_geometry_l5 g (fun a0 => p_geometry G a0)) G ((0 : Int), []) = _ := loop
  have fin : p_geometry_k2 g (g.Kids.map toV) () = some (toV g) := by
   unfold p_geometry_k2
   rw [← toVs_map]
   cases g; simp only at h7; subst h7; simp only [toV]; rfl
  rw [show p_NewGeometryCollection = some ⟨0, [], 0⟩ from rfl, Option.bind_some, loop', Option.bind_some, aft_inl]
  unfold p_geometry_k1
  by_cases c0 : g.Layout = 0
  ·rw [cond_f (nF c0)]; exact fin
  ·rw [cond_t (nT c0)]
   have chk := fold_all (V := Unit) (T := IfcV) (σ := Unit) g.Kids (p_geometry_l4 g G (g.Kids.map toV)) (fun i _ => (i : Int)) (fun s _ => s) (fun s => s) (fun _ _ => True)
    (fun K s _ => by rw [l4_eq, List.length_map, cond_f dge])
    (fun K i x s hx _ => by
     have hi := lt_get hx
     have hm := W.kid _ (mem_get hx)
     have hvx := WG.vgN _ x (Nat.le_refl _) hm.1 (Q.kid _ (mem_get hx))
     have hxm : (g.Kids.map toV)[i]? = some (toV x) := by rw [List.getElem?_map, hx]; rfl
     rw [l4_eq, List.length_map, cond_t (dlt hi), need_pos (by omega), idx_get hxm, Option.bind_some, vlay_p hvx.kind _ _ (fun hx7 => glay_p _ x (Nat.le_refl _) hm.1 hvx hx7 G (by omega)), cond_f (nF (Q.lay7 h7 c0 x (mem_get hx))), need_pos (inM hi W.kids), succ_cast])
    (fun _ _ _ _ _ => trivial) G 0 () (by omega) (by omega) trivial
   have chk' : iter (p_geometry_l4 g G (g.Kids.map toV)) G (0 : Int) = _ := chk
   rw [chk', Option.bind_some, aft_inl]
   exact fin

theorem multi_loop {T : Type} (E : List (List Int)) (body : ((Int × Int × List Int) → Option (Sum (Int × List Int) T)) → (Int × Int × List Int) → Option (Sum (Int × List Int) T)) (Bd : Nat)
  (hend : ∀ K b0 B, body K ((E.length : Int), b0, B) = some (.inl (b0, B)))
  (hstep : ∀ K (i : Nat) b0 B e, E[i]? = some e → B.length + e.length ≤ Bd → ∃ b1, body K ((i : Int), b0, B) = K (((i + 1 : Nat) : Int), b1, B ++ e)) :
  ∀ (R : List (List Int)) (F i : Nat) (b0 : Int) (B : List Int), E.drop i = R → i ≤ E.length → R.length < F → B.length + R.flatten.length ≤ Bd → ∃ b1, iter body F ((i : Int), b0, B) = some (.inl (b1, B ++ R.flatten)) := by
 intro R
 induction R with
 | nil =>
  intro F i b0 B hd hi hF hB
  obtain ⟨F, rfl⟩ : ∃ H, F = H + 1 := ⟨F - 1, by simp at hF; omega⟩
  have hle : E.length ≤ i := List.drop_eq_nil_iff.1 hd
  have hie : i = E.length := by omega
  subst hie
  refine ⟨b0, ?_⟩
  show body (iter body F) _ = _
  rw [hend]
  simp
 | cons e R ih =>
  intro F i b0 B hd hi hF hB
  obtain ⟨F, rfl⟩ : ∃ H, F = H + 1 := ⟨F - 1, by simp at hF; omega⟩
  have hx : E[i]? = some e := by
   have := congrArg (fun z => z[0]?) hd
   simpa [List.getElem?_drop] using this
  have hil := (List.getElem?_eq_some_iff.1 hx).1
  have hd2 : E.drop (i + 1) = R := by rw [← List.drop_drop, hd]; rfl
  rw [List.flatten_cons, List.length_append] at hB
  simp only [List.length_cons] at hF
  obtain ⟨b1, h1⟩ := hstep (iter body F) i b0 B e hx (by omega)
  obtain ⟨b2, h2⟩ := ih F (i + 1) b1 (B ++ e) hd2 (by omega) (by omega) (by rw [List.length_append]; omega)
  refine ⟨b2, ?_⟩
  show body (iter body F) _ = _
  rw [h1, h2, List.flatten_cons, List.append_assoc]
def prv (a : Nat) (es : List Int) : Nat → Nat
 | 0 => a
 | i + 1 => (es.getD i 0).toNat
theorem cuts_len {l : List Nat} : ∀ (es : List Int) (a : Nat), (cuts l a es).length = es.length
 | [], a => rfl
 | e :: r, a => by rw [cuts, List.length_cons, cuts_len r, List.length_cons]
theorem cuts_get {l : List Nat} : ∀ (es : List Int) (a i : Nat) (e : Int), es[i]? = some e → (cuts l a es)[i]? = some ((l.drop (prv a es i)).take (e.toNat - prv a es i))
 | [], a, i, e, h => by simp at h
 | x :: r, a, 0, e, h => by
  simp only [List.getElem?_cons_zero, Option.some.injEq] at h
  subst h
  rfl
 | x :: r, a, i + 1, e, h => by
  have h' : r[i]? = some e := by simpa using h
  rw [cuts, List.getElem?_cons_succ, cuts_get r _ i e h']
  cases i with
  | zero => rfl
  | succ i => rfl
theorem asc_get {n : Nat} : ∀ (es : List Int) (a i : Nat) (e : Int), Asc n a es → es[i]? = some e → (prv a es i : Int) ≤ e ∧ e.toNat ≤ n ∧ (∀ j x, i = j + 1 → es[j]? = some x → x = (prv a es i : Int))
 | [], a, i, e, _, h => by simp at h
 | x :: r, a, 0, e, ha, h => by
  simp only [List.getElem?_cons_zero, Option.some.injEq] at h
  subst h
  exact ⟨ha.1, ha.2.le, fun j x hj => by omega⟩
 | x :: r, a, i + 1, e, ha, h => by
  have h' : r[i]? = some e := by simpa using h
  obtain ⟨h1, h2, h3⟩ := asc_get r x.toNat i e ha.2 h'
  cases i with
  | zero =>
   refine ⟨h1, h2, fun j y hj hy => ?_⟩
   obtain rfl : j = 0 := by omega
   simp only [List.getElem?_cons_zero, Option.some.injEq] at hy
   subst hy
   have := ha.1
   show x = ((x.toNat : Nat) : Int)
   omega
  | succ i =>
   refine ⟨h1, h2, fun j y hj hy => ?_⟩
   obtain rfl : j = i + 1 := by omega
   exact h3 i y rfl (by simpa using hy)
theorem cuts_sum {l : List Nat} : ∀ (es : List Int) (a : Nat), Asc l.length a es → a + (cuts l a es).flatten.length ≤ l.length
 | [], a, h => by rw [cuts]; exact h
 | e :: r, a, h => by
  have := cuts_sum r e.toNat h.2
  have h1 := h.1
  have h2 := h.2.le
  rw [cuts, List.flatten_cons, List.length_append, List.length_take, List.length_drop]
  omega
theorem sel_prev {α : Type} {es : List Int} {n i : Nat} {e : Int} (ha : Asc n 0 es) (hi : es[i]? = some e) (hl : es.length ≤ 2000000) (K : Int → Option α) :
  (cond (decide ((0 : Int) < (i : Int))) (need (inI .i64 ((i : Int) - (1 : Int))) ((idx es ((i : Int) - (1 : Int))).bind fun x => K x)) (K (0 : Int))) = K ((prv 0 es i : Nat) : Int) := by
 obtain ⟨_, _, h3⟩ := asc_get es 0 i e ha hi
 have hil := (List.getElem?_eq_some_iff.1 hi).1
 cases i with
 | zero => rw [cond_f (by rfl)]; rfl
 | succ j =>
  have hj : es[j]? = some es[j] := List.getElem?_eq_getElem (by omega)
  rw [cond_t (decide_eq_true (by omega)), need_pos (in64 (by omega) (by omega)), show (((j + 1 : Nat) : Int) - 1) = ((j : Nat) : Int) by omega, idx_get hj, Option.bind_some, h3 j _ rfl hj]
theorem pointI_p {L sr : Int} {fl : List Nat} {es : List Int} (ha : Asc fl.length 0 es) (hl : es.length ≤ 2000000) (hf : fl.length ≤ 2000000) {i : Nat} {x : List Nat} (hx : (cuts fl 0 es)[i]? = some x) :
  p_MultiPoint_Point ⟨⟨⟨⟨L, strd L, fl, sr⟩⟩, es⟩⟩ (i : Int) = some ⟨⟨L, strd L, x, 0⟩⟩ := by
 have hil := (List.getElem?_eq_some_iff.1 hx).1
 rw [cuts_len] at hil
 have hi : es[i]? = some es[i] := List.getElem?_eq_getElem hil
 obtain ⟨e, he⟩ : ∃ e, e = es[i] := ⟨_, rfl⟩
 rw [← he] at hi
 obtain ⟨h1, h2, _⟩ := asc_get es 0 i e ha hi
 rw [cuts_get es 0 i e hi] at hx
 have hx' := Option.some.inj hx
 unfold p_MultiPoint_Point p_MultiPoint_Coord
 rw [sel_prev ha hi hl (p_MultiPoint_Coord_k1 ⟨⟨⟨⟨L, strd L, fl, sr⟩⟩, es⟩⟩ (i : Int))]
 unfold p_MultiPoint_Coord_k1
 dsimp only
 have hc : ((idx es (i : Int)).bind fun x2 => (cond (decide (x2 = ((prv 0 es i : Nat) : Int))) (some ([] : List Nat)) ((idx es (i : Int)).bind fun x5 => (need ((0 ≤ ((prv 0 es i : Nat) : Int) ∧ 0 ≤ x5) ∧ (((prv 0 es i : Nat) : Int)).toNat ≤ (x5).toNat ∧ (x5).toNat ≤ fl.length) (some ((fl.drop (((prv 0 es i : Nat) : Int)).toNat).take ((x5).toNat - (((prv 0 es i : Nat) : Int)).toNat))))))) = some x := by
  rw [idx_get hi, Option.bind_some]
  by_cases c : e = ((prv 0 es i : Nat) : Int)
  ·rw [cond_t (decide_eq_true c), ← hx', c]
   simp
  ·rw [cond_f (decide_eq_false c), Option.bind_some, need_pos ⟨⟨by omega, by omega⟩, by omega, h2⟩, ← hx']
   rfl
 rw [hc, Option.bind_some]
 have n1 : ∀ y, p_NewPointFlat L y = some ⟨⟨L, strd L, y, 0⟩⟩ := fun y => by unfold p_NewPointFlat; rw [strd_p, Option.bind_some]
 have n2 : p_NewPointEmpty L = some ⟨⟨L, strd L, [], 0⟩⟩ := by unfold p_NewPointEmpty; rw [n1, Option.bind_some]
 rw [n1, n2, Option.bind_some, Option.bind_some]
 cases x with
 | nil => exact agr_same rfl rfl
 | cons z x => rfl
theorem lineI_p {L sr : Int} {fl : List Nat} {es : List Int} (ha : Asc fl.length 0 es) (hl : es.length ≤ 2000000) (hf : fl.length ≤ 2000000) {i : Nat} {x : List Nat} (hx : (cuts fl 0 es)[i]? = some x) :
  p_MultiLineString_LineString ⟨⟨⟨⟨L, strd L, fl, sr⟩⟩, es⟩⟩ (i : Int) = some ⟨⟨⟨L, strd L, x, 0⟩⟩⟩ := by
 have hil := (List.getElem?_eq_some_iff.1 hx).1
 rw [cuts_len] at hil
 have hi : es[i]? = some es[i] := List.getElem?_eq_getElem hil
 obtain ⟨e, he⟩ : ∃ e, e = es[i] := ⟨_, rfl⟩
 rw [← he] at hi
 obtain ⟨h1, h2, _⟩ := asc_get es 0 i e ha hi
 rw [cuts_get es 0 i e hi] at hx
 have hx' := Option.some.inj hx
 have n1 : ∀ y, p_NewLineStringFlat L y = some ⟨⟨⟨L, strd L, y, 0⟩⟩⟩ := fun y => by unfold p_NewLineStringFlat; rw [strd_p, Option.bind_some]
 unfold p_MultiLineString_LineString
 rw [sel_prev ha hi hl (p_MultiLineString_LineString_k1 ⟨⟨⟨⟨L, strd L, fl, sr⟩⟩, es⟩⟩ (i : Int))]
 unfold p_MultiLineString_LineString_k1 p_NewLineString
 dsimp only
 rw [idx_get hi, Option.bind_some]
 by_cases c : ((prv 0 es i : Nat) : Int) = e
 ·rw [cond_t (decide_eq_true c), n1, ← hx', ← c]
  simp
 ·rw [cond_f (decide_eq_false c), Option.bind_some, need_pos ⟨⟨by omega, by omega⟩, by omega, h2⟩, n1, Option.bind_some, ← hx']
  rfl
def encM (big : Bool) (code L sr : Int) (E : List (List Int)) : List Int := hdr big code L sr ++ (c4 big (E.length : Int) ++ E.flatten)
theorem encPt_len (big : Bool) (L sr : Int) (x : List Nat) : (encPt big L sr x).length ≤ 41 + 8 * x.length := by
 have := st_b L
 unfold encPt
 rw [List.length_append, hdr_len]
 split <;> split <;> rw [fm_len] <;> (try rw [List.length_replicate]) <;> omega
theorem encLs_len (big : Bool) (L sr : Int) (x : List Nat) : (encLs big L sr x).length ≤ 41 + 8 * x.length := by
 unfold encLs
 rw [List.length_append, hdr_len, row8_len]
 split <;> omega
theorem flat_len {α : Type} {f : α → List Int} {c : α → Nat} (h : ∀ x, (f x).length ≤ 41 + 8 * c x) : ∀ l : List α, (l.map f).flatten.length ≤ 41 * l.length + 8 * (l.map c).sum
 | [] => by simp
 | x :: r => by
  have := flat_len h r
  have h1 := h x
  simp only [List.map_cons, List.flatten_cons, List.length_append, List.length_cons, List.sum_cons]
  omega
theorem sum_flat {α : Type} : ∀ l : List (List α), (l.map List.length).sum = l.flatten.length
 | [] => rfl
 | x :: r => by rw [List.map_cons, List.sum_cons, sum_flat r, List.flatten_cons, List.length_append]
theorem mpoint_p_step (big : Bool) {F : Nat} {L sr : Int} {fl : List Nat} {es : List Int} (hL : 1 ≤ L ∧ L ≤ 4) (hF : fl.length + 101 < F) (hl : fl.length ≤ 2000000) (he : es.length ≤ 2000000) (ha : Asc fl.length 0 es) (K : _) (i : Nat) (b0 : Int) (B e : List Int) (hx : ((cuts fl 0 es).map (encPt big L 0))[i]? = some e) (hB : B.length + e.length ≤ 1800000000) :
  ∃ b1, p_Write_MultiPoint_l6 big ⟨⟨⟨⟨L, strd L, fl, sr⟩⟩, es⟩⟩ F ((es.length : Nat) : Int) K ((i : Int), b0, B) = K (((i + 1 : Nat) : Int), b1, B ++ e) := by
 rw [List.getElem?_map, Option.map_eq_some_iff] at hx
 obtain ⟨x, hx, rfl⟩ := hx
 have hil := (List.getElem?_eq_some_iff.1 hx).1
 rw [cuts_len] at hil
 have hxl : x.length ≤ fl.length := by
  have := cuts_get (l := fl) es 0 i es[i] (List.getElem?_eq_getElem hil)
  rw [hx] at this
  have := Option.some.inj this
  rw [this, List.length_take, List.length_drop]; omega
 unfold p_Write_MultiPoint_l6
 dsimp only
 rw [cond_t (dlt hil), pointI_p ha he hl hx, Option.bind_some, point_p big hL (by omega) (by omega) (by omega), Option.bind_some]
 refine ⟨0, ?_⟩
 rw [need_pos (i64s (by omega)), succ_cast]
theorem mpoint_p (big : Bool) {F : Nat} {L sr b0 : Int} {fl : List Nat} {es : List Int} {B : List Int} (hL : 1 ≤ L ∧ L ≤ 4) (hF : fl.length + 101 < F) (hF2 : es.length < F) (hl : fl.length ≤ 2000000) (he : es.length ≤ 2000000) (ha : Asc fl.length 0 es) (hB : B.length ≤ 1000000000) :
  ∃ b1, p_Write_MultiPoint F big ⟨⟨⟨⟨L, strd L, fl, sr⟩⟩, es⟩⟩ b0 B = some (b1, B ++ encM big 4 L sr ((cuts fl 0 es).map (encPt big L 0))) := by
 have hh : (B ++ hdr big 4 L sr).length ≤ 1000000009 := by
  rw [List.length_append, hdr_len]; split <;> omega
 have hcs := cuts_sum es 0 ha
 have hfl := flat_len (encPt_len big L 0) (cuts fl 0 es)
 rw [sum_flat, cuts_len] at hfl
 rw [hMp, head_p big (by omega) hL (by omega)]
 unfold p_Write_MultiPoint_k4
 rw [show p_MultiPoint_NumPoints ⟨⟨⟨⟨L, strd L, fl, sr⟩⟩, es⟩⟩ = some ((es.length : Nat) : Int) from rfl, Option.bind_some, wrap32 (by omega)]
 dsimp only
 rw [wu32_p big (by omega) (by omega), Option.bind_some]
 have hlen : ((cuts fl 0 es).map (encPt big L 0)).length = es.length := by rw [List.length_map, cuts_len]
 obtain ⟨b1, h⟩ := multi_loop ((cuts fl 0 es).map (encPt big L 0)) (p_Write_MultiPoint_l6 big ⟨⟨⟨⟨L, strd L, fl, sr⟩⟩, es⟩⟩ F ((es.length : Nat) : Int)) 1800000000
  (fun K b0 B => by unfold p_Write_MultiPoint_l6; dsimp only; rw [hlen, cond_f dge])
  (mpoint_p_step big hL hF hl he ha)
  ((cuts fl 0 es).map (encPt big L 0)) F 0 0 ((B ++ hdr big 4 L sr) ++ c4 big ((es.length : Nat) : Int)) List.drop_zero (Nat.zero_le _) (by rw [hlen]; exact hF2) (by rw [List.length_append, c4_len]; omega)
 have h' : iter (p_Write_MultiPoint_l6 big ⟨⟨⟨⟨L, strd L, fl, sr⟩⟩, es⟩⟩ F ((es.length : Nat) : Int)) F ((0 : Int), (0 : Int), (B ++ hdr big 4 L sr) ++ c4 big ((es.length : Nat) : Int)) = _ := h
 refine ⟨b1, ?_⟩
 rw [h', Option.bind_some, aft_inl]
 unfold encM p_Write_MultiPoint_k5
 rw [hlen, List.append_assoc, List.append_assoc]
theorem mline_p_step (big : Bool) {F : Nat} {L sr : Int} {fl : List Nat} {es : List Int} (hL : 1 ≤ L ∧ L ≤ 4) (hF : fl.length < F) (hl : fl.length ≤ 2000000) (he : es.length ≤ 2000000) (ha : Asc fl.length 0 es) (K : _) (i : Nat) (b0 : Int) (B e : List Int) (hx : ((cuts fl 0 es).map (encLs big L 0))[i]? = some e) (hB : B.length + e.length ≤ 1800000000) :
  ∃ b1, p_Write_MultiLineString_l6 big ⟨⟨⟨⟨L, strd L, fl, sr⟩⟩, es⟩⟩ F ((es.length : Nat) : Int) K ((i : Int), b0, B) = K (((i + 1 : Nat) : Int), b1, B ++ e) := by
 rw [List.getElem?_map, Option.map_eq_some_iff] at hx
 obtain ⟨x, hx, rfl⟩ := hx
 have hil := (List.getElem?_eq_some_iff.1 hx).1
 rw [cuts_len] at hil
 have hxl : x.length ≤ fl.length := by
  have := cuts_get (l := fl) es 0 i es[i] (List.getElem?_eq_getElem hil)
  rw [hx] at this
  have := Option.some.inj this
  rw [this, List.length_take, List.length_drop]; omega
 unfold p_Write_MultiLineString_l6
 dsimp only
 rw [cond_t (dlt hil), lineI_p ha he hl hx, Option.bind_some, line_p big hL (by omega) (by omega) (by omega), Option.bind_some]
 refine ⟨0, ?_⟩
 rw [need_pos (i64s (by omega)), succ_cast]
theorem mline_p (big : Bool) {F : Nat} {L sr b0 : Int} {fl : List Nat} {es : List Int} {B : List Int} (hL : 1 ≤ L ∧ L ≤ 4) (hF : fl.length < F) (hF2 : es.length < F) (hl : fl.length ≤ 2000000) (he : es.length ≤ 2000000) (ha : Asc fl.length 0 es) (hB : B.length ≤ 1000000000) :
  ∃ b1, p_Write_MultiLineString F big ⟨⟨⟨⟨L, strd L, fl, sr⟩⟩, es⟩⟩ b0 B = some (b1, B ++ encM big 5 L sr ((cuts fl 0 es).map (encLs big L 0))) := by
 have hh : (B ++ hdr big 5 L sr).length ≤ 1000000009 := by
  rw [List.length_append, hdr_len]; split <;> omega
 have hcs := cuts_sum es 0 ha
 have hfl := flat_len (encLs_len big L 0) (cuts fl 0 es)
 rw [sum_flat, cuts_len] at hfl
 rw [hMl, head_p big (by omega) hL (by omega)]
 unfold p_Write_MultiLineString_k4
 rw [show p_MultiLineString_NumLineStrings ⟨⟨⟨⟨L, strd L, fl, sr⟩⟩, es⟩⟩ = some ((es.length : Nat) : Int) from rfl, Option.bind_some, wrap32 (by omega)]
 dsimp only
 rw [wu32_p big (by omega) (by omega), Option.bind_some]
 have hlen : ((cuts fl 0 es).map (encLs big L 0)).length = es.length := by rw [List.length_map, cuts_len]
 obtain ⟨b1, h⟩ := multi_loop ((cuts fl 0 es).map (encLs big L 0)) (p_Write_MultiLineString_l6 big ⟨⟨⟨⟨L, strd L, fl, sr⟩⟩, es⟩⟩ F ((es.length : Nat) : Int)) 1800000000
  (fun K b0 B => by unfold p_Write_MultiLineString_l6; dsimp only; rw [hlen, cond_f dge])
  (mline_p_step big hL hF hl he ha)
  ((cuts fl 0 es).map (encLs big L 0)) F 0 0 ((B ++ hdr big 5 L sr) ++ c4 big ((es.length : Nat) : Int)) List.drop_zero (Nat.zero_le _) (by rw [hlen]; exact hF2) (by rw [List.length_append, c4_len]; omega)
 have h' : iter (p_Write_MultiLineString_l6 big ⟨⟨⟨⟨L, strd L, fl, sr⟩⟩, es⟩⟩ F ((es.length : Nat) : Int)) F ((0 : Int), (0 : Int), (B ++ hdr big 5 L sr) ++ c4 big ((es.length : Nat) : Int)) = _ := h
 refine ⟨b1, ?_⟩
 rw [h', Option.bind_some, aft_inl]
 unfold encM p_Write_MultiLineString_k5
 rw [hlen, List.append_assoc, List.append_assoc]
end
end Go.Proofs.YtbinnbmpedmabaaGreat.Wk

set_option linter.unusedVariables false
set_option linter.unusedSimpArgs false
namespace Go.Proofs.YtbinnbmpedmabaaGreat.Wk
open Go.Vm
noncomputable section
def lst (a : Nat) : List Int → Nat
 | [] => a
 | e :: r => lst e.toNat r
theorem lst_last : ∀ (r : List Int) (e : Int) (a : Nat), ∃ z, z ∈ e :: r ∧ (e :: r)[r.length]? = some z ∧ lst a (e :: r) = z.toNat
 | [], e, a => ⟨e, by simp, rfl, rfl⟩
 | x :: r, e, a => by
  obtain ⟨z, h0, h1, h2⟩ := lst_last r x e.toNat
  exact ⟨z, List.mem_cons_of_mem _ h0, by rw [List.length_cons, List.getElem?_cons_succ, h1], by rw [lst, h2]⟩
theorem asc_split {n : Nat} : ∀ (x : List Int) (y : List Int) (a : Nat), Asc n a (x ++ y) → Asc (lst a x) a x ∧ Asc n (lst a x) y
 | [], y, a, h => ⟨Nat.le_refl _, h⟩
 | e :: r, y, a, h => by
  obtain ⟨h1, h2⟩ := asc_split r y e.toNat h.2
  exact ⟨⟨h.1, h1⟩, h2⟩
theorem asc_shift {m c : Nat} : ∀ (x : List Int) (b : Nat), c ≤ b → Asc m b x → Asc (m - c) (b - c) (x.map fun e => e - (c : Int))
 | [], b, hc, h => by
  have : b ≤ m := h
  show b - c ≤ m - c
  omega
 | e :: r, b, hc, h => by
  have h1 := h.1
  have h2 := asc_shift (c := c) r e.toNat (by omega) h.2
  rw [List.map_cons]
  refine ⟨by omega, ?_⟩
  rw [show (e - (c : Int)).toNat = e.toNat - c by omega]
  exact h2
theorem asc_last {n : Nat} {x : List Int} {a : Nat} (h : Asc n a x) {e : Int} (he : e ∈ x) : (a : Int) ≤ e ∧ e.toNat ≤ n := by
 induction x generalizing a with
 | nil => cases he
 | cons y r ih =>
  have h1 := h.1
  have h2 := h.2.le
  rcases List.mem_cons.1 he with rfl | he
  ·exact ⟨h1, h2⟩
  ·have := ih h.2 he
   exact ⟨by omega, this.2⟩
def pv (ess : List (List Int)) : Nat → Nat
 | 0 => 0
 | j + 1 => lst (pv ess j) (ess.getD j [])
theorem asc_pv {n : Nat} {ess : List (List Int)} (h : Asc n 0 ess.flatten) : ∀ i, i ≤ ess.length → Asc n (pv ess i) (ess.drop i).flatten
 | 0, _ => by simpa [pv] using h
 | i + 1, hi => by
  have ih := asc_pv h i (by omega)
  have hd : ess.drop i = ess[i] :: ess.drop (i + 1) := List.drop_eq_getElem_cons (by omega)
  rw [hd, List.flatten_cons] at ih
  have hg : ess.getD i [] = ess[i] := by rw [List.getD_eq_getElem?_getD, List.getElem?_eq_getElem (by omega)]; rfl
  rw [pv, hg]
  exact (asc_split _ _ _ ih).2
theorem asc_at {n : Nat} {ess : List (List Int)} (h : Asc n 0 ess.flatten) {i : Nat} {x : List Int} (hx : ess[i]? = some x) : Asc (lst (pv ess i) x) (pv ess i) x ∧ lst (pv ess i) x ≤ n := by
 have hi := (List.getElem?_eq_some_iff.1 hx).1
 have ih := asc_pv h i (by omega)
 have hd : ess.drop i = ess[i] :: ess.drop (i + 1) := List.drop_eq_getElem_cons (by omega)
 rw [hd, List.flatten_cons] at ih
 have hg : ess[i] = x := by rw [List.getElem?_eq_getElem hi] at hx; exact Option.some.inj hx
 rw [hg] at ih
 obtain ⟨h1, h2⟩ := asc_split _ _ _ ih
 exact ⟨h1, h2.le⟩
def cutsP (l : List Nat) : Nat → List (List Int) → List (List Nat × List Int)
 | _, [] => []
 | a, x :: r => ((l.drop a).take (lst a x - a), x.map fun e => e - (a : Int)) :: cutsP l (lst a x) r
theorem cutsP_len {l : List Nat} : ∀ (es : List (List Int)) (a : Nat), (cutsP l a es).length = es.length
 | [], a => rfl
 | e :: r, a => by rw [cutsP, List.length_cons, cutsP_len r, List.length_cons]
theorem cutsP_drop {l : List Nat} {ess : List (List Int)} : ∀ i, i ≤ ess.length → (cutsP l 0 ess).drop i = cutsP l (pv ess i) (ess.drop i)
 | 0, _ => rfl
 | i + 1, hi => by
  have ih := cutsP_drop (l := l) (ess := ess) i (by omega)
  have hd : ess.drop i = ess[i] :: ess.drop (i + 1) := List.drop_eq_getElem_cons (by omega)
  rw [hd, cutsP] at ih
  have hg : ess.getD i [] = ess[i] := by rw [List.getD_eq_getElem?_getD, List.getElem?_eq_getElem (by omega)]; rfl
  rw [← List.drop_drop, ih, pv, hg]
  rfl
theorem cutsP_get {l : List Nat} {ess : List (List Int)} {i : Nat} {x : List Int} (hx : ess[i]? = some x) : (cutsP l 0 ess)[i]? = some ((l.drop (pv ess i)).take (lst (pv ess i) x - pv ess i), x.map fun e => e - (pv ess i : Int)) := by
 have hi := (List.getElem?_eq_some_iff.1 hx).1
 have h := cutsP_drop (l := l) (ess := ess) i (by omega)
 have hd : ess.drop i = ess[i] :: ess.drop (i + 1) := List.drop_eq_getElem_cons (by omega)
 have hg : ess[i] = x := by rw [List.getElem?_eq_getElem hi] at hx; exact Option.some.inj hx
 rw [hd, hg, cutsP] at h
 have := congrArg (fun z => z[0]?) h
 simpa [List.getElem?_drop] using this
theorem cutsP_sum {l : List Nat} : ∀ (ess : List (List Int)) (a : Nat), Asc l.length a ess.flatten → a + ((cutsP l a ess).map fun p => p.1.length).sum ≤ l.length
 | [], a, h => by rw [cutsP]; exact h
 | x :: r, a, h => by
  rw [List.flatten_cons] at h
  obtain ⟨h1, h2⟩ := asc_split _ _ _ h
  have ih := cutsP_sum r _ h2
  have h3 := h1.le
  have h4 := h2.le
  rw [cutsP, List.map_cons, List.sum_cons, List.length_take, List.length_drop]
  omega
theorem cutsP_sum2 {l : List Nat} : ∀ (ess : List (List Int)) (a : Nat), ((cutsP l a ess).map fun p => p.2.length).sum = ess.flatten.length
 | [], a => rfl
 | x :: r, a => by
  rw [cutsP, List.map_cons, List.sum_cons, cutsP_sum2 r, List.flatten_cons, List.length_append, List.length_map]
theorem rows_len (big : Bool) (t : Nat) : ∀ L : List (List Nat), (L.flatMap (row8 big t)).length = 4 * L.length + 8 * L.flatten.length
 | [] => rfl
 | x :: r => by rw [List.flatMap_cons, List.length_append, rows_len big t r, row8_len, List.length_cons, List.flatten_cons, List.length_append]; omega
theorem encPg_len (big : Bool) {L sr : Int} {x : List Nat} {es : List Int} (h : Asc x.length 0 es) : (encPg big L sr x es).length ≤ 41 + 8 * (x.length + es.length) := by
 have := cuts_sum es 0 h
 unfold encPg
 rw [List.length_append, List.length_append, hdr_len, c4_len, rows_len, cuts_len]
 split <;> omega
theorem off_loop {n : Nat} {y : TGeom_MultiPolygon} {ess : List (List Int)} (hy : y.geom3.endss = ess) (ha : Asc n 0 ess.flatten) (hl : ess.length ≤ 2000000) (hll : ∀ x ∈ ess, x.length ≤ 2000000) : ∀ (i F : Nat), i < F → i ≤ ess.length →
  iter (p_MultiPolygon_Polygon_l5 y) F ((0 : Int), (i : Int) - 1) = some (.inl ((pv ess i : Nat) : Int)) := by
 subst hy
 intro i
 induction i with
 | zero =>
  intro F hF _
  obtain ⟨F, rfl⟩ : ∃ H, F = H + 1 := ⟨F - 1, by omega⟩
  show p_MultiPolygon_Polygon_l5 _ (iter _ F) _ = _
  unfold p_MultiPolygon_Polygon_l5
  rw [cond_f (by rfl)]
  rfl
 | succ i ih =>
  intro F hF hi
  obtain ⟨F, rfl⟩ : ∃ H, F = H + 1 := ⟨F - 1, by omega⟩
  have hx : y.geom3.endss[i]? = some y.geom3.endss[i] := List.getElem?_eq_getElem (by omega)
  obtain ⟨x, hxe⟩ : ∃ x, x = y.geom3.endss[i] := ⟨_, rfl⟩
  rw [← hxe] at hx
  have hxl := hll x (List.mem_of_getElem? hx)
  have hg : y.geom3.endss.getD i [] = x := by rw [List.getD_eq_getElem?_getD, hx]; rfl
  obtain ⟨a1, a2⟩ := asc_at ha hx
  show p_MultiPolygon_Polygon_l5 _ (iter (p_MultiPolygon_Polygon_l5 y) F) _ = _
  have ihF := ih F (by omega) (by omega)
  generalize iter (p_MultiPolygon_Polygon_l5 y) F = K at *
  unfold p_MultiPolygon_Polygon_l5
  dsimp only
  rw [show (((i + 1 : Nat) : Int) - 1) = ((i : Nat) : Int) by omega, cond_t (decide_eq_true (by omega)), idx_get hx, Option.bind_some, pv, hg]
  cases x with
  | nil =>
   rw [cond_f (by rfl), need_pos (in64m (by omega) (by omega)), ihF]
   rfl
  | cons e r =>
   obtain ⟨z, hmem, l1, l2⟩ := lst_last r e (pv y.geom3.endss i)
   obtain ⟨b1, b2⟩ := asc_last a1 hmem
   rw [cond_t (decide_eq_true (by simp only [List.length_cons]; omega)), need_pos (in64 (by simp only [List.length_cons]; omega) (by simp only [List.length_cons] at hxl ⊢; omega)), show (((e :: r).length : Nat) : Int) - 1 = ((r.length : Nat) : Int) by simp only [List.length_cons]; omega, idx_get l1, Option.bind_some, l2]
   congr 2
   omega
theorem sub_loop {x : List Int} {c : Nat} (hx : ∀ e ∈ x, (c : Int) ≤ e ∧ e ≤ 2000000) (hl : x.length ≤ 2000000) {z : List Int} (hz : z.length = x.length) : ∀ (F i : Nat), x.length - i < F → i ≤ x.length →
  iter (p_MultiPolygon_Polygon_l4 (c : Int) z x) F ((i : Int), (x.map fun e => e - (c : Int)).take i ++ List.replicate (x.length - i) 0) = some (.inl (x.map fun e => e - (c : Int))) := by
 intro F
 induction F with
 | zero => intro i h; omega
 | succ F ih =>
  intro i h hi
  show p_MultiPolygon_Polygon_l4 (c : Int) z x (iter (p_MultiPolygon_Polygon_l4 (c : Int) z x) F) _ = _
  have ihF := ih (i + 1)
  generalize iter (p_MultiPolygon_Polygon_l4 (c : Int) z x) F = K at *
  unfold p_MultiPolygon_Polygon_l4
  dsimp only
  by_cases hil : i < x.length
  ·have hxi : x[i]? = some x[i] := List.getElem?_eq_getElem hil
   obtain ⟨e, he⟩ : ∃ e, e = x[i] := ⟨_, rfl⟩
   rw [← he] at hxi
   obtain ⟨e1, e2⟩ := hx e (List.mem_of_getElem? hxi)
   have hm : (x.map fun e => e - (c : Int))[i]? = some (e - (c : Int)) := by rw [List.getElem?_map, hxi]; rfl
   have hs : ((x.map fun e => e - (c : Int)).take i ++ List.replicate (x.length - i) (0 : Int)).set i (e - (c : Int)) = (x.map fun e => e - (c : Int)).take (i + 1) ++ List.replicate (x.length - (i + 1)) 0 := by
    rw [show x.length - i = (x.length - (i + 1)) + 1 by omega, List.replicate_succ, List.set_append_right _ _ (by rw [List.length_take, List.length_map]; omega), List.length_take, List.length_map, Nat.min_eq_left (by omega), Nat.sub_self, List.set_cons_zero, List.take_add_one, hm, List.append_assoc]
    rfl
   rw [cond_t (dlt hil), idx_get hxi, Option.bind_some, need_pos (in64m (by omega) (by omega)), need_pos (by rw [hz]; omega), need_pos (by rw [show ((i : Int)).toNat = i from rfl, List.length_append, List.length_take, List.length_replicate, List.length_map]; omega), need_pos (i64s (by omega)), succ_cast, show ((i : Int)).toNat = i from rfl, hs]
   exact ihF (by omega) (by omega)
  ·have hie : i = x.length := by omega
   subst hie
   rw [cond_f (decide_eq_false (by omega)), List.take_of_length_le (by rw [List.length_map]; omega), Nat.sub_self]
   simp
theorem polyI_p {F : Nat} {L sr : Int} {fl : List Nat} {ess : List (List Int)} (ha : Asc fl.length 0 ess.flatten) (hF : ess.length < F) (hF2 : ∀ x ∈ ess, x.length < F) (hl : ess.length ≤ 2000000) (hll : ∀ x ∈ ess, x.length ≤ 2000000) (hf : fl.length ≤ 2000000) {i : Nat} {p : List Nat × List Int} (hp : (cutsP fl 0 ess)[i]? = some p) :
  p_MultiPolygon_Polygon F ⟨⟨⟨⟨L, strd L, fl, sr⟩⟩, ess⟩⟩ (i : Int) = some ⟨⟨⟨⟨L, strd L, p.1, 0⟩⟩, p.2⟩⟩ := by
 have hil := (List.getElem?_eq_some_iff.1 hp).1
 rw [cutsP_len] at hil
 have hx : ess[i]? = some ess[i] := List.getElem?_eq_getElem hil
 obtain ⟨x, hxe⟩ : ∃ x, x = ess[i] := ⟨_, rfl⟩
 rw [← hxe] at hx
 have hm := List.mem_of_getElem? hx
 have hxl := hll x hm
 obtain ⟨a1, a2⟩ := asc_at ha hx
 rw [cutsP_get hx] at hp
 have hp' := Option.some.inj hp
 subst hp'
 have n1 : ∀ y z, p_NewPolygonFlat L y z = some ⟨⟨⟨⟨L, strd L, y, 0⟩⟩, z⟩⟩ := fun y z => by unfold p_NewPolygonFlat; rw [strd_p, Option.bind_some]
 unfold p_MultiPolygon_Polygon
 dsimp only
 rw [idx_get hx, Option.bind_some]
 cases hxc : x with
 | nil =>
  subst hxc
  rw [cond_t (by rfl)]
  unfold p_NewPolygon
  rw [n1]
  simp [lst]
 | cons e r =>
  have hlen : ((x.length : Nat) : Int) - 1 = ((r.length : Nat) : Int) := by rw [hxc]; simp only [List.length_cons]; omega
  obtain ⟨z, hmem, l1, hlx⟩ := lst_last r e (pv ess i)
  rw [← hxc] at hmem l1 hlx ⊢
  obtain ⟨b1, b2⟩ := asc_last a1 hmem
  rw [cond_f (decide_eq_false (by rw [hxc]; simp only [List.length_cons]; omega)), need_pos (in64m (by omega) (by omega)), off_loop (y := ⟨⟨⟨⟨L, strd L, fl, sr⟩⟩, ess⟩⟩) rfl ha hl hll i F (by omega) (Nat.le_of_lt hil), Option.bind_some, aft_inl]
  have hk2 : ∀ g, g.length = x.length → p_MultiPolygon_Polygon_k2 ⟨⟨⟨⟨L, strd L, fl, sr⟩⟩, ess⟩⟩ (i : Int) ((pv ess i : Nat) : Int) x g = some ⟨⟨⟨⟨L, strd L, (fl.drop (pv ess i)).take (lst (pv ess i) x - pv ess i), 0⟩⟩, g⟩⟩ := fun g hg => by
   unfold p_MultiPolygon_Polygon_k2
   dsimp only
   rw [idx_get hx, Option.bind_some, Option.bind_some, hlen, need_pos (in64 (by omega) (by have := congrArg List.length hxc; simp only [List.length_cons] at this; omega)), idx_get l1, Option.bind_some, need_pos ⟨⟨by omega, by omega⟩, by omega, by omega⟩, need_pos (by rw [hg]; rfl), n1, Option.bind_some, hlx]
   rfl
  unfold p_MultiPolygon_Polygon_k1
  dsimp only
  rw [idx_get hx, Option.bind_some, need_pos (by omega)]
  by_cases c : ((pv ess i : Nat) : Int) = 0
  ·rw [cond_t (decide_eq_true c), Option.bind_some, need_pos (by simp), Option.bind_some]
   have hcp : (x.take (min x.length (List.replicate (((x.length : Nat) : Int)).toNat (0 : Int)).length) ++ (List.replicate (((x.length : Nat) : Int)).toNat (0 : Int)).drop (min x.length (List.replicate (((x.length : Nat) : Int)).toNat (0 : Int)).length)) = x := by
    rw [List.length_replicate, show (((x.length : Nat) : Int)).toNat = x.length from rfl, Nat.min_self, List.take_of_length_le (Nat.le_refl _), List.drop_of_length_le (by simp), List.append_nil]
   rw [hcp, hk2 x rfl]
   have hmap : (x.map fun e => e - ((pv ess i : Nat) : Int)) = x := by rw [c]; simp
   rw [hmap]
  ·rw [cond_f (decide_eq_false c), Option.bind_some]
   have lp := sub_loop (x := x) (c := pv ess i) (fun e he => by have := asc_last a1 he; omega) hxl (z := x) rfl F 0 (by have := hF2 x hm; omega) (by omega)
   have lp' : iter (p_MultiPolygon_Polygon_l4 ((pv ess i : Nat) : Int) x x) F ((0 : Int), List.replicate (((x.length : Nat) : Int)).toNat (0 : Int)) = some (.inl (x.map fun e => e - ((pv ess i : Nat) : Int))) := by
    rw [List.take_zero, List.nil_append, Nat.sub_zero] at lp
    exact lp
   rw [lp', Option.bind_some, aft_inl]
   unfold p_MultiPolygon_Polygon_k3
   rw [hk2 _ (by rw [List.length_map])]
theorem mpoly_step (big : Bool) {F : Nat} {L sr : Int} {fl : List Nat} {ess : List (List Int)} (hL : 1 ≤ L ∧ L ≤ 4) (hF : ess.length < F) (hF1 : fl.length < F) (hF2 : ∀ x ∈ ess, x.length < F) (hl : ess.length ≤ 2000000) (hll : ∀ x ∈ ess, x.length ≤ 2000000) (hf : fl.length ≤ 2000000) (ha : Asc fl.length 0 ess.flatten) (K : _) (i : Nat) (b0 : Int) (B e : List Int)
  (hx : ((cutsP fl 0 ess).map fun p => encPg big L 0 p.1 p.2)[i]? = some e) (hB : B.length + e.length ≤ 1600000000) :
  ∃ b1, p_Write_MultiPolygon_l6 big ⟨⟨⟨⟨L, strd L, fl, sr⟩⟩, ess⟩⟩ F ((ess.length : Nat) : Int) K ((i : Int), b0, B) = K (((i + 1 : Nat) : Int), b1, B ++ e) := by
 rw [List.getElem?_map, Option.map_eq_some_iff] at hx
 obtain ⟨p, hp, rfl⟩ := hx
 have hil := (List.getElem?_eq_some_iff.1 hp).1
 rw [cutsP_len] at hil
 have hx : ess[i]? = some ess[i] := List.getElem?_eq_getElem hil
 have hm := List.mem_of_getElem? hx
 obtain ⟨a1, a2⟩ := asc_at ha hx
 have hpp := polyI_p (L := L) (sr := sr) ha hF hF2 hl hll hf hp
 rw [cutsP_get hx] at hp
 have hp' := Option.some.inj hp
 have q1 : p.1.length = lst (pv ess i) ess[i] - pv ess i := by rw [← hp', List.length_take, List.length_drop]; omega
 have q2 : p.2.length = ess[i].length := by rw [← hp', List.length_map]
 have q3 : Asc p.1.length 0 p.2 := by
  rw [q1, ← hp']
  have := asc_shift ess[i] (pv ess i) (Nat.le_refl _) a1
  rwa [Nat.sub_self] at this
 have hxl := hll _ hm
 have hxF := hF2 _ hm
 have h3 := a1.le
 obtain ⟨b1, hw⟩ := poly_p big (F := F) (b0 := b0) (sr := 0) (B := B) hL (by omega) (by omega) (by omega) (by omega) q3 (by omega)
 unfold p_Write_MultiPolygon_l6
 dsimp only
 rw [cond_t (dlt hil), hpp, Option.bind_some, hw, Option.bind_some]
 refine ⟨b1, ?_⟩
 rw [need_pos (i64s (by omega)), succ_cast]
theorem mpoly_len (big : Bool) {L : Int} {fl : List Nat} {ess : List (List Int)} (ha : Asc fl.length 0 ess.flatten) : ((cutsP fl 0 ess).map fun p => encPg big L 0 p.1 p.2).flatten.length ≤ 41 * ess.length + 8 * (fl.length + ess.flatten.length) := by
 have hcs := cutsP_sum ess 0 ha
 have hall : ∀ q ∈ cutsP fl 0 ess, (encPg big L 0 q.1 q.2).length ≤ 41 + 8 * (q.1.length + q.2.length) := fun q hq => by
  obtain ⟨i, hi⟩ := List.mem_iff_getElem?.1 hq
  have hil := (List.getElem?_eq_some_iff.1 hi).1
  rw [cutsP_len] at hil
  have hx : ess[i]? = some ess[i] := List.getElem?_eq_getElem hil
  obtain ⟨a1, a2⟩ := asc_at ha hx
  rw [cutsP_get hx] at hi
  have hp' := Option.some.inj hi
  refine encPg_len big ?_
  have q1 : q.1.length = lst (pv ess i) ess[i] - pv ess i := by rw [← hp', List.length_take, List.length_drop]; omega
  rw [q1, ← hp']
  have := asc_shift ess[i] (pv ess i) (Nat.le_refl _) a1
  rwa [Nat.sub_self] at this
 have hsum : ∀ l : List (List Nat × List Int), (∀ q ∈ l, (encPg big L 0 q.1 q.2).length ≤ 41 + 8 * (q.1.length + q.2.length)) → (l.map fun p => encPg big L 0 p.1 p.2).flatten.length ≤ 41 * l.length + 8 * ((l.map fun p => p.1.length).sum + (l.map fun p => p.2.length).sum) := by
  intro l
  induction l with
  | nil => intro _; simp
  | cons q l ih =>
   intro h
   have h1 := h q (by simp)
   have h2 := ih fun z hz => h z (by simp [hz])
   simp only [List.map_cons, List.flatten_cons, List.length_append, List.length_cons, List.sum_cons]
   omega
 have hfl2 := hsum _ hall
 rw [cutsP_sum2, cutsP_len] at hfl2
 omega
set_option maxHeartbeats 2000000 in
theorem mpoly_p (big : Bool) {F : Nat} {L sr b0 : Int} {fl : List Nat} {ess : List (List Int)} {B : List Int} (hL : 1 ≤ L ∧ L ≤ 4) (hF : ess.length < F) (hF1 : fl.length < F) (hF2 : ∀ x ∈ ess, x.length < F) (hl : ess.length ≤ 2000000) (hll : ∀ x ∈ ess, x.length ≤ 2000000) (hf : fl.length ≤ 2000000) (hfl : ess.flatten.length ≤ 2000000) (ha : Asc fl.length 0 ess.flatten) (hB : B.length ≤ 1000000000) :
  ∃ b1, p_Write_MultiPolygon F big ⟨⟨⟨⟨L, strd L, fl, sr⟩⟩, ess⟩⟩ b0 B = some (b1, B ++ encM big 6 L sr ((cutsP fl 0 ess).map fun p => encPg big L 0 p.1 p.2)) ∧ ((cutsP fl 0 ess).map fun p => encPg big L 0 p.1 p.2).flatten.length ≤ 41 * ess.length + 8 * (fl.length + ess.flatten.length) := by
 have hh : (B ++ hdr big 6 L sr).length ≤ 1000000009 := by
  rw [List.length_append, hdr_len]; split <;> omega
 have hfl2 := mpoly_len big (L := L) ha
 rw [hMg, head_p big (by omega) hL (by omega)]
 unfold p_Write_MultiPolygon_k4
 rw [show p_MultiPolygon_NumPolygons ⟨⟨⟨⟨L, strd L, fl, sr⟩⟩, ess⟩⟩ = some ((ess.length : Nat) : Int) from rfl, Option.bind_some, wrap32 (by omega)]
 dsimp only
 rw [wu32_p big (by omega) (by omega), Option.bind_some]
 have hlen : ((cutsP fl 0 ess).map fun p => encPg big L 0 p.1 p.2).length = ess.length := by rw [List.length_map, cutsP_len]
 obtain ⟨b1, h⟩ := multi_loop ((cutsP fl 0 ess).map fun p => encPg big L 0 p.1 p.2) (p_Write_MultiPolygon_l6 big ⟨⟨⟨⟨L, strd L, fl, sr⟩⟩, ess⟩⟩ F ((ess.length : Nat) : Int)) 1600000000
  (fun K b0 B => by unfold p_Write_MultiPolygon_l6; dsimp only; rw [hlen, cond_f dge])
  (mpoly_step big hL hF hF1 hF2 hl hll hf ha)
  ((cutsP fl 0 ess).map fun p => encPg big L 0 p.1 p.2) F 0 0 ((B ++ hdr big 6 L sr) ++ c4 big ((ess.length : Nat) : Int)) List.drop_zero (Nat.zero_le _) (by rw [hlen]; exact hF) (by rw [List.length_append, c4_len]; omega)
 have h' : iter (p_Write_MultiPolygon_l6 big ⟨⟨⟨⟨L, strd L, fl, sr⟩⟩, ess⟩⟩ F ((ess.length : Nat) : Int)) F ((0 : Int), (0 : Int), (B ++ hdr big 6 L sr) ++ c4 big ((ess.length : Nat) : Int)) = _ := h
 refine ⟨b1, ?_, by omega⟩
 rw [h', Option.bind_some, aft_inl]
 unfold encM p_Write_MultiPolygon_k5
 rw [hlen, List.append_assoc, List.append_assoc]
end
end Go.Proofs.YtbinnbmpedmabaaGreat.Wk

set_option linter.unusedVariables false
set_option linter.unusedSimpArgs false
namespace Go.Proofs.YtbinnbmpedmabaaGreat.Wk
open Go.Vm
noncomputable section
mutual
def enc (big : Bool) : TImpl_Geom → List Int
 | .mk k l s f e es ks =>
  if k = 1 then encPt big l s f else if k = 2 then encLs big l s f else if k = 3 then encPg big l s f e
  else if k = 4 then encM big 4 l s ((cuts f 0 e).map (encPt big l 0)) else if k = 5 then encM big 5 l s ((cuts f 0 e).map (encLs big l 0))
  else if k = 6 then encM big 6 l s ((cutsP f 0 es).map fun p => encPg big l 0 p.1 p.2)
  else hdr big 7 (lay (.mk k l s f e es ks)) s ++ (c4 big (ks.length : Int) ++ encs big ks)
def encs (big : Bool) : List TImpl_Geom → List Int
 | [] => []
 | g :: r => enc big g ++ encs big r
end
theorem encs_map (big : Bool) : ∀ l : List TImpl_Geom, encs big l = (l.map (enc big)).flatten
 | [] => by simp [encs]
 | g :: r => by simp [encs, encs_map big r]
theorem cov_b {a b : Int} (ha : 0 ≤ a ∧ a ≤ 4) (hb : 0 ≤ b ∧ b ≤ 4) : (0 ≤ cov a b ∧ cov a b ≤ 4) ∧ (cov a b = 0 → a = 0 ∧ b = 0) := by
 unfold cov
 split
 ·omega
 ·split <;> omega
theorem lays_b : ∀ (l : List TImpl_Geom) (a : Int), (0 ≤ a ∧ a ≤ 4) → (∀ k ∈ l, 0 ≤ lay k ∧ lay k ≤ 4) → (0 ≤ lays a l ∧ lays a l ≤ 4) ∧ (lays a l = 0 → a = 0 ∧ ∀ k ∈ l, lay k = 0)
 | [], a, ha, _ => by
  rw [lays]
  exact ⟨ha, fun h => ⟨h, fun k hk => by cases hk⟩⟩
 | g :: r, a, ha, h => by
  have hg := h g (by simp)
  obtain ⟨c1, c2⟩ := cov_b ha hg
  obtain ⟨h1, h2⟩ := lays_b r (cov a (lay g)) c1 (fun k hk => h k (by simp [hk]))
  rw [lays]
  refine ⟨h1, fun h0 => ?_⟩
  obtain ⟨z1, z2⟩ := h2 h0
  obtain ⟨z3, z4⟩ := c2 z1
  refine ⟨z3, fun k hk => ?_⟩
  rcases List.mem_cons.1 hk with rfl | hk
  ·exact z4
  ·exact z2 k hk
theorem lay_b : ∀ (N : Nat) (g : TImpl_Geom), gF g ≤ N → WfG g → WG g → 0 ≤ lay g ∧ lay g ≤ 4 := by
 intro N
 induction N with
 | zero => intro g h hw; have := hw.tell.big.1; omega
 | succ N ih =>
  intro g h hw hq
  have W := hw.tell
  have Q := hq.tell
  rw [lay_eq]
  by_cases h7 : g.Kind = 7
  ·rw [if_neg (by simpa using h7)]
   by_cases h0 : g.Layout = 0
   ·rw [if_neg (by simpa using h0), h0]
    exact (lays_b _ _ (by omega) fun k hk => ih k (by have := (W.kid k hk).2; omega) (W.kid k hk).1 (Q.kid k hk)).1
   ·rw [if_pos h0]; exact Q.lay0 h7
  ·rw [if_pos h7]; have := Q.lay h7; omega
theorem lay_0 {g : TImpl_Geom} (hw : WfG g) (hq : WG g) (h : lay g = 0) : g.Kind = 7 ∧ g.Layout = 0 ∧ ∀ k ∈ g.Kids, lay k = 0 := by
 have W := hw.tell
 have Q := hq.tell
 rw [lay_eq] at h
 by_cases h7 : g.Kind = 7
 ·rw [if_neg (by simpa using h7)] at h
  by_cases h0 : g.Layout = 0
  ·rw [if_neg (by simpa using h0), h0] at h
   exact ⟨h7, h0, ((lays_b _ _ (by omega) fun k hk => lay_b _ k (Nat.le_refl _) (W.kid k hk).1 (Q.kid k hk)).2 h).2⟩
  ·rw [if_pos h0] at h; exact absurd h h0
 ·rw [if_pos h7] at h; have := Q.lay h7; omega
theorem toV7 {g : TImpl_Geom} (h : g.Kind = 7) : toV g = ⟨93, c_TGeom_GeometryCollection ⟨g.Layout, toVs g.Kids, g.SRID⟩⟩ := by
 cases g; simp only at h; subst h; simp only [toV]; rfl
theorem empty_p : ∀ (N : Nat) (g : TImpl_Geom), gF g ≤ N → WfG g → WG g → lay g = 0 → ∀ F, gF g < F → p_GeometryCollection_Empty F ⟨g.Layout, toVs g.Kids, g.SRID⟩ = some true := by
 intro N
 induction N with
 | zero => intro g h hw; have := hw.tell.big.1; omega
 | succ N ih =>
  intro g h hw hq h0 F hF
  have W := hw.tell
  have Q := hq.tell
  obtain ⟨h7, hl, hk⟩ := lay_0 hw hq h0
  obtain ⟨G, rfl⟩ : ∃ G, F = G + 1 := ⟨F - 1, by omega⟩
  show p_GeometryCollection_Empty_b (fun a0 => p_GeometryCollection_Empty G a0) G _ = _
  unfold p_GeometryCollection_Empty_b
  rw [toVs_map]
  have := fold_all (V := Unit) (T := Bool) (σ := Unit) g.Kids (p_GeometryCollection_Empty_l2 ⟨g.Layout, g.Kids.map toV, g.SRID⟩ (fun a0 => p_GeometryCollection_Empty G a0)) (fun i _ => (i : Int)) (fun s _ => s) (fun s => s) (fun _ _ => True)
   (fun K s _ => by unfold p_GeometryCollection_Empty_l2; dsimp only; rw [List.length_map, cond_f dge])
   (fun K i x s hx _ => by
    have hi := lt_get hx
    have hm := W.kid _ (mem_get hx)
    have hqx := Q.kid _ (mem_get hx)
    have hx0 := hk _ (mem_get hx)
    have hxm : (g.Kids.map toV)[i]? = some (toV x) := by rw [List.getElem?_map, hx]; rfl
    unfold p_GeometryCollection_Empty_l2; dsimp only
    rw [List.length_map, cond_t (dlt hi), idx_get hxm, Option.bind_some, toV7 (lay_0 hm.1 hqx hx0).1]
    dsimp only
    rw [cond_f (by rfl), cond_f (by rfl), cond_f (by rfl), cond_f (by rfl), cond_f (by rfl), cond_f (by rfl), cond_t (by rfl), coll_dec, Option.bind_some, ih x (by omega) hm.1 hqx hx0 G (by omega), Option.bind_some, cond_f (by rfl), need_pos (inM hi W.kids), succ_cast])
   (fun _ _ _ _ _ => trivial) G 0 () (by have := W.big; omega) (by omega) trivial
  have t2 : iter (p_GeometryCollection_Empty_l2 ⟨g.Layout, g.Kids.map toV, g.SRID⟩ (fun a0 => p_GeometryCollection_Empty G a0)) G (0 : Int) = _ := this
  rw [t2, Option.bind_some, aft_inl]
  rfl
def vwr {ρ : Type} (Rec : Bool → TGeom_GeometryCollection → Int → List Int → Option (Int × List Int)) (F : Nat) (big : Bool) (x : IfcV) (b0 : Int) (B : List Int) (K : Int × List Int → Option ρ) : Option ρ :=
 cond (decide (x.dt = 67)) ((decodeD c_TGeom_Point x.cells).bind fun y => (p_Write_Point F big y b0 B).bind K) (cond (decide (x.dt = 70)) ((decodeD c_TGeom_LineString x.cells).bind fun y => (p_Write_LineString F big y b0 B).bind K)
  (cond (decide (x.dt = 76)) ((decodeD c_TGeom_Polygon x.cells).bind fun y => (p_Write_Polygon F big y b0 B).bind K) (cond (decide (x.dt = 80)) ((decodeD c_TGeom_Polygon x.cells).bind fun y => (p_Write_MultiPoint F big y b0 B).bind K)
  (cond (decide (x.dt = 86)) ((decodeD c_TGeom_Polygon x.cells).bind fun y => (p_Write_MultiLineString F big y b0 B).bind K) (cond (decide (x.dt = 89)) ((decodeD c_TGeom_MultiPolygon x.cells).bind fun y => (p_Write_MultiPolygon F big y b0 B).bind K)
  (cond (decide (x.dt = 93)) ((decodeD c_TGeom_GeometryCollection x.cells).bind fun y => (Rec big y b0 B).bind K) none))))))
theorem ewkb_eq (F : Nat) (g : TImpl_Geom) (big : Bool) : p_WriteEWKB F g big = (p_geometry F g).bind fun x => vwr (p_Write_GeometryCollection F) F big x 0 [] (fun y => need ((0 ≤ (0 : Int) ∧ True) ∧ ((0 : Int)).toNat ≤ y.2.length ∧ y.2.length ≤ y.2.length) (some (((y.2.drop ((0 : Int)).toNat).take (y.2.length - ((0 : Int)).toNat)), true))) := rfl
theorem l6_eq (big : Bool) (y : TGeom_GeometryCollection) (F : Nat) (Rec : Bool → TGeom_GeometryCollection → Int → List Int → Option (Int × List Int)) (n : Int) (K : (Int × Int × (List Int)) → Option (Sum (Int × (List Int)) (Int × (List Int)))) (g : Int × Int × List Int) :
  p_Write_GeometryCollection_l6 big y F Rec n K g = cond (decide (g.1 < n)) ((idx y.geoms g.1).bind fun x => (some x).bind fun x => vwr Rec F big x g.2.1 g.2.2 (fun y => need (inI .i64 (g.1 + (1 : Int))) (K ((g.1 + (1 : Int)), y.1, y.2)))) (some (Sum.inl (g.2.1, g.2.2))) := by
 unfold p_Write_GeometryCollection_l6 p_GeometryCollection_Geom vwr
 cases idx y.geoms g.1 <;> rfl
end
end Go.Proofs.YtbinnbmpedmabaaGreat.Wk

set_option linter.unusedVariables false
set_option linter.unusedSimpArgs false
namespace Go.Proofs.YtbinnbmpedmabaaGreat.Wk
open Go.Vm
noncomputable section
theorem head0_p {R : Type} (big : Bool) {srid b0 : Int} {B : List Int} {K4 : Int × List Int → Option R} {bad0 : Option R} {zero bad : Int × List Int → Option R} (hB : B.length ≤ 1800000000)
  (hz : ∀ y2 : Int × List Int, zero y2 = (cond (!decide (srid = (0 : Int))) ((p_WriteUInt32 big (bits .or .u32 7 (536870912 : Int)) y2.1 y2.2).bind fun y9 => cond (!decide ((bits .and .u32 (bits .or .u32 7 (536870912 : Int)) (536870912 : Int)) = (0 : Int))) ((p_WriteUInt32 big (IntKind.u32.wrap srid) y9.1 y9.2).bind fun y => K4 (y.1, y.2)) (K4 (y9.1, y9.2)))
   ((p_WriteUInt32 big 7 y2.1 y2.2).bind fun y9 => cond (!decide ((bits .and .u32 7 (536870912 : Int)) = (0 : Int))) ((p_WriteUInt32 big (IntKind.u32.wrap srid) y9.1 y9.2).bind fun y => K4 (y.1, y.2)) (K4 (y9.1, y9.2))))) :
  hdE big 7 0 srid b0 B K4 bad0 zero bad = K4 (0, B ++ hdr big 7 0 srid) := by
 have key : ∀ x : Int, zero (0, B ++ [x]) = K4 (0, B ++ ([x] ++ (c4 big (7 + flg 0 + (if srid = 0 then 0 else 536870912)) ++ (if srid = 0 then [] else c4 big (IntKind.u32.wrap srid))))) := fun x => by
  have hB2 : (B ++ [x]).length ≤ 1900000000 := by rw [List.length_append, List.length_singleton]; omega
  rw [hz]
  dsimp only
  rw [tail_p big (by omega) (codes (by omega)).1 hB2, show flg 0 = 0 from rfl, Int.add_zero]
  simp only [List.append_assoc]
 unfold hdr
 rw [List.append_assoc]
 have k0 := key 0
 have k1 := key 1
 unfold hdE
 cases big with
 | true =>
  show ((p_WriteByte 0 b0 B).bind fun y2 => cond (decide ((0 : Int) = 0)) (zero y2) _) = _
  rw [byte_p (by omega), Option.bind_some]
  exact k0
 | false =>
  show ((p_WriteByte 1 b0 B).bind fun y2 => cond (decide ((0 : Int) = 0)) (zero y2) _) = _
  rw [byte_p (by omega), Option.bind_some]
  exact k1
theorem gc_eq {G : Nat} {Rec : Bool → TGeom_GeometryCollection → Int → List Int → Option (Int × List Int)} {big : Bool} {y : TGeom_GeometryCollection} {b0 L : Int} {B : List Int} (hL : p_GeometryCollection_Layout G y = some L) :
  p_Write_GeometryCollection_b Rec G big y b0 B = hdE big 7 L y.srid b0 B (p_Write_GeometryCollection_k4 big y G Rec) none
   (fun y2 => (p_GeometryCollection_Empty G y).bind fun e => cond (!e) none (p_Write_GeometryCollection_k2 big y G Rec y2 7)) (fun _ => none) := by
 unfold p_Write_GeometryCollection_b p_Write_GeometryCollection_k1
 simp only [hL, Option.bind_some]
 rfl
theorem enc_len (big : Bool) : ∀ (N : Nat) (g : TImpl_Geom), gF g ≤ N → WfG g → WG g → (enc big g).length ≤ 45 * gF g := by
 intro N
 induction N with
 | zero => intro g h hw; have := hw.tell.big.1; omega
 | succ N ih =>
  intro g h hw hq
  have W := hw.tell
  have Q := hq.tell
  cases g with
  | mk k l s f e es ks =>
   have hk := Q.kind
   have hasc := Q.asc
   have hasc6 := Q.asc6
   simp only at hk hasc hasc6
   have ihk : ∀ x ∈ ks, (enc big x).length ≤ 45 * gF x := fun x hx => ih x (by have := (W.kid x hx).2; omega) (W.kid x hx).1 (Q.kid x hx)
   have hs : (es.map List.length).sum = es.flatten.length := sum_flat es
   simp only [gF]
   unfold enc
   by_cases h1 : k = 1
   ·rw [if_pos h1]; have := encPt_len big l s f; omega
   rw [if_neg h1]
   by_cases h2 : k = 2
   ·rw [if_pos h2]; have := encLs_len big l s f; omega
   rw [if_neg h2]
   by_cases h3 : k = 3
   ·rw [if_pos h3]; have := encPg_len big (L := l) (sr := s) (hasc (.inl h3)); omega
   rw [if_neg h3]
   by_cases h4 : k = 4
   ·rw [if_pos h4]
    have hcs := cuts_sum e 0 (hasc (.inr (.inl h4)))
    have hfl := flat_len (encPt_len big l 0) (cuts f 0 e)
    rw [sum_flat, cuts_len] at hfl
    unfold encM
    rw [List.length_append, List.length_append, hdr_len, c4_len]
    split <;> omega
   rw [if_neg h4]
   by_cases h5 : k = 5
   ·rw [if_pos h5]
    have hcs := cuts_sum e 0 (hasc (.inr (.inr h5)))
    have hfl := flat_len (encLs_len big l 0) (cuts f 0 e)
    rw [sum_flat, cuts_len] at hfl
    unfold encM
    rw [List.length_append, List.length_append, hdr_len, c4_len]
    split <;> omega
   rw [if_neg h5]
   by_cases h6 : k = 6
   ·rw [if_pos h6]
    have hfl := mpoly_len big (L := l) (hasc6 h6)
    unfold encM
    rw [List.length_append, List.length_append, hdr_len, c4_len]
    split <;> omega
   rw [if_neg h6]
   have hsum : ∀ r : List TImpl_Geom, (∀ x ∈ r, (enc big x).length ≤ 45 * gF x) → (encs big r).length ≤ 45 * gFs r := by
    intro r
    induction r with
    | nil => intro _; simp [encs]
    | cons x r ihr =>
     intro hr
     have := hr x (by simp)
     have h2 := ihr fun z hz => hr z (by simp [hz])
     rw [encs, List.length_append, gFs]
     omega
   have := hsum ks ihk
   rw [List.length_append, List.length_append, hdr_len, c4_len]
   split <;> omega
theorem encsE_len (big : Bool) {g : TImpl_Geom} (hw : WfG g) (hq : WG g) : ((g.Kids.map (enc big)).flatten).length ≤ 45 * gF g := by
 have W := hw.tell
 have Q := hq.tell
 have hsum : ∀ r : List TImpl_Geom, (∀ x ∈ r, (enc big x).length ≤ 45 * gF x) → ((r.map (enc big)).flatten).length ≤ 45 * gFs r := by
  intro r
  induction r with
  | nil => intro _; simp
  | cons x r ihr =>
   intro hr
   have := hr x (by simp)
   have h2 := ihr fun z hz => hr z (by simp [hz])
   rw [List.map_cons, List.flatten_cons, List.length_append, gFs]
   omega
 have := hsum g.Kids fun x hx => enc_len big _ x (Nat.le_refl _) (W.kid x hx).1 (Q.kid x hx)
 cases g
 simp only [gF]
 simp only at this
 omega
end
end Go.Proofs.YtbinnbmpedmabaaGreat.Wk

set_option linter.unusedVariables false
set_option linter.unusedSimpArgs false
namespace Go.Proofs.YtbinnbmpedmabaaGreat.Wk
open Go.Vm
noncomputable section
theorem gc_body (big : Bool) {G : Nat} {g : TImpl_Geom} (hw : WfG g) (hq : WG g) (h7 : g.Kind = 7) (hB7 : gF g ≤ 1048576) (hG : gF g < G) {Rec : Bool → TGeom_GeometryCollection → Int → List Int → Option (Int × List Int)}
  (hRec : ∀ x ∈ g.Kids, ∀ b0 B, B.length + (enc big x).length ≤ 900000000 → ∃ b1, ∀ (K : Int × List Int → Option (Sum (Int × (List Int)) (Int × (List Int)))), vwr Rec G big (toV x) b0 B K = K (b1, B ++ enc big x)) {b0 : Int} {B : List Int} (hB : B.length + 4 + ((g.Kids.map (enc big)).flatten).length ≤ 900000000) :
  ∃ b1, p_Write_GeometryCollection_k4 big ⟨g.Layout, toVs g.Kids, g.SRID⟩ G Rec (b0, B) = some (b1, B ++ (c4 big (g.Kids.length : Int) ++ encs big g.Kids)) := by
 have W := hw.tell
 have Q := hq.tell
 have big' := W.big
 have hlenE := encsE_len big hw hq
 have hlen : (g.Kids.map (enc big)).length = g.Kids.length := by rw [List.length_map]
 have hn : (toVs g.Kids).length = g.Kids.length := by rw [toVs_map, List.length_map]
 unfold p_Write_GeometryCollection_k4
 rw [show p_GeometryCollection_NumGeoms ⟨g.Layout, toVs g.Kids, g.SRID⟩ = some (((toVs g.Kids).length : Nat) : Int) from rfl, Option.bind_some, hn, wrap32 (by omega)]
 dsimp only
 rw [wu32_p big (by omega) (by omega), Option.bind_some]
 dsimp only
 obtain ⟨b1, h⟩ := multi_loop (g.Kids.map (enc big)) (p_Write_GeometryCollection_l6 big ⟨g.Layout, toVs g.Kids, g.SRID⟩ G Rec ((g.Kids.length : Nat) : Int)) 900000000
  (fun K b0 B => by rw [l6_eq]; dsimp only; rw [hlen, cond_f dge])
  (fun K i b0 B e hx hB => by
   rw [List.getElem?_map, Option.map_eq_some_iff] at hx
   obtain ⟨x, hx, rfl⟩ := hx
   have hi := lt_get hx
   have hm := W.kid _ (mem_get hx)
   have hxm : (toVs g.Kids)[i]? = some (toV x) := by rw [toVs_map, List.getElem?_map, hx]; rfl
   rw [l6_eq]
   dsimp only
   obtain ⟨b1, hb⟩ := hRec x (mem_get hx) b0 B hB
   rw [cond_t (dlt hi), idx_get hxm, Option.bind_some, Option.bind_some, hb]
   refine ⟨b1, ?_⟩
   rw [need_pos (inM hi W.kids), succ_cast])
  (g.Kids.map (enc big)) G 0 0 (B ++ c4 big ((g.Kids.length : Nat) : Int)) List.drop_zero (Nat.zero_le _) (by rw [hlen]; omega) (by rw [List.length_append, c4_len]; omega)
 have h' : iter (p_Write_GeometryCollection_l6 big ⟨g.Layout, toVs g.Kids, g.SRID⟩ G Rec ((g.Kids.length : Nat) : Int)) G ((0 : Int), (0 : Int), B ++ c4 big ((g.Kids.length : Nat) : Int)) = _ := h
 refine ⟨b1, ?_⟩
 rw [h', Option.bind_some, aft_inl]
 unfold p_Write_GeometryCollection_k5
 rw [encs_map, List.append_assoc]
theorem enc7 (big : Bool) {g : TImpl_Geom} (h7 : g.Kind = 7) : enc big g = hdr big 7 (lay g) g.SRID ++ (c4 big (g.Kids.length : Int) ++ encs big g.Kids) := by
 cases g; simp only at h7; subst h7; simp only [enc]; rfl
theorem write_q (big : Bool) : ∀ (N : Nat) (g : TImpl_Geom), gF g ≤ N → WfG g → WG g → gF g ≤ 1048576 → ∀ F, gF g + 2000000 < F → ∀ b0 B, B.length + (enc big g).length ≤ 900000000 →
  ∃ b1, ∀ {ρ : Type} (K : Int × List Int → Option ρ), vwr (p_Write_GeometryCollection F) F big (toV g) b0 B K = K (b1, B ++ enc big g) := by
 intro N
 induction N with
 | zero => intro g h hw; have := hw.tell.big.1; omega
 | succ N ih =>
  intro g h hw hq hb F hF b0 B hB
  have W := hw.tell
  have Q := hq.tell
  have bg := W.big
  by_cases h7 : g.Kind = 7
  ·obtain ⟨G, rfl⟩ : ∃ G, F = G + 1 := ⟨F - 1, by omega⟩
   have hl := glay_p _ g (Nat.le_refl _) hw (WG.vgN _ g (Nat.le_refl _) hw hq) h7 G (by omega)
   have lb := lay_b _ g (Nat.le_refl _) hw hq
   have hlen := hdr_len big 7 (lay g) g.SRID
   have he := enc7 big h7
   have hel : (enc big g).length = (hdr big 7 (lay g) g.SRID).length + (4 + ((g.Kids.map (enc big)).flatten).length) := by rw [he, List.length_append, List.length_append, c4_len, encs_map]
   have key : ∃ b1, p_Write_GeometryCollection (G + 1) big ⟨g.Layout, toVs g.Kids, g.SRID⟩ b0 B = some (b1, B ++ enc big g) := by
    show ∃ b1, p_Write_GeometryCollection_b (fun a0 a1 b0 b1 => p_Write_GeometryCollection G a0 a1 b0 b1) G big ⟨g.Layout, toVs g.Kids, g.SRID⟩ b0 B = _
    rw [gc_eq hl]
    obtain ⟨b1, hbd⟩ := gc_body big hw hq h7 hb (G := G) (by omega) (Rec := fun a0 a1 b0 b1 => p_Write_GeometryCollection G a0 a1 b0 b1) (fun x hx b0 B hB2 => by
     have hm := W.kid x hx
     obtain ⟨b1, h1⟩ := ih x (by omega) hm.1 (Q.kid x hx) (by omega) G (by omega) b0 B hB2
     exact ⟨b1, fun K => h1 K⟩) (b0 := 0) (B := B ++ hdr big 7 (lay g) g.SRID) (by rw [List.length_append]; omega)
    refine ⟨b1, ?_⟩
    by_cases h0 : lay g = 0
    ·have hem := empty_p _ g (Nat.le_refl _) hw hq h0 G (by omega)
     rw [h0] at hbd ⊢
     rw [head0_p big (by omega) (fun y2 => by rw [hem]; rfl), hbd, he, h0, List.append_assoc]
    ·rw [head_p big (by omega) (by omega) (by omega), hbd, he, List.append_assoc]
   obtain ⟨b1, hk⟩ := key
   refine ⟨b1, fun K => ?_⟩
   rw [toV7 h7]
   unfold vwr
   dsimp only
   rw [cond_f (by rfl), cond_f (by rfl), cond_f (by rfl), cond_f (by rfl), cond_f (by rfl), cond_f (by rfl), cond_t (by rfl), coll_dec, Option.bind_some, hk, Option.bind_some]
  ·have hL := Q.lay h7
   have hasc := Q.asc
   have hasc6 := Q.asc6
   have hkd := Q.kind
   have hes : g.Endss.flatten.length ≤ gF g := by
    cases g with
    | mk k l s f e es ks =>
     have hs : (es.map List.length).sum = es.flatten.length := sum_flat es
     simp only [gF]
     omega
   have hesl := bg.2.2.2.2
   cases g with
   | mk k l s f e es ks =>
    simp only at h7 hL hasc hasc6 hkd bg hes hesl
    unfold toV
    unfold enc at hB ⊢
    by_cases h1 : k = 1
    ·rw [if_pos h1] at hB ⊢
     rw [if_pos h1]
     refine ⟨0, fun K => ?_⟩
     unfold vwr
     dsimp only
     rw [cond_t (by rfl), point_dec, Option.bind_some, point_p big hL (by omega) (by omega) (by omega), Option.bind_some]
    rw [if_neg h1] at hB ⊢
    rw [if_neg h1]
    by_cases h2 : k = 2
    ·rw [if_pos h2] at hB ⊢
     rw [if_pos h2]
     refine ⟨0, fun K => ?_⟩
     unfold vwr
     dsimp only
     rw [cond_f (by rfl), cond_t (by rfl), line_dec, Option.bind_some, line_p big hL (by omega) (by omega) (by omega), Option.bind_some]
    rw [if_neg h2] at hB ⊢
    rw [if_neg h2, if_neg (show ¬ k = 8 by omega)]
    by_cases h3 : k = 3
    ·rw [if_pos h3] at hB ⊢
     rw [if_pos h3]
     obtain ⟨b1, hw⟩ := poly_p big (F := F) (sr := s) (b0 := b0) hL (by omega) (by omega) (by omega) (by omega) (hasc (.inl h3)) (B := B) (by omega)
     refine ⟨b1, fun K => ?_⟩
     unfold vwr
     dsimp only
     rw [cond_f (by rfl), cond_f (by rfl), cond_t (by rfl), poly_dec, Option.bind_some, hw, Option.bind_some]
    rw [if_neg h3] at hB ⊢
    rw [if_neg h3]
    by_cases h4 : k = 4
    ·rw [if_pos h4] at hB ⊢
     rw [if_pos h4]
     obtain ⟨b1, hw⟩ := mpoint_p big (F := F) (sr := s) (b0 := b0) hL (by omega) (by omega) (by omega) (by omega) (hasc (.inr (.inl h4))) (B := B) (by omega)
     refine ⟨b1, fun K => ?_⟩
     unfold vwr
     dsimp only
     rw [cond_f (by rfl), cond_f (by rfl), cond_f (by rfl), cond_t (by rfl), poly_dec, Option.bind_some, hw, Option.bind_some]
    rw [if_neg h4] at hB ⊢
    rw [if_neg h4]
    by_cases h5 : k = 5
    ·rw [if_pos h5] at hB ⊢
     rw [if_pos h5]
     obtain ⟨b1, hw⟩ := mline_p big (F := F) (sr := s) (b0 := b0) hL (by omega) (by omega) (by omega) (by omega) (hasc (.inr (.inr h5))) (B := B) (by omega)
     refine ⟨b1, fun K => ?_⟩
     unfold vwr
     dsimp only
     rw [cond_f (by rfl), cond_f (by rfl), cond_f (by rfl), cond_f (by rfl), cond_t (by rfl), poly_dec, Option.bind_some, hw, Option.bind_some]
    rw [if_neg h5] at hB ⊢
    rw [if_neg h5]
    have h6 : k = 6 := by omega
    rw [if_pos h6] at hB ⊢
    rw [if_pos h6]
    obtain ⟨b1, hw, _⟩ := mpoly_p big (F := F) (sr := s) (b0 := b0) hL (by omega) (by omega) (fun x hx => by have := hesl x hx; omega) (by omega) (fun x hx => by have := hesl x hx; omega) (by omega) (by omega) (hasc6 h6) (B := B) (by omega)
    refine ⟨b1, fun K => ?_⟩
    unfold vwr
    dsimp only
    rw [cond_f (by rfl), cond_f (by rfl), cond_f (by rfl), cond_f (by rfl), cond_f (by rfl), cond_t (by rfl), mpoly_dec, Option.bind_some, hw, Option.bind_some]
theorem ewkb_p (big : Bool) {g : TImpl_Geom} (hw : WfG g) (hq : WG g) (hb : gF g ≤ 1048576) {F : Nat} (hF : gF g + 2000000 < F) : p_WriteEWKB F g big = some (enc big g, true) := by
 have hl := enc_len big _ g (Nat.le_refl _) hw hq
 rw [ewkb_eq, geom_q _ g (Nat.le_refl _) hw hq hb F (by omega), Option.bind_some]
 obtain ⟨b1, h⟩ := write_q big _ g (Nat.le_refl _) hw hq hb F hF 0 [] (by simp only [List.length_nil]; omega)
 rw [h, need_pos ⟨⟨by omega, trivial⟩, by omega, by omega⟩]
 simp
end
end Go.Proofs.YtbinnbmpedmabaaGreat.Wk

set_option linter.unusedVariables false
set_option linter.unusedSimpArgs false
namespace Go.Proofs.YtbinnbmpedmabaaGreat.Wk
open Go.Vm
noncomputable section
theorem wu64 {z : Int} (h1 : 0 ≤ z) (h2 : z < 18446744073709551616) : IntKind.u64.wrap z = z := wrap_in .u64 z (by simp only [lo]; omega) (by simp only [hi]; omega)
theorem build_loop {β T : Type} (M : List β) (b : ((Int × List β) → Option (Sum (List β) T)) → (Int × List β) → Option (Sum (List β) T))
  (hend : ∀ K (k : Nat) o, M.length ≤ k → b K ((k : Int), o) = some (.inl o)) (hstep : ∀ K (k : Nat) y o, M[k]? = some y → o.length = k → b K ((k : Int), o) = K (((k + 1 : Nat) : Int), o ++ [y])) :
  ∀ (F k : Nat), M.length - k < F → k ≤ M.length → iter b F ((k : Int), M.take k) = some (.inl M) := by
 intro F
 induction F with
 | zero => intro k h; omega
 | succ F ih =>
  intro k h hk
  show b (iter b F) _ = _
  by_cases hlt : k < M.length
  ·obtain ⟨x, hx⟩ : ∃ x, M[k]? = some x := ⟨_, List.getElem?_eq_getElem hlt⟩
   rw [hstep _ k x _ hx (by simp; omega)]
   have : M.take k ++ [x] = M.take (k + 1) := by rw [List.take_add_one, hx]; rfl
   rw [this]
   exact ih (k + 1) (by omega) hlt
  ·rw [hend _ k _ (by omega), List.take_of_length_le (by omega)]
theorem c4_get (big : Bool) (v : Int) (i : Nat) (hi : i < 4) : (c4 big v)[i]? = some (v / 2 ^ (8 * (if big = true then 3 - i else i)) % 256) := by
 have : i = 0 ∨ i = 1 ∨ i = 2 ∨ i = 3 := by omega
 cases big <;> rcases this with rfl | rfl | rfl | rfl <;> simp [c4, ord, b4]
theorem cb_p {F : Nat} (hF : 10 < F) {v : Int} (h0 : 0 ≤ v) (h1 : v < 4294967296) (big : Bool) : p_CountBytes F v big = some (c4 big v) := by
 have hw : IntKind.u64.wrap v = v := wu64 h0 (by omega)
 have hl := build_loop (c4 big v) (p_CountBytes_l2 v big) (fun K k o hk => by
  rw [c4_len] at hk
  unfold p_CountBytes_l2
  rw [cond_f (decide_eq_false (by omega))]) (fun K k x o hx ho => by
  have hk := (List.getElem?_eq_some_iff.1 hx).1
  rw [c4_len] at hk
  rw [c4_get big v k hk] at hx
  have hx := Option.some.inj hx
  unfold p_CountBytes_l2
  dsimp only
  rw [cond_t (decide_eq_true (by omega))]
  have key : ∀ j : Nat, j ≤ 3 → v / 2 ^ (8 * j) % 256 = x → p_CountBytes_k3 v ((k : Int), o) K (j : Int) = K (((k + 1 : Nat) : Int), o ++ [x]) := fun j hj e => by
   unfold p_CountBytes_k3
   have e8 : ((8 : Int) * (j : Int)).toNat = 8 * j := by omega
   have hb : (IntKind.u64.bits : Int) = 64 := rfl
   rw [hw, e8, wu8, e, need_pos (in64 (by omega) (by omega)), need_pos (by rw [hb]; omega), need_pos (by simp; omega), succ_cast, need_pos (in64 (by omega) (by omega))]
  cases big with
  | true =>
   rw [if_pos rfl] at hx
   rw [cond_t rfl, need_pos (in64m (by omega) (by omega)), need_pos (in64m (by omega) (by omega)), show (4 : Int) - 1 - (k : Int) = ((3 - k : Nat) : Int) by omega]
   exact key _ (by omega) hx
  | false =>
   rw [if_neg (by simp)] at hx
   rw [cond_f rfl]
   exact key _ (by omega) hx) F 0 (by rw [c4_len]; omega) (by omega)
 have h' : iter (p_CountBytes_l2 v big) F ((0 : Int), []) = some (.inl (c4 big v)) := hl
 unfold p_CountBytes
 rw [h', Option.bind_some, aft_inl]
 rfl
def EndsG (s : Int) (q : Int) : Int → List Int → Prop
 | p, [] => p = q
 | p, e :: r => p ≤ e ∧ Int.tmod (e - p) s = 0 ∧ EndsG s q e r
theorem EndsG.app {s q : Int} : ∀ {a b : List Int} {p m : Int}, EndsG s m p a → EndsG s q m b → EndsG s q p (a ++ b)
 | [], b, p, m, h, k => by
  have : p = m := h
  subst this; exact k
 | x :: a, b, p, m, h, k => ⟨h.1, h.2.1, EndsG.app h.2.2 k⟩
theorem goodEnds_loop {s : Int} (hs : 2 ≤ s) {l : List Int} {c : Bool} (hl : ∀ x ∈ l, inI .i64 x) (hll : l.length < 4611686018427387904) : ∀ (F i : Nat) (p : Int), l.length - i < F → i ≤ l.length → 0 ≤ p →
  ∃ o, iter (p_goodEnds_l2 l s c) F (p, (i : Int)) = some o ∧ ((∃ q, o = .inl q ∧ 0 ≤ q ∧ EndsG s q p (l.drop i)) ∨ ∃ q, o = .inr (q, false) ∧ 0 ≤ q) := by
 intro F
 induction F with
 | zero => intro i p h; omega
 | succ F ih =>
  intro i p h hi h0
  show ∃ o, p_goodEnds_l2 l s c (iter (p_goodEnds_l2 l s c) F) _ = _ ∧ _
  generalize hK : iter (p_goodEnds_l2 l s c) F = K at *
  unfold p_goodEnds_l2
  simp only
  by_cases hil : i < l.length
  ·obtain ⟨x, hx⟩ : ∃ x, l[i]? = some x := ⟨_, List.getElem?_eq_getElem hil⟩
   have hxi := hl x (List.mem_of_getElem? hx)
   have hd : l.drop i = x :: l.drop (i + 1) := by
    rw [List.drop_eq_getElem_cons hil]
    rw [List.getElem?_eq_getElem hil] at hx
    rw [Option.some.inj hx]
   rw [cond_t (decide_eq_true (by omega)), idx_get hx, Option.bind_some, hd]
   by_cases hxp : x < p
   ·rw [cond_t (decide_eq_true hxp)]
    exact ⟨_, rfl, .inr ⟨_, rfl, h0⟩⟩
   ·have hin : inI .i64 (x - p) := ⟨by simp only [lo]; omega, by have := hxi.2; simp only [Go.Vm.hi] at *; omega⟩
    rw [cond_f (decide_eq_false hxp), need_pos hin, need_pos (by omega)]
    by_cases ht : Int.tmod (x - p) s = 0
    ·have next : ∃ o, p_goodEnds_k3 (p, (i : Int)) K x false = some o ∧ ((∃ q, o = .inl q ∧ 0 ≤ q ∧ EndsG s q p (x :: l.drop (i + 1))) ∨ ∃ q, o = .inr (q, false) ∧ 0 ≤ q) := by
      unfold p_goodEnds_k3
      rw [cond_f rfl, succ_cast, need_pos (in64 (by omega) (by omega))]
      obtain ⟨o, h1, h2⟩ := ih (i + 1) x (by omega) (by omega) (by omega)
      refine ⟨o, h1, ?_⟩
      rcases h2 with ⟨q, e, q0, hq⟩ | h2
      ·exact .inl ⟨q, e, q0, by omega, ht, hq⟩
      ·exact .inr h2
     rw [cond_f (nF ht)]
     cases c with
     | false => rw [cond_f rfl]; exact next
     | true =>
      rw [cond_t rfl, need_pos hin]
      by_cases hlt : s < x - p
      ·rw [decide_eq_true hlt]
       exact ⟨_, rfl, .inr ⟨_, rfl, h0⟩⟩
      ·rw [decide_eq_false hlt]; exact next
    ·rw [cond_t (nT ht)]
     exact ⟨_, rfl, .inr ⟨_, rfl, h0⟩⟩
  ·rw [cond_f (decide_eq_false (by omega)), List.drop_eq_nil_of_le (by omega)]
   exact ⟨_, rfl, .inl ⟨p, rfl, h0, rfl⟩⟩
theorem goodEnds_p {s : Int} (hs : 2 ≤ s) {l : List Int} {c : Bool} (hl : ∀ x ∈ l, inI .i64 x) (hll : l.length < 4611686018427387904) {F : Nat} (hF : l.length < F) {p : Int} (h0 : 0 ≤ p) :
  ∃ q b, p_goodEnds F l p s c = some (q, b) ∧ 0 ≤ q ∧ (b = true → EndsG s q p l) := by
 obtain ⟨o, h1, h2⟩ := goodEnds_loop hs (c := c) hl hll F 0 p (by omega) (by omega) h0
 have h1' : iter (p_goodEnds_l2 l s c) F (p, (0 : Int)) = some o := h1
 unfold p_goodEnds
 rw [h1', Option.bind_some]
 rcases h2 with ⟨q, rfl, q0, hq⟩ | ⟨q, rfl, q0⟩
 ·exact ⟨q, true, rfl, q0, fun _ => by simpa using hq⟩
 ·exact ⟨q, false, rfl, q0, fun h => by cases h⟩
theorem k4_parts {F : Nat} {g : TImpl_Geom} {s : Nat} (hs : 2 ≤ s) (W : Wf g) (hF : g.Ends.length < F) (hn : g.Ends.length ≤ 2000000) (h : p_Good_k4 g F s () = some true) (hk : g.Kind = 3 ∨ g.Kind = 4 ∨ g.Kind = 5) : EndsG (s : Int) (g.Flat.length : Int) 0 g.Ends := by
 obtain ⟨q, b, e1, e2, e3⟩ := goodEnds_p (s := (s : Int)) (by omega) (l := g.Ends) (c := decide (g.Kind = 4)) (fun x hx => W.ends.2 x hx) (by omega) hF (p := 0) (by omega)
 have k6 : p_Good_k6 g F s true = some true → EndsG (s : Int) (g.Flat.length : Int) 0 g.Ends := fun h => by
  unfold p_Good_k6 at h
  rw [cond_t rfl, e1, Option.bind_some] at h
  cases b with
  | false => cases h
  | true =>
   have h2 : some (decide (q = ((g.Flat.length : Nat) : Int))) = some true := h
   have := of_decide_eq_true (Option.some.inj h2)
   rw [← this]; exact e3 rfl
 unfold p_Good_k4 p_Good_k5 at h
 rcases hk with hk | hk | hk
 ·rw [cond_f (decide_eq_false (by omega)), cond_f (decide_eq_false (by omega)), cond_f (decide_eq_false (by omega)), decide_eq_true hk, cond_t rfl] at h
  exact k6 h
 ·rw [cond_f (decide_eq_false (by omega)), cond_f (decide_eq_false (by omega)), cond_f (decide_eq_false (by omega)), cond_f (decide_eq_false (by omega)), decide_eq_true hk, cond_t rfl] at h
  exact k6 h
 ·rw [cond_f (decide_eq_false (by omega)), cond_f (decide_eq_false (by omega)), cond_f (decide_eq_false (by omega)), cond_f (decide_eq_false (by omega)), cond_f (decide_eq_false (by omega)), decide_eq_true hk] at h
  exact k6 h
theorem k4_lists {F : Nat} {g : TImpl_Geom} {s : Nat} (hs : 2 ≤ s) (W : Wf g) (hF : g.Endss.length < F) (hF2 : ∀ l ∈ g.Endss, l.length < F) (hn : g.Endss.length ≤ 2000000) (hn2 : ∀ l ∈ g.Endss, l.length ≤ 2000000) (h : p_Good_k4 g F s () = some true) (hk : g.Kind = 6) :
  g.Ends = [] ∧ EndsG (s : Int) (g.Flat.length : Int) 0 g.Endss.flatten := by
 have key : ∀ (r : List (List Int)) (i G : Nat) (to : Int) (ok : Bool), g.Endss.drop i = r → r.length < G → 0 ≤ to → (ok = true → EndsG s to 0 (g.Endss.take i).flatten) →
   ∃ q b, iter (p_Good_l8 g F s) G (to, ok, (i : Int)) = some (.inl (q, b)) ∧ (b = true → EndsG s q 0 g.Endss.flatten) := by
  intro r
  induction r with
  | nil =>
   intro i G to ok hd hG h0 hok
   obtain ⟨G, rfl⟩ : ∃ H, G = H + 1 := ⟨G - 1, by simp at hG; omega⟩
   have hle : g.Endss.length ≤ i := List.drop_eq_nil_iff.1 hd
   refine ⟨to, ok, ?_, fun h => by have := hok h; rwa [List.take_of_length_le hle] at this⟩
   show p_Good_l8 _ _ _ (iter (p_Good_l8 _ _ _) G) _ = _
   unfold p_Good_l8
   rw [cond_f (decide_eq_false (by simp only; omega))]
  | cons x r ih =>
   intro i G to ok hd hG h0 hok
   obtain ⟨G, rfl⟩ : ∃ H, G = H + 1 := ⟨G - 1, by simp at hG; omega⟩
   have hx : g.Endss[i]? = some x := by
    have := congrArg (fun z => z[0]?) hd
    simpa [List.getElem?_drop] using this
   have hi := (List.getElem?_eq_some_iff.1 hx).1
   have hxl := hn2 x (List.mem_of_getElem? hx)
   have hxF := hF2 x (List.mem_of_getElem? hx)
   have hxn := (W.endss.2 x (List.mem_of_getElem? hx)).2
   obtain ⟨q, b, hq, q0, hb⟩ := goodEnds_p (s := (s : Int)) (by omega) (c := false) hxn (by omega) (F := F) (by omega) h0
   have hd2 : g.Endss.drop (i + 1) = r := by rw [← List.drop_drop, hd]; rfl
   have htake : (g.Endss.take (i + 1)).flatten = (g.Endss.take i).flatten ++ x := by
    rw [List.take_add_one, hx]; simp
   show ∃ q b, p_Good_l8 _ _ _ (iter (p_Good_l8 _ _ _) G) _ = _ ∧ _
   generalize hK : iter (p_Good_l8 g F s) G = K at *
   unfold p_Good_l8
   rw [cond_t (decide_eq_true (by simp only; omega))]
   dsimp only
   rw [idx_get hx, Option.bind_some, hq, Option.bind_some]
   cases ok with
   | true =>
    rw [cond_t rfl, need_pos (i64s (by omega)), succ_cast, ← hK]
    exact ih (i + 1) G q b hd2 (by simp at hG; omega) q0 (fun h => by rw [htake]; exact (hok rfl).app (hb h))
   | false =>
    rw [cond_f rfl, need_pos (i64s (by omega)), succ_cast, ← hK]
    exact ih (i + 1) G q false hd2 (by simp at hG; omega) q0 (fun h => by cases h)
 obtain ⟨q, b, hq, hb⟩ := key g.Endss 0 F 0 true rfl (by omega) (by omega) (fun _ => by simp [EndsG])
 have hq' : iter (p_Good_l8 g F s) F ((0 : Int), true, (0 : Int)) = some (.inl (q, b)) := hq
 unfold p_Good_k4 p_Good_k5 at h
 rw [cond_f (decide_eq_false (by omega)), cond_f (decide_eq_false (by omega)), cond_f (decide_eq_false (by omega)), cond_f (decide_eq_false (by omega)), cond_f (decide_eq_false (by omega))] at h
 unfold p_Good_k6 at h
 rw [cond_f (decide_eq_false (by omega)), cond_t (decide_eq_true hk), hq', Option.bind_some, aft_inl] at h
 unfold p_Good_k7 at h
 cases b with
 | false => cases h
 | true =>
  have h2 : cond (decide (q = ((g.Flat.length : Nat) : Int))) (some (decide (((g.Ends.length : Nat) : Int) = 0))) (some false) = some true := h
  by_cases c : q = ((g.Flat.length : Nat) : Int)
  ·rw [cond_t (decide_eq_true c)] at h2
   have := of_decide_eq_true (Option.some.inj h2)
   exact ⟨List.length_eq_zero_iff.1 (by omega), by rw [← c]; exact hb rfl⟩
  ·rw [cond_f (decide_eq_false c)] at h2; cases h2

theorem all_loop {α : Type} (L : List α) (body : (Int → Option (Sum Unit Bool)) → Int → Option (Sum Unit Bool)) (p : α → Option Bool)
  (hstep : ∀ K (i : Nat) x, L[i]? = some x → body K (i : Int) = (p x).bind fun b => cond b (K ((i + 1 : Nat) : Int)) (some (.inr false))) (hend : ∀ K (i : Nat), L.length ≤ i → body K (i : Int) = some (.inl ())) :
  ∀ (F i : Nat), (∀ b, iter body F (i : Int) = some (.inr b) → b = false) ∧ (iter body F (i : Int) = some (.inl ()) → ∀ x ∈ L.drop i, p x = some true) ∧ (L.length - i < F → (∀ x ∈ L, ∃ b, p x = some b) → ∃ o, iter body F (i : Int) = some o) := by
 intro F
 induction F with
 | zero => intro i; exact ⟨fun b h => (by cases h), fun h => (by cases h), fun h => (by omega)⟩
 | succ F ih =>
  intro i
  have e : iter body (F + 1) (i : Int) = body (iter body F) (i : Int) := rfl
  rw [e]
  by_cases hi : i < L.length
  ·have hx : L[i]? = some L[i] := List.getElem?_eq_getElem hi
   rw [hstep _ i _ hx]
   obtain ⟨i1, i2, i3⟩ := ih (i + 1)
   cases hp : p L[i] with
   | none =>
    refine ⟨fun b h => (by cases h), fun h => (by cases h), fun _ ht => ?_⟩
    obtain ⟨b, hb⟩ := ht L[i] (List.getElem_mem hi)
    rw [hp] at hb; cases hb
   | some b =>
    rw [Option.bind_some]
    cases b with
    | false => exact ⟨fun b h => (by cases h; rfl), fun h => (by cases h), fun _ _ => ⟨_, rfl⟩⟩
    | true =>
     rw [cond_true]
     refine ⟨i1, fun h x hxm => ?_, fun hF ht => i3 (by omega) ht⟩
     rw [List.drop_eq_getElem_cons hi] at hxm
     rcases List.mem_cons.1 hxm with rfl | hxm
     ·exact hp
     ·exact i2 h x hxm
  ·rw [hend _ i (by omega)]
   refine ⟨fun b h => (by cases h), fun _ x hx => ?_, fun _ _ => ⟨_, rfl⟩⟩
   rw [List.drop_eq_nil_of_le (by omega)] at hx; cases hx
theorem lay4_f {F : Nat} {g : TImpl_Geom} (hw : Wf g) (h : p_gLayouts (F + 1) g 4 = some true) : (g.Kind ≠ 7 → 1 ≤ g.Layout ∧ g.Layout ≤ 4) ∧ (g.Kind = 7 → 0 ≤ g.Layout ∧ g.Layout ≤ 4) ∧ ∀ k ∈ g.Kids, p_gLayouts F k 4 = some true := by
 have h' : p_gLayouts_b (fun a0 a1 => p_gLayouts F a0 a1) F g 4 = some true := h
 unfold p_gLayouts_b at h'
 obtain ⟨k1, k2, _⟩ := all_loop g.Kids (p_gLayouts_l2 g 4 fun a0 a1 => p_gLayouts F a0 a1) (fun x => p_gLayouts F x 4) (fun K i x hx => by
  have hi := lt_get hx
  have step : ∀ j : Int, p_gLayouts_l2 g 4 (fun a0 a1 => p_gLayouts F a0 a1) K j = cond (decide (j < ((g.Kids.length : Nat) : Int))) ((idx g.Kids j).bind fun x => (p_gLayouts F x 4).bind fun b => cond (!b) (some (.inr false)) (need (inI .i64 (j + 1)) (K (j + 1)))) (some (.inl ())) := fun _ => rfl
  rw [step, cond_t (dlt hi), idx_get hx, Option.bind_some, need_pos (inM hi hw.kids), succ_cast]
  congr 1
  funext b
  cases b <;> rfl) (fun K i hi => by
  have step : ∀ j : Int, p_gLayouts_l2 g 4 (fun a0 a1 => p_gLayouts F a0 a1) K j = cond (decide (j < ((g.Kids.length : Nat) : Int))) ((idx g.Kids j).bind fun x => (p_gLayouts F x 4).bind fun b => cond (!b) (some (.inr false)) (need (inI .i64 (j + 1)) (K (j + 1)))) (some (.inl ())) := fun _ => rfl
  rw [step, cond_f (decide_eq_false (by omega))]) F 0
 rw [show ((0 : Nat) : Int) = 0 from rfl] at k1 k2
 cases hit : iter (p_gLayouts_l2 g 4 fun a0 a1 => p_gLayouts F a0 a1) F (0 : Int) with
 | none => rw [hit] at h'; cases h'
 | some o =>
  rw [hit, Option.bind_some] at h'
  cases o with
  | inr b =>
   have := k1 b hit
   subst this
   cases h'
  | inl u =>
   rw [aft_inl] at h'
   unfold p_gLayouts_k1 at h'
   have hk := k2 hit
   rw [List.drop_zero] at hk
   by_cases c1 : g.Layout ≤ 4
   ·rw [cond_t (decide_eq_true c1)] at h'
    by_cases c2 : 1 ≤ g.Layout
    ·exact ⟨fun _ => ⟨c2, c1⟩, fun _ => ⟨by omega, c1⟩, hk⟩
    ·rw [cond_f (decide_eq_false c2)] at h'
     by_cases c3 : g.Kind = 7
     ·rw [cond_t (decide_eq_true c3)] at h'
      have := of_decide_eq_true (Option.some.inj h')
      exact ⟨fun h => absurd c3 h, fun _ => ⟨this, c1⟩, hk⟩
     ·rw [cond_f (decide_eq_false c3)] at h'; cases h'
   ·rw [cond_f (decide_eq_false c1)] at h'; cases h'
theorem asc_of {s q : Int} {n : Nat} (hq : q = (n : Int)) : ∀ (es : List Int) (a : Nat), EndsG s q (a : Int) es → Asc n a es
 | [], a, h => by
  have : (a : Int) = q := h
  show a ≤ n
  omega
 | e :: r, a, h => by
  obtain ⟨h1, h2, h3⟩ := h
  refine ⟨h1, asc_of (s := s) hq r e.toNat ?_⟩
  rw [show ((e.toNat : Nat) : Int) = e by omega]
  exact h3
theorem good_WG : ∀ (N : Nat) (g : TImpl_Geom), gF g ≤ N → WfG g → gF g ≤ 1048576 → ∀ F, gF g < F → p_Good F g = some true → ∀ H, gF g < H → p_yRing H g = some false → ∀ H2, gF g < H2 → p_gLayouts H2 g 4 = some true → WG g := by
 intro N
 induction N with
 | zero => intro g h hw; have := hw.tell.big.1; omega
 | succ N ih =>
  intro g h hw hb F hF hg H hH hr H2 hH2 hl
  have W := hw.tell
  have bg := W.big
  obtain ⟨G, rfl⟩ : ∃ G, F = G + 1 := ⟨F - 1, by omega⟩
  obtain ⟨H, rfl⟩ : ∃ G, H = G + 1 := ⟨H - 1, by omega⟩
  obtain ⟨H2, rfl⟩ : ∃ G, H2 = G + 1 := ⟨H2 - 1, by omega⟩
  obtain ⟨h8, hrk⟩ := ring_f W (by omega) hr
  obtain ⟨l1, l2, lk⟩ := lay4_f W hl
  by_cases h7 : g.Kind = 7
  ·have hk := good_kids hw (by omega) h7 hg
   refine WG.of ⟨by omega, l1, l2, fun _ h0 x hx => (hk x hx).2 h0, fun h => by omega, fun h => by omega, fun h => by omega⟩ fun x hx => ?_
   have hm := W.kid x hx
   exact ih x (by omega) hm.1 (by omega) G (by omega) (hk x hx).1 H (by omega) (hrk x hx) H2 (by omega) (lk x hx)
  ·obtain ⟨b, hb2, h2⟩ := good_t _ _ (Nat.le_refl _) hw (G + 1) hF
   rw [hg] at hb2
   obtain rfl := Option.some.inj hb2
   obtain ⟨s, S⟩ := h2 rfl h7
   have hk := k4_kind S.k4 h7
   refine WG.of ⟨by omega, l1, l2, fun h => absurd h h7, fun h => ?_, fun h4 => mp_empty (by omega) S.k4 h4, fun h6 => ?_⟩ (by rw [S.kids]; intro k hk; cases hk)
   ·exact asc_of rfl g.Ends 0 (k4_parts S.s2 W (by omega) (by omega) S.k4 h)
   ·exact asc_of rfl g.Endss.flatten 0 (k4_lists S.s2 W (by omega) (fun l hl => by have := bg.2.2.2.2 l hl; omega) (by omega) (fun l hl => by have := bg.2.2.2.2 l hl; omega) S.k4 h6).2
end
end Go.Proofs.YtbinnbmpedmabaaGreat.Wk

set_option linter.unusedVariables false
set_option linter.unusedSimpArgs false
namespace Go.Proofs.YtbinnbmpedmabaaGreat.Wk
open Go.Vm
noncomputable section
mutual
def noS : TImpl_Geom → TImpl_Geom
 | .mk k l _ f e es ks => .mk k l 0 f e es (noSs ks)
def noSs : List TImpl_Geom → List TImpl_Geom
 | [] => []
 | g :: r => noS g :: noSs r
end
theorem noSs_map : ∀ l : List TImpl_Geom, noSs l = l.map noS
 | [] => by simp [noSs]
 | g :: r => by simp [noSs, noSs_map r]
theorem noS_eq (g : TImpl_Geom) : noS g = ⟨g.Kind, g.Layout, 0, g.Flat, g.Ends, g.Endss, g.Kids.map noS⟩ := by
 cases g; simp only [noS, noSs_map]
theorem gFs_sum : ∀ l : List TImpl_Geom, gFs l = (l.map gF).sum
 | [] => rfl
 | g :: r => by rw [gFs, gFs_sum r, List.map_cons, List.sum_cons]
theorem noS_all : ∀ (N : Nat) (g : TImpl_Geom), gF g ≤ N → WfG g → gF (noS g) = gF g ∧ lay (noS g) = lay g ∧ WfG (noS g) ∧ (WG g → WG (noS g)) ∧ (gF g ≤ 1048576 → ∀ F, gF g < F → p_yNoSRID F g = some (noS g)) := by
 intro N
 induction N with
 | zero => intro g h hw; have := hw.tell.big.1; omega
 | succ N ih =>
  intro g h hw
  have W := hw.tell
  have bg := W.big
  have ihk : ∀ k ∈ g.Kids, _ := fun k hk => ih k (by have := (W.kid k hk).2; omega) (W.kid k hk).1
  have e1 : (g.Kids.map noS).map gF = g.Kids.map gF := by
   rw [List.map_map]
   exact List.map_congr_left fun k hk => (ihk k hk).1
  have e2 : ∀ (l : List TImpl_Geom) (a : Int), (∀ k ∈ l, lay (noS k) = lay k) → lays a (l.map noS) = lays a l := by
   intro l
   induction l with
   | nil => intro a _; rfl
   | cons x r ihr =>
    intro a hl
    rw [List.map_cons, lays, lays, hl x (by simp), ihr _ fun k hk => hl k (by simp [hk])]
  have gfe : gF (noS g) = gF g := by
   rw [noS_eq]
   cases g with
   | mk k l s f e es ks =>
    simp only at e1
    simp only [gF, gFs_sum, List.length_map, e1]
  have lye : lay (noS g) = lay g := by
   rw [lay_eq, lay_eq, noS_eq]
   dsimp only
   rw [e2 _ _ fun k hk => (ihk k hk).2.1]
  refine ⟨gfe, lye, ?_, fun hq => ?_, fun hb F hF => ?_⟩
  ·rw [noS_eq]
   simp only [WfG]
   exact ⟨W.kind, W.layout, ⟨by decide, by decide⟩, W.flat, W.ends, W.endss, by rw [List.length_map]; exact W.kids, wfGs_of fun k hk => by
    obtain ⟨x, hx, rfl⟩ := List.mem_map.1 hk
    exact (ihk x hx).2.2.1⟩
  ·have Q := hq.tell
   rw [noS_eq]
   refine WG.of ⟨Q.kind, Q.lay, Q.lay0, fun h7 h0 x hx => ?_, Q.asc, Q.mp, Q.asc6⟩ fun x hx => ?_
   ·obtain ⟨y, hy, rfl⟩ := List.mem_map.1 hx
    rw [(ihk y hy).2.1]
    exact Q.lay7 h7 h0 y hy
   ·obtain ⟨y, hy, rfl⟩ := List.mem_map.1 hx
    exact (ihk y hy).2.2.2.1 (Q.kid y hy)
  ·obtain ⟨G, rfl⟩ : ∃ G, F = G + 1 := ⟨F - 1, by omega⟩
   show p_yNoSRID_b (fun a0 => p_yNoSRID G a0) G g = _
   unfold p_yNoSRID_b
   have hl := build_loop (g.Kids.map noS) (p_yNoSRID_l2 g fun a0 => p_yNoSRID G a0) (fun K k o hk => by
    rw [List.length_map] at hk
    unfold p_yNoSRID_l2
    rw [cond_f (decide_eq_false (by simp only; omega))]) (fun K k x o hx ho => by
    rw [List.getElem?_map, Option.map_eq_some_iff] at hx
    obtain ⟨y, hy, rfl⟩ := hx
    have hi := lt_get hy
    have hm := W.kid _ (mem_get hy)
    unfold p_yNoSRID_l2
    dsimp only
    rw [cond_t (dlt hi), idx_get hy, Option.bind_some, (ihk y (mem_get hy)).2.2.2.2 (by omega) G (by omega), Option.bind_some, need_pos (by simp only [List.length_singleton]; omega), need_pos (inM hi W.kids), succ_cast]) G 0 (by rw [List.length_map]; omega) (by omega)
   have h' : iter (p_yNoSRID_l2 g fun a0 => p_yNoSRID G a0) G ((0 : Int), []) = some (.inl (g.Kids.map noS)) := hl
   rw [h', Option.bind_some, aft_inl, noS_eq]
   rfl
def parts (g : TImpl_Geom) : List TImpl_Geom :=
 if g.Kind = 7 then g.Kids else if g.Kind = 6 then (cutsP g.Flat 0 g.Endss).map fun p => ⟨3, g.Layout, 0, p.1, p.2, [], []⟩
 else (cuts g.Flat 0 g.Ends).map fun x => ⟨g.Kind - 3, g.Layout, 0, x, [], [], []⟩
theorem enc_parts (big : Bool) {g : TImpl_Geom} (h : 4 ≤ g.Kind ∧ g.Kind ≤ 7) : enc big g = hdr big g.Kind (lay g) g.SRID ++ (c4 big ((parts g).length : Int) ++ ((parts g).map (enc big)).flatten) := by
 have hl : g.Kind ≠ 7 → lay g = g.Layout := fun h => by rw [lay_eq, if_pos h]
 by_cases h7 : g.Kind = 7
 ·rw [enc7 big h7, encs_map, h7]
  unfold parts
  rw [if_pos h7]
 rw [hl h7]
 unfold parts
 rw [if_neg h7]
 cases g with
 | mk k l s f e es ks =>
  simp only at h h7
  unfold enc
  dsimp only
  rw [if_neg (by omega), if_neg (by omega), if_neg (by omega)]
  by_cases h6 : k = 6
  ·rw [if_pos h6, if_neg (by omega), if_neg (by omega), if_pos h6, List.length_map, List.map_map]
   unfold encM
   rw [List.length_map, h6]
   congr 3
  ·rw [if_neg h6]
   by_cases h4 : k = 4
   ·subst h4
    rw [if_pos rfl, if_neg h6, List.length_map, List.map_map]
    unfold encM
    rw [List.length_map]
    congr 3
   ·have h5 : k = 5 := by omega
    subst h5
    rw [if_neg (by omega), if_pos rfl, if_neg h6, List.length_map, List.map_map]
    unfold encM
    rw [List.length_map]
    congr 3
end
end Go.Proofs.YtbinnbmpedmabaaGreat.Wk

set_option linter.unusedVariables false
set_option linter.unusedSimpArgs false
namespace Go.Proofs.YtbinnbmpedmabaaGreat.Wk
open Go.Vm
noncomputable section
theorem off2_loop {n : Nat} {g : TImpl_Geom} (ha : Asc n 0 g.Endss.flatten) (hl : g.Endss.length ≤ 2000000) (hll : ∀ x ∈ g.Endss, x.length ≤ 2000000) {i : Nat} (hi : i ≤ g.Endss.length) : ∀ (m F j : Nat), i - j = m → m < F → j ≤ i →
  iter (p_Part_l4 g (i : Int)) F (((pv g.Endss j : Nat) : Int), (j : Int)) = some (.inl ((pv g.Endss i : Nat) : Int)) := by
 have hlen : ((((g.Endss.drop 0).take (((i : Int)).toNat - 0)).length : Nat) : Int) = (i : Int) := by
  rw [List.drop_zero, Nat.sub_zero, List.length_take]
  show ((min i g.Endss.length : Nat) : Int) = _
  omega
 intro m
 induction m with
 | zero =>
  intro F j hm hF hj
  obtain ⟨F, rfl⟩ : ∃ H, F = H + 1 := ⟨F - 1, by omega⟩
  have : j = i := by omega
  subst this
  show p_Part_l4 g (j : Int) (iter _ F) _ = _
  unfold p_Part_l4
  rw [hlen, cond_f (by simp)]
 | succ m ih =>
  intro F j hm hF hj
  obtain ⟨F, rfl⟩ : ∃ H, F = H + 1 := ⟨F - 1, by omega⟩
  have hx : g.Endss[j]? = some g.Endss[j] := List.getElem?_eq_getElem (by omega)
  obtain ⟨x, hxe⟩ : ∃ x, x = g.Endss[j] := ⟨_, rfl⟩
  rw [← hxe] at hx
  have hxl := hll x (List.mem_of_getElem? hx)
  have hg : g.Endss.getD j [] = x := by rw [List.getD_eq_getElem?_getD, hx]; rfl
  obtain ⟨a1, a2⟩ := asc_at ha hx
  have hxt : ((g.Endss.drop 0).take (((i : Int)).toNat - 0))[j]? = some x := by
   rw [List.drop_zero, Nat.sub_zero, show ((i : Int)).toNat = i from rfl, List.getElem?_take, if_pos (by omega), hx]
  have ihF := ih F (j + 1) (by omega) (by omega) (by omega)
  show p_Part_l4 g (i : Int) (iter (p_Part_l4 g (i : Int)) F) _ = _
  generalize iter (p_Part_l4 g (i : Int)) F = K at *
  unfold p_Part_l4
  dsimp only
  rw [hlen, cond_t (decide_eq_true (by omega)), idx_get hxt, Option.bind_some]
  rw [pv, hg] at ihF
  cases x with
  | nil =>
   rw [cond_f (by rfl), need_pos (i64s (by omega)), succ_cast]
   exact ihF
  | cons e r =>
   obtain ⟨z, hmem, l1, l2⟩ := lst_last r e (pv g.Endss j)
   obtain ⟨b1, b2⟩ := asc_last a1 hmem
   rw [cond_t (decide_eq_true (by simp only [List.length_cons]; omega)), need_pos (in64 (by simp only [List.length_cons]; omega) (by simp only [List.length_cons] at hxl ⊢; omega)), show (((e :: r).length : Nat) : Int) - 1 = ((r.length : Nat) : Int) by simp only [List.length_cons]; omega, idx_get l1, Option.bind_some, need_pos (i64s (by omega)), succ_cast]
   rw [l2, show ((z.toNat : Nat) : Int) = z by omega] at ihF
   exact ihF
theorem sub2_loop {x : List Int} {c : Nat} (hx : ∀ e ∈ x, (c : Int) ≤ e ∧ e ≤ 2000000) (hl : x.length ≤ 2000000) : ∀ (r : List Int) (F j t : Nat), x.drop j = r → j ≤ x.length → r.length < F →
  iter (p_Part_l3 (c : Int) x) F (((t : Nat) : Int), (j : Int), (x.map fun e => e - (c : Int)).take j) = some (.inl (((lst t r : Nat) : Int), x.map fun e => e - (c : Int))) := by
 intro r
 induction r with
 | nil =>
  intro F j t hd hj hF
  obtain ⟨F, rfl⟩ : ∃ H, F = H + 1 := ⟨F - 1, by omega⟩
  have hle : x.length ≤ j := List.drop_eq_nil_iff.1 hd
  show p_Part_l3 (c : Int) x (iter _ F) _ = _
  unfold p_Part_l3
  rw [cond_f (decide_eq_false (by simp only; omega)), List.take_of_length_le (by rw [List.length_map]; exact hle)]
  rfl
 | cons e r ih =>
  intro F j t hd hj hF
  obtain ⟨F, rfl⟩ : ∃ H, F = H + 1 := ⟨F - 1, by omega⟩
  have he : x[j]? = some e := by
   have := congrArg (fun z => z[0]?) hd
   simpa [List.getElem?_drop] using this
  have hjl := (List.getElem?_eq_some_iff.1 he).1
  obtain ⟨e1, e2⟩ := hx e (List.mem_of_getElem? he)
  have hd2 : x.drop (j + 1) = r := by rw [← List.drop_drop, hd]; rfl
  have hm : (x.map fun e => e - (c : Int))[j]? = some (e - (c : Int)) := by rw [List.getElem?_map, he]; rfl
  simp only [List.length_cons] at hF
  have ihF := ih F (j + 1) e.toNat hd2 (by omega) (by omega)
  rw [List.take_add_one, hm, show ((e.toNat : Nat) : Int) = e by omega] at ihF
  show p_Part_l3 (c : Int) x (iter (p_Part_l3 (c : Int) x) F) _ = _
  generalize iter (p_Part_l3 (c : Int) x) F = K at *
  unfold p_Part_l3
  dsimp only
  rw [cond_t (dlt hjl), idx_get he, Option.bind_some, need_pos (in64m (by omega) (by omega)), need_pos (by rw [List.length_take, List.length_map, List.length_singleton]; omega), need_pos (i64s (by omega)), succ_cast, lst]
  exact ihF
theorem part_p {F : Nat} {g : TImpl_Geom} (hw : WfG g) (hq : WG g) (h4 : 4 ≤ g.Kind) (hb : gF g ≤ 1048576) (hF : gF g < F) {i : Nat} {x : TImpl_Geom} (hx : (parts g)[i]? = some x) : p_Part F g (i : Int) = some x := by
 have W := hw.tell
 have Q := hq.tell
 have bg := W.big
 have kd := Q.kind
 unfold p_Part
 unfold parts at hx
 by_cases h7 : g.Kind = 7
 ·rw [if_pos h7] at hx
  rw [cond_t (decide_eq_true h7), idx_get hx, Option.bind_some]
 rw [if_neg h7] at hx
 rw [cond_f (decide_eq_false h7)]
 by_cases h6 : g.Kind = 6
 ·rw [if_pos h6, List.getElem?_map, Option.map_eq_some_iff] at hx
  obtain ⟨p, hp, rfl⟩ := hx
  have hil := (List.getElem?_eq_some_iff.1 hp).1
  rw [cutsP_len] at hil
  have ha := Q.asc6 h6
  have hxx : g.Endss[i]? = some g.Endss[i] := List.getElem?_eq_getElem hil
  obtain ⟨z, hz⟩ : ∃ z, z = g.Endss[i] := ⟨_, rfl⟩
  rw [← hz] at hxx
  have hm := List.mem_of_getElem? hxx
  have hzl := bg.2.2.2.2 z hm
  obtain ⟨a1, a2⟩ := asc_at ha hxx
  rw [cutsP_get hxx] at hp
  have hp' := Option.some.inj hp
  subst hp'
  have o1 := off2_loop ha (by omega) (fun x hx => by have := bg.2.2.2.2 x hx; omega) (Nat.le_of_lt hil) i F 0 (by omega) (by omega) (by omega)
  have o1' : iter (p_Part_l4 g (i : Int)) F ((0 : Int), (0 : Int)) = _ := o1
  have o2 := sub2_loop (x := z) (c := pv g.Endss i) (fun e he => by have := asc_last a1 he; omega) (by omega) z F 0 (pv g.Endss i) rfl (by omega) (by omega)
  have o2' : iter (p_Part_l3 ((pv g.Endss i : Nat) : Int) z) F (((pv g.Endss i : Nat) : Int), (0 : Int), []) = _ := o2
  have h3 := a1.le
  rw [cond_t (decide_eq_true h6), need_pos ⟨⟨trivial, by omega⟩, by omega, by show i ≤ _; omega⟩, o1', Option.bind_some, aft_inl]
  unfold p_Part_k1
  rw [idx_get hxx, Option.bind_some, o2', Option.bind_some, aft_inl]
  unfold p_Part_k2
  dsimp only
  rw [need_pos ⟨⟨by omega, by omega⟩, by show pv g.Endss i ≤ lst (pv g.Endss i) z; exact h3, by show lst (pv g.Endss i) z ≤ _; exact a2⟩, need_pos (by rw [List.length_take, List.length_drop]; show 0 + min (lst (pv g.Endss i) z - pv g.Endss i) _ ≤ _; omega)]
  rfl
 ·rw [if_neg h6, List.getElem?_map, Option.map_eq_some_iff] at hx
  obtain ⟨y, hy, rfl⟩ := hx
  have hil := (List.getElem?_eq_some_iff.1 hy).1
  rw [cuts_len] at hil
  have ha := Q.asc (by omega)
  have hi : g.Ends[i]? = some g.Ends[i] := List.getElem?_eq_getElem hil
  obtain ⟨e, he⟩ : ∃ e, e = g.Ends[i] := ⟨_, rfl⟩
  rw [← he] at hi
  obtain ⟨h1, h2, _⟩ := asc_get g.Ends 0 i e ha hi
  rw [cuts_get g.Ends 0 i e hi] at hy
  have hy' := Option.some.inj hy
  rw [cond_f (decide_eq_false h6), sel_prev ha hi (by omega) (p_Part_k5 g (i : Int))]
  unfold p_Part_k5 p_KidOf
  rw [cond_t (nT (by omega)), cond_t (decide_eq_true h4), cond_t (decide_eq_true (by omega)), need_pos (in64 (by omega) (by omega)), Option.bind_some]
  unfold p_Part_k6
  rw [idx_get hi, Option.bind_some, need_pos ⟨⟨by omega, by omega⟩, by omega, h2⟩, need_pos (by rw [List.length_take, List.length_drop]; omega), ← hy']
  rfl
theorem parts_len {g : TImpl_Geom} : (parts g).length = if g.Kind = 7 then g.Kids.length else if g.Kind = 6 then g.Endss.length else g.Ends.length := by
 unfold parts
 split
 ·rfl
 ·split
  ·rw [List.length_map, cutsP_len]
  ·rw [List.length_map, cuts_len]
theorem parts_p {F : Nat} {g : TImpl_Geom} (hw : WfG g) (hq : WG g) (h4 : 4 ≤ g.Kind) (hb : gF g ≤ 1048576) (hF : gF g < F) : p_Parts F g = some (parts g) := by
 have W := hw.tell
 have bg := W.big
 have kd := hq.tell.kind
 have hpl : (parts g).length < gF g := by rw [parts_len]; split <;> (try split) <;> omega
 have hn : p_NumParts g = some (((parts g).length : Nat) : Int) := by
  rw [parts_len]
  unfold p_NumParts p_NumParts_k1
  by_cases h4' : g.Kind = 4
  ·rw [cond_f (decide_eq_false (by omega)), cond_t (decide_eq_true h4'), decide_eq_true h4', cond_true, if_neg (by omega), if_neg (by omega)]
  rw [cond_f (decide_eq_false (by omega)), cond_f (decide_eq_false h4')]
  by_cases h5 : g.Kind = 5
  ·rw [decide_eq_true h5, cond_true, if_neg (by omega), if_neg (by omega)]
  rw [decide_eq_false h5, cond_false]
  by_cases h6 : g.Kind = 6
  ·rw [cond_t (decide_eq_true h6), if_neg (by omega), if_pos h6]
  ·rw [cond_f (decide_eq_false h6), if_pos (by omega)]
 unfold p_Parts
 rw [hn, Option.bind_some]
 have hl := build_loop (parts g) (p_Parts_l2 g F (((parts g).length : Nat) : Int)) (fun K k o hk => by
  unfold p_Parts_l2
  rw [cond_f (decide_eq_false (by simp only; omega))]) (fun K k x o hx ho => by
  have hk := lt_get hx
  unfold p_Parts_l2
  dsimp only
  rw [cond_t (dlt hk), part_p hw hq h4 hb hF hx, Option.bind_some, need_pos (by simp only [List.length_singleton]; omega), need_pos (i64s (by omega)), succ_cast]) F 0 (by omega) (by omega)
 have h' : iter (p_Parts_l2 g F (((parts g).length : Nat) : Int)) F ((0 : Int), []) = some (.inl (parts g)) := hl
 rw [h', Option.bind_some, aft_inl]
 rfl
theorem parts_ok {g : TImpl_Geom} (hw : WfG g) (hq : WG g) (h4 : 4 ≤ g.Kind) (hb : gF g ≤ 1048576) : ∀ x ∈ parts g, WfG x ∧ WG x ∧ gF x ≤ 1048576 := by
 intro x hx
 have W := hw.tell
 have Q := hq.tell
 have bg := W.big
 have kd := Q.kind
 have ml := maxLenV
 unfold parts at hx
 by_cases h7 : g.Kind = 7
 ·rw [if_pos h7] at hx
  have hm := W.kid x hx
  exact ⟨hm.1, Q.kid x hx, by omega⟩
 rw [if_neg h7] at hx
 have hL := Q.lay h7
 by_cases h6 : g.Kind = 6
 ·rw [if_pos h6] at hx
  obtain ⟨p, hp, rfl⟩ := List.mem_map.1 hx
  obtain ⟨i, hi⟩ := List.mem_iff_getElem?.1 hp
  have hil := (List.getElem?_eq_some_iff.1 hi).1
  rw [cutsP_len] at hil
  have ha := Q.asc6 h6
  have hxx : g.Endss[i]? = some g.Endss[i] := List.getElem?_eq_getElem hil
  obtain ⟨z, hz⟩ : ∃ z, z = g.Endss[i] := ⟨_, rfl⟩
  rw [← hz] at hxx
  have hm := List.mem_of_getElem? hxx
  obtain ⟨a1, a2⟩ := asc_at ha hxx
  rw [cutsP_get hxx] at hi
  have hp' := Option.some.inj hi
  have q1 : p.1.length = lst (pv g.Endss i) z - pv g.Endss i := by rw [← hp', List.length_take, List.length_drop]; omega
  have q2 : p.2.length = z.length := by rw [← hp', List.length_map]
  have q3 : Asc p.1.length 0 p.2 := by
   rw [q1, ← hp']
   have := asc_shift z (pv g.Endss i) (Nat.le_refl _) a1
   rwa [Nat.sub_self] at this
  have q4 : ∀ y ∈ p.1, y ∈ g.Flat := by
   rw [← hp']
   exact fun y hy => List.mem_of_mem_drop (List.mem_of_mem_take hy)
  have gz : p.1.length + p.2.length + 1 ≤ gF g := by
   have h1 : z.length ∈ g.Endss.map List.length := List.mem_map.2 ⟨z, hm, rfl⟩
   have h2 := sum_mem h1
   have h3 : p.1.length ≤ g.Flat.length := by omega
   cases g
   simp only [gF]
   simp only at h2 h3
   omega
  refine ⟨?_, WG.of ⟨by simp only; omega, fun _ => hL, fun h => by simp at h, fun h => by simp at h, fun _ => q3, fun h => by simp at h, fun h => by simp at h⟩ (fun k hk => by cases hk), ?_⟩
  ·simp only [WfG, WfGs]
   refine ⟨⟨by decide, by decide⟩, W.layout, ⟨by decide, by decide⟩, ⟨by omega, fun y hy => W.flat.2 y (q4 y hy)⟩, ⟨by omega, fun y hy => ?_⟩, ⟨by simp, fun l hl => by cases hl⟩, by simp, trivial⟩
   have := asc_last q3 hy
   have hlo : Go.Vm.lo .i64 = -9223372036854775808 := rfl
   have hhi : Go.Vm.hi .i64 = 9223372036854775807 := rfl
   rw [hlo, hhi]
   omega
  ·simp only [gF, gFs, List.length_nil, List.map_nil, List.sum_nil]
   omega
 ·rw [if_neg h6] at hx
  obtain ⟨y, hy, rfl⟩ := List.mem_map.1 hx
  obtain ⟨i, hi⟩ := List.mem_iff_getElem?.1 hy
  have hil := (List.getElem?_eq_some_iff.1 hi).1
  rw [cuts_len] at hil
  have hie : g.Ends[i]? = some g.Ends[i] := List.getElem?_eq_getElem hil
  rw [cuts_get g.Ends 0 i _ hie] at hi
  have hy' := Option.some.inj hi
  have q4 : ∀ z ∈ y, z ∈ g.Flat := by
   rw [← hy']
   exact fun z hz => List.mem_of_mem_drop (List.mem_of_mem_take hz)
  have q1 : y.length ≤ g.Flat.length := by rw [← hy', List.length_take, List.length_drop]; omega
  have hlo : Go.Vm.lo .i64 = -9223372036854775808 := rfl
  have hhi : Go.Vm.hi .i64 = 9223372036854775807 := rfl
  refine ⟨?_, WG.of ⟨by simp only; omega, fun _ => hL, fun h => by simp only at h; omega, fun h => by simp only at h; omega, fun h => by simp only at h; omega, fun h => by simp only at h; omega, fun h => by simp only at h; omega⟩ (fun k hk => by cases hk), ?_⟩
  ·simp only [WfG, WfGs]
   exact ⟨by rw [hlo, hhi]; omega, W.layout, ⟨by decide, by decide⟩, ⟨by omega, fun z hz => W.flat.2 z (q4 z hz)⟩, ⟨by simp, fun l hl => by cases hl⟩, ⟨by simp, fun l hl => by cases hl⟩, by simp, trivial⟩
  ·simp only [gF, gFs, List.length_nil, List.map_nil, List.sum_nil]
   omega
end
end Go.Proofs.YtbinnbmpedmabaaGreat.Wk

set_option linter.unusedVariables false
set_option linter.unusedSimpArgs false
namespace Go.Proofs.YtbinnbmpedmabaaGreat.Wk
open Go.Vm
theorem gGood_good {g : TImpl_Geom} (hw : WfG g) {F : Nat} (hF : gF g < F) (h : p_gGood F [g] = some true) : p_Good F g = some true := by
 obtain ⟨b, hb, -⟩ := good_t _ _ (Nat.le_refl _) hw F hF
 cases b with
 | true => exact hb
 | false =>
  unfold p_gGood at h
  cases hs : p_gSmall F [g] with
  | none => rw [hs] at h; cases h
  | some y =>
   rw [hs, Option.bind_some] at h
   cases y with
   | false => rw [cond_t (rfl : (!false) = true)] at h; cases h
   | true =>
    rw [cond_f (rfl : (!true) = false)] at h
    match F, hF with
    | F + 1, _ =>
     have : iter (p_gGood_l2 [g] (F + 1)) (F + 1) (0 : Int) = some (.inr false) := by
      show p_gGood_l2 [g] (F + 1) (iter _ F) (0 : Int) = _
      unfold p_gGood_l2
      rw [cond_t (by rfl), show idx [g] (0 : Int) = some g from rfl, Option.bind_some, hb, Option.bind_some, cond_t (rfl : (!false) = true)]
     rw [this, Option.bind_some, aft_inr] at h
     cases h
theorem bulk_map {α : Type} (f : α → D) (h : ∀ x, bulkD (f x) = 1) : ∀ l : List α, bulkDs (l.map f) = l.length
 | [] => rfl
 | x :: l => by simp only [List.map_cons, bulkDs, h, bulk_map f h l, List.length_cons]; omega
theorem bulk_endss : ∀ l : List (List Int), bulkDs (l.map keS3) = l.length + (l.map List.length).sum
 | [] => rfl
 | x :: l => by
  have h1 : bulkD (keS3 x) = x.length + 1 := by
   show bulkDs (x.map keS2) + 1 = _
   rw [bulk_map keS2 (fun _ => rfl)]
  simp only [List.map_cons, bulkDs, h1, bulk_endss l, List.length_cons, List.sum_cons]; omega
mutual
theorem gF_bulk : ∀ g : TImpl_Geom, gF g + 1 ≤ bulkDs (c0_TImpl_Geom g)
 | .mk k l s f e es ks => by
  have h1 := gFs_bulk ks
  have h2 := bulk_map keS1 (fun _ => rfl) f
  have h3 := bulk_map keS2 (fun _ => rfl) e
  have h4 := bulk_endss es
  simp only [gF, c0_TImpl_Geom, bulkDs, bulkD]
  omega
theorem gFs_bulk : ∀ l : List TImpl_Geom, gFs l + l.length ≤ bulkDs (cs_TImpl_Geom l)
 | [] => by simp [gFs, cs_TImpl_Geom, bulkDs]
 | g :: r => by
  have h1 := gF_bulk g
  have h2 := gFs_bulk r
  simp only [gFs, cs_TImpl_Geom, bulkDs_app, List.length_cons]
  omega
end
end Go.Proofs.YtbinnbmpedmabaaGreat.Wk

set_option linter.unusedVariables false
set_option linter.unusedSimpArgs false
namespace Go.Proofs.YtbinnbmpedmabaaGreat.Wk
open Go.Vm
noncomputable section
theorem each_t : ∀ (N : Nat) (g : TImpl_Geom), gF g ≤ N → WfG g → ∀ F, gF g < F → ∃ b, p_gEach F g = some b := by
 intro N
 induction N with
 | zero => intro g h hw; have := hw.tell.big.1; omega
 | succ N ih =>
  intro g h hw F hF
  have W := hw.tell
  have bg := W.big
  obtain ⟨G, rfl⟩ : ∃ G, F = G + 1 := ⟨F - 1, by omega⟩
  show ∃ n, p_gEach_b (fun a0 => p_gEach G a0) G g = some n
  unfold p_gEach_b
  obtain ⟨_, _, k3⟩ := all_loop g.Flat (p_gEach_l4 g) (fun x => p_gNumber x) (fun K i x hx => by
   have hi := lt_get hx
   have step : ∀ j : Int, p_gEach_l4 g K j = cond (decide (j < ((g.Flat.length : Nat) : Int))) ((idx g.Flat j).bind fun x => (p_gNumber x).bind fun b => cond (!b) (some (.inr false)) (need (inI .i64 (j + 1)) (K (j + 1)))) (some (.inl ())) := fun _ => rfl
   rw [step, cond_t (dlt hi), idx_get hx, Option.bind_some, need_pos (inM hi W.flat.1), succ_cast]
   congr 1
   funext b
   cases b <;> rfl) (fun K i hi => by
   have step : ∀ j : Int, p_gEach_l4 g K j = cond (decide (j < ((g.Flat.length : Nat) : Int))) ((idx g.Flat j).bind fun x => (p_gNumber x).bind fun b => cond (!b) (some (.inr false)) (need (inI .i64 (j + 1)) (K (j + 1)))) (some (.inl ())) := fun _ => rfl
   rw [step, cond_f (decide_eq_false (by omega))]) G 0
  obtain ⟨o, ho⟩ := k3 (by omega) (fun x _ => ⟨_, rfl⟩)
  rw [show ((0 : Nat) : Int) = 0 from rfl] at ho
  rw [ho, Option.bind_some]
  cases o with
  | inr b => exact ⟨b, rfl⟩
  | inl u =>
   rw [aft_inl]
   unfold p_gEach_k1
   obtain ⟨_, _, j3⟩ := all_loop g.Kids (p_gEach_l3 g fun a0 => p_gEach G a0) (fun x => p_gEach G x) (fun K i x hx => by
    have hi := lt_get hx
    have step : ∀ j : Int, p_gEach_l3 g (fun a0 => p_gEach G a0) K j = cond (decide (j < ((g.Kids.length : Nat) : Int))) ((idx g.Kids j).bind fun x => (p_gEach G x).bind fun b => cond (!b) (some (.inr false)) (need (inI .i64 (j + 1)) (K (j + 1)))) (some (.inl ())) := fun _ => rfl
    rw [step, cond_t (dlt hi), idx_get hx, Option.bind_some, need_pos (inM hi W.kids), succ_cast]
    congr 1
    funext b
    cases b <;> rfl) (fun K i hi => by
    have step : ∀ j : Int, p_gEach_l3 g (fun a0 => p_gEach G a0) K j = cond (decide (j < ((g.Kids.length : Nat) : Int))) ((idx g.Kids j).bind fun x => (p_gEach G x).bind fun b => cond (!b) (some (.inr false)) (need (inI .i64 (j + 1)) (K (j + 1)))) (some (.inl ())) := fun _ => rfl
    rw [step, cond_f (decide_eq_false (by omega))]) G 0
   obtain ⟨o, ho⟩ := j3 (by omega) (fun x hx => by
    have hm := W.kid x hx
    exact ih x (by omega) hm.1 G (by omega))
   rw [show ((0 : Nat) : Int) = 0 from rfl] at ho
   rw [ho, Option.bind_some]
   cases o with
   | inr b => exact ⟨b, rfl⟩
   | inl u => exact ⟨true, rfl⟩
theorem ring_t : ∀ (N : Nat) (g : TImpl_Geom), gF g ≤ N → WfG g → ∀ F, gF g < F → ∃ b, p_yRing F g = some b := by
 intro N
 induction N with
 | zero => intro g h hw; have := hw.tell.big.1; omega
 | succ N ih =>
  intro g h hw F hF
  have W := hw.tell
  have bg := W.big
  obtain ⟨G, rfl⟩ : ∃ G, F = G + 1 := ⟨F - 1, by omega⟩
  show ∃ n, p_yRing_b (fun a0 => p_yRing G a0) G g = some n
  unfold p_yRing_b
  have h3 := tot_loop (L := g.Kids.length) (P := fun _ => True) (Post := fun o : Sum Unit Bool => True) (fun (s : Unit) i => i) (p_yRing_l2 g (fun a0 => p_yRing G a0)) (fun K s _ => by
   unfold p_yRing_l2; dsimp only; rw [cond_f (decide_eq_false (by omega))]; exact ⟨_, rfl, trivial⟩) (fun K s i hi _ => by
   have hk := W.kid _ (List.getElem_mem hi)
   obtain ⟨b, hb⟩ := ih _ (by omega) hk.1 G (by omega)
   have e : p_yRing_l2 g (fun a0 => p_yRing G a0) K (i : Int) = cond b (some (Sum.inr true)) (K ((i + 1 : Nat) : Int)) := by
    unfold p_yRing_l2
    dsimp only
    rw [cond_t (decide_eq_true (by omega)), idx_get (List.getElem?_eq_getElem hi), Option.bind_some, hb, Option.bind_some, need_pos (inM hi W.kids), succ_cast]
   cases b with
   | true => exact .inl ⟨_, e, trivial⟩
   | false => exact .inr ⟨(), trivial, e⟩) G 0 () (by omega) (by omega) trivial
  obtain ⟨o, h4, -⟩ := h3
  rw [show ((0 : Nat) : Int) = 0 from rfl] at h4
  rw [h4, Option.bind_some]
  cases o with
  | inr r => exact ⟨_, rfl⟩
  | inl v => exact ⟨_, rfl⟩
theorem same_p (a : List Int) : p_ySame a a = some true := by
 unfold p_ySame
 rw [beq_self_eq_true]
theorem flg_b {L c : Int} (hc : 1 ≤ c ∧ c ≤ 7) : 0 ≤ c + flg L ∧ (c + flg L) / 16777216 % 256 ≤ 192 ∧ (c + flg L) / 16777216 % 256 ≤ 192 ∧ c + flg L ≤ 3221225479 := by
 unfold flg
 split
 ·omega
 ·split
  ·omega
  ·split <;> omega
theorem k5_p (big : Bool) {F : Nat} (hF : 10 < F) {v srid o : Int} (hv : 0 ≤ v ∧ v ≤ 3221225479) (hs : 1 ≤ srid ∧ srid ≤ 2147483647) (rest : List Int) :
  p_FnEWKBParts_k5 big srid F (o :: (c4 big v ++ rest), true) (o :: (c4 big (v + 536870912) ++ (c4 big srid ++ rest)), true) (if big = true then 1 else 4) = some true := by
 have hw : IntKind.u32.wrap srid = srid := wu32 (by omega) (by omega)
 have hcb := cb_p hF (v := srid) (by omega) (by omega) big
 have hsl := c4_len big srid
 have e24 : (v + 536870912) / 2 ^ 24 % 256 = v / 2 ^ 24 % 256 + 32 := by omega
 have e16 : (v + 536870912) / 2 ^ 16 % 256 = v / 2 ^ 16 % 256 := by omega
 have e8 : (v + 536870912) / 2 ^ 8 % 256 = v / 2 ^ 8 % 256 := by omega
 have e0 : (v + 536870912) % 256 = v % 256 := by omega
 have tb : 0 ≤ v / 2 ^ 24 % 256 ∧ v / 2 ^ 24 % 256 ≤ 192 := by omega
 have u8 : inI .u8 (v / 2 ^ 24 % 256 + 32) := ⟨by simp only [lo]; omega, by simp only [hi]; omega⟩
 have len0 : ∀ (x1 x2 x3 x4 : Int) (l : List Int), (o :: x1 :: x2 :: x3 :: x4 :: l).length = l.length + 5 := fun _ _ _ _ _ => rfl
 have fin : ∀ (x1 x2 x3 x4 z1 z2 z3 z4 y : Int) (j : Nat), j < 5 → [o, x1, x2, x3, x4][j]? = some y → inI .u8 (y + 32) → [o, x1, x2, x3, x4].set j (y + 32) = [o, z1, z2, z3, z4] →
   p_FnEWKBParts_k5 big srid F (o :: x1 :: x2 :: x3 :: x4 :: rest, true) (o :: z1 :: z2 :: z3 :: z4 :: (c4 big srid ++ rest), true) (j : Int) = some true := fun x1 x2 x3 x4 z1 z2 z3 z4 y j hj hy hu hset => by
  unfold p_FnEWKBParts_k5
  dsimp only
  have t1 : ((o :: x1 :: x2 :: x3 :: x4 :: rest).drop 0).take (((5 : Int)).toNat - 0) = [o, x1, x2, x3, x4] := rfl
  have t2 : ((o :: z1 :: z2 :: z3 :: z4 :: (c4 big srid ++ rest)).drop 0).take (((5 : Int)).toNat - 0) = [o, z1, z2, z3, z4] := rfl
  have t3 : ((o :: z1 :: z2 :: z3 :: z4 :: (c4 big srid ++ rest)).drop ((5 : Int)).toNat).take (((9 : Int)).toNat - ((5 : Int)).toNat) = c4 big srid := by
   show (c4 big srid ++ rest).take 4 = _
   rw [← hsl, List.take_left]
  have t4 : ((o :: z1 :: z2 :: z3 :: z4 :: (c4 big srid ++ rest)).drop ((9 : Int)).toNat).take ((o :: z1 :: z2 :: z3 :: z4 :: (c4 big srid ++ rest)).length - ((9 : Int)).toNat) = rest := by
   show ((c4 big srid ++ rest).drop 4).take _ = _
   have hd : (c4 big srid ++ rest).drop 4 = rest := by rw [← hsl, List.drop_left]
   rw [hd, List.take_of_length_le]
   rw [len0, List.length_append, hsl]
   show rest.length ≤ 4 + rest.length + 5 - 9
   omega
  have t5 : ((o :: x1 :: x2 :: x3 :: x4 :: rest).drop ((5 : Int)).toNat).take ((o :: x1 :: x2 :: x3 :: x4 :: rest).length - ((5 : Int)).toNat) = rest := by
   show rest.take _ = _
   rw [List.take_of_length_le]
   rw [len0]
   show rest.length ≤ rest.length + 5 - 5
   omega
  rw [need_pos ⟨⟨trivial, by omega⟩, by omega, by rw [len0]; show 5 ≤ _; omega⟩, t1, need_pos (by show 0 + 5 ≤ 4294967296; omega), need_pos ⟨by omega, by show (j : Int) < 5; omega⟩, idx_get hy, Option.bind_some, need_pos hu, need_pos ⟨by omega, by show (j : Int) < 5; omega⟩, need_pos (by show j < 5; exact hj), need_pos ⟨⟨trivial, by omega⟩, by omega, by rw [len0]; show 5 ≤ _; omega⟩, t2, show ((j : Int)).toNat = j from rfl, hset, same_p, Option.bind_some, cond_true,
   need_pos ⟨⟨by omega, by omega⟩, by decide, by rw [len0, List.length_append, hsl]; show 9 ≤ _; omega⟩, hw, hcb, Option.bind_some, t3, same_p, Option.bind_some, cond_true, need_pos ⟨⟨by omega, trivial⟩, by rw [len0, List.length_append, hsl]; show 9 ≤ _; omega, Nat.le_refl _⟩, need_pos ⟨⟨by omega, trivial⟩, by rw [len0]; show 5 ≤ _; omega, Nat.le_refl _⟩, t4, t5, same_p]
  rfl
 cases big with
 | true =>
  have c1 : c4 true v = [v / 2 ^ 24 % 256, v / 2 ^ 16 % 256, v / 2 ^ 8 % 256, v % 256] := rfl
  have c2 : c4 true (v + 536870912) = [v / 2 ^ 24 % 256 + 32, v / 2 ^ 16 % 256, v / 2 ^ 8 % 256, v % 256] := by
   show [_, _, _, _] = _
   rw [e24, e16, e8, e0]
  rw [c1, c2]
  exact fin _ _ _ _ _ _ _ _ (v / 2 ^ 24 % 256) 1 (by omega) rfl u8 rfl
 | false =>
  have c1 : c4 false v = [v % 256, v / 2 ^ 8 % 256, v / 2 ^ 16 % 256, v / 2 ^ 24 % 256] := rfl
  have c2 : c4 false (v + 536870912) = [v % 256, v / 2 ^ 8 % 256, v / 2 ^ 16 % 256, v / 2 ^ 24 % 256 + 32] := by
   show [_, _, _, _] = _
   rw [e24, e16, e8, e0]
  rw [c1, c2]
  exact fin _ _ _ _ _ _ _ _ (v / 2 ^ 24 % 256) 4 (by omega) rfl u8 rfl
theorem want_loop (big : Bool) {F : Nat} {P : List TImpl_Geom} (hP : ∀ x ∈ P, p_WriteEWKB F x big = some (enc big x, true)) (hl : P.length ≤ 2000000) : ∀ (R : List TImpl_Geom) (G i : Nat) (B : List Int), P.drop i = R → i ≤ P.length → R.length < G → B.length + ((R.map (enc big)).flatten).length ≤ 4000000000 →
  iter (p_FnEWKBParts_l6 big F P) G (true, (i : Int), B) = some (.inl (true, B ++ (R.map (enc big)).flatten)) := by
 intro R
 induction R with
 | nil =>
  intro G i B hd hi hG hB
  obtain ⟨G, rfl⟩ : ∃ H, G = H + 1 := ⟨G - 1, by omega⟩
  have hle : P.length ≤ i := List.drop_eq_nil_iff.1 hd
  show p_FnEWKBParts_l6 big F P (iter _ G) _ = _
  unfold p_FnEWKBParts_l6
  rw [cond_f (decide_eq_false (by simp only; omega))]
  simp
 | cons x R ih =>
  intro G i B hd hi hG hB
  obtain ⟨G, rfl⟩ : ∃ H, G = H + 1 := ⟨G - 1, by omega⟩
  have hx : P[i]? = some x := by
   have := congrArg (fun z => z[0]?) hd
   simpa [List.getElem?_drop] using this
  have hil := lt_get hx
  have hd2 : P.drop (i + 1) = R := by rw [← List.drop_drop, hd]; rfl
  rw [List.map_cons, List.flatten_cons, List.length_append] at hB
  simp only [List.length_cons] at hG
  have ihG := ih G (i + 1) (B ++ enc big x) hd2 (by omega) (by omega) (by rw [List.length_append]; omega)
  show p_FnEWKBParts_l6 big F P (iter (p_FnEWKBParts_l6 big F P) G) _ = _
  generalize iter (p_FnEWKBParts_l6 big F P) G = K at *
  unfold p_FnEWKBParts_l6
  dsimp only
  rw [cond_t (dlt hil), idx_get hx, Option.bind_some, hP x (mem_get hx), Option.bind_some, need_pos (by show B.length + (enc big x).length ≤ _; omega), cond_true, need_pos (i64s (by omega)), succ_cast]
  rw [List.map_cons, List.flatten_cons, ← List.append_assoc]
  exact ihG
theorem law_ep (big : Bool) {F : Nat} (hF : 4000000 ≤ F) {g : TImpl_Geom} (hw : WfG g) (hB : gF g ≤ 1048576) (srid : Int) (hsr : inI .i64 srid) : p_FnEWKBParts F g big srid = some true := by
 have k1t : p_FnEWKBParts_k1 g big srid F true = some true := rfl
 obtain ⟨b1, h1, _⟩ := zzFits2_p (F := F) (by omega) hw
 obtain ⟨bg, hg, _⟩ := gGood_p hw (F := F) (by omega)
 obtain ⟨bl, hl⟩ := layouts_t 4 _ g (Nat.le_refl _) hw F (by omega)
 obtain ⟨be, he⟩ := each_t _ g (Nat.le_refl _) hw F (by omega)
 obtain ⟨br, hr⟩ := ring_t _ g (Nat.le_refl _) hw F (by omega)
 unfold p_FnEWKBParts
 rw [h1, Option.bind_some]
 cases b1 with
 | false => rfl
 | true =>
  rw [show (!true) = false from rfl, cond_false]
  have hy : p_yWritten F g = some (bg && (bl && (be && !br))) := by
   unfold p_yWritten
   rw [hg, Option.bind_some, hl, Option.bind_some, he, Option.bind_some, hr, Option.bind_some]
   cases bg <;> cases bl <;> cases be <;> rfl
  rw [hy, Option.bind_some]
  cases hall : (bg && (bl && (be && !br))) with
  | false => rw [show (!false) = true from rfl, cond_true, k1t]
  | true =>
   simp only [Bool.and_eq_true, Bool.not_eq_true'] at hall
   obtain ⟨rfl, rfl, rfl, rfl⟩ := hall
   rw [show (!true) = false from rfl, cond_false]
   by_cases h4 : g.Kind < 4
   ·rw [cond_t (decide_eq_true h4), k1t]
   rw [cond_f (decide_eq_false h4)]
   by_cases s1 : srid < 1
   ·rw [cond_t (decide_eq_true s1), k1t]
   rw [cond_f (decide_eq_false s1)]
   by_cases s2 : 2147483647 < srid
   ·rw [decide_eq_true s2, k1t]
   rw [decide_eq_false s2]
   have hgood := gGood_good hw (F := F) (by omega) hg
   have hq0 := good_WG _ g (Nat.le_refl _) hw hB F (by omega) hgood F (by omega) hr F (by omega) hl
   obtain ⟨n1, n2, n3, n4, n5⟩ := noS_all _ g (Nat.le_refl _) hw
   have hns := n5 hB F (by omega)
   obtain ⟨g', hg'⟩ : ∃ g', g' = noS g := ⟨_, rfl⟩
   rw [← hg'] at n1 n2 n3 n4 hns
   have hq := n4 hq0
   have hk : g'.Kind = g.Kind := by rw [hg', noS_eq]
   have hs0 : g'.SRID = 0 := by rw [hg', noS_eq]
   have kd := hq.tell.kind
   have W := n3.tell
   have lb := lay_b _ g' (Nat.le_refl _) n3 hq
   have hb' : gF g' ≤ 1048576 := by omega
   have e1 := ewkb_p big n3 hq hb' (F := F) (by omega)
   have pa := parts_p n3 hq (by omega) hb' (F := F) (by omega)
   have po := parts_ok n3 hq (by omega) hb'
   have ep := enc_parts big (g := g') (by omega)
   have el := enc_len big _ g' (Nat.le_refl _) n3 hq
   have pl : (parts g').length ≤ 1048576 := by
    have bg := W.big
    rw [parts_len]; split <;> (try split) <;> omega
   obtain ⟨rest, hrest⟩ : ∃ r, r = c4 big ((parts g').length : Int) ++ ((parts g').map (enc big)).flatten := ⟨_, rfl⟩
   rw [← hrest] at ep
   have hh : hdr big g'.Kind (lay g') g'.SRID = (if big = true then 0 else 1) :: c4 big (g'.Kind + flg (lay g')) := by
    unfold hdr
    rw [hs0, if_pos rfl, if_pos rfl, Int.add_zero, List.append_nil]
    rfl
   have hrl : rest.length = 4 + (((parts g').map (enc big)).flatten).length := by rw [hrest, List.length_append, c4_len]
   have ebl : (enc big g').length = 5 + rest.length := by rw [ep, List.length_append, hdr_len, if_pos hs0]
   -- the same with an SRID
   obtain ⟨g2, hg2⟩ : ∃ g2, g2 = TImpl_Geom.mk g'.Kind g'.Layout srid g'.Flat g'.Ends g'.Endss g'.Kids := ⟨_, rfl⟩
   have w2 : WfG g2 := by
    rw [hg2]; simp only [WfG]
    exact ⟨W.kind, W.layout, hsr, W.flat, W.ends, W.endss, W.kids, wfGs_of fun k hk => (W.kid k hk).1⟩
   have q2 : WG g2 := by
    have Q := hq.tell
    rw [hg2]
    exact WG.of ⟨Q.kind, Q.lay, Q.lay0, Q.lay7, Q.asc, Q.mp, Q.asc6⟩ Q.kid
   have f2 : gF g2 = gF g' := by rw [hg2]; cases g'; simp only [gF]
   have e2 := ewkb_p big w2 q2 (by omega) (F := F) (by omega)
   have ep2 := enc_parts big (g := g2) (by rw [hg2]; simp only; omega)
   have l2 : lay g2 = lay g' := by rw [hg2, lay_eq, lay_eq]
   have p2 : parts g2 = parts g' := by rw [hg2]; rfl
   have k2 : g2.Kind = g'.Kind := by rw [hg2]
   have s2' : g2.SRID = srid := by rw [hg2]
   rw [p2, l2, k2, s2', ← hrest] at ep2
   have hws : IntKind.u32.wrap srid = srid := wu32 (by omega) (by omega)
   have hh2 : hdr big g'.Kind (lay g') srid = (if big = true then 0 else 1) :: (c4 big (g'.Kind + flg (lay g') + 536870912) ++ c4 big srid) := by
    unfold hdr
    rw [if_neg (show ¬ srid = 0 by omega), if_neg (show ¬ srid = 0 by omega), hws]
    rfl
   unfold p_FnEWKBParts_k1
   rw [cond_false, hns, Option.bind_some, e1, Option.bind_some]
   dsimp only
   rw [show (!true) = false from rfl, cond_false, decide_eq_false (by omega)]
   unfold p_FnEWKBParts_k2
   dsimp only
   have t9 : ((enc big g').drop 0).take (((9 : Int)).toNat - 0) = hdr big g'.Kind (lay g') g'.SRID ++ c4 big ((parts g').length : Int) := by
    show (enc big g').take 9 = _
    rw [ep, hrest, ← List.append_assoc]
    have : (hdr big g'.Kind (lay g') g'.SRID ++ c4 big ((parts g').length : Int)).length = 9 := by rw [List.length_append, hdr_len, if_pos hs0, c4_len]
    rw [← this, List.take_left]
   rw [cond_false, need_pos ⟨⟨trivial, by omega⟩, by omega, by show 9 ≤ _; omega⟩, t9, need_pos (by rw [List.length_append, hdr_len, if_pos hs0, c4_len]; omega), pa, Option.bind_some]
   have wl := want_loop big (F := F) (P := parts g') (fun x hx => ewkb_p big (po x hx).1 (po x hx).2.1 (po x hx).2.2 (by have := (po x hx).2.2; omega)) (by omega) (parts g') F 0 (hdr big g'.Kind (lay g') g'.SRID ++ c4 big ((parts g').length : Int)) List.drop_zero (Nat.zero_le _) (by omega) (by rw [List.length_append, hdr_len, if_pos hs0, c4_len]; omega)
   have wl' : iter (p_FnEWKBParts_l6 big F (parts g')) F (true, (0 : Int), hdr big g'.Kind (lay g') g'.SRID ++ c4 big ((parts g').length : Int)) = _ := wl
   rw [wl', Option.bind_some, aft_inl, List.append_assoc, ← hrest, ← ep]
   unfold p_FnEWKBParts_k3
   rw [← hg2, e2, Option.bind_some]
   dsimp only
   have el2 : (enc big g2).length = (enc big g').length + 4 := by
    rw [ebl, ep2, hh2, List.length_append, List.length_cons, List.length_append, c4_len, c4_len]; omega
   rw [show (!true) = false from rfl, cond_false, cond_false, same_p, Option.bind_some, show (!true) = false from rfl, cond_false, need_pos (in64 (by omega) (by omega)), el2, show (!decide ((((enc big g').length + 4 : Nat) : Int) = (((enc big g').length : Nat) : Int) + 4)) = false by simp]
   unfold p_FnEWKBParts_k4
   rw [cond_false]
   have fb := flg_b (L := lay g') (c := g'.Kind) kd
   have k5 := k5_p big (F := F) (by omega) (v := g'.Kind + flg (lay g')) (srid := srid) (o := if big = true then 0 else 1) ⟨fb.1, fb.2.2.2⟩ (by omega) rest
   have r1 : enc big g' = (if big = true then 0 else 1) :: (c4 big (g'.Kind + flg (lay g')) ++ rest) := by rw [ep, hh]; rfl
   have r2 : enc big g2 = (if big = true then 0 else 1) :: (c4 big (g'.Kind + flg (lay g') + 536870912) ++ (c4 big srid ++ rest)) := by rw [ep2, hh2, ← List.append_assoc]; rfl
   rw [r1, r2]
   cases big with
   | true => exact k5
   | false => exact k5
end
end Go.Proofs.YtbinnbmpedmabaaGreat.Wk
