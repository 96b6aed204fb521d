/- Proved: plain texts of a law, joined. -/
import Derived.Test.YtbgdonedjgkhiaaLibB
import Derived.Test.YtbgdonedjgkhiaaPRv
set_option linter.unusedVariables false
set_option linter.unusedSimpArgs false
namespace Go.Proofs.Ytbgdonedjgkhiaa.Wk
open Go.Vm
/-- The same, without an exit. -/
theorem fold_all {α σ St V T : Type} (L : List α) (b : (St → Option (Sum V T)) → St → Option (Sum V T)) (mk : Nat → σ → St) (step : σ → α → σ) (out : σ → V) (Inv : Nat → σ → Prop)
  (hend : ∀ K s, Inv L.length s → b K (mk L.length s) = some (.inl (out s)))
  (hstep : ∀ K i x s, L[i]? = some x → Inv i s → b K (mk i s) = K (mk (i + 1) (step s x)))
  (hinv : ∀ i x s, L[i]? = some x → Inv i s → Inv (i + 1) (step s x)) :
  ∀ (F i : Nat) (s : σ), L.length - i < F → i ≤ L.length → Inv i s → iter b F (mk i s) = some (.inl (out ((L.drop i).foldl step s))) := by
 intro F
 induction F with
 | zero => intro i s h; omega
 | succ F ih =>
  intro i s h hi hs
  show b (iter b F) (mk i s) = _
  by_cases hk : i < L.length
  ·have hx : L[i]? = some L[i] := List.getElem?_eq_getElem hk
   rw [hstep _ i _ s hx hs, List.drop_eq_getElem_cons hk, List.foldl_cons]
   exact ih (i + 1) _ (by omega) (by omega) (hinv i _ s hx hs)
  ·have : i = L.length := by omega
   subst this
   rw [hend _ s hs, List.drop_length]; rfl
theorem dlt {i n : Nat} (h : i < n) : decide ((i : Int) < (n : Int)) = true := decide_eq_true (by omega)
theorem dge {n : Nat} : decide ((n : Int) < (n : Int)) = false := decide_eq_false (by omega)
theorem mem_get {α : Type} {l : List α} {i : Nat} {x : α} (h : l[i]? = some x) : x ∈ l := List.mem_of_getElem? h
theorem lt_get {α : Type} {l : List α} {i : Nat} {x : α} (h : l[i]? = some x) : i < l.length := (List.getElem?_eq_some_iff.1 h).1
theorem i64s {k : Nat} (h : k < 4611686018427387904) : inI .i64 ((k : Int) + 1) := in64 (by omega) (by omega)
end Go.Proofs.Ytbgdonedjgkhiaa.Wk

namespace Go.Proofs.Ytbgdonedjgkhiaa.Wk
open Go.Vm
set_option linter.unusedVariables false
set_option linter.unusedSimpArgs false
mutual
def gF : TImpl_Geom → Nat
 | .mk _ _ _ f e es ks => 1 + f.length + e.length + es.length + ks.length + (es.map List.length).sum + gFs ks
def gFs : List TImpl_Geom → Nat
 | [] => 0
 | g :: r => gF g + gFs r
end
mutual
def WfG : TImpl_Geom → Prop
 | .mk a b c f e es ks => (lo .i64 ≤ a ∧ a ≤ hi .i64) ∧ (lo .i64 ≤ b ∧ b ≤ hi .i64) ∧ (lo .i64 ≤ c ∧ c ≤ hi .i64) ∧ (f.length ≤ maxLen ∧ ∀ x ∈ f, (Lit.float .f64 x).wf = true) ∧ (e.length ≤ maxLen ∧ ∀ x ∈ e, lo .i64 ≤ x ∧ x ≤ hi .i64) ∧
  (es.length ≤ maxLen ∧ ∀ l ∈ es, l.length ≤ maxLen ∧ ∀ x ∈ l, lo .i64 ≤ x ∧ x ≤ hi .i64) ∧ ks.length ≤ maxLen ∧ WfGs ks
def WfGs : List TImpl_Geom → Prop
 | [] => True
 | g :: r => WfG g ∧ WfGs r
end
theorem wfGs_mem : ∀ {l : List TImpl_Geom}, WfGs l → ∀ k ∈ l, WfG k
 | [], _, k, h => by cases h
 | g :: r, h, k, hk => by
  simp only [WfGs] at h
  rcases List.mem_cons.1 hk with rfl | hk
  ·exact h.1
  ·exact wfGs_mem h.2 k hk
theorem wfGs_of : ∀ {l : List TImpl_Geom}, (∀ k ∈ l, WfG k) → WfGs l
 | [], _ => by simp only [WfGs]
 | g :: r, h => by simp only [WfGs]; exact ⟨h g (by simp), wfGs_of fun k hk => h k (by simp [hk])⟩
theorem gFs_mem : ∀ {l : List TImpl_Geom}, ∀ k ∈ l, gF k ≤ gFs l
 | [], k, h => by cases h
 | g :: r, k, hk => by
  simp only [gFs]
  rcases List.mem_cons.1 hk with rfl | hk
  ·omega
  ·have := gFs_mem k hk; omega
theorem sum_mem {l : List Nat} {x : Nat} (h : x ∈ l) : x ≤ l.sum := by
 induction l with
 | nil => cases h
 | cons a r ih =>
  simp only [List.sum_cons]
  rcases List.mem_cons.1 h with rfl | h
  ·omega
  ·have := ih h; omega
/-- What a geometry's data are known to be. -/
structure Wf (g : TImpl_Geom) : Prop where
 kind : lo .i64 ≤ g.Kind ∧ g.Kind ≤ hi .i64
 layout : lo .i64 ≤ g.Layout ∧ g.Layout ≤ hi .i64
 srid : lo .i64 ≤ g.SRID ∧ g.SRID ≤ hi .i64
 flat : g.Flat.length ≤ maxLen ∧ ∀ x ∈ g.Flat, (Lit.float .f64 x).wf = true
 ends : g.Ends.length ≤ maxLen ∧ ∀ x ∈ g.Ends, lo .i64 ≤ x ∧ x ≤ hi .i64
 endss : g.Endss.length ≤ maxLen ∧ ∀ l ∈ g.Endss, l.length ≤ maxLen ∧ ∀ x ∈ l, lo .i64 ≤ x ∧ x ≤ hi .i64
 kids : g.Kids.length ≤ maxLen
 kid : ∀ k ∈ g.Kids, WfG k ∧ gF k < gF g
 big : g.Flat.length < gF g ∧ g.Ends.length < gF g ∧ g.Endss.length < gF g ∧ g.Kids.length < gF g ∧ ∀ l ∈ g.Endss, l.length < gF g
theorem WfG.tell {g : TImpl_Geom} (h : WfG g) : Wf g := by
 cases g with
 | mk a b c f e es ks =>
  simp only [WfG] at h
  obtain ⟨h1, h2, h3, h4, h5, h6, h7, h8⟩ := h
  refine ⟨h1, h2, h3, h4, h5, h6, h7, fun k hk => ⟨wfGs_mem h8 k hk, ?_⟩, ?_, ?_, ?_, ?_, fun l hl => ?_⟩
  ·have hk' : k ∈ ks := hk
   have := gFs_mem k hk'; simp only [gF]; omega
  ·simp only [gF]; omega
  ·simp only [gF]; omega
  ·simp only [gF]; omega
  ·simp only [gF]; omega
  ·have : l.length ∈ es.map List.length := List.mem_map.2 ⟨l, hl, rfl⟩
   have := sum_mem this
   simp only [gF]; omega
theorem maxLenV : maxLen = 9223372036854775807 := by decide +kernel
theorem inM {i L : Nat} (h : i < L) (hL : L ≤ maxLen) : inI .i64 ((i : Int) + 1) := in64 (by omega) (by rw [maxLenV] at hL; omega)
theorem tot_loop {σ S ρ : Type} {L : Nat} {P : σ → Prop} {Post : ρ → Prop} (mk : σ → Int → S) (b : (S → Option ρ) → S → Option ρ)
  (hend : ∀ K s, P s → ∃ o, b K (mk s (L : Int)) = some o ∧ Post o)
  (hstep : ∀ K s (i : Nat), i < L → P s → (∃ o, b K (mk s (i : Int)) = some o ∧ Post o) ∨ ∃ s', P s' ∧ b K (mk s (i : Int)) = K (mk s' ((i + 1 : Nat) : Int))) :
  ∀ n i s, L - i < n → i ≤ L → P s → ∃ o, iter b n (mk s (i : Int)) = some o ∧ Post o := by
 intro n
 induction n with
 | zero => intro i s h; omega
 | succ n ih =>
  intro i s h hi hp
  show ∃ o, b (iter b n) (mk s (i : Int)) = some o ∧ Post o
  by_cases hil : i < L
  ·rcases hstep (iter b n) s i hil hp with h1 | ⟨s', h1, h2⟩
   ·exact h1
   ·rw [h2]; exact ih (i + 1) s' (by omega) (by omega) h1
  ·obtain rfl : i = L := by omega
   exact hend _ s hp
theorem weight_t : ∀ (N : Nat) (g : TImpl_Geom), gF g ≤ N → WfG g → ∀ F, gF g < F → ∀ a, ∃ n, p_Weight F g a = some n := by
 intro N
 induction N with
 | zero => intro g h hw; have := hw.tell.big.1; omega
 | succ N ih =>
  intro g h hw F hF a
  have W := hw.tell
  obtain ⟨G, rfl⟩ : ∃ G, F = G + 1 := ⟨F - 1, by omega⟩
  show ∃ n, p_Weight_b (fun a0 a1 => p_Weight G a0 a1) G g a = some n
  unfold p_Weight_b
  have h1 := tot_loop (L := g.Endss.length) (P := fun _ => True) (Post := fun o : Sum Int Int => ∃ v, o = .inl v) (fun s i => (s, i)) (p_Weight_l4 g) (fun K s _ => by
   unfold p_Weight_l4; dsimp only; rw [cond_f (decide_eq_false (by omega))]; exact ⟨_, rfl, _, rfl⟩) (fun K s i hi _ => by
   refine .inr ⟨IntKind.i64.wrap (s + IntKind.i64.wrap ((1 : Int) + ((g.Endss[i].length : Nat) : Int))), trivial, ?_⟩
   unfold p_Weight_l4; dsimp only
   rw [cond_t (decide_eq_true (by omega)), idx_get (List.getElem?_eq_getElem hi), Option.bind_some, need_pos (inM hi W.endss.1), succ_cast]) G 0
  obtain ⟨o, h2, v, rfl⟩ := h1 (IntKind.i64.wrap ((IntKind.i64.wrap ((1 : Int) + ((g.Flat.length : Nat) : Int))) + ((g.Ends.length : Nat) : Int))) (by have := W.big; omega) (by omega) trivial
  rw [show ((0 : Nat) : Int) = 0 from rfl] at h2
  rw [h2, Option.bind_some, aft_inl]
  unfold p_Weight_k1
  have h3 := tot_loop (L := g.Kids.length) (P := fun _ => True) (Post := fun o : Sum Int Int => ∃ v, o = .inl v ∨ o = .inr v) (fun s i => (s, i)) (p_Weight_l3 g a (fun a0 a1 => p_Weight G a0 a1)) (fun K s _ => by
   unfold p_Weight_l3; dsimp only; rw [cond_f (decide_eq_false (by omega))]; exact ⟨_, rfl, _, .inl rfl⟩) (fun K s i hi _ => by
   have hk := W.kid _ (List.getElem_mem hi)
   by_cases c : a < s
   ·refine .inl ⟨.inr s, ?_, s, .inr rfl⟩
    unfold p_Weight_l3; dsimp only
    rw [cond_t (decide_eq_true (by omega)), idx_get (List.getElem?_eq_getElem hi), Option.bind_some, cond_t (decide_eq_true c)]
   ·obtain ⟨n, hn⟩ := ih _ (by omega) hk.1 G (by omega) (IntKind.i64.wrap (a - s))
    refine .inr ⟨IntKind.i64.wrap (s + n), trivial, ?_⟩
    unfold p_Weight_l3; dsimp only
    rw [cond_t (decide_eq_true (by omega)), idx_get (List.getElem?_eq_getElem hi), Option.bind_some, cond_f (decide_eq_false c), hn, Option.bind_some, need_pos (inM hi W.kids), succ_cast]) G 0 v (by have := W.big; omega) (by omega) trivial
  obtain ⟨o, h4, u, h5⟩ := h3
  rw [show ((0 : Nat) : Int) = 0 from rfl] at h4
  rw [h4, Option.bind_some]
  rcases h5 with rfl | rfl
  ·exact ⟨_, rfl⟩
  ·exact ⟨_, rfl⟩
theorem layouts_t (a : Int) : ∀ (N : Nat) (g : TImpl_Geom), gF g ≤ N → WfG g → ∀ F, gF g < F → ∃ b, p_gLayouts F g a = some b := by
 intro N
 induction N with
 | zero => intro g h hw; have := hw.tell.big.1; omega
 | succ N ih =>
  intro g h hw F hF
  have W := hw.tell
  obtain ⟨G, rfl⟩ : ∃ G, F = G + 1 := ⟨F - 1, by omega⟩
  show ∃ n, p_gLayouts_b (fun a0 a1 => p_gLayouts G a0 a1) G g a = some n
  unfold p_gLayouts_b
  have h3 := tot_loop (L := g.Kids.length) (P := fun _ => True) (Post := fun o : Sum Unit Bool => True) (fun (s : Unit) i => i) (p_gLayouts_l2 g a (fun a0 a1 => p_gLayouts G a0 a1)) (fun K s _ => by
   unfold p_gLayouts_l2; dsimp only; rw [cond_f (decide_eq_false (by omega))]; exact ⟨_, rfl, trivial⟩) (fun K s i hi _ => by
   have hk := W.kid _ (List.getElem_mem hi)
   obtain ⟨b, hb⟩ := ih _ (by omega) hk.1 G (by omega)
   have e : p_gLayouts_l2 g a (fun a0 a1 => p_gLayouts G a0 a1) K (i : Int) = cond (!b) (some (Sum.inr false)) (K ((i + 1 : Nat) : Int)) := by
    unfold p_gLayouts_l2
    dsimp only
    rw [cond_t (decide_eq_true (by omega)), idx_get (List.getElem?_eq_getElem hi), Option.bind_some, hb, Option.bind_some, need_pos (inM hi W.kids), succ_cast]
   cases b with
   | false => exact .inl ⟨_, e, trivial⟩
   | true => exact .inr ⟨(), trivial, e⟩) G 0 () (by have := W.big; omega) (by omega) trivial
  obtain ⟨o, h4, -⟩ := h3
  rw [show ((0 : Nat) : Int) = 0 from rfl] at h4
  rw [h4, Option.bind_some]
  cases o with
  | inr r => exact ⟨_, rfl⟩
  | inl v =>
   rw [aft_inl]
   unfold p_gLayouts_k1
   cases decide (g.Layout ≤ a) <;> cases decide ((1 : Int) ≤ g.Layout) <;> cases decide (g.Kind = 7) <;> exact ⟨_, rfl⟩
theorem cover_t (a b : Int) : ∃ c, p_Cover a b = some c := by
 unfold p_Cover
 cases decide (a = 2) <;> cases decide (b = 3) <;> cases decide (a = 3) <;> cases decide (b = 2) <;> exact ⟨_, rfl⟩
theorem layoutOf_t : ∀ (N : Nat) (g : TImpl_Geom), gF g ≤ N → WfG g → ∀ F, gF g < F → ∃ b, p_LayoutOf F g = some b := by
 intro N
 induction N with
 | zero => intro g h hw; have := hw.tell.big.1; omega
 | succ N ih =>
  intro g h hw F hF
  have W := hw.tell
  obtain ⟨G, rfl⟩ : ∃ G, F = G + 1 := ⟨F - 1, by omega⟩
  show ∃ n, p_LayoutOf_b (fun a0 => p_LayoutOf G a0) G g = some n
  have key : ∀ c, ∃ n, p_LayoutOf_k1 g G (fun a0 => p_LayoutOf G a0) c = some n := fun c => by
   unfold p_LayoutOf_k1
   cases c with
   | true => exact ⟨_, rfl⟩
   | false =>
    rw [cond_f rfl]
    have h3 := tot_loop (L := g.Kids.length) (P := fun _ => True) (Post := fun o : Sum Int Int => ∃ v, o = .inl v) (fun s i => (s, i)) (p_LayoutOf_l3 g (fun a0 => p_LayoutOf G a0)) (fun K s _ => by
     unfold p_LayoutOf_l3; dsimp only; rw [cond_f (decide_eq_false (by omega))]; exact ⟨_, rfl, _, rfl⟩) (fun K s i hi _ => by
     have hk := W.kid _ (List.getElem_mem hi)
     obtain ⟨n, hn⟩ := ih _ (by omega) hk.1 G (by omega)
     obtain ⟨m, hm⟩ := cover_t s n
     refine .inr ⟨m, trivial, ?_⟩
     unfold p_LayoutOf_l3; dsimp only
     rw [cond_t (decide_eq_true (by omega)), idx_get (List.getElem?_eq_getElem hi), Option.bind_some, hn, Option.bind_some, hm, Option.bind_some, need_pos (inM hi W.kids), succ_cast]) G 0 g.Layout (by have := W.big; omega) (by omega) trivial
    obtain ⟨o, h4, u, rfl⟩ := h3
    rw [show ((0 : Nat) : Int) = 0 from rfl] at h4
    rw [h4, Option.bind_some]
    exact ⟨_, rfl⟩
  unfold p_LayoutOf_b
  cases (!decide (g.Kind = (7 : Int))) with
  | true => rw [cond_t rfl]; exact key _
  | false => rw [cond_f rfl]; exact key _
theorem goodEnds_t {l : List Int} (h1 : l.length ≤ maxLen) (h2 : ∀ x ∈ l, lo .i64 ≤ x ∧ x ≤ hi .i64) {F : Nat} (hF : l.length < F) {a s : Int} (ha : 0 ≤ a) (hs : s ≠ 0) (hhi : a ≤ hi .i64) (c : Bool) :
  ∃ n b, p_goodEnds F l a s c = some (n, b) ∧ 0 ≤ n ∧ n ≤ hi .i64 := by
 unfold p_goodEnds
 have h3 := tot_loop (L := l.length) (P := fun x : Int => 0 ≤ x ∧ x ≤ hi .i64) (Post := fun o : Sum Int (Int × Bool) => ∃ v, 0 ≤ v ∧ v ≤ hi .i64 ∧ (o = .inl v ∨ ∃ b, o = .inr (v, b))) (fun s i => (s, i)) (p_goodEnds_l2 l s c) (fun K v hv => by
  unfold p_goodEnds_l2; dsimp only; rw [cond_f (decide_eq_false (by omega))]; exact ⟨_, rfl, v, hv.1, hv.2, .inl rfl⟩) (fun K v i hi hv => by
  have hx := h2 _ (List.getElem_mem hi)
  obtain ⟨x, hxe⟩ : ∃ x, x = l[i] := ⟨_, rfl⟩
  rw [← hxe] at hx
  have step : ∀ b, (∃ o, p_goodEnds_k3 (v, (i : Int)) K x b = some o ∧ ∃ v, 0 ≤ v ∧ v ≤ Vm.hi .i64 ∧ (o = .inl v ∨ ∃ b, o = .inr (v, b))) ∨ (b = false ∧ p_goodEnds_k3 (v, (i : Int)) K x b = K (x, ((i + 1 : Nat) : Int))) := fun b => by
   unfold p_goodEnds_k3; dsimp only
   cases b with
   | true => exact .inl ⟨_, rfl, v, hv.1, hv.2, .inr ⟨_, rfl⟩⟩
   | false => rw [cond_f rfl, need_pos (inM hi h1), succ_cast]; exact .inr ⟨rfl, rfl⟩
  have go : ∀ b, (b = false → v ≤ x) → p_goodEnds_l2 l s c K (v, (i : Int)) = p_goodEnds_k3 (v, (i : Int)) K x b → (∃ o, p_goodEnds_l2 l s c K (v, (i : Int)) = some o ∧ ∃ v, 0 ≤ v ∧ v ≤ Vm.hi .i64 ∧ (o = .inl v ∨ ∃ b, o = .inr (v, b))) ∨
    ∃ s', (0 ≤ s' ∧ s' ≤ Vm.hi .i64) ∧ p_goodEnds_l2 l s c K (v, (i : Int)) = K (s', ((i + 1 : Nat) : Int)) := fun b hb e => by
   rcases step b with ⟨o, h4, h5⟩ | ⟨h4, h5⟩
   ·exact .inl ⟨o, e.trans h4, h5⟩
   ·exact .inr ⟨x, ⟨by have := hb h4; omega, hx.2⟩, e.trans h5⟩
  by_cases c1 : x < v
  ·refine go true (fun h => by cases h) ?_
   unfold p_goodEnds_l2; dsimp only
   rw [cond_t (decide_eq_true (by omega)), idx_get (List.getElem?_eq_getElem hi), Option.bind_some, ← hxe, cond_t (decide_eq_true c1)]
  ·have hin : inI .i64 (x - v) := in64 (by omega) (by have := hx.2; simp only [Vm.hi] at this; omega)
   by_cases c2 : Int.tmod (x - v) s = 0
   ·cases c with
    | false =>
     refine go false (fun _ => by omega) ?_
     unfold p_goodEnds_l2; dsimp only
     rw [cond_t (decide_eq_true (by omega)), idx_get (List.getElem?_eq_getElem hi), Option.bind_some, ← hxe, cond_f (decide_eq_false c1), need_pos hin, need_pos hs, cond_f (nF c2), cond_f rfl]
    | true =>
     refine go (decide (s < x - v)) (fun _ => by omega) ?_
     unfold p_goodEnds_l2; dsimp only
     rw [cond_t (decide_eq_true (by omega)), idx_get (List.getElem?_eq_getElem hi), Option.bind_some, ← hxe, cond_f (decide_eq_false c1), need_pos hin, need_pos hs, cond_f (nF c2), cond_t rfl, need_pos hin]
   ·refine go true (fun h => by cases h) ?_
    unfold p_goodEnds_l2; dsimp only
    rw [cond_t (decide_eq_true (by omega)), idx_get (List.getElem?_eq_getElem hi), Option.bind_some, ← hxe, cond_f (decide_eq_false c1), need_pos hin, need_pos hs, cond_t (nT c2)]) F 0 a (by omega) (by omega) ⟨ha, hhi⟩
 obtain ⟨o, h4, v, h5, h6, h7⟩ := h3
 rw [show ((0 : Nat) : Int) = 0 from rfl] at h4
 rw [h4, Option.bind_some]
 rcases h7 with rfl | ⟨b, rfl⟩
 ·exact ⟨v, true, rfl, h5, h6⟩
 ·exact ⟨v, b, rfl, h5, h6⟩
theorem stride_t (a : Int) : ∃ s : Nat, p_Stride a = some (s : Int) ∧ (s ≠ 0 → 1 ≤ a ∧ 2 ≤ s ∧ p_Layout_Stride a = some (s : Int) ∧ (a ≤ 9 → s ≤ 9) ∧ (5 ≤ a → a = s)) ∧ (s = 0 → a ≤ 0) := by
 unfold p_Stride p_Layout_Stride
 by_cases c : a < 1
 ·exact ⟨0, by rw [cond_t (decide_eq_true c)]; rfl, fun h => absurd rfl h, fun _ => by omega⟩
 ·rw [cond_f (decide_eq_false c), cond_f (b := decide (a = 0)) (decide_eq_false (by omega))]
  by_cases c1 : a = 1
  ·subst c1; exact ⟨2, rfl, fun _ => ⟨by omega, by omega, rfl, by omega, by omega⟩, by omega⟩
  rw [cond_f (decide_eq_false c1)]
  by_cases c2 : a = 2
  ·subst c2; exact ⟨3, rfl, fun _ => ⟨by omega, by omega, rfl, by omega, by omega⟩, by omega⟩
  rw [cond_f (decide_eq_false c2)]
  by_cases c3 : a = 3
  ·subst c3; exact ⟨3, rfl, fun _ => ⟨by omega, by omega, rfl, by omega, by omega⟩, by omega⟩
  rw [cond_f (decide_eq_false c3), cond_f (decide_eq_false c1), cond_f (decide_eq_false c2), cond_f (decide_eq_false c3)]
  refine ⟨a.toNat, by rw [show ((a.toNat : Nat) : Int) = a by omega], fun _ => ⟨by omega, by omega, ?_, by omega, by omega⟩, by omega⟩
  rw [show ((a.toNat : Nat) : Int) = a by omega]
  by_cases c4 : a = 4
  ·rw [cond_t (decide_eq_true c4), c4]
  ·rw [cond_f (decide_eq_false c4)]
end Go.Proofs.Ytbgdonedjgkhiaa.Wk

namespace Go.Proofs.Ytbgdonedjgkhiaa.Wk
open Go.Vm
set_option linter.unusedVariables false
set_option linter.unusedSimpArgs false
theorem good_k4_t {g : TImpl_Geom} (W : Wf g) {F : Nat} (hF : gF g ≤ F) {s : Int} (hs : s ≠ 0) : ∃ b, p_Good_k4 g F s () = some b := by
 have k6 : ∀ c, ∃ b, p_Good_k6 g F s c = some b := fun c => by
  unfold p_Good_k6
  cases c with
  | true =>
   rw [cond_t rfl]
   obtain ⟨n, b, h, _⟩ := goodEnds_t W.ends.1 W.ends.2 (F := F) (by have := W.big; omega) (a := 0) (s := s) (by omega) hs (by simp only [Vm.hi]; omega) (decide (g.Kind = 4))
   rw [h, Option.bind_some]
   cases b with
   | true => exact ⟨_, rfl⟩
   | false => exact ⟨_, rfl⟩
  | false =>
   rw [cond_f rfl]
   cases decide (g.Kind = (6 : Int)) with
   | false => exact ⟨_, rfl⟩
   | true =>
    rw [cond_t rfl]
    have h3 := tot_loop (L := g.Endss.length) (P := fun x : Int × Bool => 0 ≤ x.1 ∧ x.1 ≤ hi .i64) (Post := fun o : Sum (Int × Bool) Bool => ∃ v, o = .inl v) (fun x i => (x.1, x.2, i)) (p_Good_l8 g F s) (fun K x hx => by
     unfold p_Good_l8; dsimp only; rw [cond_f (decide_eq_false (by omega))]; exact ⟨_, rfl, _, rfl⟩) (fun K x i hi hx => by
     have hm := List.getElem_mem hi
     obtain ⟨n, b, h, h1, h2⟩ := goodEnds_t (W.endss.2 _ hm).1 (W.endss.2 _ hm).2 (F := F) (by have := W.big.2.2.2.2 _ hm; omega) (a := x.1) (s := s) hx.1 hs hx.2 false
     refine .inr ⟨(n, x.2 && b), ⟨h1, h2⟩, ?_⟩
     unfold p_Good_l8; dsimp only
     rw [cond_t (decide_eq_true (by omega)), idx_get (List.getElem?_eq_getElem hi), Option.bind_some, h, Option.bind_some]
     cases x.2 with
     | true => rw [cond_t rfl, need_pos (inM hi W.endss.1), succ_cast]; rfl
     | false => rw [cond_f rfl, need_pos (inM hi W.endss.1), succ_cast]; rfl) F 0 ((0 : Int), true) (by have := W.big; omega) (by omega) ⟨by omega, by simp only [Vm.hi]; omega⟩
    obtain ⟨o, h4, v, rfl⟩ := h3
    have h5 : iter (p_Good_l8 g F s) F ((0 : Int), true, (0 : Int)) = some (.inl v) := h4
    rw [h5, Option.bind_some, aft_inl]
    unfold p_Good_k7
    cases v.2 <;> cases decide (v.1 = ((g.Flat.length : Nat) : Int)) <;> exact ⟨_, rfl⟩
 have k5 : ∀ c, ∃ b, p_Good_k5 g F s c = some b := fun c => by
  unfold p_Good_k5
  cases c with
  | true => exact ⟨_, rfl⟩
  | false =>
   rw [cond_f rfl]
   by_cases c1 : g.Kind = 3
   ·rw [cond_t (decide_eq_true c1)]; exact k6 _
   ·rw [cond_f (decide_eq_false c1)]
    by_cases c2 : g.Kind = 4
    ·rw [cond_t (decide_eq_true c2)]; exact k6 _
    ·rw [cond_f (decide_eq_false c2)]; exact k6 _
 unfold p_Good_k4
 by_cases c1 : g.Kind = 1
 ·rw [cond_t (decide_eq_true c1)]
  cases decide (((g.Ends.length : Nat) : Int) = 0) <;> exact ⟨_, rfl⟩
 ·rw [cond_f (decide_eq_false c1)]
  by_cases c2 : g.Kind = 2
  ·rw [cond_t (decide_eq_true c2)]; exact k5 _
  ·rw [cond_f (decide_eq_false c2)]; exact k5 _
/-- What is known of good data that are no collection. -/
structure GoodG (F : Nat) (g : TImpl_Geom) (s : Nat) : Prop where
 s2 : 2 ≤ s
 lay : 1 ≤ g.Layout
 str : p_Stride g.Layout = some (s : Int)
 str' : p_Layout_Stride g.Layout = some (s : Int)
 s9 : g.Layout ≤ 9 → s ≤ 9
 s5 : 5 ≤ g.Layout → g.Layout = s
 dvd : g.Flat.length % s = 0
 kids : g.Kids = []
 endss : g.Kind ≠ 6 → g.Endss = []
 k4 : p_Good_k4 g F s () = some true
theorem good_b {g : TImpl_Geom} (W : Wf g) {F : Nat} (hF : gF g ≤ F) (R : TImpl_Geom → Option Bool) (h7 : g.Kind ≠ 7) : ∃ b, p_Good_b R F g = some b ∧ (b = true → ∃ s, GoodG F g s) := by
 obtain ⟨s, hs, h1, h2⟩ := stride_t g.Layout
 unfold p_Good_b
 rw [hs, Option.bind_some, cond_f (decide_eq_false h7)]
 by_cases c0 : s = 0
 ·rw [cond_t (decide_eq_true (by omega))]; exact ⟨_, rfl, fun h => by cases h⟩
 rw [cond_f (decide_eq_false (by omega)), need_pos (by omega)]
 obtain ⟨b1, b2, b3, b4, b5⟩ := h1 c0
 by_cases c1 : Int.tmod ((g.Flat.length : Nat) : Int) (s : Int) = 0
 ·rw [cond_f (nF c1)]
  by_cases c2 : (0 : Int) < ((g.Kids.length : Nat) : Int)
  ·rw [cond_t (decide_eq_true c2)]; exact ⟨_, rfl, fun h => by cases h⟩
  rw [cond_f (decide_eq_false c2)]
  obtain ⟨b, hb⟩ := good_k4_t W hF (s := (s : Int)) (by omega)
  have hd : g.Flat.length % s = 0 := by
   have : Int.tmod ((g.Flat.length : Nat) : Int) (s : Int) = ((g.Flat.length % s : Nat) : Int) := by
    rw [Int.tmod_eq_emod_of_nonneg (by omega)]; rfl
   omega
  have hkids : g.Kids = [] := List.length_eq_zero_iff.1 (by omega)
  by_cases c3 : (0 : Int) < ((g.Endss.length : Nat) : Int)
  ·rw [cond_t (decide_eq_true c3)]
   by_cases c4 : g.Kind = 6
   ·rw [cond_f (nF c4), hb]
    exact ⟨b, rfl, fun h => ⟨s, b2, b1, hs, b3, b4, b5, hd, hkids, fun h => absurd c4 h, by rw [hb, h]⟩⟩
   ·rw [cond_t (nT c4)]; exact ⟨_, rfl, fun h => by cases h⟩
  ·rw [cond_f (decide_eq_false c3), hb]
   exact ⟨b, rfl, fun h => ⟨s, b2, b1, hs, b3, b4, b5, hd, hkids, fun _ => List.length_eq_zero_iff.1 (by omega), by rw [hb, h]⟩⟩
 ·rw [cond_t (nT c1)]; exact ⟨_, rfl, fun h => by cases h⟩
theorem good_t : ∀ (N : Nat) (g : TImpl_Geom), gF g ≤ N → WfG g → ∀ F, gF g < F → ∃ b, p_Good F g = some b ∧ (b = true → g.Kind ≠ 7 → ∃ s, GoodG (F - 1) g s) := by
 intro N
 induction N with
 | zero => intro g h hw; have := hw.tell.big.1; omega
 | succ N ih =>
  intro g h hw F hF
  have W := hw.tell
  obtain ⟨G, rfl⟩ : ∃ G, F = G + 1 := ⟨F - 1, by omega⟩
  show ∃ b, p_Good_b (fun a0 => p_Good G a0) G g = some b ∧ (b = true → g.Kind ≠ 7 → ∃ s, GoodG G g s)
  by_cases c7 : g.Kind = 7
  ·obtain ⟨s, hs, -, -⟩ := stride_t g.Layout
   unfold p_Good_b
   rw [hs, Option.bind_some, cond_t (decide_eq_true c7)]
   have h3 := tot_loop (L := g.Kids.length) (P := fun _ => True) (Post := fun o : Sum Unit Bool => True) (fun (s : Unit) i => i) (p_Good_l3 g G (fun a0 => p_Good G a0)) (fun K s _ => by
    unfold p_Good_l3; dsimp only; rw [cond_f (decide_eq_false (by omega))]; exact ⟨_, rfl, trivial⟩) (fun K s i hi _ => by
    have hk := W.kid _ (List.getElem_mem hi)
    obtain ⟨b, hb, -⟩ := ih _ (by omega) hk.1 G (by omega)
    obtain ⟨n, hn⟩ := layoutOf_t _ _ (Nat.le_refl _) hk.1 G (by omega)
    by_cases cc : b = true ∧ (g.Layout ≠ 0 → n = g.Layout)
    ·refine .inr ⟨(), trivial, ?_⟩
     unfold p_Good_l3; dsimp only
     rw [cond_t (decide_eq_true (by omega)), idx_get (List.getElem?_eq_getElem hi), Option.bind_some, hb, Option.bind_some, cc.1, cond_f (rfl : (!true) = false), need_pos (inM hi W.kids), succ_cast]
     by_cases c0 : g.Layout = 0
     ·rw [cond_f (nF c0)]
     ·rw [cond_t (nT c0), hn, Option.bind_some, cond_f (nF (cc.2 c0))]
    ·refine .inl ⟨.inr false, ?_, trivial⟩
     unfold p_Good_l3; dsimp only
     rw [cond_t (decide_eq_true (by omega)), idx_get (List.getElem?_eq_getElem hi), Option.bind_some, hb, Option.bind_some]
     cases b with
     | false => rw [cond_t (rfl : (!false) = true)]
     | true =>
      rw [cond_f (rfl : (!true) = false), need_pos (inM hi W.kids)]
      have c0 : g.Layout ≠ 0 := fun h => cc ⟨rfl, fun h2 => absurd h h2⟩
      rw [cond_t (nT c0), hn, Option.bind_some, cond_t (nT fun h => cc ⟨rfl, fun _ => h⟩)]) G 0 () (by have := W.big; omega) (by omega) trivial
   obtain ⟨o, h4, -⟩ := h3
   rw [show ((0 : Nat) : Int) = 0 from rfl] at h4
   rw [h4, Option.bind_some]
   cases o with
   | inr r => exact ⟨_, rfl, fun _ h => absurd c7 h⟩
   | inl v =>
    rw [aft_inl]
    unfold p_Good_k1 p_Good_k2
    cases decide ((0 : Int) ≤ g.Layout) <;> exact ⟨_, rfl, fun _ h => absurd c7 h⟩
  ·obtain ⟨b, hb, h1⟩ := good_b W (show gF g ≤ G by omega) (fun a0 => p_Good G a0) c7
   exact ⟨b, hb, fun h _ => h1 h⟩
theorem iter_one {S ρ : Type} (b : (S → Option ρ) → S → Option ρ) (n : Nat) (s : S) : iter b (n + 1) s = b (iter b n) s := rfl
/-- The test of one geometry. -/
theorem gGood_p {g : TImpl_Geom} (hw : WfG g) {F : Nat} (hF : gF g + 10 ≤ F) : ∃ b, p_gGood F [g] = some b ∧ (b = true → (g.Kind ≠ 7 → ∃ s, GoodG (F - 1) g s) ∧ p_gLayouts F g 9 = some true ∧ ∃ n, p_Weight F g 2000 = some n ∧ ¬ IntKind.i64.wrap (2000 - n) < 0) := by
 obtain ⟨G, rfl⟩ : ∃ G, F = G + 2 := ⟨F - 2, by omega⟩
 have hlen : (([g] : List TImpl_Geom).length : Int) = 1 := rfl
 have hi0 : idx [g] (0 : Int) = some g := rfl
 obtain ⟨n, hn⟩ := weight_t _ g (Nat.le_refl _) hw (G + 2) (by omega) 2000
 obtain ⟨c, hc⟩ := layouts_t 9 _ g (Nat.le_refl _) hw (G + 2) (by omega)
 obtain ⟨b, hb, hb2⟩ := good_t _ g (Nat.le_refl _) hw (G + 2) (by omega)
 have small : p_gSmall (G + 2) [g] = some (!decide (IntKind.i64.wrap (2000 - n) < 0) && c) := by
  unfold p_gSmall
  rw [iter_one]
  obtain ⟨K, hK⟩ : ∃ K, K = iter (p_gSmall_l2 [g] (G + 2)) (G + 1) := ⟨_, rfl⟩
  rw [← hK]
  unfold p_gSmall_l2
  dsimp only
  rw [hlen, cond_t (decide_eq_true (by omega)), hi0, Option.bind_some, hn, Option.bind_some]
  by_cases c1 : IntKind.i64.wrap (2000 - n) < 0
  ·rw [cond_t (decide_eq_true c1), decide_eq_true c1]; rfl
  ·rw [cond_f (decide_eq_false c1), decide_eq_false c1, hc, Option.bind_some]
   cases c with
   | false => rfl
   | true =>
    rw [cond_f (rfl : (!true) = false), need_pos (in64 (by omega) (by omega)), hK, iter_one]
    unfold p_gSmall_l2
    dsimp only
    rw [hlen, cond_f (decide_eq_false (by omega)), Option.bind_some, aft_inl]
    rfl
 unfold p_gGood
 rw [small, Option.bind_some]
 cases hsm : (!decide (IntKind.i64.wrap (2000 - n) < 0) && c) with
 | false => exact ⟨false, rfl, fun h => by cases h⟩
 | true =>
  rw [cond_f (rfl : (!true) = false)]
  rw [Bool.and_eq_true] at hsm
  have e : iter (p_gGood_l2 [g] (G + 2)) (G + 2) (0 : Int) = some (if b = true then .inl () else .inr false) := by
   rw [iter_one]
   obtain ⟨K, hK⟩ : ∃ K, K = iter (p_gGood_l2 [g] (G + 2)) (G + 1) := ⟨_, rfl⟩
   rw [← hK]
   unfold p_gGood_l2
   rw [hlen, cond_t (decide_eq_true (by omega)), hi0, Option.bind_some, hb, Option.bind_some]
   cases b with
   | false => rfl
   | true =>
    rw [cond_f (rfl : (!true) = false), need_pos (in64 (by omega) (by omega)), hK, iter_one]
    unfold p_gGood_l2
    rw [hlen, cond_f (decide_eq_false (by omega))]
    rfl
  rw [e, Option.bind_some]
  cases b with
  | false => exact ⟨false, rfl, fun h => by cases h⟩
  | true =>
   exact ⟨true, rfl, fun _ => ⟨fun h => hb2 rfl h, by rw [hc, hsm.2], n, hn, by simpa using hsm.1⟩⟩
/-- The test of sizes. -/
theorem zzFits2_p {g : TImpl_Geom} {F : Nat} (hF : gF g < F) (hw : WfG g) : ∃ b, p_zzFits2 F g = some b ∧ (b = true → g.Flat.length ≤ 2147483647 ∧ g.Ends.length ≤ 2147483647 ∧ g.Endss.length ≤ 2147483647 ∧ g.Kids.length ≤ 2147483647 ∧ ∀ l ∈ g.Endss, l.length ≤ 2147483647) := by
 have W := hw.tell
 unfold p_zzFits2
 by_cases c1 : (2147483647 : Int) < ((g.Flat.length : Nat) : Int)
 ·rw [cond_t (decide_eq_true c1)]; exact ⟨_, rfl, fun h => by cases h⟩
 rw [cond_f (decide_eq_false c1)]
 by_cases c2 : (2147483647 : Int) < ((g.Ends.length : Nat) : Int)
 ·rw [cond_t (decide_eq_true c2)]; exact ⟨_, rfl, fun h => by cases h⟩
 rw [cond_f (decide_eq_false c2)]
 have h3 : ∃ b, p_zzFits3 F g.Endss = some b ∧ (b = true → g.Endss.length ≤ 2147483647 ∧ ∀ l ∈ g.Endss, l.length ≤ 2147483647) := by
  unfold p_zzFits3
  by_cases c3 : (2147483647 : Int) < ((g.Endss.length : Nat) : Int)
  ·rw [cond_t (decide_eq_true c3)]; exact ⟨_, rfl, fun h => by cases h⟩
  rw [cond_f (decide_eq_false c3)]
  have h4 := scan_loop0 g.Endss (p_zzFits3_l2 g.Endss) (fun l => decide (l.length ≤ 2147483647)) false (fun K k hk => by
   unfold p_zzFits3_l2; rw [cond_f (decide_eq_false (by omega))]) (fun K k x hx => by
   have hk := (List.getElem?_eq_some_iff.1 hx).1
   unfold p_zzFits3_l2
   rw [cond_t (decide_eq_true (by omega)), idx_get hx, Option.bind_some]
   by_cases c4 : x.length ≤ 2147483647
   ·rw [cond_f (decide_eq_false (by omega)), need_pos (in64 (by omega) (by omega)), if_pos (decide_eq_true c4), succ_cast]
   ·rw [cond_t (decide_eq_true (by omega)), if_neg (by simpa using c4)]) (F := F) (by have := W.big; omega)
  rw [h4, Option.bind_some]
  by_cases c5 : (g.Endss.all fun l => decide (l.length ≤ 2147483647)) = true
  ·rw [if_pos c5, aft_inl]
   exact ⟨true, rfl, fun _ => ⟨by omega, fun l hl => of_decide_eq_true (List.all_eq_true.1 c5 l hl)⟩⟩
  ·rw [if_neg c5, aft_inr]; exact ⟨_, rfl, fun h => by cases h⟩
 obtain ⟨b, hb, h5⟩ := h3
 rw [hb, Option.bind_some]
 cases b with
 | false => exact ⟨_, rfl, fun h => by cases h⟩
 | true =>
  rw [cond_f (rfl : (!true) = false)]
  by_cases c6 : (2147483647 : Int) < ((g.Kids.length : Nat) : Int)
  ·rw [cond_t (decide_eq_true c6)]; exact ⟨_, rfl, fun h => by cases h⟩
  rw [cond_f (decide_eq_false c6)]
  exact ⟨_, rfl, fun _ => ⟨by omega, by omega, (h5 rfl).1, by omega, (h5 rfl).2⟩⟩
end Go.Proofs.Ytbgdonedjgkhiaa.Wk

namespace Go.Proofs.Ytbgdonedjgkhiaa.Wk
open Go.Vm
set_option linter.unusedVariables false
set_option linter.unusedSimpArgs false
theorem layouts_of {g : TImpl_Geom} (hk : g.Kids = []) (h7 : g.Kind ≠ 7) {F : Nat} (h : p_gLayouts (F + 2) g 9 = some true) : g.Layout ≤ 9 := by
 have h' : p_gLayouts_b (fun a0 a1 => p_gLayouts (F + 1) a0 a1) (F + 1) g 9 = some true := h
 unfold p_gLayouts_b at h'
 rw [iter_one] at h'
 have e2 : ∀ R K, p_gLayouts_l2 g 9 R K (0 : Int) = some (.inl ()) := fun R K => by unfold p_gLayouts_l2; rw [hk, cond_f (by rfl)]
 rw [e2, Option.bind_some, aft_inl] at h'
 unfold p_gLayouts_k1 at h'
 by_cases c : g.Layout ≤ 9
 ·exact c
 ·rw [cond_f (decide_eq_false c)] at h'; cases h'
/-- Small good data of a kind that has no lists of ends. -/
structure Small (F : Nat) (g : TImpl_Geom) (s : Nat) : Prop extends GoodG F g s where
 lay9 : g.Layout ≤ 9
 few : g.Flat.length + g.Ends.length ≤ 1999
 nil : g.Endss = []
end Go.Proofs.Ytbgdonedjgkhiaa.Wk

namespace Go.Proofs.Ytbgdonedjgkhiaa.Wk
open Go.Vm
set_option linter.unusedVariables false
set_option linter.unusedSimpArgs false
/-- Ends that ascend by whole places, to q. -/
def EndsG (s : Int) (q : Int) : Int → List Int → Prop
 | p, [] => p = q
 | p, e :: r => p ≤ e ∧ Int.tmod (e - p) s = 0 ∧ EndsG s q e r
theorem EndsG.app {s q : Int} : ∀ {a b : List Int} {p m : Int}, EndsG s m p a → EndsG s q m b → EndsG s q p (a ++ b)
 | [], b, p, m, h, k => by
  have : p = m := h
  subst this; exact k
 | x :: a, b, p, m, h, k => ⟨h.1, h.2.1, EndsG.app h.2.2 k⟩
theorem goodEnds_loop {s : Int} (hs : 2 ≤ s) {l : List Int} {c : Bool} (hl : ∀ x ∈ l, inI .i64 x) (hll : l.length < 4611686018427387904) : ∀ (F i : Nat) (p : Int), l.length - i < F → i ≤ l.length → 0 ≤ p →
  ∃ o, iter (p_goodEnds_l2 l s c) F (p, (i : Int)) = some o ∧ ((∃ q, o = .inl q ∧ 0 ≤ q ∧ EndsG s q p (l.drop i)) ∨ ∃ q, o = .inr (q, false) ∧ 0 ≤ q) := by
 intro F
 induction F with
 | zero => intro i p h; omega
 | succ F ih =>
  intro i p h hi h0
  show ∃ o, p_goodEnds_l2 l s c (iter (p_goodEnds_l2 l s c) F) _ = _ ∧ _
  generalize hK : iter (p_goodEnds_l2 l s c) F = K at *
  unfold p_goodEnds_l2
  simp only
  by_cases hil : i < l.length
  ·obtain ⟨x, hx⟩ : ∃ x, l[i]? = some x := ⟨_, List.getElem?_eq_getElem hil⟩
   have hxi := hl x (List.mem_of_getElem? hx)
   have hd : l.drop i = x :: l.drop (i + 1) := by
    rw [List.drop_eq_getElem_cons hil]
    rw [List.getElem?_eq_getElem hil] at hx
    rw [Option.some.inj hx]
   rw [cond_t (decide_eq_true (by omega)), idx_get hx, Option.bind_some, hd]
   by_cases hxp : x < p
   ·rw [cond_t (decide_eq_true hxp)]
    exact ⟨_, rfl, .inr ⟨_, rfl, h0⟩⟩
   ·have hin : inI .i64 (x - p) := ⟨by simp only [lo]; omega, by have := hxi.2; simp only [Go.Vm.hi] at *; omega⟩
    rw [cond_f (decide_eq_false hxp), need_pos hin, need_pos (by omega)]
    by_cases ht : Int.tmod (x - p) s = 0
    ·have next : ∃ o, p_goodEnds_k3 (p, (i : Int)) K x false = some o ∧ ((∃ q, o = .inl q ∧ 0 ≤ q ∧ EndsG s q p (x :: l.drop (i + 1))) ∨ ∃ q, o = .inr (q, false) ∧ 0 ≤ q) := by
      unfold p_goodEnds_k3
      rw [cond_f rfl, succ_cast, need_pos (in64 (by omega) (by omega))]
      obtain ⟨o, h1, h2⟩ := ih (i + 1) x (by omega) (by omega) (by omega)
      refine ⟨o, h1, ?_⟩
      rcases h2 with ⟨q, e, q0, hq⟩ | h2
      ·exact .inl ⟨q, e, q0, by omega, ht, hq⟩
      ·exact .inr h2
     rw [cond_f (nF ht)]
     cases c with
     | false => rw [cond_f rfl]; exact next
     | true =>
      rw [cond_t rfl, need_pos hin]
      by_cases hlt : s < x - p
      ·rw [decide_eq_true hlt]
       exact ⟨_, rfl, .inr ⟨_, rfl, h0⟩⟩
      ·rw [decide_eq_false hlt]; exact next
    ·rw [cond_t (nT ht)]
     exact ⟨_, rfl, .inr ⟨_, rfl, h0⟩⟩
  ·rw [cond_f (decide_eq_false (by omega)), List.drop_eq_nil_of_le (by omega)]
   exact ⟨_, rfl, .inl ⟨p, rfl, h0, rfl⟩⟩
theorem goodEnds_p {s : Int} (hs : 2 ≤ s) {l : List Int} {c : Bool} (hl : ∀ x ∈ l, inI .i64 x) (hll : l.length < 4611686018427387904) {F : Nat} (hF : l.length < F) {p : Int} (h0 : 0 ≤ p) :
  ∃ q b, p_goodEnds F l p s c = some (q, b) ∧ 0 ≤ q ∧ (b = true → EndsG s q p l) := by
 obtain ⟨o, h1, h2⟩ := goodEnds_loop hs (c := c) hl hll F 0 p (by omega) (by omega) h0
 have h1' : iter (p_goodEnds_l2 l s c) F (p, (0 : Int)) = some o := h1
 unfold p_goodEnds
 rw [h1', Option.bind_some]
 rcases h2 with ⟨q, rfl, q0, hq⟩ | ⟨q, rfl, q0⟩
 ·exact ⟨q, true, rfl, q0, fun _ => by simpa using hq⟩
 ·exact ⟨q, false, rfl, q0, fun h => by cases h⟩
/-- ends, of numbers of places -/
def endsR (t : Nat) : Nat → List Nat → List Int
 | _, [] => []
 | a, n :: r => ((a + n * t : Nat) : Int) :: endsR t (a + n * t) r
def lastR (t : Nat) : Nat → List Nat → Nat
 | a, [] => a
 | a, n :: r => lastR t (a + n * t) r
theorem lastR_le {t : Nat} : ∀ (ns : List Nat) (a : Nat), a ≤ lastR t a ns
 | [], a => Nat.le_refl _
 | n :: r, a => Nat.le_trans (Nat.le_add_right _ _) (lastR_le r (a + n * t))
theorem endsR_len {t : Nat} : ∀ (ns : List Nat) (a : Nat), (endsR t a ns).length = ns.length
 | [], a => rfl
 | n :: r, a => by simp [endsR, endsR_len r]
theorem EndsG.natR {t : Nat} (ht : 2 ≤ t) {q : Int} : ∀ (e : List Int) (a : Nat), EndsG (t : Int) q (a : Int) e → ∃ ns, e = endsR t a ns ∧ q = (lastR t a ns : Int)
 | [], a, h => ⟨[], rfl, h.symm⟩
 | x :: r, a, h => by
  obtain ⟨h1, h2, h3⟩ := h
  obtain ⟨k, hk⟩ : ∃ k : Nat, x - a = k := ⟨(x - a).toNat, by omega⟩
  rw [hk] at h2
  have h4 : k % t = 0 := by
   have : ((k % t : Nat) : Int) = 0 := by rw [← h2]; rfl
   omega
  obtain ⟨n, rfl⟩ : ∃ n, k = n * t := ⟨k / t, by rw [Nat.div_mul_cancel (Nat.dvd_of_mod_eq_zero h4)]⟩
  have hx : x = ((a + n * t : Nat) : Int) := by omega
  subst hx
  obtain ⟨ns, e1, e2⟩ := EndsG.natR ht r _ h3
  exact ⟨n :: ns, by rw [e1]; rfl, e2⟩
/-- lists of ends -/
def endsRR (t : Nat) : Nat → List (List Nat) → List (List Int)
 | _, [] => []
 | a, ns :: r => endsR t a ns :: endsRR t (lastR t a ns) r
theorem endsR_split {t : Nat} : ∀ (x y : List Int) (ns : List Nat) (a : Nat), x ++ y = endsR t a ns → ∃ m r, x = endsR t a m ∧ y = endsR t (lastR t a m) r ∧ ns = m ++ r
 | [], y, ns, a, h => ⟨[], ns, rfl, h, rfl⟩
 | z :: x, y, [], a, h => by cases h
 | z :: x, y, n :: ns, a, h => by
  simp only [List.cons_append, endsR, List.cons.injEq] at h
  obtain ⟨m, r, h1, h2, h3⟩ := endsR_split x y ns _ h.2
  exact ⟨n :: m, r, by rw [h.1, h1]; rfl, h2, by rw [h3]; rfl⟩
theorem endsRR_of {t : Nat} : ∀ (e : List (List Int)) (ns : List Nat) (a : Nat), e.flatten = endsR t a ns → ∃ nss, e = endsRR t a nss ∧ ns = nss.flatten
 | [], ns, a, h => by
  cases ns with
  | nil => exact ⟨[], rfl, rfl⟩
  | cons n r => simp [endsR] at h
 | x :: e, ns, a, h => by
  rw [List.flatten_cons] at h
  obtain ⟨m, r, h1, h2, h3⟩ := endsR_split x e.flatten ns a h
  obtain ⟨nss, h4, h5⟩ := endsRR_of e r _ h2
  exact ⟨m :: nss, by rw [h1, h4]; rfl, by rw [h3, h5]; rfl⟩
theorem lastR_app {t : Nat} : ∀ (x y : List Nat) (a : Nat), lastR t a (x ++ y) = lastR t (lastR t a x) y
 | [], y, a => rfl
 | n :: x, y, a => lastR_app x y _
/-! ### rows -/
def row (n : Nat) (f : Nat → Nat) : List Nat := (List.range n).map f
theorem row_len (n : Nat) (f : Nat → Nat) : (row n f).length = n := by simp [row]
theorem row_get {n : Nat} {f : Nat → Nat} {i : Nat} (h : i < n) : (row n f)[i]? = some (f i) := by simp [row, h]
theorem row_idx {n : Nat} {f : Nat → Nat} {i : Nat} (h : i < n) : idx (row n f) (i : Int) = some (f i) := idx_get (row_get h)
theorem row_set {n : Nat} (f : Nat → Nat) (i v : Nat) : (row n f).set i v = row n fun j => if j = i then v else f j := by
 apply List.ext_getElem?
 intro j
 rw [List.getElem?_set]
 by_cases hj : j < n
 ·rw [row_get hj, row_len]
  by_cases h : i = j
  ·subst h; rw [if_pos rfl, if_pos hj, row_get hj, if_pos rfl]
  ·rw [if_neg h, row_get hj, if_neg (fun e => h e.symm)]
 ·rw [List.getElem?_eq_none (by rw [row_len]; omega), List.getElem?_eq_none (by rw [row_len]; omega), row_len]
  split
  ·rw [if_neg (by omega)]
  ·rfl
theorem row_congr {n : Nat} {f g : Nat → Nat} (h : ∀ j, j < n → f j = g j) : row n f = row n g := by
 unfold row
 exact List.map_congr_left fun j hj => h j (List.mem_range.1 hj)
theorem row_self (l : List Nat) : l = row l.length fun j => l.getD j 0 := by
 apply List.ext_getElem?
 intro j
 by_cases hj : j < l.length
 ·rw [row_get hj, List.getD_eq_getElem?_getD, List.getElem?_eq_getElem hj]; rfl
 ·rw [List.getElem?_eq_none (by omega), List.getElem?_eq_none (by rw [row_len]; omega)]
/-- the place that faces j, of m places of t numbers from a on -/
def face (a m t j : Nat) : Nat := a + (m - 1 - (j - a) / t) * t + (j - a) % t
/-- p places at either end are turned about, and k numbers of the next one -/
def swk (f : Nat → Nat) (a m t p k : Nat) (j : Nat) : Nat :=
 if a ≤ j ∧ j < a + m * t ∧ ((j - a) / t < p ∨ m - p ≤ (j - a) / t ∨ (((j - a) / t = p ∨ (j - a) / t = m - 1 - p) ∧ (j - a) % t < k)) then f (face a m t j) else f j
def rvp (f : Nat → Nat) (a m t : Nat) (j : Nat) : Nat := if a ≤ j ∧ j < a + m * t then f (face a m t j) else f j
theorem qr {a t q r : Nat} (ht : 0 < t) (hr : r < t) : (a + q * t + r - a) / t = q ∧ (a + q * t + r - a) % t = r := by
 have e : a + q * t + r - a = r + t * q := by rw [Nat.mul_comm t q]; omega
 rw [e]
 exact ⟨by rw [Nat.add_mul_div_left _ _ ht, Nat.div_eq_of_lt hr, Nat.zero_add], by rw [Nat.add_mul_mod_self_left, Nat.mod_eq_of_lt hr]⟩
theorem rq {a t j : Nat} (ht : 0 < t) (h : a ≤ j) : j = a + (j - a) / t * t + (j - a) % t := by
 have := Nat.div_add_mod (j - a) t
 rw [Nat.mul_comm] at this
 omega
theorem qlt {a t m j : Nat} (ht : 0 < t) (h : a ≤ j) (h2 : j < a + m * t) : (j - a) / t < m := (Nat.div_lt_iff_lt_mul ht).2 (by omega)
theorem sw_step {f : Nat → Nat} {a m t p k : Nat} (ht : 0 < t) (hk : k < t) (hp : 2 * p + 1 ≤ m) (j : Nat) :
  (if j = a + (m - 1 - p) * t + k then swk f a m t p k (a + p * t + k) else if j = a + p * t + k then swk f a m t p k (a + (m - 1 - p) * t + k) else swk f a m t p k j) = swk f a m t p (k + 1) j := by
 have hm1 : (p + 1) * t ≤ m * t := Nat.mul_le_mul_right t (by omega)
 have hs1 : (p + 1) * t = p * t + t := Nat.succ_mul p t
 have hm2 : (m - 1 - p + 1) * t ≤ m * t := Nat.mul_le_mul_right t (by omega)
 have hs2 : (m - 1 - p + 1) * t = (m - 1 - p) * t + t := Nat.succ_mul _ t
 obtain ⟨q1, r1⟩ := qr (a := a) (q := p) ht hk
 obtain ⟨q2, r2⟩ := qr (a := a) (q := m - 1 - p) ht hk
 have v1 : swk f a m t p k (a + p * t + k) = f (a + p * t + k) := by
  unfold swk
  rw [q1, r1, if_neg (by omega)]
 have v2 : swk f a m t p k (a + (m - 1 - p) * t + k) = f (a + (m - 1 - p) * t + k) := by
  unfold swk
  rw [q2, r2, if_neg (by omega)]
 rw [v1, v2]
 by_cases h2 : j = a + (m - 1 - p) * t + k
 ·rw [if_pos h2]
  unfold swk
  rw [h2, q2, r2, if_pos ⟨by omega, by omega, by omega⟩]
  unfold face
  have e9 : m - 1 - (m - 1 - p) = p := by omega
  rw [q2, r2, e9]
 ·rw [if_neg h2]
  by_cases h1 : j = a + p * t + k
  ·rw [if_pos h1]
   unfold swk
   rw [h1, q1, r1, if_pos ⟨by omega, by omega, by omega⟩]
   unfold face
   rw [q1, r1]
  ·rw [if_neg h1]
   unfold swk
   by_cases hin : a ≤ j ∧ j < a + m * t
   ·have hj := rq (a := a) ht hin.1
    generalize hQ : (j - a) / t = Q at *
    generalize hR : (j - a) % t = R at *
    have hne1 : ¬ (Q = p ∧ R = k) := fun ⟨e1, e2⟩ => h1 (by rw [hj, e1, e2])
    have hne2 : ¬ (Q = m - 1 - p ∧ R = k) := fun ⟨e1, e2⟩ => h2 (by rw [hj, e1, e2])
    congr 1
    apply propext
    constructor
    ·rintro ⟨a1, a2, a3⟩; exact ⟨a1, a2, by omega⟩
    ·rintro ⟨a1, a2, a3⟩; exact ⟨a1, a2, by omega⟩
   ·rw [if_neg (fun h => hin ⟨h.1, h.2.1⟩), if_neg (fun h => hin ⟨h.1, h.2.1⟩)]
theorem sw_next {f : Nat → Nat} {a m t p : Nat} (ht : 0 < t) (hp : 2 * p + 1 ≤ m) (j : Nat) : swk f a m t p t j = swk f a m t (p + 1) 0 j := by
 unfold swk
 have hR := Nat.mod_lt (j - a) ht
 by_cases hin : a ≤ j ∧ j < a + m * t
 ·have hQ := qlt ht hin.1 hin.2
  congr 1
  apply propext
  constructor
  ·rintro ⟨a1, a2, a3⟩; exact ⟨a1, a2, by omega⟩
  ·rintro ⟨a1, a2, a3⟩; exact ⟨a1, a2, by omega⟩
 ·rw [if_neg (fun h => hin ⟨h.1, h.2.1⟩), if_neg (fun h => hin ⟨h.1, h.2.1⟩)]
theorem sw_zero {f : Nat → Nat} {a m t : Nat} (ht : 0 < t) (j : Nat) : swk f a m t 0 0 j = f j := by
 unfold swk
 by_cases hin : a ≤ j ∧ j < a + m * t
 ·have hQ := qlt ht hin.1 hin.2
  generalize (j - a) / t = Q at *
  generalize (j - a) % t = R at *
  rw [if_neg (by omega)]
 ·rw [if_neg (fun h => hin ⟨h.1, h.2.1⟩)]
theorem sw_end {f : Nat → Nat} {a m t p : Nat} (ht : 0 < t) (hp : m < 2 * p + 1) (hpm : p ≤ m) (j : Nat) : swk f a m t p 0 j = rvp f a m t j := by
 unfold swk rvp
 by_cases hin : a ≤ j ∧ j < a + m * t
 ·have hQ := qlt ht hin.1 hin.2
  rw [if_pos ⟨hin.1, hin.2, by omega⟩, if_pos hin]
 ·rw [if_neg (fun h => hin ⟨h.1, h.2.1⟩), if_neg hin]
/-! ### the loops of reverse1 and reverse2, whatever stands about them -/
section
variable {ρ : Type}
def gsw (s : Int) (g : Int × Int × List Nat) (K : Int × List Nat → Option (Sum (List Nat) ρ)) (q : Int × List Nat) : Option (Sum (List Nat) ρ) := (cond (decide (q.1 < s)) (need (inI .i64 (g.1 - s)) (need (inI .i64 ((g.1 - s) + q.1)) (need (inI .i64 (g.2.1 - s)) (need (inI .i64 ((g.2.1 - s) + q.1)) (need (inI .i64 (g.2.1 - s)) (need (inI .i64 ((g.2.1 - s) + q.1)) (need (0 ≤ ((g.2.1 - s) + q.1) ∧ ((g.2.1 - s) + q.1) < ((q.2.length : Nat) : Int)) ((idx q.2 ((g.2.1 - s) + q.1)).bind fun x387 => (need (inI .i64 (g.1 - s)) (need (inI .i64 ((g.1 - s) + q.1)) (need (0 ≤ ((g.1 - s) + q.1) ∧ ((g.1 - s) + q.1) < ((q.2.length : Nat) : Int)) ((idx q.2 ((g.1 - s) + q.1)).bind fun x392 => (need (0 ≤ ((g.1 - s) + q.1) ∧ ((g.1 - s) + q.1) < ((q.2.length : Nat) : Int)) (need ((((g.1 - s) + q.1)).toNat < q.2.length) (need (0 ≤ ((g.2.1 - s) + q.1) ∧ ((g.2.1 - s) + q.1) < (((q.2.set (((g.1 - s) + q.1)).toNat x387).length : Nat) : Int)) (need ((((g.2.1 - s) + q.1)).toNat < (q.2.set (((g.1 - s) + q.1)).toNat x387).length) (need (inI .i64 (q.1 + (1 : Int))) (K ((q.1 + (1 : Int)), ((q.2.set (((g.1 - s) + q.1)).toNat x387).set (((g.2.1 - s) + q.1)).toNat x392)))))))))))))))))))) (some (Sum.inl q.2)))
def gk1 (s : Int) (g : Int × Int × List Nat) (K : Int × Int × List Nat → Option (Sum (List Nat) ρ)) (w : List Nat) : Option (Sum (List Nat) ρ) := need (inI .i64 (g.1 + s)) (need (inI .i64 (g.2.1 - s)) (K ((g.1 + s), (g.2.1 - s), w)))
def gl1 (s : Int) (F : Nat) (K : Int × Int × List Nat → Option (Sum (List Nat) ρ)) (g : Int × Int × List Nat) : Option (Sum (List Nat) ρ) := (cond (decide (g.1 ≤ g.2.1)) ((iter (gsw s g) F ((0 : Int), g.2.2)).bind fun o => aft o (fun r => some (Sum.inr r)) (gk1 s g K)) (some (Sum.inl g.2.2)))
def gk2 (g : Int × Int × List Nat) (K : Int × Int × List Nat → Option (Sum (List Nat) ρ)) (x : Int) (w : List Nat) : Option (Sum (List Nat) ρ) := need (inI .i64 (g.2.1 + (1 : Int))) (K (x, (g.2.1 + (1 : Int)), w))
def gl2 (s : Int) (F : Nat) (e : List Int) (K : Int × Int × List Nat → Option (Sum (List Nat) ρ)) (g : Int × Int × List Nat) : Option (Sum (List Nat) ρ) := (cond (decide (g.2.1 < ((e.length : Nat) : Int))) ((idx e g.2.1).bind fun x => (need (inI .i64 (g.1 + s)) ((iter (gl1 s F) F ((g.1 + s), x, g.2.2)).bind fun o => aft o some (gk2 g K x)))) (some (Sum.inl g.2.2)))
end
section
variable {ρ : Type} {n t : Nat}
theorem inner_loop (h2 : 2 ≤ t) (h9 : t ≤ 9) (hn : n ≤ 2000) {f : Nat → Nat} {a m p : Nat} (ha : a + m * t ≤ n) (hp : 2 * p + 1 ≤ m) {w : List Nat} : ∀ (F k : Nat), t - k < F → k ≤ t →
  iter (gsw (ρ := ρ) (t : Int) (((a + (p + 1) * t : Nat) : Int), ((a + (m - p) * t : Nat) : Int), w)) F ((k : Int), row n (swk f a m t p k)) = some (.inl (row n (swk f a m t p t))) := by
 intro F
 induction F with
 | zero => intro k h; omega
 | succ F ih =>
  intro k h hk
  have hm1 : (p + 1) * t ≤ m * t := Nat.mul_le_mul_right t (by omega)
  have hs1 : (p + 1) * t = p * t + t := Nat.succ_mul p t
  have hm2 : (m - p) * t ≤ m * t := Nat.mul_le_mul_right t (by omega)
  have hs2 : (m - 1 - p + 1) * t = (m - 1 - p) * t + t := Nat.succ_mul _ t
  have hs3 : m - 1 - p + 1 = m - p := by omega
  rw [hs3] at hs2
  show gsw (ρ := ρ) _ _ (iter (gsw (ρ := ρ) _ _) F) _ = _
  generalize hK : iter (gsw (ρ := ρ) (t : Int) (((a + (p + 1) * t : Nat) : Int), ((a + (m - p) * t : Nat) : Int), w)) F = K at *
  unfold gsw
  dsimp only
  by_cases hkt : k < t
  ·have c1 : ((a + (p + 1) * t : Nat) : Int) - (t : Int) + (k : Int) = ((a + p * t + k : Nat) : Int) := by omega
   have c2 : ((a + (m - p) * t : Nat) : Int) - (t : Int) + (k : Int) = ((a + (m - 1 - p) * t + k : Nat) : Int) := by omega
   have b1 : a + p * t + k < n := by omega
   have b2 : a + (m - 1 - p) * t + k < n := by omega
   have e1 : ∀ z : Nat, (z : Int).toNat = z := fun z => by omega
   rw [cond_t (decide_eq_true (by omega)), need_pos (in64m (by omega) (by omega)), c1, need_pos (in64m (by omega) (by omega)), need_pos (in64m (by omega) (by omega)), c2, need_pos (in64m (by omega) (by omega)), need_pos (in64m (by omega) (by omega)), need_pos (in64m (by omega) (by omega)),
    row_len, need_pos ⟨by omega, by omega⟩, row_idx b2, Option.bind_some, need_pos (in64m (by omega) (by omega)), need_pos (in64m (by omega) (by omega)), need_pos ⟨by omega, by omega⟩, row_idx b1, Option.bind_some, need_pos ⟨by omega, by omega⟩, e1, e1, need_pos b1, row_set, row_len, need_pos ⟨by omega, by omega⟩, need_pos b2, row_set, succ_cast, need_pos (in64m (by omega) (by omega))]
   rw [row_congr (g := swk f a m t p (k + 1)) fun j _ => sw_step (by omega) hkt hp j]
   exact ih (k + 1) (by omega) (by omega)
  ·have : k = t := by omega
   subst this
   rw [cond_f (decide_eq_false (by omega))]
theorem part_loop (h2 : 2 ≤ t) (h9 : t ≤ 9) (hn : n ≤ 2000) {f : Nat → Nat} {a m : Nat} (ha : a + m * t ≤ n) {G : Nat} (hG : 20 < G) : ∀ (F p : Nat), m - p < F → p ≤ m →
  iter (gl1 (ρ := ρ) (t : Int) G) F (((a + (p + 1) * t : Nat) : Int), ((a + (m - p) * t : Nat) : Int), row n (swk f a m t p 0)) = some (.inl (row n (rvp f a m t))) := by
 intro F
 induction F with
 | zero => intro p h; omega
 | succ F ih =>
  intro p h hp
  have hm1 : (p + 1) * t ≤ (m + 1) * t := Nat.mul_le_mul_right t (by omega)
  have hs0 : (m + 1) * t = m * t + t := Nat.succ_mul m t
  have hs1 : (p + 1) * t = p * t + t := Nat.succ_mul p t
  have hs1' : (p + 1 + 1) * t = (p + 1) * t + t := Nat.succ_mul (p + 1) t
  have hm2 : (m - p) * t ≤ m * t := Nat.mul_le_mul_right t (by omega)
  show gl1 (ρ := ρ) _ _ (iter (gl1 (ρ := ρ) _ _) F) _ = _
  generalize hK : iter (gl1 (ρ := ρ) (t : Int) G) F = K at *
  unfold gl1
  dsimp only
  by_cases hpm : 2 * p + 1 ≤ m
  ·have hle : (p + 1) * t ≤ (m - p) * t := Nat.mul_le_mul_right t (by omega)
   have hs2 : (m - 1 - p + 1) * t = (m - 1 - p) * t + t := Nat.succ_mul _ t
   have hs3 : m - 1 - p + 1 = m - p := by omega
   have hs4 : m - 1 - p = m - (p + 1) := by omega
   rw [hs3, hs4] at hs2
   have hl := inner_loop (ρ := ρ) h2 h9 hn (f := f) ha hpm (w := row n (swk f a m t p 0)) G 0 (by omega) (by omega)
   have hl' : iter (gsw (ρ := ρ) (t : Int) (((a + (p + 1) * t : Nat) : Int), ((a + (m - p) * t : Nat) : Int), row n (swk f a m t p 0))) G ((0 : Int), row n (swk f a m t p 0)) = some (.inl (row n (swk f a m t p t))) := hl
   rw [cond_t (decide_eq_true (by omega)), hl', Option.bind_some, aft_inl]
   unfold gk1
   dsimp only
   rw [need_pos (in64m (by omega) (by omega)), need_pos (in64m (by omega) (by omega))]
   have c1 : ((a + (p + 1) * t : Nat) : Int) + (t : Int) = ((a + (p + 1 + 1) * t : Nat) : Int) := by omega
   have c2 : ((a + (m - p) * t : Nat) : Int) - (t : Int) = ((a + (m - (p + 1)) * t : Nat) : Int) := by omega
   rw [c1, c2, row_congr (g := swk f a m t (p + 1) 0) fun j _ => sw_next (by omega) hpm j]
   exact ih (p + 1) (by omega) (by omega)
  ·have hlt : (m - p) * t < (p + 1) * t := (Nat.mul_lt_mul_right (by omega)).2 (by omega)
   rw [cond_f (decide_eq_false (by omega)), row_congr (g := rvp f a m t) fun j _ => sw_end (by omega) (by omega) hp j]
/-- all parts are turned about -/
def mir (t : Nat) : Nat → List Nat → (Nat → Nat) → Nat → Nat
 | _, [], f => f
 | a, m :: r, f => mir t (a + m * t) r (rvp f a m t)
theorem mir_app : ∀ (x y : List Nat) (a : Nat) (f : Nat → Nat), mir t a (x ++ y) f = mir t (lastR t a x) y (mir t a x f)
 | [], y, a, f => rfl
 | m :: x, y, a, f => mir_app x y _ _
theorem ends_loop (h2 : 2 ≤ t) (h9 : t ≤ 9) (hn : n ≤ 2000) {x : List Int} (hx : x.length ≤ 2000) {G : Nat} (hG : 2010 < G) : ∀ (rem : List Nat) (F i a : Nat) (f : Nat → Nat), x.drop i = endsR t a rem → rem.length < F → lastR t a rem ≤ n →
  iter (gl2 (ρ := ρ) (t : Int) G x) F ((a : Int), (i : Int), row n f) = some (.inl (row n (mir t a rem f))) := by
 intro rem
 induction rem with
 | nil =>
  intro F i a f hd hF hl
  obtain ⟨F, rfl⟩ : ∃ H, F = H + 1 := ⟨F - 1, by simp at hF; omega⟩
  have : x.length ≤ i := List.drop_eq_nil_iff.1 hd
  show gl2 (ρ := ρ) _ _ _ (iter (gl2 (ρ := ρ) _ _ _) F) _ = _
  unfold gl2
  rw [cond_f (decide_eq_false (by simp only; omega))]
  rfl
 | cons m rem ih =>
  intro F i a f hd hF hl
  obtain ⟨F, rfl⟩ : ∃ H, F = H + 1 := ⟨F - 1, by simp at hF; omega⟩
  have hxi : x[i]? = some ((a + m * t : Nat) : Int) := by
   have := congrArg (fun z => z[0]?) hd
   simpa [List.getElem?_drop, endsR] using this
  have hi := (List.getElem?_eq_some_iff.1 hxi).1
  have ham : a + m * t ≤ n := Nat.le_trans (lastR_le rem _) hl
  have hmm : m ≤ 2000 := Nat.le_trans (Nat.le_mul_of_pos_right m (by omega : 0 < t)) (by omega)
  show gl2 (ρ := ρ) _ _ _ (iter (gl2 (ρ := ρ) _ _ _) F) _ = _
  generalize hK : iter (gl2 (ρ := ρ) (t : Int) G x) F = K at *
  unfold gl2
  dsimp only
  have hp := part_loop (ρ := Sum (List Nat) ρ) h2 h9 hn (f := f) ham (G := G) (by omega) G 0 (by omega) (by omega)
  rw [row_congr (f := swk f a m t 0 0) (g := f) fun j _ => sw_zero (by omega) j] at hp
  have c1 : ((a + (0 + 1) * t : Nat) : Int) = (a : Int) + (t : Int) := by omega
  have c2 : ((a + (m - 0) * t : Nat) : Int) = ((a + m * t : Nat) : Int) := by rw [Nat.sub_zero]
  rw [c1, c2] at hp
  rw [cond_t (decide_eq_true (by omega)), idx_get hxi, Option.bind_some, need_pos (in64m (by omega) (by omega)), hp, Option.bind_some, aft_inl]
  unfold gk2
  dsimp only
  rw [succ_cast, need_pos (in64m (by omega) (by omega)), ← hK]
  exact ih F (i + 1) (a + m * t) _ (by rw [← List.drop_drop, hd]; rfl) (by simp at hF; omega) hl
theorem endsR_last {t : Nat} : ∀ (ns : List Nat) (a : Nat), ns ≠ [] → (endsR t a ns)[ns.length - 1]? = some ((lastR t a ns : Nat) : Int)
 | [], a, h => absurd rfl h
 | [m], a, h => rfl
 | m :: k :: r, a, h => by
  have := endsR_last (t := t) (k :: r) (a + m * t) (by simp)
  simpa [endsR, lastR] using this
/-! ### what the law tells -/
def revl (f : Nat → Nat) (a m t : Nat) : List Nat := (List.range (m * t)).map fun x => f (a + (m - 1 - x / t) * t + x % t)
theorem range_mul {g : Nat → Nat} (p : Nat) : (List.range ((p + 1) * t)).map g = (List.range (p * t)).map g ++ (List.range t).map fun r => g (p * t + r) := by
 rw [Nat.succ_mul, List.range_add, List.map_append, List.map_map]
 rfl
theorem back_part (h2 : 2 ≤ t) (h9 : t ≤ 9) {l : List Nat} (hl : l.length ≤ 2000) {g : TImpl_Geom} (hg : g.Flat = l) {a m : Nat} (ha : a + m * t ≤ l.length) {out : List Nat} (ho : out.length ≤ 2000) {w : Int × List Nat} : ∀ (F p : Nat), m - p < F → p ≤ m →
  iter (p_Backward_l6 g (t : Int) ((a : Int), w)) F (((a + m * t : Nat) : Int) - (t : Int) - ((p * t : Nat) : Int), out ++ (List.range (p * t)).map fun x => l.getD (a + (m - 1 - x / t) * t + x % t) 0) = some (.inl (out ++ revl (fun j => l.getD j 0) a m t)) := by
 intro F
 induction F with
 | zero => intro p h; omega
 | succ F ih =>
  intro p h hp
  have hm1 : p * t ≤ m * t := Nat.mul_le_mul_right t hp
  show p_Backward_l6 _ _ _ (iter (p_Backward_l6 _ _ _) F) _ = _
  generalize hK : iter (p_Backward_l6 g (t : Int) ((a : Int), w)) F = K at *
  unfold p_Backward_l6
  dsimp only
  rw [hg]
  by_cases hpm : p < m
  ·have hs1 : (p + 1) * t = p * t + t := Nat.succ_mul p t
   have hm2 : (p + 1) * t ≤ m * t := Nat.mul_le_mul_right t hpm
   have e0 : (m - 1 - p) * t + (p * t + t) = m * t := by
    rw [← hs1, ← Nat.add_mul]
    congr 1
    omega
   have c1 : ((a + m * t : Nat) : Int) - (t : Int) - ((p * t : Nat) : Int) = ((a + (m - 1 - p) * t : Nat) : Int) := by omega
   rw [c1, cond_t (decide_eq_true (by omega)), need_pos (in64m (by omega) (by omega)), need_pos ⟨⟨by omega, by omega⟩, by omega, by omega⟩]
   have e1 : (((a + (m - 1 - p) * t : Nat) : Int) + (t : Int)).toNat - (((a + (m - 1 - p) * t : Nat) : Int)).toNat = t := by omega
   have e2 : (((a + (m - 1 - p) * t : Nat) : Int)).toNat = a + (m - 1 - p) * t := by omega
   rw [e1, e2, need_pos (by simp; omega), need_pos (in64m (by omega) (by omega))]
   have c3 : ((a + (m - 1 - p) * t : Nat) : Int) - (t : Int) = ((a + m * t : Nat) : Int) - (t : Int) - (((p + 1) * t : Nat) : Int) := by omega
   have e3 : (l.drop (a + (m - 1 - p) * t)).take t = (List.range t).map fun r => l.getD (a + (m - 1 - (p * t + r) / t) * t + (p * t + r) % t) 0 := by
    apply List.ext_getElem?
    intro r
    by_cases hr : r < t
    ·have q1 : (p * t + r) / t = p ∧ (p * t + r) % t = r := by
      have := qr (a := 0) (q := p) (by omega) hr
      simpa using this
     rw [List.getElem?_take, if_pos hr, List.getElem?_drop, List.getElem?_map, List.getElem?_range hr, Option.map_some, q1.1, q1.2, List.getD_eq_getElem?_getD, List.getElem?_eq_getElem (by omega)]
     rfl
    ·rw [List.getElem?_eq_none (by simp; omega), List.getElem?_eq_none (by simp; omega)]
   rw [c3, e3, List.append_assoc, ← range_mul (g := fun x => l.getD (a + (m - 1 - x / t) * t + x % t) 0) p]
   exact ih (p + 1) (by omega) hpm
  ·have : p = m := by omega
   subst this
   rw [cond_f (decide_eq_false (by omega))]
   rfl
def outs (t : Nat) (f : Nat → Nat) : Nat → List Nat → List Nat
 | _, [] => []
 | a, m :: r => revl f a m t ++ outs t f (a + m * t) r
theorem back_loop (h2 : 2 ≤ t) (h9 : t ≤ 9) {l : List Nat} (hl : l.length ≤ 2000) {g : TImpl_Geom} (hg : g.Flat = l) {x : List Int} (hx : x.length ≤ 2000) {G : Nat} (hG : 2010 < G) : ∀ (rem : List Nat) (F i a : Nat) (out : List Nat), x.drop i = endsR t a rem → rem.length < F → lastR t a rem ≤ l.length → out.length = a →
  iter (p_Backward_l4 g G x (t : Int)) F ((a : Int), (i : Int), out) = some (.inl (out ++ outs t (fun j => l.getD j 0) a rem)) := by
 intro rem
 induction rem with
 | nil =>
  intro F i a out hd hF hlast ho
  obtain ⟨F, rfl⟩ : ∃ H, F = H + 1 := ⟨F - 1, by simp at hF; omega⟩
  have : x.length ≤ i := List.drop_eq_nil_iff.1 hd
  show p_Backward_l4 _ _ _ _ (iter (p_Backward_l4 _ _ _ _) F) _ = _
  unfold p_Backward_l4
  rw [cond_f (decide_eq_false (by simp only; omega))]
  simp [outs]
 | cons m rem ih =>
  intro F i a out hd hF hlast ho
  obtain ⟨F, rfl⟩ : ∃ H, F = H + 1 := ⟨F - 1, by simp at hF; omega⟩
  have hxi : x[i]? = some ((a + m * t : Nat) : Int) := by
   have := congrArg (fun z => z[0]?) hd
   simpa [List.getElem?_drop, endsR] using this
  have hi := (List.getElem?_eq_some_iff.1 hxi).1
  have ham : a + m * t ≤ l.length := Nat.le_trans (lastR_le rem _) hlast
  have hmm : m ≤ 2000 := Nat.le_trans (Nat.le_mul_of_pos_right m (by omega : 0 < t)) (by omega)
  show p_Backward_l4 _ _ _ _ (iter (p_Backward_l4 _ _ _ _) F) _ = _
  generalize hK : iter (p_Backward_l4 g G x (t : Int)) F = K at *
  unfold p_Backward_l4
  dsimp only
  have hp := back_part h2 h9 hl hg ham (out := out) (by omega) (w := ((i : Int), out)) G 0 (by omega) (by omega)
  have c1 : ((a + m * t : Nat) : Int) - (t : Int) - ((0 * t : Nat) : Int) = ((a + m * t : Nat) : Int) - (t : Int) := by omega
  have c2 : (List.range (0 * t)).map (fun x => l.getD (a + (m - 1 - x / t) * t + x % t) 0) = [] := by simp
  rw [c1, c2, List.append_nil] at hp
  rw [cond_t (decide_eq_true (by omega)), idx_get hxi, Option.bind_some, need_pos (in64m (by omega) (by omega)), hp, Option.bind_some, aft_inl]
  unfold p_Backward_k5
  dsimp only
  rw [succ_cast, need_pos (in64m (by omega) (by omega)), ← hK, ih F (i + 1) (a + m * t) _ (by rw [← List.drop_drop, hd]; rfl) (by simp at hF; omega) hlast (by simp [revl]; omega)]
  rw [List.append_assoc]
  rfl
/-- Turned about in place, and put in a row from behind, is the same. -/
theorem mir_before : ∀ (ns : List Nat) (a : Nat) (f : Nat → Nat) (j : Nat), j < a → mir t a ns f j = f j
 | [], a, f, j, h => rfl
 | m :: r, a, f, j, h => by
  simp only [mir]
  rw [mir_before r _ _ j (by omega)]
  unfold rvp
  rw [if_neg (by omega)]
theorem mir_ext : ∀ (ns : List Nat) (a : Nat) (f g : Nat → Nat), (∀ j, a ≤ j → f j = g j) → ∀ j, a ≤ j → mir t a ns f j = mir t a ns g j
 | [], a, f, g, h, j, hj => h j hj
 | m :: r, a, f, g, h, j, hj => by
  simp only [mir]
  by_cases hj2 : a + m * t ≤ j
  ·refine mir_ext r _ _ _ (fun k hk => ?_) j hj2
   unfold rvp
   rw [if_neg (by omega), if_neg (by omega)]
   exact h k (by omega)
  ·rw [mir_before r _ _ j (by omega), mir_before r _ _ j (by omega)]
   unfold rvp
   rw [if_pos ⟨hj, by omega⟩, if_pos ⟨hj, by omega⟩]
   exact h _ (by unfold face; omega)
theorem outs_eq (ht : 0 < t) (f : Nat → Nat) : ∀ (ns : List Nat) (a : Nat), outs t f a ns = (List.range (lastR t a ns - a)).map fun x => mir t a ns f (a + x)
 | [], a => by simp [outs, lastR]
 | m :: r, a => by
  have hle : a + m * t ≤ lastR t (a + m * t) r := lastR_le r _
  have ih := outs_eq ht f r (a + m * t)
  have e1 : lastR t a (m :: r) - a = m * t + (lastR t (a + m * t) r - (a + m * t)) := by simp only [lastR]; omega
  rw [e1, List.range_add, List.map_append, List.map_map]
  simp only [outs]
  congr 1
  ·unfold revl
   refine List.map_congr_left fun x hx => ?_
   have hx : x < m * t := List.mem_range.1 hx
   simp only [mir]
   rw [mir_before r _ _ _ (by omega)]
   unfold rvp
   rw [if_pos ⟨by omega, by omega⟩]
   unfold face
   have : a + x - a = x := by omega
   rw [this]
  ·rw [ih]
   refine List.map_congr_left fun x hx => ?_
   simp only [Function.comp, mir]
   have e2 : a + (m * t + x) = a + m * t + x := by omega
   rw [e2]
   refine mir_ext r _ _ _ (fun j hj => ?_) _ (by omega)
   unfold rvp
   rw [if_neg (by omega)]
end
end Go.Proofs.Ytbgdonedjgkhiaa.Wk

namespace Go.Proofs.Ytbgdonedjgkhiaa.Wk
open Go.Vm
set_option linter.unusedVariables false
set_option linter.unusedSimpArgs false
noncomputable section
def strd (a : Int) : Int := if a = 0 then 0 else if a = 1 then 2 else if a = 2 then 3 else if a = 3 then 3 else if a = 4 then 4 else a
theorem strd_p (a : Int) : p_Layout_Stride a = some (strd a) := by
 unfold p_Layout_Stride strd
 simp only [cond_if, decide_eq_true_eq]
 repeat' split
 all_goals rfl
def wsum : List (List Int) → Nat
 | [] => 0
 | x :: r => 1 + x.length + wsum r
theorem wsum_eq : ∀ e : List (List Int), wsum e = e.flatten.length + e.length
 | [] => rfl
 | x :: r => by simp only [wsum, wsum_eq r, List.flatten_cons, List.length_append, List.length_cons]; omega
theorem wsum_le : ∀ e : List (List Int), (∀ x ∈ e, x.length ≤ 2147483647) → wsum e ≤ 2147483648 * e.length
 | [], _ => Nat.le_refl _
 | x :: r, h => by
  have := wsum_le r fun y hy => h y (List.mem_cons_of_mem _ hy)
  have := h x (List.mem_cons_self)
  simp only [wsum, List.length_cons]; omega
theorem wsum_app : ∀ a b : List (List Int), wsum (a ++ b) = wsum a + wsum b
 | [], b => by simp [wsum]
 | x :: a, b => by simp only [List.cons_append, wsum, wsum_app a b]; omega
theorem weight_all {g : TImpl_Geom} (hk : g.Kids = []) (h1 : g.Flat.length ≤ 2147483647) (h2 : g.Ends.length ≤ 2147483647) (h3 : g.Endss.length ≤ 2147483647) (h4 : ∀ l ∈ g.Endss, l.length ≤ 2147483647) {F : Nat} (hF : g.Endss.length < F + 1) (a : Int) :
  p_Weight (F + 2) g a = some (1 + (g.Flat.length : Int) + (g.Ends.length : Int) + (wsum g.Endss : Int)) := by
 have hw := wsum_le g.Endss h4
 show p_Weight_b _ (F + 1) _ _ = _
 unfold p_Weight_b
 have w1 : IntKind.i64.wrap ((1 : Int) + ((g.Flat.length : Nat) : Int)) = 1 + ((g.Flat.length : Nat) : Int) := wrap_in .i64 _ (by simp only [lo]; omega) (by simp only [hi]; omega)
 rw [w1, wrap_in .i64 _ (by simp only [lo]; omega) (by simp only [hi]; omega)]
 have key := fold_all (V := Int) (T := Int) (σ := Int) g.Endss (p_Weight_l4 g) (fun i s => (s, (i : Int))) (fun s x => s + (1 + (x.length : Int))) (fun s => s) (fun i s => s = 1 + (g.Flat.length : Int) + (g.Ends.length : Int) + (wsum (g.Endss.take i) : Int))
  (fun K s _ => by unfold p_Weight_l4; dsimp only; rw [cond_f dge])
  (fun K i x s hx hs => by
   have hi := lt_get hx
   have hxl := h4 x (mem_get hx)
   have e : g.Endss.take (i + 1) = g.Endss.take i ++ [x] := by rw [List.take_add_one, hx]; rfl
   have hle : wsum (g.Endss.take (i + 1)) ≤ wsum g.Endss := by
    rw [← List.take_append_drop (i + 1) g.Endss, wsum_app]
    rw [List.take_append_drop]; omega
   rw [e, wsum_app] at hle
   simp only [wsum] at hle
   unfold p_Weight_l4; dsimp only
   have w2 : IntKind.i64.wrap ((1 : Int) + ((x.length : Nat) : Int)) = 1 + ((x.length : Nat) : Int) := wrap_in .i64 _ (by simp only [lo]; omega) (by simp only [Go.Vm.hi]; omega)
   rw [cond_t (dlt hi), idx_get hx, Option.bind_some, need_pos (i64s (by omega)), w2, wrap_in .i64 _ (by simp only [lo]; omega) (by simp only [Go.Vm.hi]; omega), succ_cast])
  (fun i x s hx hs => by
   have e : g.Endss.take (i + 1) = g.Endss.take i ++ [x] := by rw [List.take_add_one, hx]; rfl
   rw [e, wsum_app]
   simp only [wsum]; omega) (F + 1) 0 (1 + (g.Flat.length : Int) + (g.Ends.length : Int)) (by omega) (by omega) (by simp [wsum])
 have key' : iter (p_Weight_l4 g) (F + 1) (1 + (g.Flat.length : Int) + (g.Ends.length : Int), (0 : Int)) = _ := key
 have fsum : ∀ (l : List (List Int)) (r : Int), l.foldl (fun s x => s + (1 + (x.length : Int))) r = r + (wsum l : Int) := by
  intro l
  induction l with
  | nil => intro r; simp [wsum]
  | cons x l ih => intro r; rw [List.foldl_cons, ih]; simp only [wsum]; omega
 rw [key', Option.bind_some, aft_inl, List.drop_zero, fsum]
 unfold p_Weight_k1
 have e2 : ∀ R K s, p_Weight_l3 g a R K (s, (0 : Int)) = some (.inl s) := fun R K s => by unfold p_Weight_l3; dsimp only; rw [hk, cond_f (by rfl)]
 rw [iter_one, e2, Option.bind_some, aft_inl]
 rfl
/-- Small good data of a kind that can be turned about. -/
structure Turn (F : Nat) (g : TImpl_Geom) (s : Nat) : Prop extends GoodG F g s where
 s9' : s ≤ 9
 few : g.Flat.length + g.Ends.length + g.Endss.flatten.length + g.Endss.length ≤ 1999
theorem turn_p {g : TImpl_Geom} (hw : WfG g) {F : Nat} (hF : gF g + 10 ≤ F) (h1 : g.Flat.length ≤ 2147483647) (h2 : g.Ends.length ≤ 2147483647) (h3 : g.Endss.length ≤ 2147483647) (h4 : ∀ l ∈ g.Endss, l.length ≤ 2147483647) :
  ∃ b, p_gGood F [g] = some b ∧ (b = true → g.Kind ≠ 7 → ∃ s, Turn (F - 1) g s) := by
 obtain ⟨b, hb, hb2⟩ := gGood_p hw hF
 refine ⟨b, hb, fun h h7 => ?_⟩
 obtain ⟨a1, a2, n, a3, a4⟩ := hb2 h
 obtain ⟨s, G⟩ := a1 h7
 have big := hw.tell.big
 obtain ⟨M, rfl⟩ : ∃ M, F = M + 2 := ⟨F - 2, by omega⟩
 have l9 := layouts_of G.kids h7 a2
 have hwl := wsum_le g.Endss h4
 rw [weight_all G.kids h1 h2 h3 h4 (by omega)] at a3
 have a3 := Option.some.inj a3
 rw [← a3, wrap_in .i64 _ (by simp only [lo]; omega) (by simp only [hi]; omega), wsum_eq] at a4
 exact ⟨s, ⟨G, G.s9 l9, by omega⟩⟩
theorem k4_kind {F : Nat} {g : TImpl_Geom} {s : Int} (h : p_Good_k4 g F s () = some true) (h7 : g.Kind ≠ 7) : 1 ≤ g.Kind ∧ g.Kind ≤ 8 := by
 by_cases h1 : g.Kind = 1
 ·omega
 by_cases h2 : g.Kind = 2
 ·omega
 by_cases h8 : g.Kind = 8
 ·omega
 by_cases h3 : g.Kind = 3
 ·omega
 by_cases h4 : g.Kind = 4
 ·omega
 by_cases h5 : g.Kind = 5
 ·omega
 by_cases h6 : g.Kind = 6
 ·omega
 unfold p_Good_k4 p_Good_k5 p_Good_k6 at h
 rw [cond_f (decide_eq_false h1), cond_f (decide_eq_false h2), cond_f (decide_eq_false h8), cond_f (decide_eq_false h3), cond_f (decide_eq_false h4), cond_f (decide_eq_false h5), cond_f (decide_eq_false h6)] at h
 cases h
/-- lines: no ends -/
theorem k4_line {F : Nat} {g : TImpl_Geom} {s : Int} (h : p_Good_k4 g F s () = some true) (hk : g.Kind = 2 ∨ g.Kind = 8) : g.Ends = [] := by
 have fin : some (decide (((g.Ends.length : Nat) : Int) = 0)) = some true → g.Ends = [] := fun h => by
  have := of_decide_eq_true (Option.some.inj h)
  exact List.length_eq_zero_iff.1 (by omega)
 unfold p_Good_k4 p_Good_k5 at h
 rcases hk with hk | hk
 ·rw [cond_f (decide_eq_false (by omega)), cond_t (decide_eq_true hk), cond_t (decide_eq_true hk)] at h
  exact fin h
 ·rw [cond_f (decide_eq_false (by omega)), cond_f (decide_eq_false (by omega)), cond_t (decide_eq_true hk)] at h
  exact fin h
/-- ends of parts -/
theorem k4_parts {F : Nat} {g : TImpl_Geom} {s : Nat} (hs : 2 ≤ s) (W : Wf g) (hF : g.Ends.length < F) (hn : g.Ends.length ≤ 2000) (h : p_Good_k4 g F s () = some true) (hk : g.Kind = 3 ∨ g.Kind = 4 ∨ g.Kind = 5) : EndsG (s : Int) (g.Flat.length : Int) 0 g.Ends := by
 obtain ⟨q, b, e1, e2, e3⟩ := goodEnds_p (s := (s : Int)) (by omega) (l := g.Ends) (c := decide (g.Kind = 4)) (fun x hx => W.ends.2 x hx) (by omega) hF (p := 0) (by omega)
 have k6 : p_Good_k6 g F s true = some true → EndsG (s : Int) (g.Flat.length : Int) 0 g.Ends := fun h => by
  unfold p_Good_k6 at h
  rw [cond_t rfl, e1, Option.bind_some] at h
  cases b with
  | false => cases h
  | true =>
   have h2 : some (decide (q = ((g.Flat.length : Nat) : Int))) = some true := h
   have := of_decide_eq_true (Option.some.inj h2)
   rw [← this]; exact e3 rfl
 unfold p_Good_k4 p_Good_k5 at h
 rcases hk with hk | hk | hk
 ·rw [cond_f (decide_eq_false (by omega)), cond_f (decide_eq_false (by omega)), cond_f (decide_eq_false (by omega)), decide_eq_true hk, cond_t rfl] at h
  exact k6 h
 ·rw [cond_f (decide_eq_false (by omega)), cond_f (decide_eq_false (by omega)), cond_f (decide_eq_false (by omega)), cond_f (decide_eq_false (by omega)), decide_eq_true hk, cond_t rfl] at h
  exact k6 h
 ·rw [cond_f (decide_eq_false (by omega)), cond_f (decide_eq_false (by omega)), cond_f (decide_eq_false (by omega)), cond_f (decide_eq_false (by omega)), cond_f (decide_eq_false (by omega)), decide_eq_true hk] at h
  exact k6 h
theorem mp_empty {F : Nat} (hF : 0 < F) {g : TImpl_Geom} {s : Int} (h : p_Good_k4 g F s () = some true) (h4 : g.Kind = 4) (he : g.Ends = []) : g.Flat = [] := by
 unfold p_Good_k4 p_Good_k5 p_Good_k6 at h
 rw [cond_f (decide_eq_false (by omega)), cond_f (decide_eq_false (by omega)), cond_f (decide_eq_false (by omega)), cond_f (decide_eq_false (by omega)), cond_t (decide_eq_true h4), cond_t (decide_eq_true h4), he] at h
 match F, hF with
 | F + 1, _ =>
  have : p_goodEnds (F + 1) [] (0 : Int) s (decide (g.Kind = 4)) = some (0, true) := rfl
  rw [this, Option.bind_some] at h
  have h2 : some (decide ((0 : Int) = ((g.Flat.length : Nat) : Int))) = some true := h
  have h3 := of_decide_eq_true (Option.some.inj h2)
  exact List.length_eq_zero_iff.1 (by omega)
/-- lists of ends of parts -/
theorem k4_lists {F : Nat} {g : TImpl_Geom} {s : Nat} (hs : 2 ≤ s) (W : Wf g) (hF : g.Endss.length < F) (hF2 : ∀ l ∈ g.Endss, l.length < F) (hn : g.Endss.length ≤ 2000) (hn2 : ∀ l ∈ g.Endss, l.length ≤ 2000) (h : p_Good_k4 g F s () = some true) (hk : g.Kind = 6) :
  g.Ends = [] ∧ EndsG (s : Int) (g.Flat.length : Int) 0 g.Endss.flatten := by
 have key : ∀ (r : List (List Int)) (i G : Nat) (to : Int) (ok : Bool), g.Endss.drop i = r → r.length < G → 0 ≤ to → (ok = true → EndsG s to 0 (g.Endss.take i).flatten) →
   ∃ q b, iter (p_Good_l8 g F s) G (to, ok, (i : Int)) = some (.inl (q, b)) ∧ (b = true → EndsG s q 0 g.Endss.flatten) := by
  intro r
  induction r with
  | nil =>
   intro i G to ok hd hG h0 hok
   obtain ⟨G, rfl⟩ : ∃ H, G = H + 1 := ⟨G - 1, by simp at hG; omega⟩
   have hle : g.Endss.length ≤ i := List.drop_eq_nil_iff.1 hd
   refine ⟨to, ok, ?_, fun h => by have := hok h; rwa [List.take_of_length_le hle] at this⟩
   show p_Good_l8 _ _ _ (iter (p_Good_l8 _ _ _) G) _ = _
   unfold p_Good_l8
   rw [cond_f (decide_eq_false (by simp only; omega))]
  | cons x r ih =>
   intro i G to ok hd hG h0 hok
   obtain ⟨G, rfl⟩ : ∃ H, G = H + 1 := ⟨G - 1, by simp at hG; omega⟩
   have hx : g.Endss[i]? = some x := by
    have := congrArg (fun z => z[0]?) hd
    simpa [List.getElem?_drop] using this
   have hi := (List.getElem?_eq_some_iff.1 hx).1
   have hxl := hn2 x (List.mem_of_getElem? hx)
   have hxF := hF2 x (List.mem_of_getElem? hx)
   have hxn := (W.endss.2 x (List.mem_of_getElem? hx)).2
   obtain ⟨q, b, hq, q0, hb⟩ := goodEnds_p (s := (s : Int)) (by omega) (c := false) hxn (by omega) (F := F) (by omega) h0
   have hd2 : g.Endss.drop (i + 1) = r := by rw [← List.drop_drop, hd]; rfl
   have htake : (g.Endss.take (i + 1)).flatten = (g.Endss.take i).flatten ++ x := by
    rw [List.take_add_one, hx]; simp
   show ∃ q b, p_Good_l8 _ _ _ (iter (p_Good_l8 _ _ _) G) _ = _ ∧ _
   generalize hK : iter (p_Good_l8 g F s) G = K at *
   unfold p_Good_l8
   rw [cond_t (decide_eq_true (by simp only; omega))]
   dsimp only
   rw [idx_get hx, Option.bind_some, hq, Option.bind_some]
   cases ok with
   | true =>
    rw [cond_t rfl, need_pos (i64s (by omega)), succ_cast, ← hK]
    exact ih (i + 1) G q b hd2 (by simp at hG; omega) q0 (fun h => by rw [htake]; exact (hok rfl).app (hb h))
   | false =>
    rw [cond_f rfl, need_pos (i64s (by omega)), succ_cast, ← hK]
    exact ih (i + 1) G q false hd2 (by simp at hG; omega) q0 (fun h => by cases h)
 obtain ⟨q, b, hq, hb⟩ := key g.Endss 0 F 0 true rfl (by omega) (by omega) (fun _ => by simp [EndsG])
 have hq' : iter (p_Good_l8 g F s) F ((0 : Int), true, (0 : Int)) = some (.inl (q, b)) := hq
 unfold p_Good_k4 p_Good_k5 at h
 rw [cond_f (decide_eq_false (by omega)), cond_f (decide_eq_false (by omega)), cond_f (decide_eq_false (by omega)), cond_f (decide_eq_false (by omega)), cond_f (decide_eq_false (by omega))] at h
 unfold p_Good_k6 at h
 rw [cond_f (decide_eq_false (by omega)), cond_t (decide_eq_true hk), hq', Option.bind_some, aft_inl] at h
 unfold p_Good_k7 at h
 cases b with
 | false => cases h
 | true =>
  have h2 : cond (decide (q = ((g.Flat.length : Nat) : Int))) (some (decide (((g.Ends.length : Nat) : Int) = 0))) (some false) = some true := h
  by_cases c : q = ((g.Flat.length : Nat) : Int)
  ·rw [cond_t (decide_eq_true c)] at h2
   have := of_decide_eq_true (Option.some.inj h2)
   exact ⟨List.length_eq_zero_iff.1 (by omega), by rw [← c]; exact hb rfl⟩
  ·rw [cond_f (decide_eq_false c)] at h2; cases h2
end
end Go.Proofs.Ytbgdonedjgkhiaa.Wk

namespace Go.Proofs.Ytbgdonedjgkhiaa.Wk
open Go.Vm
set_option linter.unusedVariables false
set_option linter.unusedSimpArgs false
noncomputable section
theorem nmp_p {F : Nat} (hF : 2 ≤ F) {a : Int} {n : Nat} {e : List Int} (h : e = [] → n = 0) : p_NewMultiPointFlat F a n [e] = some ⟨⟨⟨⟨a, strd a, [], 0⟩⟩, e⟩⟩ := by
 unfold p_NewMultiPointFlat
 rw [strd_p, Option.bind_some]
 match F, hF with
 | F + 2, _ =>
  have : iter (p_NewMultiPointFlat_l3 [e]) (F + 2) ((0 : Int), []) = some (.inl e) := by
   show p_NewMultiPointFlat_l3 [e] (iter (p_NewMultiPointFlat_l3 [e]) (F + 1)) ((0 : Int), []) = _
   have h2 : iter (p_NewMultiPointFlat_l3 [e]) (F + 1) ((0 : Int) + 1, e) = some (.inl e) := rfl
   generalize iter (p_NewMultiPointFlat_l3 [e]) (F + 1) = K at *
   unfold p_NewMultiPointFlat_l3
   dsimp only
   rw [cond_t (by rfl), show idx [e] (0 : Int) = some e from rfl, Option.bind_some, need_pos (in64m (by omega) (by omega)), h2]
  rw [this, Option.bind_some, aft_inl]
  unfold p_NewMultiPointFlat_k1
  cases e with
  | nil =>
   rw [h rfl]
   exact agr_same rfl rfl
  | cons x e => rfl
theorem intss_q {F : Nat} (hF : 1048576 < F) (x : List (List Int)) (hx : x.length ≤ 1048576) (hy : ∀ y ∈ x, y.length ≤ 1048576) : p_intss F x = some x := by
 have key := fold_all (σ := List (List Int)) x (p_intss_l2 x) (fun i s => ((i : Int), s)) (fun s y => s ++ [y]) (fun s => s) (fun i s => s.length = i)
  (fun K s _ => by unfold p_intss_l2; dsimp only; rw [cond_f dge])
  (fun K i y s hyy h1 => by
   have hi := lt_get hyy
   have hy1 := hy y (mem_get hyy)
   unfold p_intss_l2 p_ints
   dsimp only
   rw [cond_t (dlt hi), idx_get hyy, Option.bind_some, need_pos (by omega), Option.bind_some, need_pos (by simp only [List.length_cons, List.length_nil]; omega), need_pos (i64s (by omega)), succ_cast])
  (fun i y s hy h1 => by rw [List.length_append, h1]; rfl) F 0 [] (by omega) (by omega) rfl
 have key' : iter (p_intss_l2 x) F ((0 : Int), []) = _ := key
 have fc : ∀ (l r : List (List Int)), l.foldl (fun s y => s ++ [y]) r = r ++ l := by
  intro l
  induction l with
  | nil => simp
  | cons a l ih => intro r; rw [List.foldl_cons, ih]; simp
 unfold p_intss
 rw [key', Option.bind_some, aft_inl, List.drop_zero, fc]
 rfl
section
variable {n t : Nat}
/-- the loop through lists of ends -/
theorem lists_loop (h2 : 2 ≤ t) (h9 : t ≤ 9) (hn : n ≤ 2000) {y : TGeom_MultiPolygon} (hy : y.geom3.geom1.geom0.stride = (t : Int)) {e : List (List Int)} (hye : y.geom3.endss = e) (he : e.length ≤ 2000) (hee : ∀ x ∈ e, x.length ≤ 2000) {G : Nat} (hG : 2010 < G) : ∀ (rem : List (List Nat)) (F i a : Nat) (f : Nat → Nat), e.drop i = endsRR t a rem → rem.length < F → lastR t a rem.flatten ≤ n →
  iter (p_Reverse_l28 G y) F ((a : Int), (i : Int), row n f) = some (.inl (row n (mir t a rem.flatten f))) := by
 intro rem
 induction rem with
 | nil =>
  intro F i a f hd hF hl
  obtain ⟨F, rfl⟩ : ∃ H, F = H + 1 := ⟨F - 1, by simp at hF; omega⟩
  have : e.length ≤ i := List.drop_eq_nil_iff.1 hd
  show p_Reverse_l28 _ _ (iter (p_Reverse_l28 _ _) F) _ = _
  unfold p_Reverse_l28
  rw [hye, cond_f (decide_eq_false (by simp only; omega))]
  rfl
 | cons ns rem ih =>
  intro F i a f hd hF hl
  obtain ⟨F, rfl⟩ : ∃ H, F = H + 1 := ⟨F - 1, by simp at hF; omega⟩
  have hxi : e[i]? = some (endsR t a ns) := by
   have := congrArg (fun z => z[0]?) hd
   simpa [List.getElem?_drop, endsRR] using this
  have hi := (List.getElem?_eq_some_iff.1 hxi).1
  have hxl := hee _ (List.mem_of_getElem? hxi)
  rw [endsR_len] at hxl
  rw [List.flatten_cons, lastR_app] at hl
  have hl1 : lastR t a ns ≤ n := Nat.le_trans (lastR_le rem.flatten _) hl
  have hd2 : e.drop (i + 1) = endsRR t (lastR t a ns) rem := by rw [← List.drop_drop, hd]; rfl
  show p_Reverse_l28 _ _ (iter (p_Reverse_l28 _ _) F) _ = _
  generalize hK : iter (p_Reverse_l28 G y) F = K at *
  unfold p_Reverse_l28
  have g30 : p_Reverse_l30 G y (endsR t a ns) = gl2 y.geom3.geom1.geom0.stride G (endsR t a ns) := rfl
  dsimp only
  rw [hye, cond_t (decide_eq_true (by omega)), idx_get hxi, Option.bind_some, g30, hy, endsR_len]
  by_cases h0 : ns = []
  ·subst h0
   rw [cond_t (by rfl), need_pos (i64s (by omega)), succ_cast, ← hK, ih F (i + 1) a f hd2 (by simp at hF; omega) hl]
   rfl
  ·have hl0 : 0 < ns.length := List.length_pos_iff.2 h0
   have hend := ends_loop (ρ := Sum (List Nat) (TImpl_Geom × Bool)) h2 h9 hn (x := endsR t a ns) (by rw [endsR_len]; omega) hG ns G 0 a f rfl (by omega) hl1
   have hend' : iter (gl2 (ρ := Sum (List Nat) (TImpl_Geom × Bool)) (t : Int) G (endsR t a ns)) G ((a : Int), (0 : Int), row n f) = some (.inl (row n (mir t a ns f))) := hend
   rw [cond_f (decide_eq_false (by omega)), hend', Option.bind_some, aft_inl]
   unfold p_Reverse_k29
   dsimp only
   rw [endsR_len]
   have c1 : ((ns.length : Nat) : Int) - 1 = ((ns.length - 1 : Nat) : Int) := by omega
   rw [need_pos (in64m (by omega) (by omega)), c1, idx_get (endsR_last ns a h0), Option.bind_some, need_pos (i64s (by omega)), succ_cast, ← hK, ih F (i + 1) _ _ hd2 (by simp at hF; omega) hl, List.flatten_cons, mir_app]
/-- the whole of a line -/
theorem line_p {ρ : Type} (h2 : 2 ≤ t) (h9 : t ≤ 9) {l : List Nat} (hl : l.length ≤ 2000) {m : Nat} (hm : l.length = m * t) {F : Nat} (hF : 2010 < F) :
  iter (gl1 (ρ := ρ) (t : Int) F) F ((0 : Int) + (t : Int), ((l.length : Nat) : Int), l) = some (.inl (row l.length (mir t 0 [m] fun j => l.getD j 0))) := by
 have hmm : m ≤ 2000 := Nat.le_trans (Nat.le_mul_of_pos_right m (by omega : 0 < t)) (by omega)
 have hp := part_loop (ρ := ρ) h2 h9 hl (f := fun j => l.getD j 0) (a := 0) (m := m) (by omega) (G := F) (by omega) F 0 (by omega) (by omega)
 rw [row_congr (f := swk (fun j => l.getD j 0) 0 m t 0 0) (g := fun j => l.getD j 0) fun j _ => sw_zero (by omega) j, ← row_self] at hp
 have c1 : ((0 + (0 + 1) * t : Nat) : Int) = (0 : Int) + (t : Int) := by omega
 have c2 : ((0 + (m - 0) * t : Nat) : Int) = ((l.length : Nat) : Int) := by rw [Nat.sub_zero, hm]; omega
 rw [c1, c2] at hp
 exact hp
end
/-- The numbers of places of the parts. -/
def partsOf (g : TImpl_Geom) (t : Nat) (ns : List Nat) : Prop :=
 ((g.Kind = 2 ∨ g.Kind = 8) ∧ g.Ends = [] ∧ g.Endss = [] ∧ ∃ m, ns = [m] ∧ g.Flat.length = m * t) ∨
 ((g.Kind = 3 ∨ g.Kind = 4 ∨ g.Kind = 5) ∧ g.Ends = endsR t 0 ns ∧ g.Endss = [] ∧ lastR t 0 ns = g.Flat.length ∧ (g.Kind = 4 → g.Ends = [] → g.Flat = [])) ∨
 (g.Kind = 6 ∧ g.Ends = [] ∧ ∃ nss, ns = nss.flatten ∧ g.Endss = endsRR t 0 nss ∧ lastR t 0 ns = g.Flat.length)
/-- what it is turned about to -/
def turned (g : TImpl_Geom) (t : Nat) (ns : List Nat) : TImpl_Geom := ⟨g.Kind, g.Layout, g.SRID, row g.Flat.length (mir t 0 ns fun j => g.Flat.getD j 0), g.Ends, g.Endss, []⟩
theorem endsRR_len {t : Nat} : ∀ (z : List (List Nat)) (a : Nat), (endsRR t a z).length = z.length
 | [], a => rfl
 | x :: z, a => by simp [endsRR, endsRR_len z]
theorem mem_flat {e : List (List Int)} {x : List Int} (hx : x ∈ e) : x.length ≤ e.flatten.length := by
 obtain ⟨a, b, rfl⟩ := List.append_of_mem hx
 simp only [List.flatten_append, List.flatten_cons, List.length_append]; omega
theorem parts_p {g : TImpl_Geom} {F t : Nat} (W : Wf g) (S : Turn F g t) (hF : gF g ≤ F) (h7 : g.Kind ≠ 7) (h1 : g.Kind ≠ 1) : ∃ ns, partsOf g t ns := by
 have kk := k4_kind S.k4 h7
 have few := S.few
 have big := W.big
 have hs := S.s2
 by_cases c : g.Kind = 2 ∨ g.Kind = 8
 ·have he := k4_line S.k4 c
  exact ⟨[g.Flat.length / t], .inl ⟨c, he, S.endss (by omega), _, rfl, (Nat.div_mul_cancel (Nat.dvd_of_mod_eq_zero S.dvd)).symm⟩⟩
 by_cases c2 : g.Kind = 3 ∨ g.Kind = 4 ∨ g.Kind = 5
 ·have he := k4_parts hs W (F := F) (by omega) (by omega) S.k4 c2
  obtain ⟨ns, e1, e2⟩ := EndsG.natR hs g.Ends 0 he
  exact ⟨ns, .inr (.inl ⟨c2, e1, S.endss (by omega), by omega, fun h4 h0 => mp_empty (by omega) S.k4 h4 h0⟩)⟩
 ·have h6 : g.Kind = 6 := by omega
  obtain ⟨h0, he⟩ := k4_lists hs W (F := F) (by omega) (fun l hl => by have := big.2.2.2.2 l hl; omega) (by omega) (fun l hl => by have := mem_flat hl; omega) S.k4 h6
  obtain ⟨ns, e1, e2⟩ := EndsG.natR hs g.Endss.flatten 0 he
  obtain ⟨nss, e3, e4⟩ := endsRR_of g.Endss ns 0 e1
  exact ⟨ns, .inr (.inr ⟨h6, h0, nss, e4, e3, by omega⟩)⟩
theorem turned_p {g : TImpl_Geom} {t : Nat} {ns : List Nat} (hs : 2 ≤ t) (h9 : t ≤ 9) (hstr : p_Layout_Stride g.Layout = some (t : Int)) (few : g.Flat.length + g.Ends.length + g.Endss.flatten.length + g.Endss.length ≤ 1999) (h : partsOf g t ns) {F : Nat} (hF : 1048600 < F) : p_Reverse F g = some (turned g t ns, true) := by
 have fl : ∀ l : List Nat, l.length ≤ 2000 → p_floats l = some l := fun l hl => by unfold p_floats; rw [need_pos (by omega)]
 have il : ∀ l : List Int, l.length ≤ 2000 → p_ints l = some l := fun l hl => by unfold p_ints; rw [need_pos (by omega)]
 have is0 : p_intss F [] = some [] := intss_q (by omega) [] (by simp) (by simp)
 have hstrd : strd g.Layout = (t : Int) := by
  have := strd_p g.Layout
  rw [hstr] at this
  exact (Option.some.inj this).symm
 have lrow : (row g.Flat.length (mir t 0 ns fun j => g.Flat.getD j 0)).length ≤ 2000 := by rw [row_len]; omega
 unfold p_Reverse
 rw [fl g.Flat (by omega), Option.bind_some]
 rcases h with ⟨hk, he, hes, m, rfl, hm⟩ | ⟨hk, he, hes, hlast, hmp⟩ | ⟨hk, he, nss, rfl, hes, hlast⟩
 ·rw [cond_f (decide_eq_false (by omega))]
  rcases hk with hk | hk
  ·rw [cond_t (decide_eq_true hk)]
   unfold p_NewLineStringFlat
   rw [hstr, Option.bind_some, Option.bind_some]
   have g2 : p_Reverse_l2 F ⟨⟨⟨g.Layout, (t : Int), [], 0⟩⟩⟩ = gl1 (ρ := TImpl_Geom × Bool) (t : Int) F := rfl
   dsimp only
   rw [need_pos (in64m (by omega) (by omega)), g2, line_p hs h9 (by omega) hm (by omega), Option.bind_some, aft_inl]
   unfold p_Reverse_k1
   rw [fl _ lrow, Option.bind_some, il [] (by simp), Option.bind_some, is0, Option.bind_some]
   unfold turned
   rw [hk, he, hes]
  ·rw [cond_f (decide_eq_false (by omega)), cond_t (decide_eq_true hk)]
   unfold p_NewLinearRingFlat
   rw [hstr, Option.bind_some, Option.bind_some]
   have g2 : p_Reverse_l6 F ⟨⟨⟨g.Layout, (t : Int), [], 0⟩⟩⟩ = gl1 (ρ := TImpl_Geom × Bool) (t : Int) F := rfl
   dsimp only
   rw [need_pos (in64m (by omega) (by omega)), g2, line_p hs h9 (by omega) hm (by omega), Option.bind_some, aft_inl]
   unfold p_Reverse_k5
   rw [fl _ lrow, Option.bind_some, il [] (by simp), Option.bind_some, is0, Option.bind_some]
   unfold turned
   rw [hk, he, hes]
 ·rw [cond_f (decide_eq_false (by omega)), cond_f (decide_eq_false (by omega)), cond_f (decide_eq_false (by omega))]
  have elen : (endsR t 0 ns).length ≤ 2000 := by rw [← he]; omega
  have loop : iter (gl2 (ρ := TImpl_Geom × Bool) (t : Int) F g.Ends) F ((0 : Int), (0 : Int), g.Flat) = some (.inl (row g.Flat.length (mir t 0 ns fun j => g.Flat.getD j 0))) := by
   rw [he]
   have := ends_loop (ρ := TImpl_Geom × Bool) hs h9 (n := g.Flat.length) (by omega) (x := endsR t 0 ns) elen (G := F) (by omega) ns F 0 0 (fun j => g.Flat.getD j 0) rfl (by rw [endsR_len] at elen; omega) (by omega)
   rw [← row_self] at this
   exact this
  rcases hk with hk | hk | hk
  ·rw [cond_t (decide_eq_true hk), il g.Ends (by omega), Option.bind_some]
   unfold p_NewPolygonFlat
   rw [hstr, Option.bind_some, Option.bind_some]
   have g2 : p_Reverse_l10 F ⟨⟨⟨⟨g.Layout, (t : Int), [], 0⟩⟩, g.Ends⟩⟩ = gl2 (ρ := TImpl_Geom × Bool) (t : Int) F g.Ends := rfl
   rw [g2, loop, Option.bind_some, aft_inl]
   unfold p_Reverse_k9
   dsimp only
   rw [fl _ lrow, Option.bind_some, il g.Ends (by omega), Option.bind_some, is0, Option.bind_some]
   unfold turned
   rw [hk, hes]
  ·rw [cond_f (decide_eq_false (by omega)), cond_t (decide_eq_true hk), il g.Ends (by omega), Option.bind_some, show p_NewMultiPointFlatOptionWithEnds g.Ends = some g.Ends from rfl, Option.bind_some, nmp_p (by omega) (fun h0 => by rw [hmp hk h0]; rfl), Option.bind_some, hstrd]
   have g2 : p_Reverse_l16 F ⟨⟨⟨⟨g.Layout, (t : Int), [], 0⟩⟩, g.Ends⟩⟩ = gl2 (ρ := TImpl_Geom × Bool) (t : Int) F g.Ends := rfl
   rw [g2, loop, Option.bind_some, aft_inl]
   unfold p_Reverse_k15
   dsimp only
   rw [fl _ lrow, Option.bind_some, il g.Ends (by omega), Option.bind_some, is0, Option.bind_some]
   unfold turned
   rw [hk, hes]
  ·rw [cond_f (decide_eq_false (by omega)), cond_f (decide_eq_false (by omega)), cond_t (decide_eq_true hk), il g.Ends (by omega), Option.bind_some]
   unfold p_NewMultiLineStringFlat
   rw [hstr, Option.bind_some, Option.bind_some]
   have g2 : p_Reverse_l22 F ⟨⟨⟨⟨g.Layout, (t : Int), [], 0⟩⟩, g.Ends⟩⟩ = gl2 (ρ := TImpl_Geom × Bool) (t : Int) F g.Ends := rfl
   rw [g2, loop, Option.bind_some, aft_inl]
   unfold p_Reverse_k21
   dsimp only
   rw [fl _ lrow, Option.bind_some, il g.Ends (by omega), Option.bind_some, is0, Option.bind_some]
   unfold turned
   rw [hk, hes]
 ·rw [cond_f (decide_eq_false (by omega)), cond_f (decide_eq_false (by omega)), cond_f (decide_eq_false (by omega)), cond_f (decide_eq_false (by omega)), cond_f (decide_eq_false (by omega)), cond_f (decide_eq_false (by omega)), cond_t (decide_eq_true hk)]
  have hin : ∀ x ∈ g.Endss, x.length ≤ 2000 := fun x hx => by have := mem_flat hx; omega
  have ss : p_intss F g.Endss = some g.Endss := intss_q (by omega) g.Endss (by omega) (fun y hy => by have := hin y hy; omega)
  rw [ss, Option.bind_some]
  unfold p_NewMultiPolygonFlat
  rw [hstr, Option.bind_some, Option.bind_some]
  have hlenE : nss.length ≤ 2000 := by rw [← endsRR_len (t := t) nss 0, ← hes]; omega
  have loop := lists_loop hs h9 (n := g.Flat.length) (by omega) (y := ⟨⟨⟨⟨g.Layout, (t : Int), [], 0⟩⟩, g.Endss⟩⟩) rfl (e := g.Endss) rfl (by omega) hin (G := F) (by omega) nss F 0 0 (fun j => g.Flat.getD j 0) hes (by omega) (by omega)
  rw [← row_self] at loop
  have loop' : iter (p_Reverse_l28 F ⟨⟨⟨⟨g.Layout, (t : Int), [], 0⟩⟩, g.Endss⟩⟩) F ((0 : Int), (0 : Int), g.Flat) = some (.inl (row g.Flat.length (mir t 0 nss.flatten fun j => g.Flat.getD j 0))) := loop
  rw [loop', Option.bind_some, aft_inl]
  unfold p_Reverse_k27
  dsimp only
  rw [fl _ lrow, Option.bind_some, il [] (by simp), Option.bind_some, ss, Option.bind_some]
  unfold turned
  rw [hk, he]
theorem flat_loop {g : TImpl_Geom} {e : List (List Int)} (hg : g.Endss = e) (he : e.length ≤ 2000) (hf : e.flatten.length ≤ 2000) {E : List Int} (hE : E.length ≤ 2000) : ∀ (F i : Nat), e.length - i < F → i ≤ e.length →
  iter (p_Backward_l7 g) F ((i : Int), E ++ (e.take i).flatten) = some (.inl (E ++ e.flatten)) := by
 intro F
 induction F with
 | zero => intro i h; omega
 | succ F ih =>
  intro i h hi
  show p_Backward_l7 _ (iter (p_Backward_l7 _) F) _ = _
  generalize hK : iter (p_Backward_l7 g) F = K at *
  unfold p_Backward_l7
  dsimp only
  rw [hg]
  by_cases hlt : i < e.length
  ·obtain ⟨x, hx⟩ : ∃ x, e[i]? = some x := ⟨_, List.getElem?_eq_getElem hlt⟩
   have e1 : (e.take i).flatten ++ x = (e.take (i + 1)).flatten := by rw [List.take_add_one, hx]; simp
   have e2 : ((e.take (i + 1)).flatten).length ≤ e.flatten.length := by
    have : e.flatten = (e.take (i + 1)).flatten ++ (e.drop (i + 1)).flatten := by rw [← List.flatten_append, List.take_append_drop]
    rw [this, List.length_append]; omega
   have e3 : ((e.take i).flatten).length + x.length ≤ 2000 := by rw [← List.length_append, e1]; omega
   rw [cond_t (decide_eq_true (by omega)), idx_get hx, Option.bind_some, need_pos (by rw [List.length_append]; omega), need_pos (i64s (by omega)), succ_cast, List.append_assoc, e1]
   exact ih (i + 1) (by omega) hlt
  ·have : i = e.length := by omega
   subst this
   rw [cond_f (decide_eq_false (by omega)), List.take_length]
theorem back_p {g : TImpl_Geom} {t : Nat} {ns : List Nat} (hs : 2 ≤ t) (h9 : t ≤ 9) (hstr : p_Stride g.Layout = some (t : Int)) (few : g.Flat.length + g.Ends.length + g.Endss.flatten.length + g.Endss.length ≤ 1999) (h : partsOf g t ns) {F : Nat} (hF : 1048600 < F) : p_Backward F g = some (turned g t ns) := by
 have fin : ∀ x : List Int, x = endsR t 0 ns → x.length ≤ 2000 → lastR t 0 ns = g.Flat.length → p_Backward_k2 g F x = some (turned g t ns) := fun x hx hxl hlast => by
  unfold p_Backward_k2
  rw [hstr, Option.bind_some]
  have hnl : ns.length ≤ 2000 := by rw [hx, endsR_len] at hxl; exact hxl
  have hbl := back_loop hs h9 (l := g.Flat) (by omega) (g := g) rfl (x := x) hxl (G := F) (by omega) ns F 0 0 [] (by rw [hx]; rfl) (by omega) (by omega) rfl
  have hbl2 : iter (p_Backward_l4 g F x (t : Int)) F ((0 : Int), (0 : Int), []) = some (.inl (outs t (fun j => g.Flat.getD j 0) 0 ns)) := hbl
  have heq : outs t (fun j => g.Flat.getD j 0) 0 ns = row g.Flat.length (mir t 0 ns fun j => g.Flat.getD j 0) := by
   rw [outs_eq (by omega), hlast]
   unfold row
   simp
  rw [hbl2, Option.bind_some, aft_inl, heq]
  rfl
 have hfl := flat_loop (g := g) (e := g.Endss) rfl (by omega) (by omega) (E := g.Ends) (by omega) F 0 (by omega) (by omega)
 have hfl' : iter (p_Backward_l7 g) F ((0 : Int), g.Ends) = some (.inl (g.Ends ++ g.Endss.flatten)) := by simpa using hfl
 unfold p_Backward
 rw [need_pos (by omega), hfl', Option.bind_some, aft_inl]
 unfold p_Backward_k1
 rcases h with ⟨hk, he, hes, m, rfl, hm⟩ | ⟨hk, he, hes, hlast, hmp⟩ | ⟨hk, he, nss, rfl, hes, hlast⟩
 ·have hx : ([((g.Flat.length : Nat) : Int)] : List Int) = endsR t 0 [m] := by
   simp only [endsR, hm, Nat.zero_add]
  have hl : lastR t 0 [m] = g.Flat.length := by simp only [lastR, hm, Nat.zero_add]
  rw [cond_f (decide_eq_false (by omega))]
  rcases hk with hk | hk
  ·rw [cond_t (decide_eq_true hk), fin _ hx (by simp) hl]
  ·rw [cond_f (decide_eq_false (by omega)), cond_t (decide_eq_true hk), fin _ hx (by simp) hl]
 ·rw [cond_f (decide_eq_false (by omega)), cond_f (decide_eq_false (by omega)), cond_f (decide_eq_false (by omega)), hes, List.flatten_nil, List.append_nil, fin _ he (by omega) hlast]
 ·rw [cond_f (decide_eq_false (by omega)), cond_f (decide_eq_false (by omega)), cond_f (decide_eq_false (by omega)), he, List.nil_append]
  refine fin _ ?_ (by omega) hlast
  rw [hes]
  have flat : ∀ (z : List (List Nat)) (a : Nat), (endsRR t a z).flatten = endsR t a z.flatten := by
   intro z
   induction z with
   | nil => intro a; rfl
   | cons x z ih =>
    intro a
    have app : ∀ (x y : List Nat) (a : Nat), endsR t a (x ++ y) = endsR t a x ++ endsR t (lastR t a x) y := by
     intro x
     induction x with
     | nil => intro y a; rfl
     | cons m x ihx => intro y a; simp only [List.cons_append, endsR, lastR, ihx]
    simp only [endsRR, List.flatten_cons, ih, app]
  exact flat nss 0
theorem same_p {F : Nat} (l : List Nat) (hl : l.length ≤ 2000) (hF : 2010 < F) : p_SameFloats F l l = some true := by
 unfold p_SameFloats
 rw [cond_f (nF rfl)]
 have hs := scan_loop0 l (p_SameFloats_l2 l l) (fun _ => true) false
  (fun K k hk => by unfold p_SameFloats_l2; rw [cond_f (decide_eq_false (by omega))])
  (fun K k x hx => by
   have hk := (List.getElem?_eq_some_iff.1 hx).1
   unfold p_SameFloats_l2
   rw [cond_t (decide_eq_true (by omega)), idx_get hx, Option.bind_some, Option.bind_some, cond_f (nF rfl), need_pos (i64s (by omega)), succ_cast, if_pos rfl]) (F := F) (by omega)
 have : (l.all fun _ => true) = true := by simp
 rw [if_pos this] at hs
 rw [hs, Option.bind_some, aft_inl]
 rfl
theorem sameI_p {F : Nat} (l : List Int) (hl : l.length ≤ 2000) (hF : 2010 < F) : p_sameInts F l l = some true := by
 unfold p_sameInts
 rw [cond_f (nF rfl)]
 have hs := scan_loop0 l (p_sameInts_l2 l l) (fun _ => true) false
  (fun K k hk => by unfold p_sameInts_l2; rw [cond_f (decide_eq_false (by omega))])
  (fun K k x hx => by
   have hk := (List.getElem?_eq_some_iff.1 hx).1
   unfold p_sameInts_l2
   rw [cond_t (decide_eq_true (by omega)), idx_get hx, Option.bind_some, Option.bind_some, cond_f (nF rfl), need_pos (i64s (by omega)), succ_cast, if_pos rfl]) (F := F) (by omega)
 have : (l.all fun _ => true) = true := by simp
 rw [if_pos this] at hs
 rw [hs, Option.bind_some, aft_inl]
 rfl
theorem sameG_p {F : Nat} {g : TImpl_Geom} (hk : g.Kids = []) (h1 : g.Flat.length ≤ 2000) (h2 : g.Ends.length ≤ 2000) (h3 : g.Endss.length ≤ 2000) (h4 : ∀ x ∈ g.Endss, x.length ≤ 2000) (hF : 2010 < F) : p_SameGeom (F + 1) g g = some true := by
 show p_SameGeom_b _ F g g = _
 unfold p_SameGeom_b
 rw [cond_f (nF rfl), cond_f (nF rfl), cond_f (nF rfl), same_p _ h1 hF, Option.bind_some, cond_f (rfl : (!true) = false), sameI_p _ h2 hF, Option.bind_some, cond_f (rfl : (!true) = false), cond_f (nF rfl), nF rfl]
 unfold p_SameGeom_k1
 rw [cond_f rfl]
 have hs := scan_loop0 g.Endss (p_SameGeom_l5 g g F) (fun _ => true) false
  (fun K k hk => by unfold p_SameGeom_l5; rw [cond_f (decide_eq_false (by omega))])
  (fun K k x hx => by
   have hk := (List.getElem?_eq_some_iff.1 hx).1
   unfold p_SameGeom_l5
   rw [cond_t (decide_eq_true (by omega)), idx_get hx, Option.bind_some, Option.bind_some, sameI_p x (h4 x (mem_get hx)) hF, Option.bind_some, cond_f (rfl : (!true) = false), need_pos (i64s (by omega)), succ_cast, if_pos rfl]) (F := F) (by omega)
 have : (g.Endss.all fun _ => true) = true := by simp
 rw [if_pos this] at hs
 rw [hs, Option.bind_some, aft_inl]
 unfold p_SameGeom_k2
 obtain ⟨F, rfl⟩ : ∃ H, F = H + 1 := ⟨F - 1, by omega⟩
 have e2 : ∀ R K, p_SameGeom_l4 g g R K (0 : Int) = some (.inl ()) := fun R K => by unfold p_SameGeom_l4; rw [hk, cond_f (by rfl)]
 rw [iter_one, e2, Option.bind_some, aft_inl]
 rfl
theorem law_turn {g : TImpl_Geom} {F : Nat} (hw : WfG g) (hF : gF g + 2147483660 ≤ F) : p_FnReverse F g = some true := by
 unfold p_FnReverse p_gTurns p_gPlain
 obtain ⟨b, hb, hb2⟩ := zzFits2_p (F := F) (by omega) hw
 rw [hb, Option.bind_some]
 cases b with
 | false => rw [cond_t (rfl : (!false) = true)]
 | true =>
  obtain ⟨q1, q2, q3, -, q5⟩ := hb2 rfl
  rw [cond_f (rfl : (!true) = false)]
  obtain ⟨c, hc, hc2⟩ := turn_p hw (F := F) (by omega) q1 q2 q3 q5
  rw [hc, Option.bind_some]
  cases c with
  | false => rfl
  | true =>
   rw [cond_t rfl, Option.bind_some]
   by_cases h7 : g.Kind = 7
   ·rw [decide_eq_true h7]; rfl
   ·rw [decide_eq_false h7]
    rw [show (!false) = true from rfl, cond_t rfl, Option.bind_some]
    by_cases h1 : g.Kind = 1
    ·rw [decide_eq_true h1]; rfl
    ·obtain ⟨t, S⟩ := hc2 rfl h7
     rw [decide_eq_false h1, show (!false) = true from rfl, cond_f (rfl : (!true) = false)]
     obtain ⟨ns, hp⟩ := parts_p hw.tell S (by omega) h7 h1
     have few := S.few
     have st := S.str
     have st' := S.str'
     rw [turned_p S.s2 S.s9' st' few hp (by omega), Option.bind_some, cond_t rfl, back_p S.s2 S.s9' st few hp (by omega), Option.bind_some]
     obtain ⟨M, rfl⟩ : ∃ M, F = M + 1 := ⟨F - 1, by omega⟩
     rw [sameG_p (g := turned g t ns) rfl (by unfold turned; rw [row_len]; omega) (by show g.Ends.length ≤ _; omega) (by show g.Endss.length ≤ _; omega) (fun x hx => by have := mem_flat (e := g.Endss) hx; omega) (by omega), Option.bind_some]
end
end Go.Proofs.Ytbgdonedjgkhiaa.Wk
