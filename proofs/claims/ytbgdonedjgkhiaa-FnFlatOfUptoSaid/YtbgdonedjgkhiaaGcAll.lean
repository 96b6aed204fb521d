/- Proved: plain texts of a law, joined. -/
import Derived.Test.YtbgdonedjgkhiaaPureKit
import Derived.Test.YtbgdonedjgkhiaaPGc
import Derived.Test.YtbgdonedjgkhiaaVmRow
import Derived.Test.YtbgdonedjgkhiaaVmRowC
set_option linter.unusedVariables false
set_option linter.unusedSimpArgs false
namespace Go.Proofs.Ytbgdonedjgkhiaa.Wk
open Go.Vm
/-- A loop through a list that is left with badv at the first element that is not p. -/
theorem fold_exit {α σ St V T : Type} (L : List α) (b : (St → Option (Sum V T)) → St → Option (Sum V T)) (mk : Nat → σ → St) (step : σ → α → σ) (p : α → Bool) (badv : T) (out : σ → V) (Inv : Nat → σ → Prop)
    (hend : ∀ K s, Inv L.length s → b K (mk L.length s) = some (.inl (out s)))
    (hstep : ∀ K i x s, L[i]? = some x → Inv i s → b K (mk i s) = if p x = true then K (mk (i + 1) (step s x)) else some (.inr badv))
    (hinv : ∀ i x s, L[i]? = some x → Inv i s → p x = true → Inv (i + 1) (step s x)) :
    ∀ (F i : Nat) (s : σ), L.length - i < F → i ≤ L.length → Inv i s → iter b F (mk i s) = some (if (L.drop i).all p = true then .inl (out ((L.drop i).foldl step s)) else .inr badv) := by
  intro F
  induction F with
  | zero => intro i s h; omega
  | succ F ih =>
    intro i s h hi hs
    show b (iter b F) (mk i s) = _
    by_cases hk : i < L.length
    · have hx : L[i]? = some L[i] := List.getElem?_eq_getElem hk
      rw [hstep _ i _ s hx hs, List.drop_eq_getElem_cons hk, List.all_cons, List.foldl_cons]
      cases hb : p L[i] with
      | false => rw [if_neg (by simp), Bool.false_and, if_neg (by simp)]
      | true => rw [if_pos rfl, Bool.true_and]; exact ih (i + 1) _ (by omega) (by omega) (hinv i _ s hx hs hb)
    · have : i = L.length := by omega
      subst this
      rw [hend _ s hs, List.drop_length]; rfl
/-- The same, without an exit. -/
theorem fold_all {α σ St V T : Type} (L : List α) (b : (St → Option (Sum V T)) → St → Option (Sum V T)) (mk : Nat → σ → St) (step : σ → α → σ) (out : σ → V) (Inv : Nat → σ → Prop)
    (hend : ∀ K s, Inv L.length s → b K (mk L.length s) = some (.inl (out s)))
    (hstep : ∀ K i x s, L[i]? = some x → Inv i s → b K (mk i s) = K (mk (i + 1) (step s x)))
    (hinv : ∀ i x s, L[i]? = some x → Inv i s → Inv (i + 1) (step s x)) :
    ∀ (F i : Nat) (s : σ), L.length - i < F → i ≤ L.length → Inv i s → iter b F (mk i s) = some (.inl (out ((L.drop i).foldl step s))) := by
  intro F
  induction F with
  | zero => intro i s h; omega
  | succ F ih =>
    intro i s h hi hs
    show b (iter b F) (mk i s) = _
    by_cases hk : i < L.length
    · have hx : L[i]? = some L[i] := List.getElem?_eq_getElem hk
      rw [hstep _ i _ s hx hs, List.drop_eq_getElem_cons hk, List.foldl_cons]
      exact ih (i + 1) _ (by omega) (by omega) (hinv i _ s hx hs)
    · have : i = L.length := by omega
      subst this
      rw [hend _ s hs, List.drop_length]; rfl
/-- The same, where only the bound counts. -/
theorem fold_ex {α σ St V T : Type} (L : List α) (b : (St → Option (Sum V T)) → St → Option (Sum V T)) (mk : Nat → σ → St) (out : σ → V) (Inv : Nat → σ → Prop)
    (hend : ∀ K s, Inv L.length s → b K (mk L.length s) = some (.inl (out s)))
    (hstep : ∀ i x s, L[i]? = some x → Inv i s → ∃ s', Inv (i + 1) s' ∧ ∀ K, b K (mk i s) = K (mk (i + 1) s')) :
    ∀ (F i : Nat) (s : σ), L.length - i < F → i ≤ L.length → Inv i s → ∃ s', Inv L.length s' ∧ iter b F (mk i s) = some (.inl (out s')) := by
  intro F
  induction F with
  | zero => intro i s h; omega
  | succ F ih =>
    intro i s h hi hs
    show ∃ s', Inv L.length s' ∧ b (iter b F) (mk i s) = _
    by_cases hk : i < L.length
    · have hx : L[i]? = some L[i] := List.getElem?_eq_getElem hk
      obtain ⟨s', h1, h2⟩ := hstep i _ s hx hs
      rw [h2]
      exact ih (i + 1) _ (by omega) (by omega) h1
    · have : i = L.length := by omega
      subst this
      exact ⟨s, hs, hend _ s hs⟩
theorem dlt {i n : Nat} (h : i < n) : decide ((i : Int) < (n : Int)) = true := decide_eq_true (by omega)
theorem dge {n : Nat} : decide ((n : Int) < (n : Int)) = false := decide_eq_false (by omega)
theorem mem_get {α : Type} {l : List α} {i : Nat} {x : α} (h : l[i]? = some x) : x ∈ l := List.mem_of_getElem? h
theorem lt_get {α : Type} {l : List α} {i : Nat} {x : α} (h : l[i]? = some x) : i < l.length := (List.getElem?_eq_some_iff.1 h).1
theorem i64s {k : Nat} (h : k < 4611686018427387904) : inI .i64 ((k : Int) + 1) := in64 (by omega) (by omega)
end Go.Proofs.Ytbgdonedjgkhiaa.Wk

namespace Go.Proofs.Ytbgdonedjgkhiaa.Wk
open Go.Vm
set_option linter.unusedVariables false
set_option linter.unusedSimpArgs false
mutual
def gF : TImpl_Geom → Nat
  | .mk _ _ _ f e es ks => 1 + f.length + e.length + es.length + ks.length + (es.map List.length).sum + gFs ks
def gFs : List TImpl_Geom → Nat
  | [] => 0
  | g :: r => gF g + gFs r
end
mutual
def WfG : TImpl_Geom → Prop
  | .mk a b c f e es ks => (lo .i64 ≤ a ∧ a ≤ hi .i64) ∧ (lo .i64 ≤ b ∧ b ≤ hi .i64) ∧ (lo .i64 ≤ c ∧ c ≤ hi .i64) ∧ (f.length ≤ maxLen ∧ ∀ x ∈ f, (Lit.float .f64 x).wf = true) ∧ (e.length ≤ maxLen ∧ ∀ x ∈ e, lo .i64 ≤ x ∧ x ≤ hi .i64) ∧
    (es.length ≤ maxLen ∧ ∀ l ∈ es, l.length ≤ maxLen ∧ ∀ x ∈ l, lo .i64 ≤ x ∧ x ≤ hi .i64) ∧ ks.length ≤ maxLen ∧ WfGs ks
def WfGs : List TImpl_Geom → Prop
  | [] => True
  | g :: r => WfG g ∧ WfGs r
end
theorem wfGs_mem : ∀ {l : List TImpl_Geom}, WfGs l → ∀ k ∈ l, WfG k
  | [], _, k, h => by cases h
  | g :: r, h, k, hk => by
    simp only [WfGs] at h
    rcases List.mem_cons.1 hk with rfl | hk
    · exact h.1
    · exact wfGs_mem h.2 k hk
theorem wfGs_of : ∀ {l : List TImpl_Geom}, (∀ k ∈ l, WfG k) → WfGs l
  | [], _ => by simp only [WfGs]
  | g :: r, h => by simp only [WfGs]; exact ⟨h g (by simp), wfGs_of fun k hk => h k (by simp [hk])⟩
theorem gFs_mem : ∀ {l : List TImpl_Geom}, ∀ k ∈ l, gF k ≤ gFs l
  | [], k, h => by cases h
  | g :: r, k, hk => by
    simp only [gFs]
    rcases List.mem_cons.1 hk with rfl | hk
    · omega
    · have := gFs_mem k hk; omega
theorem sum_mem {l : List Nat} {x : Nat} (h : x ∈ l) : x ≤ l.sum := by
  induction l with
  | nil => cases h
  | cons a r ih =>
    simp only [List.sum_cons]
    rcases List.mem_cons.1 h with rfl | h
    · omega
    · have := ih h; omega
/-- What a geometry's data are known to be. -/
structure Wf (g : TImpl_Geom) : Prop where
  kind : lo .i64 ≤ g.Kind ∧ g.Kind ≤ hi .i64
  layout : lo .i64 ≤ g.Layout ∧ g.Layout ≤ hi .i64
  srid : lo .i64 ≤ g.SRID ∧ g.SRID ≤ hi .i64
  flat : g.Flat.length ≤ maxLen ∧ ∀ x ∈ g.Flat, (Lit.float .f64 x).wf = true
  ends : g.Ends.length ≤ maxLen ∧ ∀ x ∈ g.Ends, lo .i64 ≤ x ∧ x ≤ hi .i64
  endss : g.Endss.length ≤ maxLen ∧ ∀ l ∈ g.Endss, l.length ≤ maxLen ∧ ∀ x ∈ l, lo .i64 ≤ x ∧ x ≤ hi .i64
  kids : g.Kids.length ≤ maxLen
  kid : ∀ k ∈ g.Kids, WfG k ∧ gF k < gF g
  big : g.Flat.length < gF g ∧ g.Ends.length < gF g ∧ g.Endss.length < gF g ∧ g.Kids.length < gF g ∧ ∀ l ∈ g.Endss, l.length < gF g
theorem WfG.tell {g : TImpl_Geom} (h : WfG g) : Wf g := by
  cases g with
  | mk a b c f e es ks =>
    simp only [WfG] at h
    obtain ⟨h1, h2, h3, h4, h5, h6, h7, h8⟩ := h
    refine ⟨h1, h2, h3, h4, h5, h6, h7, fun k hk => ⟨wfGs_mem h8 k hk, ?_⟩, ?_, ?_, ?_, ?_, fun l hl => ?_⟩
    · have hk' : k ∈ ks := hk
      have := gFs_mem k hk'; simp only [gF]; omega
    · simp only [gF]; omega
    · simp only [gF]; omega
    · simp only [gF]; omega
    · simp only [gF]; omega
    · have : l.length ∈ es.map List.length := List.mem_map.2 ⟨l, hl, rfl⟩
      have := sum_mem this
      simp only [gF]; omega
theorem maxLenV : maxLen = 9223372036854775807 := by decide +kernel
theorem inM {i L : Nat} (h : i < L) (hL : L ≤ maxLen) : inI .i64 ((i : Int) + 1) := in64 (by omega) (by rw [maxLenV] at hL; omega)
theorem tot_loop {σ S ρ : Type} {L : Nat} {P : σ → Prop} {Post : ρ → Prop} (mk : σ → Int → S) (b : (S → Option ρ) → S → Option ρ)
    (hend : ∀ K s, P s → ∃ o, b K (mk s (L : Int)) = some o ∧ Post o)
    (hstep : ∀ K s (i : Nat), i < L → P s → (∃ o, b K (mk s (i : Int)) = some o ∧ Post o) ∨ ∃ s', P s' ∧ b K (mk s (i : Int)) = K (mk s' ((i + 1 : Nat) : Int))) :
    ∀ n i s, L - i < n → i ≤ L → P s → ∃ o, iter b n (mk s (i : Int)) = some o ∧ Post o := by
  intro n
  induction n with
  | zero => intro i s h; omega
  | succ n ih =>
    intro i s h hi hp
    show ∃ o, b (iter b n) (mk s (i : Int)) = some o ∧ Post o
    by_cases hil : i < L
    · rcases hstep (iter b n) s i hil hp with h1 | ⟨s', h1, h2⟩
      · exact h1
      · rw [h2]; exact ih (i + 1) s' (by omega) (by omega) h1
    · obtain rfl : i = L := by omega
      exact hend _ s hp
theorem weight_t : ∀ (N : Nat) (g : TImpl_Geom), gF g ≤ N → WfG g → ∀ F, gF g < F → ∀ a, ∃ n, p_Weight F g a = some n := by
  intro N
  induction N with
  | zero => intro g h hw; have := hw.tell.big.1; omega
  | succ N ih =>
    intro g h hw F hF a
    have W := hw.tell
    obtain ⟨G, rfl⟩ : ∃ G, F = G + 1 := ⟨F - 1, by omega⟩
    show ∃ n, p_Weight_b (fun a0 a1 => p_Weight G a0 a1) G g a = some n
    unfold p_Weight_b
    have h1 := tot_loop (L := g.Endss.length) (P := fun _ => True) (Post := fun o : Sum Int Int => ∃ v, o = .inl v) (fun s i => (s, i)) (p_Weight_l4 g) (fun K s _ => by
      unfold p_Weight_l4; dsimp only; rw [cond_f (decide_eq_false (by omega))]; exact ⟨_, rfl, _, rfl⟩) (fun K s i hi _ => by
      refine .inr ⟨IntKind.i64.wrap (s + IntKind.i64.wrap ((1 : Int) + ((g.Endss[i].length : Nat) : Int))), trivial, ?_⟩
      unfold p_Weight_l4; dsimp only
      rw [cond_t (decide_eq_true (by omega)), idx_get (List.getElem?_eq_getElem hi), Option.bind_some, need_pos (inM hi W.endss.1), succ_cast]) G 0
    obtain ⟨o, h2, v, rfl⟩ := h1 (IntKind.i64.wrap ((IntKind.i64.wrap ((1 : Int) + ((g.Flat.length : Nat) : Int))) + ((g.Ends.length : Nat) : Int))) (by have := W.big; omega) (by omega) trivial
    rw [show ((0 : Nat) : Int) = 0 from rfl] at h2
    rw [h2, Option.bind_some, aft_inl]
    unfold p_Weight_k1
    have h3 := tot_loop (L := g.Kids.length) (P := fun _ => True) (Post := fun o : Sum Int Int => ∃ v, o = .inl v ∨ o = .inr v) (fun s i => (s, i)) (p_Weight_l3 g a (fun a0 a1 => p_Weight G a0 a1)) (fun K s _ => by
      unfold p_Weight_l3; dsimp only; rw [cond_f (decide_eq_false (by omega))]; exact ⟨_, rfl, _, .inl rfl⟩) (fun K s i hi _ => by
      have hk := W.kid _ (List.getElem_mem hi)
      by_cases c : a < s
      · refine .inl ⟨.inr s, ?_, s, .inr rfl⟩
        unfold p_Weight_l3; dsimp only
        rw [cond_t (decide_eq_true (by omega)), idx_get (List.getElem?_eq_getElem hi), Option.bind_some, cond_t (decide_eq_true c)]
      · obtain ⟨n, hn⟩ := ih _ (by omega) hk.1 G (by omega) (IntKind.i64.wrap (a - s))
        refine .inr ⟨IntKind.i64.wrap (s + n), trivial, ?_⟩
        unfold p_Weight_l3; dsimp only
        rw [cond_t (decide_eq_true (by omega)), idx_get (List.getElem?_eq_getElem hi), Option.bind_some, cond_f (decide_eq_false c), hn, Option.bind_some, need_pos (inM hi W.kids), succ_cast]) G 0 v (by have := W.big; omega) (by omega) trivial
    obtain ⟨o, h4, u, h5⟩ := h3
    rw [show ((0 : Nat) : Int) = 0 from rfl] at h4
    rw [h4, Option.bind_some]
    rcases h5 with rfl | rfl
    · exact ⟨_, rfl⟩
    · exact ⟨_, rfl⟩
theorem layouts_t (a : Int) : ∀ (N : Nat) (g : TImpl_Geom), gF g ≤ N → WfG g → ∀ F, gF g < F → ∃ b, p_gLayouts F g a = some b := by
  intro N
  induction N with
  | zero => intro g h hw; have := hw.tell.big.1; omega
  | succ N ih =>
    intro g h hw F hF
    have W := hw.tell
    obtain ⟨G, rfl⟩ : ∃ G, F = G + 1 := ⟨F - 1, by omega⟩
    show ∃ n, p_gLayouts_b (fun a0 a1 => p_gLayouts G a0 a1) G g a = some n
    unfold p_gLayouts_b
    have h3 := tot_loop (L := g.Kids.length) (P := fun _ => True) (Post := fun o : Sum Unit Bool => True) (fun (s : Unit) i => i) (p_gLayouts_l2 g a (fun a0 a1 => p_gLayouts G a0 a1)) (fun K s _ => by
      unfold p_gLayouts_l2; dsimp only; rw [cond_f (decide_eq_false (by omega))]; exact ⟨_, rfl, trivial⟩) (fun K s i hi _ => by
      have hk := W.kid _ (List.getElem_mem hi)
      obtain ⟨b, hb⟩ := ih _ (by omega) hk.1 G (by omega)
      have e : p_gLayouts_l2 g a (fun a0 a1 => p_gLayouts G a0 a1) K (i : Int) = cond (!b) (some (Sum.inr false)) (K ((i + 1 : Nat) : Int)) := by
        unfold p_gLayouts_l2
        dsimp only
        rw [cond_t (decide_eq_true (by omega)), idx_get (List.getElem?_eq_getElem hi), Option.bind_some, hb, Option.bind_some, need_pos (inM hi W.kids), succ_cast]
      cases b with
      | false => exact .inl ⟨_, e, trivial⟩
      | true => exact .inr ⟨(), trivial, e⟩) G 0 () (by have := W.big; omega) (by omega) trivial
    obtain ⟨o, h4, -⟩ := h3
    rw [show ((0 : Nat) : Int) = 0 from rfl] at h4
    rw [h4, Option.bind_some]
    cases o with
    | inr r => exact ⟨_, rfl⟩
    | inl v =>
      rw [aft_inl]
      unfold p_gLayouts_k1
      cases decide (g.Layout ≤ a) <;> cases decide ((1 : Int) ≤ g.Layout) <;> cases decide (g.Kind = 7) <;> exact ⟨_, rfl⟩
theorem cover_t (a b : Int) : ∃ c, p_Cover a b = some c := by
  unfold p_Cover
  cases decide (a = 2) <;> cases decide (b = 3) <;> cases decide (a = 3) <;> cases decide (b = 2) <;> exact ⟨_, rfl⟩
theorem layoutOf_t : ∀ (N : Nat) (g : TImpl_Geom), gF g ≤ N → WfG g → ∀ F, gF g < F → ∃ b, p_LayoutOf F g = some b := by
  intro N
  induction N with
  | zero => intro g h hw; have := hw.tell.big.1; omega
  | succ N ih =>
    intro g h hw F hF
    have W := hw.tell
    obtain ⟨G, rfl⟩ : ∃ G, F = G + 1 := ⟨F - 1, by omega⟩
    show ∃ n, p_LayoutOf_b (fun a0 => p_LayoutOf G a0) G g = some n
    have key : ∀ c, ∃ n, p_LayoutOf_k1 g G (fun a0 => p_LayoutOf G a0) c = some n := fun c => by
      unfold p_LayoutOf_k1
      cases c with
      | true => exact ⟨_, rfl⟩
      | false =>
        rw [cond_f rfl]
        have h3 := tot_loop (L := g.Kids.length) (P := fun _ => True) (Post := fun o : Sum Int Int => ∃ v, o = .inl v) (fun s i => (s, i)) (p_LayoutOf_l3 g (fun a0 => p_LayoutOf G a0)) (fun K s _ => by
          unfold p_LayoutOf_l3; dsimp only; rw [cond_f (decide_eq_false (by omega))]; exact ⟨_, rfl, _, rfl⟩) (fun K s i hi _ => by
          have hk := W.kid _ (List.getElem_mem hi)
          obtain ⟨n, hn⟩ := ih _ (by omega) hk.1 G (by omega)
          obtain ⟨m, hm⟩ := cover_t s n
          refine .inr ⟨m, trivial, ?_⟩
          unfold p_LayoutOf_l3; dsimp only
          rw [cond_t (decide_eq_true (by omega)), idx_get (List.getElem?_eq_getElem hi), Option.bind_some, hn, Option.bind_some, hm, Option.bind_some, need_pos (inM hi W.kids), succ_cast]) G 0 g.Layout (by have := W.big; omega) (by omega) trivial
        obtain ⟨o, h4, u, rfl⟩ := h3
        rw [show ((0 : Nat) : Int) = 0 from rfl] at h4
        rw [h4, Option.bind_some]
        exact ⟨_, rfl⟩
    unfold p_LayoutOf_b
    cases (!decide (g.Kind = (7 : Int))) with
    | true => rw [cond_t rfl]; exact key _
    | false => rw [cond_f rfl]; exact key _
theorem goodEnds_t {l : List Int} (h1 : l.length ≤ maxLen) (h2 : ∀ x ∈ l, lo .i64 ≤ x ∧ x ≤ hi .i64) {F : Nat} (hF : l.length < F) {a s : Int} (ha : 0 ≤ a) (hs : s ≠ 0) (hhi : a ≤ hi .i64) (c : Bool) :
    ∃ n b, p_goodEnds F l a s c = some (n, b) ∧ 0 ≤ n ∧ n ≤ hi .i64 := by
  unfold p_goodEnds
  have h3 := tot_loop (L := l.length) (P := fun x : Int => 0 ≤ x ∧ x ≤ hi .i64) (Post := fun o : Sum Int (Int × Bool) => ∃ v, 0 ≤ v ∧ v ≤ hi .i64 ∧ (o = .inl v ∨ ∃ b, o = .inr (v, b))) (fun s i => (s, i)) (p_goodEnds_l2 l s c) (fun K v hv => by
    unfold p_goodEnds_l2; dsimp only; rw [cond_f (decide_eq_false (by omega))]; exact ⟨_, rfl, v, hv.1, hv.2, .inl rfl⟩) (fun K v i hi hv => by
    have hx := h2 _ (List.getElem_mem hi)
    obtain ⟨x, hxe⟩ : ∃ x, x = l[i] := ⟨_, rfl⟩
    rw [← hxe] at hx
    have step : ∀ b, (∃ o, p_goodEnds_k3 (v, (i : Int)) K x b = some o ∧ ∃ v, 0 ≤ v ∧ v ≤ Vm.hi .i64 ∧ (o = .inl v ∨ ∃ b, o = .inr (v, b))) ∨ (b = false ∧ p_goodEnds_k3 (v, (i : Int)) K x b = K (x, ((i + 1 : Nat) : Int))) := fun b => by
      unfold p_goodEnds_k3; dsimp only
      cases b with
      | true => exact .inl ⟨_, rfl, v, hv.1, hv.2, .inr ⟨_, rfl⟩⟩
      | false => rw [cond_f rfl, need_pos (inM hi h1), succ_cast]; exact .inr ⟨rfl, rfl⟩
    have go : ∀ b, (b = false → v ≤ x) → p_goodEnds_l2 l s c K (v, (i : Int)) = p_goodEnds_k3 (v, (i : Int)) K x b → (∃ o, p_goodEnds_l2 l s c K (v, (i : Int)) = some o ∧ ∃ v, 0 ≤ v ∧ v ≤ Vm.hi .i64 ∧ (o = .inl v ∨ ∃ b, o = .inr (v, b))) ∨
        ∃ s', (0 ≤ s' ∧ s' ≤ Vm.hi .i64) ∧ p_goodEnds_l2 l s c K (v, (i : Int)) = K (s', ((i + 1 : Nat) : Int)) := fun b hb e => by
      rcases step b with ⟨o, h4, h5⟩ | ⟨h4, h5⟩
      · exact .inl ⟨o, e.trans h4, h5⟩
      · exact .inr ⟨x, ⟨by have := hb h4; omega, hx.2⟩, e.trans h5⟩
    by_cases c1 : x < v
    · refine go true (fun h => by cases h) ?_
      unfold p_goodEnds_l2; dsimp only
      rw [cond_t (decide_eq_true (by omega)), idx_get (List.getElem?_eq_getElem hi), Option.bind_some, ← hxe, cond_t (decide_eq_true c1)]
    · have hin : inI .i64 (x - v) := in64 (by omega) (by have := hx.2; simp only [Vm.hi] at this; omega)
      by_cases c2 : Int.tmod (x - v) s = 0
      · cases c with
        | false =>
          refine go false (fun _ => by omega) ?_
          unfold p_goodEnds_l2; dsimp only
          rw [cond_t (decide_eq_true (by omega)), idx_get (List.getElem?_eq_getElem hi), Option.bind_some, ← hxe, cond_f (decide_eq_false c1), need_pos hin, need_pos hs, cond_f (nF c2), cond_f rfl]
        | true =>
          refine go (decide (s < x - v)) (fun _ => by omega) ?_
          unfold p_goodEnds_l2; dsimp only
          rw [cond_t (decide_eq_true (by omega)), idx_get (List.getElem?_eq_getElem hi), Option.bind_some, ← hxe, cond_f (decide_eq_false c1), need_pos hin, need_pos hs, cond_f (nF c2), cond_t rfl, need_pos hin]
      · refine go true (fun h => by cases h) ?_
        unfold p_goodEnds_l2; dsimp only
        rw [cond_t (decide_eq_true (by omega)), idx_get (List.getElem?_eq_getElem hi), Option.bind_some, ← hxe, cond_f (decide_eq_false c1), need_pos hin, need_pos hs, cond_t (nT c2)]) F 0 a (by omega) (by omega) ⟨ha, hhi⟩
  obtain ⟨o, h4, v, h5, h6, h7⟩ := h3
  rw [show ((0 : Nat) : Int) = 0 from rfl] at h4
  rw [h4, Option.bind_some]
  rcases h7 with rfl | ⟨b, rfl⟩
  · exact ⟨v, true, rfl, h5, h6⟩
  · exact ⟨v, b, rfl, h5, h6⟩
theorem stride_t (a : Int) : ∃ s : Nat, p_Stride a = some (s : Int) ∧ (s ≠ 0 → 1 ≤ a ∧ 2 ≤ s ∧ p_Layout_Stride a = some (s : Int) ∧ (a ≤ 9 → s ≤ 9) ∧ (5 ≤ a → a = s)) ∧ (s = 0 → a ≤ 0) := by
  unfold p_Stride p_Layout_Stride
  by_cases c : a < 1
  · exact ⟨0, by rw [cond_t (decide_eq_true c)]; rfl, fun h => absurd rfl h, fun _ => by omega⟩
  · rw [cond_f (decide_eq_false c), cond_f (b := decide (a = 0)) (decide_eq_false (by omega))]
    by_cases c1 : a = 1
    · subst c1; exact ⟨2, rfl, fun _ => ⟨by omega, by omega, rfl, by omega, by omega⟩, by omega⟩
    rw [cond_f (decide_eq_false c1)]
    by_cases c2 : a = 2
    · subst c2; exact ⟨3, rfl, fun _ => ⟨by omega, by omega, rfl, by omega, by omega⟩, by omega⟩
    rw [cond_f (decide_eq_false c2)]
    by_cases c3 : a = 3
    · subst c3; exact ⟨3, rfl, fun _ => ⟨by omega, by omega, rfl, by omega, by omega⟩, by omega⟩
    rw [cond_f (decide_eq_false c3), cond_f (decide_eq_false c1), cond_f (decide_eq_false c2), cond_f (decide_eq_false c3)]
    refine ⟨a.toNat, by rw [show ((a.toNat : Nat) : Int) = a by omega], fun _ => ⟨by omega, by omega, ?_, by omega, by omega⟩, by omega⟩
    rw [show ((a.toNat : Nat) : Int) = a by omega]
    by_cases c4 : a = 4
    · rw [cond_t (decide_eq_true c4), c4]
    · rw [cond_f (decide_eq_false c4)]
end Go.Proofs.Ytbgdonedjgkhiaa.Wk

namespace Go.Proofs.Ytbgdonedjgkhiaa.Wk
open Go.Vm
set_option linter.unusedVariables false
set_option linter.unusedSimpArgs false
theorem good_k4_t {g : TImpl_Geom} (W : Wf g) {F : Nat} (hF : gF g ≤ F) {s : Int} (hs : s ≠ 0) : ∃ b, p_Good_k4 g F s () = some b := by
  have k6 : ∀ c, ∃ b, p_Good_k6 g F s c = some b := fun c => by
    unfold p_Good_k6
    cases c with
    | true =>
      rw [cond_t rfl]
      obtain ⟨n, b, h, _⟩ := goodEnds_t W.ends.1 W.ends.2 (F := F) (by have := W.big; omega) (a := 0) (s := s) (by omega) hs (by simp only [Vm.hi]; omega) (decide (g.Kind = 4))
      rw [h, Option.bind_some]
      cases b with
      | true => exact ⟨_, rfl⟩
      | false => exact ⟨_, rfl⟩
    | false =>
      rw [cond_f rfl]
      cases decide (g.Kind = (6 : Int)) with
      | false => exact ⟨_, rfl⟩
      | true =>
        rw [cond_t rfl]
        have h3 := tot_loop (L := g.Endss.length) (P := fun x : Int × Bool => 0 ≤ x.1 ∧ x.1 ≤ hi .i64) (Post := fun o : Sum (Int × Bool) Bool => ∃ v, o = .inl v) (fun x i => (x.1, x.2, i)) (p_Good_l8 g F s) (fun K x hx => by
          unfold p_Good_l8; dsimp only; rw [cond_f (decide_eq_false (by omega))]; exact ⟨_, rfl, _, rfl⟩) (fun K x i hi hx => by
          have hm := List.getElem_mem hi
          obtain ⟨n, b, h, h1, h2⟩ := goodEnds_t (W.endss.2 _ hm).1 (W.endss.2 _ hm).2 (F := F) (by have := W.big.2.2.2.2 _ hm; omega) (a := x.1) (s := s) hx.1 hs hx.2 false
          refine .inr ⟨(n, x.2 && b), ⟨h1, h2⟩, ?_⟩
          unfold p_Good_l8; dsimp only
          rw [cond_t (decide_eq_true (by omega)), idx_get (List.getElem?_eq_getElem hi), Option.bind_some, h, Option.bind_some]
          cases x.2 with
          | true => rw [cond_t rfl, need_pos (inM hi W.endss.1), succ_cast]; rfl
          | false => rw [cond_f rfl, need_pos (inM hi W.endss.1), succ_cast]; rfl) F 0 ((0 : Int), true) (by have := W.big; omega) (by omega) ⟨by omega, by simp only [Vm.hi]; omega⟩
        obtain ⟨o, h4, v, rfl⟩ := h3
        have h5 : iter (p_Good_l8 g F s) F ((0 : Int), true, (0 : Int)) = some (.inl v) := h4
        rw [h5, Option.bind_some, aft_inl]
        unfold p_Good_k7
        cases v.2 <;> cases decide (v.1 = ((g.Flat.length : Nat) : Int)) <;> exact ⟨_, rfl⟩
  have k5 : ∀ c, ∃ b, p_Good_k5 g F s c = some b := fun c => by
    unfold p_Good_k5
    cases c with
    | true => exact ⟨_, rfl⟩
    | false =>
      rw [cond_f rfl]
      by_cases c1 : g.Kind = 3
      · rw [cond_t (decide_eq_true c1)]; exact k6 _
      · rw [cond_f (decide_eq_false c1)]
        by_cases c2 : g.Kind = 4
        · rw [cond_t (decide_eq_true c2)]; exact k6 _
        · rw [cond_f (decide_eq_false c2)]; exact k6 _
  unfold p_Good_k4
  by_cases c1 : g.Kind = 1
  · rw [cond_t (decide_eq_true c1)]
    cases decide (((g.Ends.length : Nat) : Int) = 0) <;> exact ⟨_, rfl⟩
  · rw [cond_f (decide_eq_false c1)]
    by_cases c2 : g.Kind = 2
    · rw [cond_t (decide_eq_true c2)]; exact k5 _
    · rw [cond_f (decide_eq_false c2)]; exact k5 _
/-- What is known of good data that are no collection. -/
structure GoodG (F : Nat) (g : TImpl_Geom) (s : Nat) : Prop where
  s2 : 2 ≤ s
  lay : 1 ≤ g.Layout
  str : p_Stride g.Layout = some (s : Int)
  str' : p_Layout_Stride g.Layout = some (s : Int)
  s9 : g.Layout ≤ 9 → s ≤ 9
  s5 : 5 ≤ g.Layout → g.Layout = s
  dvd : g.Flat.length % s = 0
  kids : g.Kids = []
  endss : g.Kind ≠ 6 → g.Endss = []
  k4 : p_Good_k4 g F s () = some true
theorem good_b {g : TImpl_Geom} (W : Wf g) {F : Nat} (hF : gF g ≤ F) (R : TImpl_Geom → Option Bool) (h7 : g.Kind ≠ 7) : ∃ b, p_Good_b R F g = some b ∧ (b = true → ∃ s, GoodG F g s) := by
  obtain ⟨s, hs, h1, h2⟩ := stride_t g.Layout
  unfold p_Good_b
  rw [hs, Option.bind_some, cond_f (decide_eq_false h7)]
  by_cases c0 : s = 0
  · rw [cond_t (decide_eq_true (by omega))]; exact ⟨_, rfl, fun h => by cases h⟩
  rw [cond_f (decide_eq_false (by omega)), need_pos (by omega)]
  obtain ⟨b1, b2, b3, b4, b5⟩ := h1 c0
  by_cases c1 : Int.tmod ((g.Flat.length : Nat) : Int) (s : Int) = 0
  · rw [cond_f (nF c1)]
    by_cases c2 : (0 : Int) < ((g.Kids.length : Nat) : Int)
    · rw [cond_t (decide_eq_true c2)]; exact ⟨_, rfl, fun h => by cases h⟩
    rw [cond_f (decide_eq_false c2)]
    obtain ⟨b, hb⟩ := good_k4_t W hF (s := (s : Int)) (by omega)
    have hd : g.Flat.length % s = 0 := by
      have : Int.tmod ((g.Flat.length : Nat) : Int) (s : Int) = ((g.Flat.length % s : Nat) : Int) := by
        rw [Int.tmod_eq_emod_of_nonneg (by omega)]; rfl
      omega
    have hkids : g.Kids = [] := List.length_eq_zero_iff.1 (by omega)
    by_cases c3 : (0 : Int) < ((g.Endss.length : Nat) : Int)
    · rw [cond_t (decide_eq_true c3)]
      by_cases c4 : g.Kind = 6
      · rw [cond_f (nF c4), hb]
        exact ⟨b, rfl, fun h => ⟨s, b2, b1, hs, b3, b4, b5, hd, hkids, fun h => absurd c4 h, by rw [hb, h]⟩⟩
      · rw [cond_t (nT c4)]; exact ⟨_, rfl, fun h => by cases h⟩
    · rw [cond_f (decide_eq_false c3), hb]
      exact ⟨b, rfl, fun h => ⟨s, b2, b1, hs, b3, b4, b5, hd, hkids, fun _ => List.length_eq_zero_iff.1 (by omega), by rw [hb, h]⟩⟩
  · rw [cond_t (nT c1)]; exact ⟨_, rfl, fun h => by cases h⟩
theorem good_t : ∀ (N : Nat) (g : TImpl_Geom), gF g ≤ N → WfG g → ∀ F, gF g < F → ∃ b, p_Good F g = some b ∧ (b = true → g.Kind ≠ 7 → ∃ s, GoodG (F - 1) g s) := by
  intro N
  induction N with
  | zero => intro g h hw; have := hw.tell.big.1; omega
  | succ N ih =>
    intro g h hw F hF
    have W := hw.tell
    obtain ⟨G, rfl⟩ : ∃ G, F = G + 1 := ⟨F - 1, by omega⟩
    show ∃ b, p_Good_b (fun a0 => p_Good G a0) G g = some b ∧ (b = true → g.Kind ≠ 7 → ∃ s, GoodG G g s)
    by_cases c7 : g.Kind = 7
    · obtain ⟨s, hs, -, -⟩ := stride_t g.Layout
      unfold p_Good_b
      rw [hs, Option.bind_some, cond_t (decide_eq_true c7)]
      have h3 := tot_loop (L := g.Kids.length) (P := fun _ => True) (Post := fun o : Sum Unit Bool => True) (fun (s : Unit) i => i) (p_Good_l3 g G (fun a0 => p_Good G a0)) (fun K s _ => by
        unfold p_Good_l3; dsimp only; rw [cond_f (decide_eq_false (by omega))]; exact ⟨_, rfl, trivial⟩) (fun K s i hi _ => by
        have hk := W.kid _ (List.getElem_mem hi)
        obtain ⟨b, hb, -⟩ := ih _ (by omega) hk.1 G (by omega)
        obtain ⟨n, hn⟩ := layoutOf_t _ _ (Nat.le_refl _) hk.1 G (by omega)
        by_cases cc : b = true ∧ (g.Layout ≠ 0 → n = g.Layout)
        · refine .inr ⟨(), trivial, ?_⟩
          unfold p_Good_l3; dsimp only
          rw [cond_t (decide_eq_true (by omega)), idx_get (List.getElem?_eq_getElem hi), Option.bind_some, hb, Option.bind_some, cc.1, cond_f (rfl : (!true) = false), need_pos (inM hi W.kids), succ_cast]
          by_cases c0 : g.Layout = 0
          · rw [cond_f (nF c0)]
          · rw [cond_t (nT c0), hn, Option.bind_some, cond_f (nF (cc.2 c0))]
        · refine .inl ⟨.inr false, ?_, trivial⟩
          unfold p_Good_l3; dsimp only
          rw [cond_t (decide_eq_true (by omega)), idx_get (List.getElem?_eq_getElem hi), Option.bind_some, hb, Option.bind_some]
          cases b with
          | false => rw [cond_t (rfl : (!false) = true)]
          | true =>
            rw [cond_f (rfl : (!true) = false), need_pos (inM hi W.kids)]
            have c0 : g.Layout ≠ 0 := fun h => cc ⟨rfl, fun h2 => absurd h h2⟩
            rw [cond_t (nT c0), hn, Option.bind_some, cond_t (nT fun h => cc ⟨rfl, fun _ => h⟩)]) G 0 () (by have := W.big; omega) (by omega) trivial
      obtain ⟨o, h4, -⟩ := h3
      rw [show ((0 : Nat) : Int) = 0 from rfl] at h4
      rw [h4, Option.bind_some]
      cases o with
      | inr r => exact ⟨_, rfl, fun _ h => absurd c7 h⟩
      | inl v =>
        rw [aft_inl]
        unfold p_Good_k1 p_Good_k2
        cases decide ((0 : Int) ≤ g.Layout) <;> exact ⟨_, rfl, fun _ h => absurd c7 h⟩
    · obtain ⟨b, hb, h1⟩ := good_b W (show gF g ≤ G by omega) (fun a0 => p_Good G a0) c7
      exact ⟨b, hb, fun h _ => h1 h⟩
theorem iter_one {S ρ : Type} (b : (S → Option ρ) → S → Option ρ) (n : Nat) (s : S) : iter b (n + 1) s = b (iter b n) s := rfl
/-- The test of one geometry. -/
theorem gGood_p {g : TImpl_Geom} (hw : WfG g) {F : Nat} (hF : gF g + 10 ≤ F) : ∃ b, p_gGood F [g] = some b ∧ (b = true → (g.Kind ≠ 7 → ∃ s, GoodG (F - 1) g s) ∧ p_gLayouts F g 9 = some true ∧ ∃ n, p_Weight F g 2000 = some n ∧ ¬ IntKind.i64.wrap (2000 - n) < 0) := by
  obtain ⟨G, rfl⟩ : ∃ G, F = G + 2 := ⟨F - 2, by omega⟩
  have hlen : (([g] : List TImpl_Geom).length : Int) = 1 := rfl
  have hi0 : idx [g] (0 : Int) = some g := rfl
  obtain ⟨n, hn⟩ := weight_t _ g (Nat.le_refl _) hw (G + 2) (by omega) 2000
  obtain ⟨c, hc⟩ := layouts_t 9 _ g (Nat.le_refl _) hw (G + 2) (by omega)
  obtain ⟨b, hb, hb2⟩ := good_t _ g (Nat.le_refl _) hw (G + 2) (by omega)
  have small : p_gSmall (G + 2) [g] = some (!decide (IntKind.i64.wrap (2000 - n) < 0) && c) := by
    unfold p_gSmall
    rw [iter_one]
    obtain ⟨K, hK⟩ : ∃ K, K = iter (p_gSmall_l2 [g] (G + 2)) (G + 1) := ⟨_, rfl⟩
    rw [← hK]
    unfold p_gSmall_l2
    dsimp only
    rw [hlen, cond_t (decide_eq_true (by omega)), hi0, Option.bind_some, hn, Option.bind_some]
    by_cases c1 : IntKind.i64.wrap (2000 - n) < 0
    · rw [cond_t (decide_eq_true c1), decide_eq_true c1]; rfl
    · rw [cond_f (decide_eq_false c1), decide_eq_false c1, hc, Option.bind_some]
      cases c with
      | false => rfl
      | true =>
        rw [cond_f (rfl : (!true) = false), need_pos (in64 (by omega) (by omega)), hK, iter_one]
        unfold p_gSmall_l2
        dsimp only
        rw [hlen, cond_f (decide_eq_false (by omega)), Option.bind_some, aft_inl]
        rfl
  unfold p_gGood
  rw [small, Option.bind_some]
  cases hsm : (!decide (IntKind.i64.wrap (2000 - n) < 0) && c) with
  | false => exact ⟨false, rfl, fun h => by cases h⟩
  | true =>
    rw [cond_f (rfl : (!true) = false)]
    rw [Bool.and_eq_true] at hsm
    have e : iter (p_gGood_l2 [g] (G + 2)) (G + 2) (0 : Int) = some (if b = true then .inl () else .inr false) := by
      rw [iter_one]
      obtain ⟨K, hK⟩ : ∃ K, K = iter (p_gGood_l2 [g] (G + 2)) (G + 1) := ⟨_, rfl⟩
      rw [← hK]
      unfold p_gGood_l2
      rw [hlen, cond_t (decide_eq_true (by omega)), hi0, Option.bind_some, hb, Option.bind_some]
      cases b with
      | false => rfl
      | true =>
        rw [cond_f (rfl : (!true) = false), need_pos (in64 (by omega) (by omega)), hK, iter_one]
        unfold p_gGood_l2
        rw [hlen, cond_f (decide_eq_false (by omega))]
        rfl
    rw [e, Option.bind_some]
    cases b with
    | false => exact ⟨false, rfl, fun h => by cases h⟩
    | true =>
      exact ⟨true, rfl, fun _ => ⟨fun h => hb2 rfl h, by rw [hc, hsm.2], n, hn, by simpa using hsm.1⟩⟩
/-- The test of sizes. -/
theorem zzFits2_p {g : TImpl_Geom} {F : Nat} (hF : gF g < F) (hw : WfG g) : ∃ b, p_zzFits2 F g = some b ∧ (b = true → g.Flat.length ≤ 2147483647 ∧ g.Ends.length ≤ 2147483647 ∧ g.Endss.length ≤ 2147483647 ∧ g.Kids.length ≤ 2147483647 ∧ ∀ l ∈ g.Endss, l.length ≤ 2147483647) := by
  have W := hw.tell
  unfold p_zzFits2
  by_cases c1 : (2147483647 : Int) < ((g.Flat.length : Nat) : Int)
  · rw [cond_t (decide_eq_true c1)]; exact ⟨_, rfl, fun h => by cases h⟩
  rw [cond_f (decide_eq_false c1)]
  by_cases c2 : (2147483647 : Int) < ((g.Ends.length : Nat) : Int)
  · rw [cond_t (decide_eq_true c2)]; exact ⟨_, rfl, fun h => by cases h⟩
  rw [cond_f (decide_eq_false c2)]
  have h3 : ∃ b, p_zzFits3 F g.Endss = some b ∧ (b = true → g.Endss.length ≤ 2147483647 ∧ ∀ l ∈ g.Endss, l.length ≤ 2147483647) := by
    unfold p_zzFits3
    by_cases c3 : (2147483647 : Int) < ((g.Endss.length : Nat) : Int)
    · rw [cond_t (decide_eq_true c3)]; exact ⟨_, rfl, fun h => by cases h⟩
    rw [cond_f (decide_eq_false c3)]
    have h4 := scan_loop0 g.Endss (p_zzFits3_l2 g.Endss) (fun l => decide (l.length ≤ 2147483647)) false (fun K k hk => by
      unfold p_zzFits3_l2; rw [cond_f (decide_eq_false (by omega))]) (fun K k x hx => by
      have hk := (List.getElem?_eq_some_iff.1 hx).1
      unfold p_zzFits3_l2
      rw [cond_t (decide_eq_true (by omega)), idx_get hx, Option.bind_some]
      by_cases c4 : x.length ≤ 2147483647
      · rw [cond_f (decide_eq_false (by omega)), need_pos (in64 (by omega) (by omega)), if_pos (decide_eq_true c4), succ_cast]
      · rw [cond_t (decide_eq_true (by omega)), if_neg (by simpa using c4)]) (F := F) (by have := W.big; omega)
    rw [h4, Option.bind_some]
    by_cases c5 : (g.Endss.all fun l => decide (l.length ≤ 2147483647)) = true
    · rw [if_pos c5, aft_inl]
      exact ⟨true, rfl, fun _ => ⟨by omega, fun l hl => of_decide_eq_true (List.all_eq_true.1 c5 l hl)⟩⟩
    · rw [if_neg c5, aft_inr]; exact ⟨_, rfl, fun h => by cases h⟩
  obtain ⟨b, hb, h5⟩ := h3
  rw [hb, Option.bind_some]
  cases b with
  | false => exact ⟨_, rfl, fun h => by cases h⟩
  | true =>
    rw [cond_f (rfl : (!true) = false)]
    by_cases c6 : (2147483647 : Int) < ((g.Kids.length : Nat) : Int)
    · rw [cond_t (decide_eq_true c6)]; exact ⟨_, rfl, fun h => by cases h⟩
    rw [cond_f (decide_eq_false c6)]
    exact ⟨_, rfl, fun _ => ⟨by omega, by omega, (h5 rfl).1, by omega, (h5 rfl).2⟩⟩
end Go.Proofs.Ytbgdonedjgkhiaa.Wk

namespace Go.Proofs.Ytbgdonedjgkhiaa.Wk
open Go.Vm
set_option linter.unusedVariables false
set_option linter.unusedSimpArgs false
theorem weight_of {g : TImpl_Geom} (hk : g.Kids = []) (he : g.Endss = []) (h1 : g.Flat.length ≤ 2147483647) (h2 : g.Ends.length ≤ 2147483647) {F : Nat} (a : Int) : p_Weight (F + 2) g a = some (1 + (g.Flat.length : Int) + (g.Ends.length : Int)) := by
  show p_Weight_b _ (F + 1) _ _ = _
  unfold p_Weight_b
  have w1 : IntKind.i64.wrap ((1 : Int) + ((g.Flat.length : Nat) : Int)) = 1 + ((g.Flat.length : Nat) : Int) := wrap_in .i64 _ (by simp only [lo]; omega) (by simp only [hi]; omega)
  rw [w1, wrap_in .i64 _ (by simp only [lo]; omega) (by simp only [hi]; omega), iter_one]
  have e1 : ∀ K s, p_Weight_l4 g K (s, (0 : Int)) = some (.inl s) := fun K s => by unfold p_Weight_l4; dsimp only; rw [he, cond_f (by rfl)]
  rw [e1, Option.bind_some, aft_inl]
  unfold p_Weight_k1
  have e2 : ∀ R K s, p_Weight_l3 g a R K (s, (0 : Int)) = some (.inl s) := fun R K s => by unfold p_Weight_l3; dsimp only; rw [hk, cond_f (by rfl)]
  rw [iter_one, e2, Option.bind_some, aft_inl]
  rfl
theorem layouts_of {g : TImpl_Geom} (hk : g.Kids = []) (h7 : g.Kind ≠ 7) {F : Nat} (h : p_gLayouts (F + 2) g 9 = some true) : g.Layout ≤ 9 := by
  have h' : p_gLayouts_b (fun a0 a1 => p_gLayouts (F + 1) a0 a1) (F + 1) g 9 = some true := h
  unfold p_gLayouts_b at h'
  rw [iter_one] at h'
  have e2 : ∀ R K, p_gLayouts_l2 g 9 R K (0 : Int) = some (.inl ()) := fun R K => by unfold p_gLayouts_l2; rw [hk, cond_f (by rfl)]
  rw [e2, Option.bind_some, aft_inl] at h'
  unfold p_gLayouts_k1 at h'
  by_cases c : g.Layout ≤ 9
  · exact c
  · rw [cond_f (decide_eq_false c)] at h'; cases h'
/-- Small good data of a kind that has no lists of ends. -/
structure Small (F : Nat) (g : TImpl_Geom) (s : Nat) : Prop extends GoodG F g s where
  lay9 : g.Layout ≤ 9
  few : g.Flat.length + g.Ends.length ≤ 1999
  nil : g.Endss = []
theorem small_p {g : TImpl_Geom} (hw : WfG g) {F : Nat} (hF : gF g + 10 ≤ F) (h1 : g.Flat.length ≤ 2147483647) (h2 : g.Ends.length ≤ 2147483647) : ∃ b, p_gGood F [g] = some b ∧ (b = true → g.Kind ≠ 7 → g.Kind ≠ 6 → ∃ s, Small (F - 1) g s ∧ s ≤ 9) := by
  obtain ⟨b, hb, hb2⟩ := gGood_p hw hF
  refine ⟨b, hb, fun h h7 h6 => ?_⟩
  obtain ⟨a1, a2, n, a3, a4⟩ := hb2 h
  obtain ⟨s, G⟩ := a1 h7
  obtain ⟨M, rfl⟩ : ∃ M, F = M + 2 := ⟨F - 2, by omega⟩
  have l9 := layouts_of G.kids h7 a2
  rw [weight_of G.kids (G.endss h6) h1 h2] at a3
  have a3 := Option.some.inj a3
  rw [← a3, wrap_in .i64 _ (by simp only [lo]; omega) (by simp only [hi]; omega)] at a4
  exact ⟨s, ⟨G, l9, by omega, G.endss h6⟩, G.s9 l9⟩
end Go.Proofs.Ytbgdonedjgkhiaa.Wk

set_option linter.unusedVariables false
set_option linter.unusedSimpArgs false
namespace Go.Proofs.Ytbgdonedjgkhiaa.Wk
open Go.Vm
noncomputable section
def strd (a : Int) : Int := if a = 0 then 0 else if a = 1 then 2 else if a = 2 then 3 else if a = 3 then 3 else if a = 4 then 4 else a
theorem strd_p (a : Int) : p_Layout_Stride a = some (strd a) := by
  unfold p_Layout_Stride strd
  simp only [cond_if, decide_eq_true_eq]
  repeat' split
  all_goals rfl
mutual
def toV : TImpl_Geom → IfcV
  | .mk k l s f e es ks =>
    if k = 1 then ⟨64, c_TGeom_Point ⟨⟨l, strd l, f, s⟩⟩⟩
    else if k = 2 then ⟨67, c_TGeom_LineString ⟨⟨⟨l, strd l, f, s⟩⟩⟩⟩
    else if k = 8 then ⟨70, c_TGeom_LineString ⟨⟨⟨l, strd l, f, s⟩⟩⟩⟩
    else if k = 3 then ⟨49, c_TGeom_Polygon ⟨⟨⟨⟨l, strd l, f, s⟩⟩, e⟩⟩⟩
    else if k = 4 then ⟨51, c_TGeom_Polygon ⟨⟨⟨⟨l, strd l, f, s⟩⟩, e⟩⟩⟩
    else if k = 5 then ⟨52, c_TGeom_Polygon ⟨⟨⟨⟨l, strd l, f, s⟩⟩, e⟩⟩⟩
    else if k = 6 then ⟨53, c_TGeom_MultiPolygon ⟨⟨⟨⟨l, strd l, f, s⟩⟩, es⟩⟩⟩
    else ⟨54, c_TGeom_GeometryCollection ⟨l, toVs ks, s⟩⟩
def toVs : List TImpl_Geom → List IfcV
  | [] => []
  | g :: r => toV g :: toVs r
end
theorem toVs_map : ∀ l : List TImpl_Geom, toVs l = l.map toV
  | [] => by simp [toVs]
  | g :: r => by simp [toVs, toVs_map r]
def cov (a b : Int) : Int := if (a = 2 ∧ b = 3) ∨ (a = 3 ∧ b = 2) then 4 else if a < b then b else a
mutual
def lay : TImpl_Geom → Int
  | .mk k l _ _ _ _ ks => if k ≠ 7 then l else if l ≠ 0 then l else lays l ks
def lays : Int → List TImpl_Geom → Int
  | a, [] => a
  | a, g :: r => lays (cov a (lay g)) r
end
theorem lays_fold : ∀ (l : List TImpl_Geom) (a : Int), lays a l = l.foldl (fun s k => cov s (lay k)) a
  | [], a => by simp [lays]
  | g :: r, a => by rw [lays, lays_fold r, List.foldl_cons]
theorem lay_eq (g : TImpl_Geom) : lay g = if g.Kind ≠ 7 then g.Layout else if g.Layout ≠ 0 then g.Layout else lays g.Layout g.Kids := by
  cases g; simp only [lay]
theorem cov_p (a b : Int) : p_Cover a b = some (cov a b) := by
  unfold p_Cover cov
  simp only [cond_if, decide_eq_true_eq]
  repeat' split
  all_goals first | rfl | (exfalso; omega) | skip

mutual
def VG : TImpl_Geom → Prop
  | .mk k _ _ _ _ _ ks => (1 ≤ k ∧ k ≤ 8) ∧ VGs ks
def VGs : List TImpl_Geom → Prop
  | [] => True
  | g :: r => VG g ∧ VGs r
end
theorem VGs_mem : ∀ {l : List TImpl_Geom}, VGs l → ∀ k ∈ l, VG k
  | [], _, _, h => by cases h
  | g :: r, h, k, hk => by
    simp only [VGs] at h
    rcases List.mem_cons.1 hk with rfl | hk
    · exact h.1
    · exact VGs_mem h.2 k hk
theorem VGs_of : ∀ {l : List TImpl_Geom}, (∀ k ∈ l, VG k) → VGs l
  | [], _ => by simp [VGs]
  | g :: r, h => by simp only [VGs]; exact ⟨h g (by simp), VGs_of fun k hk => h k (by simp [hk])⟩
theorem VG.kind {g : TImpl_Geom} (h : VG g) : 1 ≤ g.Kind ∧ g.Kind ≤ 8 := by cases g; simp only [VG] at h; exact h.1
theorem VG.kid {g : TImpl_Geom} (h : VG g) : ∀ k ∈ g.Kids, VG k := by cases g; simp only [VG] at h; exact VGs_mem h.2
theorem VG.of {g : TImpl_Geom} (h : 1 ≤ g.Kind ∧ g.Kind ≤ 8) (hk : ∀ k ∈ g.Kids, VG k) : VG g := by cases g; simp only [VG]; exact ⟨h, VGs_of hk⟩
theorem layoutOf_p : ∀ (N : Nat) (g : TImpl_Geom), gF g ≤ N → WfG g → ∀ F, gF g < F → p_LayoutOf F g = some (lay g) := by
  intro N
  induction N with
  | zero => intro g h hw; have := hw.tell.big.1; omega
  | succ N ih =>
    intro g h hw F hF
    have W := hw.tell
    obtain ⟨G, rfl⟩ : ∃ G, F = G + 1 := ⟨F - 1, by omega⟩
    show p_LayoutOf_b (fun a0 => p_LayoutOf G a0) G g = _
    have k0 : p_LayoutOf_k1 g G (fun a0 => p_LayoutOf G a0) true = some g.Layout := rfl
    unfold p_LayoutOf_b
    rw [lay_eq]
    by_cases c7 : g.Kind = 7
    · rw [cond_f (nF c7), if_neg (by simpa using c7)]
      by_cases c0 : g.Layout = 0
      · rw [nF c0, if_neg (by simpa using c0)]
        unfold p_LayoutOf_k1
        rw [cond_f rfl]
        have := fold_all (V := Int) (T := Int) g.Kids (p_LayoutOf_l3 g (fun a0 => p_LayoutOf G a0)) (fun i s => (s, (i : Int))) (fun s k => cov s (lay k)) (fun s => s) (fun _ _ => True)
          (fun K s _ => by unfold p_LayoutOf_l3; dsimp only; rw [cond_f dge])
          (fun K i x s hx _ => by
            have hi := lt_get hx
            have hk := W.kid _ (mem_get hx)
            unfold p_LayoutOf_l3; dsimp only
            rw [cond_t (dlt hi), idx_get hx, Option.bind_some, ih x (by omega) hk.1 G (by omega), Option.bind_some, cov_p, Option.bind_some, need_pos (inM hi W.kids), succ_cast])
          (fun _ _ _ _ _ => trivial) G 0 g.Layout (by have := W.big; omega) (by omega) trivial
        rw [List.drop_zero, ← lays_fold] at this
        rw [show (0 : Int) = ((0 : Nat) : Int) from rfl, this, Option.bind_some, aft_inl]
        rfl
      · rw [nT c0, if_pos c0]; exact k0
    · rw [cond_t (nT c7), if_pos c7]; exact k0
theorem di_inj {k : IntKind} {a b : Int} (h : di k a = di k b) : a = b := by
  have h1 := D.v.inj h
  injection h1
/-- The layout of a value in an interface, handed on. -/
def vlay {ρ : Type} (R : TGeom_GeometryCollection → Option Int) (x : IfcV) (K : Int → Option ρ) : Option ρ :=
  cond (decide (x.dt = 49)) ((decodeD c_TGeom_Polygon x.cells).bind fun y => K y.geom2.geom1.geom0.layout) (cond (decide (x.dt = 51)) ((decodeD c_TGeom_Polygon x.cells).bind fun y => K y.geom2.geom1.geom0.layout) (cond (decide (x.dt = 52)) ((decodeD c_TGeom_Polygon x.cells).bind fun y => K y.geom2.geom1.geom0.layout)
    (cond (decide (x.dt = 53)) ((decodeD c_TGeom_MultiPolygon x.cells).bind fun y => K y.geom3.geom1.geom0.layout) (cond (decide (x.dt = 54)) ((decodeD c_TGeom_GeometryCollection x.cells).bind fun y => (R y).bind fun v => K v) (cond (decide (x.dt = 64)) ((decodeD c_TGeom_Point x.cells).bind fun y => K y.geom0.layout)
    (cond (decide (x.dt = 67)) ((decodeD c_TGeom_LineString x.cells).bind fun y => K y.geom1.geom0.layout) (cond (decide (x.dt = 70)) ((decodeD c_TGeom_LineString x.cells).bind fun y => K y.geom1.geom0.layout) none)))))))
theorem poly_dec (y : TGeom_Polygon) : ∃ y', decodeD c_TGeom_Polygon (c_TGeom_Polygon y) = some y' ∧ y'.geom2.geom1.geom0.layout = y.geom2.geom1.geom0.layout ∧ eS1 y'.geom2.geom1.geom0.flatCoords = eS1 y.geom2.geom1.geom0.flatCoords ∧ eS2 y'.geom2.ends = eS2 y.geom2.ends := by
  obtain ⟨y', h1, h2⟩ := decodeD_of c_TGeom_Polygon y
  simp only [List.cons.injEq] at h2
  exact ⟨y', h1, di_inj h2.1, h2.2.2.1, h2.2.2.2.2.1⟩
theorem mpoly_dec (y : TGeom_MultiPolygon) : ∃ y', decodeD c_TGeom_MultiPolygon (c_TGeom_MultiPolygon y) = some y' ∧ y'.geom3.geom1.geom0.layout = y.geom3.geom1.geom0.layout ∧ eS1 y'.geom3.geom1.geom0.flatCoords = eS1 y.geom3.geom1.geom0.flatCoords ∧ eS3 y'.geom3.endss = eS3 y.geom3.endss := by
  obtain ⟨y', h1, h2⟩ := decodeD_of c_TGeom_MultiPolygon y
  simp only [List.cons.injEq] at h2
  exact ⟨y', h1, di_inj h2.1, h2.2.2.1, h2.2.2.2.2.1⟩
theorem point_dec (y : TGeom_Point) : ∃ y', decodeD c_TGeom_Point (c_TGeom_Point y) = some y' ∧ y'.geom0.layout = y.geom0.layout ∧ eS1 y'.geom0.flatCoords = eS1 y.geom0.flatCoords := by
  obtain ⟨y', h1, h2⟩ := decodeD_of c_TGeom_Point y
  simp only [List.cons.injEq] at h2
  exact ⟨y', h1, di_inj h2.1, h2.2.2.1⟩
theorem line_dec (y : TGeom_LineString) : ∃ y', decodeD c_TGeom_LineString (c_TGeom_LineString y) = some y' ∧ y'.geom1.geom0.layout = y.geom1.geom0.layout ∧ eS1 y'.geom1.geom0.flatCoords = eS1 y.geom1.geom0.flatCoords := by
  obtain ⟨y', h1, h2⟩ := decodeD_of c_TGeom_LineString y
  simp only [List.cons.injEq] at h2
  exact ⟨y', h1, di_inj h2.1, h2.2.2.1⟩
theorem ifc_inj {x y : IfcV} (h : keS5 x = keS5 y) : x = y := by
  cases x; cases y
  have h1 := D.ifc.inj h
  have h2 := D.pt.inj h1.2
  obtain rfl := h1.1
  obtain rfl := h2
  rfl
theorem coll_dec (y : TGeom_GeometryCollection) : decodeD c_TGeom_GeometryCollection (c_TGeom_GeometryCollection y) = some y := by
  obtain ⟨y', h1, h2⟩ := decodeD_of c_TGeom_GeometryCollection y
  simp only [List.cons.injEq] at h2
  have e1 := di_inj h2.1
  have e2 := (List.map_inj_right (fun x y h => ifc_inj h)).1 (D.ds.inj h2.2.1).2
  have e3 := di_inj h2.2.2.1
  rw [h1]
  cases y; cases y'
  simp only at e1 e2 e3
  subst e1; subst e2; subst e3
  rfl
theorem vlay_p {ρ : Type} {g : TImpl_Geom} (hk : 1 ≤ g.Kind ∧ g.Kind ≤ 8) (R : TGeom_GeometryCollection → Option Int) (K : Int → Option ρ) (hR : g.Kind = 7 → R ⟨g.Layout, toVs g.Kids, g.SRID⟩ = some (lay g)) : vlay R (toV g) K = K (lay g) := by
  have hl : g.Kind ≠ 7 → lay g = g.Layout := fun h => by rw [lay_eq, if_pos h]
  cases g with
  | mk k l s f e es ks =>
    simp only at hk hR hl
    unfold toV
    by_cases h1 : k = 1
    · rw [if_pos h1, hl (by omega)]
      obtain ⟨y, d1, d2, _⟩ := point_dec ⟨⟨l, strd l, f, s⟩⟩
      unfold vlay
      dsimp only
      rw [cond_f (by rfl), cond_f (by rfl), cond_f (by rfl), cond_f (by rfl), cond_f (by rfl), cond_t (by rfl), d1, Option.bind_some, d2]
    rw [if_neg h1]
    by_cases h2 : k = 2
    · rw [if_pos h2, hl (by omega)]
      obtain ⟨y, d1, d2, _⟩ := line_dec ⟨⟨⟨l, strd l, f, s⟩⟩⟩
      unfold vlay
      dsimp only
      rw [cond_f (by rfl), cond_f (by rfl), cond_f (by rfl), cond_f (by rfl), cond_f (by rfl), cond_f (by rfl), cond_t (by rfl), d1, Option.bind_some, d2]
    rw [if_neg h2]
    by_cases h8 : k = 8
    · rw [if_pos h8, hl (by omega)]
      obtain ⟨y, d1, d2, _⟩ := line_dec ⟨⟨⟨l, strd l, f, s⟩⟩⟩
      unfold vlay
      dsimp only
      rw [cond_f (by rfl), cond_f (by rfl), cond_f (by rfl), cond_f (by rfl), cond_f (by rfl), cond_f (by rfl), cond_f (by rfl), cond_t (by rfl), d1, Option.bind_some, d2]
    rw [if_neg h8]
    by_cases h3 : k = 3
    · rw [if_pos h3, hl (by omega)]
      obtain ⟨y, d1, d2, _⟩ := poly_dec ⟨⟨⟨⟨l, strd l, f, s⟩⟩, e⟩⟩
      unfold vlay
      dsimp only
      rw [cond_t (by rfl), d1, Option.bind_some, d2]
    rw [if_neg h3]
    by_cases h4 : k = 4
    · rw [if_pos h4, hl (by omega)]
      obtain ⟨y, d1, d2, _⟩ := poly_dec ⟨⟨⟨⟨l, strd l, f, s⟩⟩, e⟩⟩
      unfold vlay
      dsimp only
      rw [cond_f (by rfl), cond_t (by rfl), d1, Option.bind_some, d2]
    rw [if_neg h4]
    by_cases h5 : k = 5
    · rw [if_pos h5, hl (by omega)]
      obtain ⟨y, d1, d2, _⟩ := poly_dec ⟨⟨⟨⟨l, strd l, f, s⟩⟩, e⟩⟩
      unfold vlay
      dsimp only
      rw [cond_f (by rfl), cond_f (by rfl), cond_t (by rfl), d1, Option.bind_some, d2]
    rw [if_neg h5]
    by_cases h6 : k = 6
    · rw [if_pos h6, hl (by omega)]
      obtain ⟨y, d1, d2, _⟩ := mpoly_dec ⟨⟨⟨⟨l, strd l, f, s⟩⟩, es⟩⟩
      unfold vlay
      dsimp only
      rw [cond_f (by rfl), cond_f (by rfl), cond_f (by rfl), cond_t (by rfl), d1, Option.bind_some, d2]
    rw [if_neg h6]
    unfold vlay
    dsimp only
    rw [cond_f (by rfl), cond_f (by rfl), cond_f (by rfl), cond_f (by rfl), cond_t (by rfl), coll_dec, Option.bind_some, hR (by omega), Option.bind_some]
end
end Go.Proofs.Ytbgdonedjgkhiaa.Wk

set_option linter.unusedVariables false
set_option linter.unusedSimpArgs false
namespace Go.Proofs.Ytbgdonedjgkhiaa.Wk
open Go.Vm
noncomputable section
def stepK {ρ : Type} (m i : Int) (K : Int × Int → Option ρ) (v : Int) : Option ρ :=
  cond (decide (v = 2)) (cond (decide (m = 3)) (need (inI .i64 (i + 1)) (K (4, i + 1))) (cond (decide (m < v)) (need (inI .i64 (i + 1)) (K (v, i + 1))) (need (inI .i64 (i + 1)) (K (m, i + 1)))))
    (cond (decide (v = 3)) (cond (decide (m = 2)) (need (inI .i64 (i + 1)) (K (4, i + 1))) (cond (decide (m < v)) (need (inI .i64 (i + 1)) (K (v, i + 1))) (need (inI .i64 (i + 1)) (K (m, i + 1)))))
      (cond (decide (m < v)) (need (inI .i64 (i + 1)) (K (v, i + 1))) (need (inI .i64 (i + 1)) (K (m, i + 1)))))
theorem stepK_p {ρ : Type} {m i v : Int} {K : Int × Int → Option ρ} (hi : inI .i64 (i + 1)) : stepK m i K v = K (cov m v, i + 1) := by
  unfold stepK cov
  rw [need_pos hi, need_pos hi, need_pos hi]
  by_cases h2 : v = 2
  · subst h2
    rw [cond_t (by rfl)]
    by_cases h3 : m = 3
    · subst h3; rw [cond_t (by rfl), if_pos (by omega)]
    · rw [cond_f (decide_eq_false h3), if_neg (by omega)]
      by_cases h : m < 2
      · rw [cond_t (decide_eq_true h), if_pos h]
      · rw [cond_f (decide_eq_false h), if_neg h]
  · rw [cond_f (decide_eq_false h2)]
    by_cases h3 : v = 3
    · subst h3
      rw [cond_t (by rfl)]
      by_cases h4 : m = 2
      · subst h4; rw [cond_t (by rfl), if_pos (by omega)]
      · rw [cond_f (decide_eq_false h4), if_neg (by omega)]
        by_cases h : m < 3
        · rw [cond_t (decide_eq_true h), if_pos h]
        · rw [cond_f (decide_eq_false h), if_neg h]
    · rw [cond_f (decide_eq_false h3), if_neg (by omega)]
      by_cases h : m < v
      · rw [cond_t (decide_eq_true h), if_pos h]
      · rw [cond_f (decide_eq_false h), if_neg h]
theorem l2_eq (a : TGeom_GeometryCollection) (R : TGeom_GeometryCollection → Option Int) (K : Int × Int → Option (Sum Int Int)) (g : Int × Int) :
    p_GeometryCollection_Layout_l2 a R K g = cond (decide (g.2 < ((a.geoms.length : Nat) : Int))) ((idx a.geoms g.2).bind fun x => vlay R x (stepK g.1 g.2 K)) (some (.inl g.1)) := rfl
theorem glay_p : ∀ (N : Nat) (g : TImpl_Geom), gF g ≤ N → WfG g → VG g → g.Kind = 7 → ∀ F, gF g < F → p_GeometryCollection_Layout F ⟨g.Layout, toVs g.Kids, g.SRID⟩ = some (lay g) := by
  intro N
  induction N with
  | zero => intro g h hw; have := hw.tell.big.1; omega
  | succ N ih =>
    intro g h hw hv h7 F hF
    have W := hw.tell
    obtain ⟨G, rfl⟩ : ∃ G, F = G + 1 := ⟨F - 1, by omega⟩
    show p_GeometryCollection_Layout_b (fun a0 => p_GeometryCollection_Layout G a0) G _ = _
    unfold p_GeometryCollection_Layout_b
    dsimp only
    rw [lay_eq, if_neg (by simpa using h7)]
    by_cases c0 : g.Layout = 0
    · rw [cond_f (nF c0), if_neg (by simpa using c0), toVs_map]
      have := fold_all (V := Int) (T := Int) g.Kids (p_GeometryCollection_Layout_l2 ⟨g.Layout, g.Kids.map toV, g.SRID⟩ (fun a0 => p_GeometryCollection_Layout G a0)) (fun i s => (s, (i : Int))) (fun s k => cov s (lay k)) (fun s => s) (fun _ _ => True)
        (fun K s _ => by rw [l2_eq]; dsimp only; rw [List.length_map, cond_f dge])
        (fun K i x s hx _ => by
          have hi := lt_get hx
          have hk := W.kid _ (mem_get hx)
          have hvx := hv.kid _ (mem_get hx)
          have hxm : (g.Kids.map toV)[i]? = some (toV x) := by rw [List.getElem?_map, hx]; rfl
          rw [l2_eq]; dsimp only
          rw [List.length_map, cond_t (dlt hi), idx_get hxm, Option.bind_some, vlay_p hvx.kind _ _ (fun hx7 => ih x (by omega) hk.1 hvx hx7 G (by omega)), stepK_p (inM hi W.kids), succ_cast])
        (fun _ _ _ _ _ => trivial) G 0 g.Layout (by have := W.big; omega) (by omega) trivial
      rw [List.drop_zero, ← lays_fold, c0] at this
      have t2 : iter (p_GeometryCollection_Layout_l2 ⟨g.Layout, g.Kids.map toV, g.SRID⟩ (fun a0 => p_GeometryCollection_Layout G a0)) G ((0 : Int), (0 : Int)) = some (.inl (lays 0 g.Kids)) := by rw [c0]; exact this
      rw [t2, Option.bind_some, aft_inl, c0]
      rfl
    · rw [cond_t (nT c0), if_pos c0]
theorem good_kids {g : TImpl_Geom} (hw : WfG g) {G : Nat} (hG : gF g ≤ G) (h7 : g.Kind = 7) (h : p_Good (G + 1) g = some true) : ∀ k ∈ g.Kids, p_Good G k = some true ∧ (g.Layout ≠ 0 → lay k = g.Layout) := by
  have W := hw.tell
  have h' : p_Good_b (fun a0 => p_Good G a0) G g = some true := h
  obtain ⟨s, hs, -, -⟩ := stride_t g.Layout
  unfold p_Good_b at h'
  rw [hs, Option.bind_some, cond_t (decide_eq_true h7)] at h'
  have hF := fold_exit (V := Unit) (σ := Unit) g.Kids (p_Good_l3 g G (fun a0 => p_Good G a0)) (fun i _ => (i : Int)) (fun s _ => s) (fun x => (p_Good G x == some true) && (g.Layout == 0 || lay x == g.Layout)) false (fun s => s) (fun _ _ => True)
    (fun K s _ => by unfold p_Good_l3; dsimp only; rw [cond_f dge])
    (fun K i x s hx _ => by
      have hi := lt_get hx
      have hk := W.kid _ (mem_get hx)
      obtain ⟨b, hb, -⟩ := good_t _ _ (Nat.le_refl _) hk.1 G (by omega)
      have hn := layoutOf_p _ _ (Nat.le_refl _) hk.1 G (by omega)
      unfold p_Good_l3; dsimp only
      rw [cond_t (dlt hi), idx_get hx, Option.bind_some, hb, Option.bind_some]
      cases b with
      | false => rw [cond_t (rfl : (!false) = true), if_neg (by simp)]
      | true =>
        rw [cond_f (rfl : (!true) = false), need_pos (inM hi W.kids)]
        by_cases c0 : g.Layout = 0
        · rw [cond_f (nF c0), if_pos (by simp [c0]), succ_cast]
        · rw [cond_t (nT c0), hn, Option.bind_some]
          by_cases cl : lay x = g.Layout
          · rw [cond_f (nF cl), if_pos (by simp [cl]), succ_cast]
          · rw [cond_t (nT cl), if_neg (by simp [c0, cl])])
    (fun _ _ _ _ _ _ => trivial) G 0 () (by have := W.big; omega) (by omega) trivial
  rw [List.drop_zero] at hF
  have hF' : iter (p_Good_l3 g G (fun a0 => p_Good G a0)) G (0 : Int) = _ := hF
  rw [hF', Option.bind_some] at h'
  by_cases ha : (g.Kids.all fun x => (p_Good G x == some true) && (g.Layout == 0 || lay x == g.Layout)) = true
  · intro k hk
    have := List.all_eq_true.1 ha k hk
    simp only [Bool.and_eq_true, beq_iff_eq, Bool.or_eq_true] at this
    exact ⟨this.1, fun h0 => this.2.resolve_left h0⟩
  · rw [if_neg ha, aft_inr] at h'
    cases h'
theorem k4_kind {F : Nat} {g : TImpl_Geom} {s : Int} (h : p_Good_k4 g F s () = some true) (h7 : g.Kind ≠ 7) : 1 ≤ g.Kind ∧ g.Kind ≤ 8 := by
  by_cases h1 : g.Kind = 1
  · omega
  by_cases h2 : g.Kind = 2
  · omega
  by_cases h8 : g.Kind = 8
  · omega
  by_cases h3 : g.Kind = 3
  · omega
  by_cases h4 : g.Kind = 4
  · omega
  by_cases h5 : g.Kind = 5
  · omega
  by_cases h6 : g.Kind = 6
  · omega
  unfold p_Good_k4 p_Good_k5 p_Good_k6 at h
  rw [cond_f (decide_eq_false h1), cond_f (decide_eq_false h2), cond_f (decide_eq_false h8), cond_f (decide_eq_false h3), cond_f (decide_eq_false h4), cond_f (decide_eq_false h5), cond_f (decide_eq_false h6)] at h
  cases h
theorem good_VG : ∀ (N : Nat) (g : TImpl_Geom), gF g ≤ N → WfG g → ∀ F, gF g < F → p_Good F g = some true → VG g := by
  intro N
  induction N with
  | zero => intro g h hw; have := hw.tell.big.1; omega
  | succ N ih =>
    intro g h hw F hF hg
    have W := hw.tell
    obtain ⟨G, rfl⟩ : ∃ G, F = G + 1 := ⟨F - 1, by omega⟩
    by_cases h7 : g.Kind = 7
    · have hk := good_kids hw (by omega) h7 hg
      exact VG.of (by omega) fun k hm => ih k (by have := (W.kid k hm).2; omega) (W.kid k hm).1 G (by have := (W.kid k hm).2; omega) (hk k hm).1
    · obtain ⟨b, hb, h2⟩ := good_t _ _ (Nat.le_refl _) hw (G + 1) hF
      rw [hg] at hb
      obtain rfl := Option.some.inj hb
      obtain ⟨s, S⟩ := h2 rfl h7
      exact VG.of (k4_kind S.k4 h7) (by rw [S.kids]; intro k hk; cases hk)
theorem mp_empty {F : Nat} (hF : 0 < F) {g : TImpl_Geom} {s : Int} (h : p_Good_k4 g F s () = some true) (h4 : g.Kind = 4) (he : g.Ends = []) : g.Flat = [] := by
  unfold p_Good_k4 p_Good_k5 p_Good_k6 at h
  rw [cond_f (decide_eq_false (by omega)), cond_f (decide_eq_false (by omega)), cond_f (decide_eq_false (by omega)), cond_f (decide_eq_false (by omega)), cond_t (decide_eq_true h4), cond_t (decide_eq_true h4), he] at h
  match F, hF with
  | F + 1, _ =>
    have : p_goodEnds (F + 1) [] (0 : Int) s (decide (g.Kind = 4)) = some (0, true) := rfl
    rw [this, Option.bind_some] at h
    have h2 : some (decide ((0 : Int) = ((g.Flat.length : Nat) : Int))) = some true := h
    have h3 := of_decide_eq_true (Option.some.inj h2)
    exact List.length_eq_zero_iff.1 (by omega)
theorem nmp_p {F : Nat} (hF : 2 ≤ F) {a : Int} {f : List Nat} {e : List Int} (h : e = [] → f = []) : p_NewMultiPointFlat F a f [e] = some ⟨⟨⟨⟨a, strd a, f, 0⟩⟩, e⟩⟩ := by
  unfold p_NewMultiPointFlat
  rw [strd_p, Option.bind_some]
  match F, hF with
  | F + 2, _ =>
    have : iter (p_NewMultiPointFlat_l3 [e]) (F + 2) ((0 : Int), []) = some (.inl e) := by
      show p_NewMultiPointFlat_l3 [e] (iter (p_NewMultiPointFlat_l3 [e]) (F + 1)) ((0 : Int), []) = _
      have h2 : iter (p_NewMultiPointFlat_l3 [e]) (F + 1) ((0 : Int) + 1, e) = some (.inl e) := rfl
      generalize iter (p_NewMultiPointFlat_l3 [e]) (F + 1) = K at *
      unfold p_NewMultiPointFlat_l3
      dsimp only
      rw [cond_t (by rfl), show idx [e] (0 : Int) = some e from rfl, Option.bind_some, need_pos (in64m (by omega) (by omega)), h2]
    rw [this, Option.bind_some, aft_inl]
    unfold p_NewMultiPointFlat_k1
    cases e with
    | nil =>
      rw [h rfl]
      exact agr_same rfl rfl
    | cons x e => rfl
theorem intss_q {F : Nat} (hF : 1048576 < F) (x : List (List Int)) (hx : x.length ≤ 1048576) (hy : ∀ y ∈ x, y.length ≤ 1048576) : p_intss F x = some x := by
  have key := fold_all (σ := List (List Int)) x (p_intss_l2 x) (fun i s => ((i : Int), s)) (fun s y => s ++ [y]) (fun s => s) (fun i s => s.length = i)
    (fun K s _ => by unfold p_intss_l2; dsimp only; rw [cond_f dge])
    (fun K i y s hyy h1 => by
      have hi := lt_get hyy
      have hy1 := hy y (mem_get hyy)
      unfold p_intss_l2 p_ints
      dsimp only
      rw [cond_t (dlt hi), idx_get hyy, Option.bind_some, need_pos (by omega), Option.bind_some, need_pos (by simp only [List.length_cons, List.length_nil]; omega), need_pos (i64s (by omega)), succ_cast])
    (fun i y s hy h1 => by rw [List.length_append, h1]; rfl) F 0 [] (by omega) (by omega) rfl
  have key' : iter (p_intss_l2 x) F ((0 : Int), []) = _ := key
  have fc : ∀ (l r : List (List Int)), l.foldl (fun s y => s ++ [y]) r = r ++ l := by
    intro l
    induction l with
    | nil => simp
    | cons a l ih => intro r; rw [List.foldl_cons, ih]; simp
  unfold p_intss
  rw [key', Option.bind_some, aft_inl, List.drop_zero, fc]
  rfl
theorem l4_eq (a : TImpl_Geom) (F : Nat) (g : List IfcV) (K : Int → Option (Sum Unit IfcV)) (i : Int) :
    p_geometry_l4 a F g K i = cond (decide (i < ((g.length : Nat) : Int))) (need (0 ≤ i ∧ i < ((g.length : Nat) : Int)) ((idx g i).bind fun x => vlay (p_GeometryCollection_Layout F) x (fun v => cond (!decide (v = a.Layout)) none (need (inI .i64 (i + 1)) (K (i + 1)))))) (some (.inl ())) := rfl
theorem geom_p : ∀ (N : Nat) (g : TImpl_Geom), gF g ≤ N → WfG g → gF g ≤ 1048576 → ∀ F, gF g < F → p_Good F g = some true → ∀ G, gF g + 1048600 < G → p_geometry G g = some (toV g) := by
  intro N
  induction N with
  | zero => intro g h hw; have := hw.tell.big.1; omega
  | succ N ih =>
    intro g h hw hB F hF hg G hG
    have W := hw.tell
    have big := W.big
    have hv := good_VG _ g (Nat.le_refl _) hw F hF hg
    have kd := hv.kind
    obtain ⟨F, rfl⟩ : ∃ F', F = F' + 1 := ⟨F - 1, by omega⟩
    obtain ⟨G, rfl⟩ : ∃ G', G = G' + 1 := ⟨G - 1, by omega⟩
    have hgood : g.Kind ≠ 7 → ∃ s, GoodG F g s := fun h7 => by
      obtain ⟨b, hb, h2⟩ := good_t _ _ (Nat.le_refl _) hw (F + 1) hF
      rw [hg] at hb
      obtain rfl := Option.some.inj hb
      exact h2 rfl h7
    show p_geometry_b (fun a0 => p_geometry G a0) G g = _
    unfold p_geometry_b
    have fl : p_floats g.Flat = some g.Flat := by unfold p_floats; rw [need_pos (by omega)]
    have il : p_ints g.Ends = some g.Ends := by unfold p_ints; rw [need_pos (by omega)]
    rw [fl, Option.bind_some]
    by_cases h1 : g.Kind = 1
    · rw [cond_t (decide_eq_true h1)]
      unfold p_NewPointFlat
      rw [strd_p, Option.bind_some, Option.bind_some]
      cases g; simp only at h1; subst h1; simp only [toV]; rfl
    rw [cond_f (decide_eq_false h1)]
    by_cases h2 : g.Kind = 2
    · rw [cond_t (decide_eq_true h2)]
      unfold p_NewLineStringFlat
      rw [strd_p, Option.bind_some, Option.bind_some]
      cases g; simp only at h2; subst h2; simp only [toV]; rfl
    rw [cond_f (decide_eq_false h2)]
    by_cases h8 : g.Kind = 8
    · rw [cond_t (decide_eq_true h8)]
      unfold p_NewLinearRingFlat
      rw [strd_p, Option.bind_some, Option.bind_some]
      cases g; simp only at h8; subst h8; simp only [toV]; rfl
    rw [cond_f (decide_eq_false h8)]
    by_cases h3 : g.Kind = 3
    · rw [cond_t (decide_eq_true h3), il, Option.bind_some]
      unfold p_NewPolygonFlat
      rw [strd_p, Option.bind_some, Option.bind_some]
      cases g; simp only at h3; subst h3; simp only [toV]; rfl
    rw [cond_f (decide_eq_false h3)]
    by_cases h4 : g.Kind = 4
    · obtain ⟨s, S⟩ := hgood (by omega)
      rw [cond_t (decide_eq_true h4), il, Option.bind_some, show p_NewMultiPointFlatOptionWithEnds g.Ends = some g.Ends from rfl, Option.bind_some, nmp_p (by omega) (mp_empty (by omega) S.k4 h4), Option.bind_some]
      cases g; simp only at h4; subst h4; simp only [toV]; rfl
    rw [cond_f (decide_eq_false h4)]
    by_cases h5 : g.Kind = 5
    · rw [cond_t (decide_eq_true h5), il, Option.bind_some]
      unfold p_NewMultiLineStringFlat
      rw [strd_p, Option.bind_some, Option.bind_some]
      cases g; simp only at h5; subst h5; simp only [toV]; rfl
    rw [cond_f (decide_eq_false h5)]
    by_cases h6 : g.Kind = 6
    · rw [cond_t (decide_eq_true h6), intss_q (by omega) g.Endss (by omega) (fun y hy => by have := big.2.2.2.2 y hy; omega), Option.bind_some]
      unfold p_NewMultiPolygonFlat
      rw [strd_p, Option.bind_some, Option.bind_some]
      cases g; simp only at h6; subst h6; simp only [toV]; rfl
    rw [cond_f (decide_eq_false h6)]
    have h7 : g.Kind = 7 := by omega
    rw [cond_t (decide_eq_true h7)]
    have hk := good_kids hw (by omega) h7 hg
    have loop := fold_all (V := List IfcV) (T := IfcV) g.Kids (p_geometry_l5 g (fun a0 => p_geometry G a0)) (fun i s => ((i : Int), s)) (fun s x => s ++ [toV x]) (fun s => s) (fun i s => s.length = i)
      (fun K s _ => by unfold p_geometry_l5; dsimp only; rw [cond_f dge])
      (fun K i x s hx h1 => by
        have hi := lt_get hx
        have hm := W.kid _ (mem_get hx)
        unfold p_geometry_l5
        dsimp only
        rw [cond_t (dlt hi), idx_get hx, Option.bind_some, ih x (by omega) hm.1 (by omega) F (by omega) (hk x (mem_get hx)).1 G (by omega), Option.bind_some, cond_f (by rfl), need_pos (by simp only [List.length_cons, List.length_nil]; omega), need_pos (i64s (by omega)), succ_cast])
      (fun i y s hy h1 => by rw [List.length_append, h1]; rfl) G 0 [] (by omega) (by omega) rfl
    have fc : ∀ (l : List TImpl_Geom) (r : List IfcV), l.foldl (fun s y => s ++ [toV y]) r = r ++ l.map toV := by
      intro l
      induction l with
      | nil => simp
      | cons a l ih => intro r; rw [List.foldl_cons, ih]; simp
    rw [List.drop_zero, fc, List.nil_append] at loop
    have loop' : iter (p_geometry_l5 g (fun a0 => p_geometry G a0)) G ((0 : Int), []) = _ := loop
    have fin : p_geometry_k2 g (g.Kids.map toV) () = some (toV g) := by
      unfold p_geometry_k2
      rw [← toVs_map]
      cases g; simp only at h7; subst h7; simp only [toV]; rfl
    rw [show p_NewGeometryCollection = some ⟨0, [], 0⟩ from rfl, Option.bind_some, loop', Option.bind_some, aft_inl]
    unfold p_geometry_k1
    by_cases c0 : g.Layout = 0
    · rw [cond_f (nF c0)]; exact fin
    · rw [cond_t (nT c0)]
      have chk := fold_all (V := Unit) (T := IfcV) (σ := Unit) g.Kids (p_geometry_l4 g G (g.Kids.map toV)) (fun i _ => (i : Int)) (fun s _ => s) (fun s => s) (fun _ _ => True)
        (fun K s _ => by rw [l4_eq, List.length_map, cond_f dge])
        (fun K i x s hx _ => by
          have hi := lt_get hx
          have hm := W.kid _ (mem_get hx)
          have hvx := hv.kid _ (mem_get hx)
          have hxm : (g.Kids.map toV)[i]? = some (toV x) := by rw [List.getElem?_map, hx]; rfl
          rw [l4_eq, List.length_map, cond_t (dlt hi), need_pos (by omega), idx_get hxm, Option.bind_some, vlay_p hvx.kind _ _ (fun hx7 => glay_p _ x (Nat.le_refl _) hm.1 hvx hx7 G (by omega)), cond_f (nF ((hk x (mem_get hx)).2 c0)), need_pos (inM hi W.kids), succ_cast])
        (fun _ _ _ _ _ => trivial) G 0 () (by omega) (by omega) trivial
      have chk' : iter (p_geometry_l4 g G (g.Kids.map toV)) G (0 : Int) = _ := chk
      rw [chk', Option.bind_some, aft_inl]
      exact fin
end
end Go.Proofs.Ytbgdonedjgkhiaa.Wk

set_option linter.unusedVariables false
set_option linter.unusedSimpArgs false
namespace Go.Proofs.Ytbgdonedjgkhiaa.Wk
open Go.Vm
noncomputable section
theorem gGood_good {g : TImpl_Geom} (hw : WfG g) {F : Nat} (hF : gF g < F) (h : p_gGood F [g] = some true) : p_Good F g = some true := by
  obtain ⟨b, hb, -⟩ := good_t _ _ (Nat.le_refl _) hw F hF
  cases b with
  | true => exact hb
  | false =>
    unfold p_gGood at h
    cases hs : p_gSmall F [g] with
    | none => rw [hs] at h; cases h
    | some y =>
      rw [hs, Option.bind_some] at h
      cases y with
      | false => rw [cond_t (rfl : (!false) = true)] at h; cases h
      | true =>
        rw [cond_f (rfl : (!true) = false)] at h
        match F, hF with
        | F + 1, _ =>
          have : iter (p_gGood_l2 [g] (F + 1)) (F + 1) (0 : Int) = some (.inr false) := by
            show p_gGood_l2 [g] (F + 1) (iter _ F) (0 : Int) = _
            unfold p_gGood_l2
            rw [cond_t (by rfl), show idx [g] (0 : Int) = some g from rfl, Option.bind_some, hb, Option.bind_some, cond_t (rfl : (!false) = true)]
          rw [this, Option.bind_some, aft_inr] at h
          cases h
theorem len2 {a b : List Int} (h : eS2 a = eS2 b) : a.length = b.length := by
  have := congrArg List.length (D.ds.inj h).2
  simpa using this
theorem len3 {a b : List (List Int)} (h : eS3 a = eS3 b) : a.length = b.length := by
  have := congrArg List.length (D.ds.inj h).2
  simpa using this
theorem fl_inj {a b : List Nat} (h : eS1 a = eS1 b) : a = b := by
  refine (List.map_inj_right (fun x y h => ?_)).1 (D.ds.inj h).2
  have h1 := D.v.inj (show (D.v (.float .f64 x)) = D.v (.float .f64 y) from h)
  injection h1
theorem num_p {g : TImpl_Geom} {F : Nat} (hg : p_geometry F g = some (toV g)) (hk : 3 ≤ g.Kind ∧ g.Kind ≤ 7) : ∃ n, p_NumParts F g = some (n, true) ∧ p_NumParts_12 g = some n := by
  unfold p_NumParts
  rw [hg, Option.bind_some]
  cases g with
  | mk k l s f e es ks =>
    simp only at hk
    unfold toV
    rw [if_neg (by omega), if_neg (by omega), if_neg (by omega)]
    unfold p_NumParts_12 p_NumParts_12_k1
    dsimp only
    by_cases h3 : k = 3
    · rw [if_pos h3]
      obtain ⟨y, d1, d2, d3, d4⟩ := poly_dec ⟨⟨⟨⟨l, strd l, f, s⟩⟩, e⟩⟩
      dsimp only
      rw [cond_t (by rfl), d1, Option.bind_some]
      refine ⟨((e.length : Nat) : Int), ?_, ?_⟩
      · show some (((y.geom2.ends.length : Nat) : Int), true) = _
        rw [len2 d4]
      · rw [cond_t (decide_eq_true h3), cond_t (decide_eq_true h3)]
    rw [if_neg h3, cond_f (decide_eq_false h3)]
    by_cases h4 : k = 4
    · rw [if_pos h4]
      obtain ⟨y, d1, d2, d3, d4⟩ := poly_dec ⟨⟨⟨⟨l, strd l, f, s⟩⟩, e⟩⟩
      dsimp only
      rw [cond_f (by rfl), cond_t (by rfl), d1, Option.bind_some]
      refine ⟨((e.length : Nat) : Int), ?_, ?_⟩
      · show some (((y.geom2.ends.length : Nat) : Int), true) = _
        rw [len2 d4]
      · rw [cond_t (decide_eq_true h4), cond_t (decide_eq_true h4)]
    rw [if_neg h4, cond_f (decide_eq_false h4)]
    by_cases h5 : k = 5
    · rw [if_pos h5]
      obtain ⟨y, d1, d2, d3, d4⟩ := poly_dec ⟨⟨⟨⟨l, strd l, f, s⟩⟩, e⟩⟩
      dsimp only
      rw [cond_f (by rfl), cond_f (by rfl), cond_t (by rfl), d1, Option.bind_some]
      refine ⟨((e.length : Nat) : Int), ?_, ?_⟩
      · show some (((y.geom2.ends.length : Nat) : Int), true) = _
        rw [len2 d4]
      · rw [cond_t (decide_eq_true h5)]
    rw [if_neg h5, cond_f (decide_eq_false h5)]
    by_cases h6 : k = 6
    · rw [if_pos h6]
      obtain ⟨y, d1, d2, d3, d4⟩ := mpoly_dec ⟨⟨⟨⟨l, strd l, f, s⟩⟩, es⟩⟩
      dsimp only
      rw [cond_f (by rfl), cond_f (by rfl), cond_f (by rfl), cond_t (by rfl), d1, Option.bind_some]
      refine ⟨((es.length : Nat) : Int), ?_, ?_⟩
      · show some (((y.geom3.endss.length : Nat) : Int), true) = _
        rw [len3 d4]
      · rw [cond_t (decide_eq_true h6)]
    rw [if_neg h6, cond_f (decide_eq_false h6)]
    dsimp only
    rw [cond_f (by rfl), cond_f (by rfl), cond_f (by rfl), cond_f (by rfl), cond_t (by rfl), coll_dec, Option.bind_some]
    refine ⟨((ks.length : Nat) : Int), ?_, rfl⟩
    show some ((((toVs ks).length : Nat) : Int), true) = _
    rw [toVs_map, List.length_map]
theorem flat_p {g : TImpl_Geom} {F : Nat} (hg : p_geometry F g = some (toV g)) (hk : 1 ≤ g.Kind ∧ g.Kind ≤ 8) (h7 : g.Kind ≠ 7) (hf : g.Flat.length ≤ 4294967296) : p_FlatOf F g = some (g.Flat, true) := by
  have fl : p_floats g.Flat = some g.Flat := by unfold p_floats; rw [need_pos hf]
  have both : pp_FlatOf F g = none ∧ p_FlatOf_in F g = some (g.Flat, true) := by
    unfold pp_FlatOf p_FlatOf_in
    rw [hg, Option.bind_some, Option.bind_some]
    cases g with
    | mk k l s f e es ks =>
      simp only at hk h7 fl
      unfold toV
      by_cases h1 : k = 1
      · rw [if_pos h1]
        obtain ⟨y, d1, d2, d3⟩ := point_dec ⟨⟨l, strd l, f, s⟩⟩
        have d3' := fl_inj d3
        dsimp only at d3' ⊢
        simp only [show decide (64 = 49) = false from rfl, show decide (64 = 51) = false from rfl, show decide (64 = 52) = false from rfl, show decide (64 = 53) = false from rfl, show decide (64 = 54) = false from rfl, decide_true, cond_true, cond_false, d1, Option.bind_some, d3', fl, Option.bind_none, and_self]
      rw [if_neg h1]
      by_cases h2 : k = 2
      · rw [if_pos h2]
        obtain ⟨y, d1, d2, d3⟩ := line_dec ⟨⟨⟨l, strd l, f, s⟩⟩⟩
        have d3' := fl_inj d3
        dsimp only at d3' ⊢
        simp only [show decide (67 = 49) = false from rfl, show decide (67 = 51) = false from rfl, show decide (67 = 52) = false from rfl, show decide (67 = 53) = false from rfl, show decide (67 = 54) = false from rfl, show decide (67 = 64) = false from rfl, decide_true, cond_true, cond_false, d1, Option.bind_some, d3', fl, Option.bind_none, and_self]
      rw [if_neg h2]
      by_cases h8 : k = 8
      · rw [if_pos h8]
        obtain ⟨y, d1, d2, d3⟩ := line_dec ⟨⟨⟨l, strd l, f, s⟩⟩⟩
        have d3' := fl_inj d3
        dsimp only at d3' ⊢
        simp only [show decide (70 = 49) = false from rfl, show decide (70 = 51) = false from rfl, show decide (70 = 52) = false from rfl, show decide (70 = 53) = false from rfl, show decide (70 = 54) = false from rfl, show decide (70 = 64) = false from rfl, show decide (70 = 67) = false from rfl, decide_true, cond_true, cond_false, d1, Option.bind_some, d3', fl, Option.bind_none, and_self]
      rw [if_neg h8]
      by_cases h3 : k = 3
      · rw [if_pos h3]
        obtain ⟨y, d1, d2, d3, d4⟩ := poly_dec ⟨⟨⟨⟨l, strd l, f, s⟩⟩, e⟩⟩
        have d3' := fl_inj d3
        dsimp only at d3' ⊢
        simp only [decide_true, cond_true, cond_false, d1, Option.bind_some, d3', fl, Option.bind_none, and_self]
      rw [if_neg h3]
      by_cases h4 : k = 4
      · rw [if_pos h4]
        obtain ⟨y, d1, d2, d3, d4⟩ := poly_dec ⟨⟨⟨⟨l, strd l, f, s⟩⟩, e⟩⟩
        have d3' := fl_inj d3
        dsimp only at d3' ⊢
        simp only [show decide (51 = 49) = false from rfl, decide_true, cond_true, cond_false, d1, Option.bind_some, d3', fl, Option.bind_none, and_self]
      rw [if_neg h4]
      by_cases h5 : k = 5
      · rw [if_pos h5]
        obtain ⟨y, d1, d2, d3, d4⟩ := poly_dec ⟨⟨⟨⟨l, strd l, f, s⟩⟩, e⟩⟩
        have d3' := fl_inj d3
        dsimp only at d3' ⊢
        simp only [show decide (52 = 49) = false from rfl, show decide (52 = 51) = false from rfl, decide_true, cond_true, cond_false, d1, Option.bind_some, d3', fl, Option.bind_none, and_self]
      rw [if_neg h5, if_pos (by omega)]
      obtain ⟨y, d1, d2, d3, d4⟩ := mpoly_dec ⟨⟨⟨⟨l, strd l, f, s⟩⟩, es⟩⟩
      have d3' := fl_inj d3
      dsimp only at d3' ⊢
      simp only [show decide (53 = 49) = false from rfl, show decide (53 = 51) = false from rfl, show decide (53 = 52) = false from rfl, decide_true, cond_true, cond_false, d1, Option.bind_some, d3', fl, Option.bind_none, and_self]
  unfold p_FlatOf
  rw [both.1, both.2]
  rfl
theorem flat7_p {g : TImpl_Geom} {F : Nat} (hg : p_geometry F g = some (toV g)) (h7 : g.Kind = 7) : p_FlatOf F g = some ([], false) := by
  have e : toV g = ⟨54, c_TGeom_GeometryCollection ⟨g.Layout, toVs g.Kids, g.SRID⟩⟩ := by
    cases g; simp only at h7; subst h7; simp only [toV]; rfl
  have h : pp_FlatOf F g = some () := by
    unfold pp_FlatOf
    rw [hg, e, Option.bind_some]
    dsimp only
    rw [cond_f (by rfl), cond_f (by rfl), cond_f (by rfl), cond_f (by rfl), cond_t (by rfl), coll_dec, Option.bind_some]
    rfl
  unfold p_FlatOf
  rw [h]
  rfl
theorem geom1 {g : TImpl_Geom} (h1 : g.Kind = 1) (hf : g.Flat.length ≤ 4294967296) {G : Nat} : p_geometry (G + 1) g = some (toV g) := by
  show p_geometry_b (fun a0 => p_geometry G a0) G g = _
  unfold p_geometry_b
  have fl : p_floats g.Flat = some g.Flat := by unfold p_floats; rw [need_pos hf]
  rw [fl, Option.bind_some, cond_t (decide_eq_true h1)]
  unfold p_NewPointFlat
  rw [strd_p, Option.bind_some, Option.bind_some]
  cases g; simp only at h1; subst h1; simp only [toV]; rfl
theorem sameF_p {F : Nat} (l : List Nat) (hl : l.length ≤ 4294967296) (hF : l.length < F) : p_SameFloats F l l = some true := by
  unfold p_SameFloats
  rw [cond_f (nF rfl)]
  have hs := scan_loop0 l (p_SameFloats_l2 l l) (fun _ => true) false
    (fun K k hk => by unfold p_SameFloats_l2; rw [cond_f (decide_eq_false (by omega))])
    (fun K k x hx => by
      have hk := (List.getElem?_eq_some_iff.1 hx).1
      unfold p_SameFloats_l2
      rw [cond_t (decide_eq_true (by omega)), idx_get hx, Option.bind_some, Option.bind_some, cond_f (nF rfl), succ_cast, need_pos (in64m (by omega) (by omega)), if_pos rfl]) (F := F) (by omega)
  have : (l.all fun _ => true) = true := by simp
  rw [if_pos this] at hs
  rw [hs, Option.bind_some, aft_inl]
  rfl
theorem law_num {F : Nat} (hF : 2200000 ≤ F) {g : TImpl_Geom} (hw : WfG g) (hB : gF g ≤ 1048576) : p_FnNumParts F g = some true := by
  unfold p_FnNumParts
  obtain ⟨b, hb, -⟩ := zzFits2_p (F := F) (by omega) hw
  rw [hb, Option.bind_some]
  cases b with
  | false => rw [cond_t (rfl : (!false) = true)]
  | true =>
    rw [cond_f (rfl : (!true) = false)]
    unfold p_gHasParts
    obtain ⟨c, hc, -⟩ := gGood_p hw (F := F) (by omega)
    rw [hc, Option.bind_some]
    cases c with
    | false => rw [cond_f rfl, Option.bind_some, cond_t (rfl : (!false) = true)]
    | true =>
      rw [cond_t rfl]
      by_cases h3 : (3 : Int) ≤ g.Kind
      · rw [cond_t (decide_eq_true h3), Option.bind_some]
        by_cases h7 : g.Kind ≤ 7
        · rw [decide_eq_true h7, cond_f (rfl : (!true) = false)]
          have hg := geom_p _ g (Nat.le_refl _) hw hB F (by omega) (gGood_good hw (by omega) hc) F (by omega)
          obtain ⟨n, h1, h2⟩ := num_p hg ⟨h3, h7⟩
          rw [h1, Option.bind_some, cond_t rfl, h2, Option.bind_some, decide_eq_true rfl]
        · rw [decide_eq_false h7, cond_t (rfl : (!false) = true)]
      · rw [cond_f (decide_eq_false h3), Option.bind_some, cond_t (rfl : (!false) = true)]
theorem law_flat {F : Nat} (hF : 2200000 ≤ F) {g : TImpl_Geom} (hw : WfG g) (hB : gF g ≤ 1048576) : p_FnFlatOf F g = some true := by
  unfold p_FnFlatOf
  have big := hw.tell.big
  obtain ⟨b, hb, -⟩ := zzFits2_p (F := F) (by omega) hw
  rw [hb, Option.bind_some]
  cases b with
  | false => rw [cond_t (rfl : (!false) = true)]
  | true =>
    rw [cond_f (rfl : (!true) = false)]
    obtain ⟨c, hc, -⟩ := gGood_p hw (F := F) (by omega)
    rw [hc, Option.bind_some]
    cases c with
    | false => rw [cond_t (rfl : (!false) = true)]
    | true =>
      rw [cond_f (rfl : (!true) = false)]
      have hgd := gGood_good hw (by omega) hc
      have hg := geom_p _ g (Nat.le_refl _) hw hB F (by omega) hgd F (by omega)
      have hk := (good_VG _ g (Nat.le_refl _) hw F (by omega) hgd).kind
      obtain ⟨G, rfl⟩ : ∃ G, F = G + 1 := ⟨F - 1, by omega⟩
      have one := flat_p (g := ⟨1, 1, 0, [4607182418800017408, 4611686018427387904], [], [], []⟩) (geom1 (G := G) rfl (by simp)) (by simp) (by simp) (by simp)
      by_cases h7 : g.Kind = 7
      · rw [flat7_p hg h7, Option.bind_some, one, Option.bind_some, cond_t rfl, decide_eq_true h7]
        rfl
      · rw [flat_p hg hk h7 (by omega), Option.bind_some, one, Option.bind_some, cond_t rfl, decide_eq_false h7, cond_t (by rfl), cond_f (by rfl), sameF_p (F := G + 1) g.Flat (by omega) (by omega)]
        rfl
end
end Go.Proofs.Ytbgdonedjgkhiaa.Wk

set_option linter.unusedVariables false
set_option linter.unusedSimpArgs false
namespace Go.Proofs.Ytbgdonedjgkhiaa.Wk
open Go.Vm
theorem bulk_map {α : Type} (f : α → D) (h : ∀ x, bulkD (f x) = 1) : ∀ l : List α, bulkDs (l.map f) = l.length
  | [] => rfl
  | x :: l => by simp only [List.map_cons, bulkDs, h, bulk_map f h l, List.length_cons]; omega
theorem bulk_endss : ∀ l : List (List Int), bulkDs (l.map keS3) = l.length + (l.map List.length).sum
  | [] => rfl
  | x :: l => by
    have h1 : bulkD (keS3 x) = x.length + 1 := by
      show bulkDs (x.map keS2) + 1 = _
      rw [bulk_map keS2 (fun _ => rfl)]
    simp only [List.map_cons, bulkDs, h1, bulk_endss l, List.length_cons, List.sum_cons]; omega
mutual
theorem gF_bulk : ∀ g : TImpl_Geom, gF g + 1 ≤ bulkDs (c0_TImpl_Geom g)
  | .mk k l s f e es ks => by
    have h1 := gFs_bulk ks
    have h2 := bulk_map keS1 (fun _ => rfl) f
    have h3 := bulk_map keS2 (fun _ => rfl) e
    have h4 := bulk_endss es
    simp only [gF, c0_TImpl_Geom, bulkDs, bulkD]
    omega
theorem gFs_bulk : ∀ l : List TImpl_Geom, gFs l + l.length ≤ bulkDs (cs_TImpl_Geom l)
  | [] => by simp [gFs, cs_TImpl_Geom, bulkDs]
  | g :: r => by
    have h1 := gF_bulk g
    have h2 := gFs_bulk r
    simp only [gFs, cs_TImpl_Geom, bulkDs_app, List.length_cons]
    omega
end
end Go.Proofs.Ytbgdonedjgkhiaa.Wk
