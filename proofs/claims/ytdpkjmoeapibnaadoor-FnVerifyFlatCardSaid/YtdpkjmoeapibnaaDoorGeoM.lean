/- Proved: the tests of a geometry's data give an answer, whatever the data (lists of at most 2^63-1). -/
import Derived.Test.YtdpkjmoeapibnaaDoorPVf
import Derived.Test.YtdpkjmoeapibnaaDoorPureKit
import Derived.Test.YtdpkjmoeapibnaaDoorVmRow
namespace Go.Proofs.YtdpkjmoeapibnaaDoor.Wk
open Go.Vm
set_option linter.unusedVariables false
set_option linter.unusedSimpArgs false
mutual
def gF : TImpl_Geom → Nat
  | .mk _ _ _ f e es ks => 1 + f.length + e.length + es.length + ks.length + (es.map List.length).sum + gFs ks
def gFs : List TImpl_Geom → Nat
  | [] => 0
  | g :: r => gF g + gFs r
end
mutual
def WfG : TImpl_Geom → Prop
  | .mk a b c f e es ks => (lo .i64 ≤ a ∧ a ≤ hi .i64) ∧ (lo .i64 ≤ b ∧ b ≤ hi .i64) ∧ (lo .i64 ≤ c ∧ c ≤ hi .i64) ∧ (f.length ≤ maxLen ∧ ∀ x ∈ f, (Lit.float .f64 x).wf = true) ∧ (e.length ≤ maxLen ∧ ∀ x ∈ e, lo .i64 ≤ x ∧ x ≤ hi .i64) ∧
    (es.length ≤ maxLen ∧ ∀ l ∈ es, l.length ≤ maxLen ∧ ∀ x ∈ l, lo .i64 ≤ x ∧ x ≤ hi .i64) ∧ ks.length ≤ maxLen ∧ WfGs ks
def WfGs : List TImpl_Geom → Prop
  | [] => True
  | g :: r => WfG g ∧ WfGs r
end
theorem wfGs_mem : ∀ {l : List TImpl_Geom}, WfGs l → ∀ k ∈ l, WfG k
  | [], _, k, h => by cases h
  | g :: r, h, k, hk => by
    simp only [WfGs] at h
    rcases List.mem_cons.1 hk with rfl | hk
    · exact h.1
    · exact wfGs_mem h.2 k hk
theorem wfGs_of : ∀ {l : List TImpl_Geom}, (∀ k ∈ l, WfG k) → WfGs l
  | [], _ => by simp only [WfGs]
  | g :: r, h => by simp only [WfGs]; exact ⟨h g (by simp), wfGs_of fun k hk => h k (by simp [hk])⟩
theorem gFs_mem : ∀ {l : List TImpl_Geom}, ∀ k ∈ l, gF k ≤ gFs l
  | [], k, h => by cases h
  | g :: r, k, hk => by
    simp only [gFs]
    rcases List.mem_cons.1 hk with rfl | hk
    · omega
    · have := gFs_mem k hk; omega
theorem sum_mem {l : List Nat} {x : Nat} (h : x ∈ l) : x ≤ l.sum := by
  induction l with
  | nil => cases h
  | cons a r ih =>
    simp only [List.sum_cons]
    rcases List.mem_cons.1 h with rfl | h
    · omega
    · have := ih h; omega
/-- What a geometry's data are known to be. -/
structure Wf (g : TImpl_Geom) : Prop where
  kind : lo .i64 ≤ g.Kind ∧ g.Kind ≤ hi .i64
  layout : lo .i64 ≤ g.Layout ∧ g.Layout ≤ hi .i64
  srid : lo .i64 ≤ g.SRID ∧ g.SRID ≤ hi .i64
  flat : g.Flat.length ≤ maxLen ∧ ∀ x ∈ g.Flat, (Lit.float .f64 x).wf = true
  ends : g.Ends.length ≤ maxLen ∧ ∀ x ∈ g.Ends, lo .i64 ≤ x ∧ x ≤ hi .i64
  endss : g.Endss.length ≤ maxLen ∧ ∀ l ∈ g.Endss, l.length ≤ maxLen ∧ ∀ x ∈ l, lo .i64 ≤ x ∧ x ≤ hi .i64
  kids : g.Kids.length ≤ maxLen
  kid : ∀ k ∈ g.Kids, WfG k ∧ gF k < gF g
  big : g.Flat.length < gF g ∧ g.Ends.length < gF g ∧ g.Endss.length < gF g ∧ g.Kids.length < gF g ∧ ∀ l ∈ g.Endss, l.length < gF g
theorem WfG.tell {g : TImpl_Geom} (h : WfG g) : Wf g := by
  cases g with
  | mk a b c f e es ks =>
    simp only [WfG] at h
    obtain ⟨h1, h2, h3, h4, h5, h6, h7, h8⟩ := h
    refine ⟨h1, h2, h3, h4, h5, h6, h7, fun k hk => ⟨wfGs_mem h8 k hk, ?_⟩, ?_, ?_, ?_, ?_, fun l hl => ?_⟩
    · have hk' : k ∈ ks := hk
      have := gFs_mem k hk'; simp only [gF]; omega
    · simp only [gF]; omega
    · simp only [gF]; omega
    · simp only [gF]; omega
    · simp only [gF]; omega
    · have : l.length ∈ es.map List.length := List.mem_map.2 ⟨l, hl, rfl⟩
      have := sum_mem this
      simp only [gF]; omega
theorem maxLenV : maxLen = 9223372036854775807 := by decide +kernel
theorem inM {i L : Nat} (h : i < L) (hL : L ≤ maxLen) : inI .i64 ((i : Int) + 1) := in64 (by omega) (by rw [maxLenV] at hL; omega)
theorem tot_loop {σ S ρ : Type} {L : Nat} {P : σ → Prop} {Post : ρ → Prop} (mk : σ → Int → S) (b : (S → Option ρ) → S → Option ρ)
    (hend : ∀ K s, P s → ∃ o, b K (mk s (L : Int)) = some o ∧ Post o)
    (hstep : ∀ K s (i : Nat), i < L → P s → (∃ o, b K (mk s (i : Int)) = some o ∧ Post o) ∨ ∃ s', P s' ∧ b K (mk s (i : Int)) = K (mk s' ((i + 1 : Nat) : Int))) :
    ∀ n i s, L - i < n → i ≤ L → P s → ∃ o, iter b n (mk s (i : Int)) = some o ∧ Post o := by
  intro n
  induction n with
  | zero => intro i s h; omega
  | succ n ih =>
    intro i s h hi hp
    show ∃ o, b (iter b n) (mk s (i : Int)) = some o ∧ Post o
    by_cases hil : i < L
    · rcases hstep (iter b n) s i hil hp with h1 | ⟨s', h1, h2⟩
      · exact h1
      · rw [h2]; exact ih (i + 1) s' (by omega) (by omega) h1
    · obtain rfl : i = L := by omega
      exact hend _ s hp
theorem weight_t : ∀ (N : Nat) (g : TImpl_Geom), gF g ≤ N → WfG g → ∀ F, gF g < F → ∀ a, ∃ n, p_Weight F g a = some n := by
  intro N
  induction N with
  | zero => intro g h hw; have := hw.tell.big.1; omega
  | succ N ih =>
    intro g h hw F hF a
    have W := hw.tell
    obtain ⟨G, rfl⟩ : ∃ G, F = G + 1 := ⟨F - 1, by omega⟩
    show ∃ n, p_Weight_b (fun a0 a1 => p_Weight G a0 a1) G g a = some n
    unfold p_Weight_b
    have h1 := tot_loop (L := g.Endss.length) (P := fun _ => True) (Post := fun o : Sum Int Int => ∃ v, o = .inl v) (fun s i => (s, i)) (p_Weight_l4 g) (fun K s _ => by
      unfold p_Weight_l4; dsimp only; rw [cond_f (decide_eq_false (by omega))]; exact ⟨_, rfl, _, rfl⟩) (fun K s i hi _ => by
      refine .inr ⟨IntKind.i64.wrap (s + IntKind.i64.wrap ((1 : Int) + ((g.Endss[i].length : Nat) : Int))), trivial, ?_⟩
      unfold p_Weight_l4; dsimp only
      rw [cond_t (decide_eq_true (by omega)), idx_get (List.getElem?_eq_getElem hi), Option.bind_some, need_pos (inM hi W.endss.1), succ_cast]) G 0
    obtain ⟨o, h2, v, rfl⟩ := h1 (IntKind.i64.wrap ((IntKind.i64.wrap ((1 : Int) + ((g.Flat.length : Nat) : Int))) + ((g.Ends.length : Nat) : Int))) (by have := W.big; omega) (by omega) trivial
    rw [show ((0 : Nat) : Int) = 0 from rfl] at h2
    rw [h2, Option.bind_some, aft_inl]
    unfold p_Weight_k1
    have h3 := tot_loop (L := g.Kids.length) (P := fun _ => True) (Post := fun o : Sum Int Int => ∃ v, o = .inl v ∨ o = .inr v) (fun s i => (s, i)) (p_Weight_l3 g a (fun a0 a1 => p_Weight G a0 a1)) (fun K s _ => by
      unfold p_Weight_l3; dsimp only; rw [cond_f (decide_eq_false (by omega))]; exact ⟨_, rfl, _, .inl rfl⟩) (fun K s i hi _ => by
      have hk := W.kid _ (List.getElem_mem hi)
      by_cases c : a < s
      · refine .inl ⟨.inr s, ?_, s, .inr rfl⟩
        unfold p_Weight_l3; dsimp only
        rw [cond_t (decide_eq_true (by omega)), idx_get (List.getElem?_eq_getElem hi), Option.bind_some, cond_t (decide_eq_true c)]
      · obtain ⟨n, hn⟩ := ih _ (by omega) hk.1 G (by omega) (IntKind.i64.wrap (a - s))
        refine .inr ⟨IntKind.i64.wrap (s + n), trivial, ?_⟩
        unfold p_Weight_l3; dsimp only
        rw [cond_t (decide_eq_true (by omega)), idx_get (List.getElem?_eq_getElem hi), Option.bind_some, cond_f (decide_eq_false c), hn, Option.bind_some, need_pos (inM hi W.kids), succ_cast]) G 0 v (by have := W.big; omega) (by omega) trivial
    obtain ⟨o, h4, u, h5⟩ := h3
    rw [show ((0 : Nat) : Int) = 0 from rfl] at h4
    rw [h4, Option.bind_some]
    rcases h5 with rfl | rfl
    · exact ⟨_, rfl⟩
    · exact ⟨_, rfl⟩
theorem layouts_t (a : Int) : ∀ (N : Nat) (g : TImpl_Geom), gF g ≤ N → WfG g → ∀ F, gF g < F → ∃ b, p_gLayouts F g a = some b := by
  intro N
  induction N with
  | zero => intro g h hw; have := hw.tell.big.1; omega
  | succ N ih =>
    intro g h hw F hF
    have W := hw.tell
    obtain ⟨G, rfl⟩ : ∃ G, F = G + 1 := ⟨F - 1, by omega⟩
    show ∃ n, p_gLayouts_b (fun a0 a1 => p_gLayouts G a0 a1) G g a = some n
    unfold p_gLayouts_b
    have h3 := tot_loop (L := g.Kids.length) (P := fun _ => True) (Post := fun o : Sum Unit Bool => True) (fun (s : Unit) i => i) (p_gLayouts_l2 g a (fun a0 a1 => p_gLayouts G a0 a1)) (fun K s _ => by
      unfold p_gLayouts_l2; dsimp only; rw [cond_f (decide_eq_false (by omega))]; exact ⟨_, rfl, trivial⟩) (fun K s i hi _ => by
      have hk := W.kid _ (List.getElem_mem hi)
      obtain ⟨b, hb⟩ := ih _ (by omega) hk.1 G (by omega)
      have e : p_gLayouts_l2 g a (fun a0 a1 => p_gLayouts G a0 a1) K (i : Int) = cond (!b) (some (Sum.inr false)) (K ((i + 1 : Nat) : Int)) := by
        unfold p_gLayouts_l2
        dsimp only
        rw [cond_t (decide_eq_true (by omega)), idx_get (List.getElem?_eq_getElem hi), Option.bind_some, hb, Option.bind_some, need_pos (inM hi W.kids), succ_cast]
      cases b with
      | false => exact .inl ⟨_, e, trivial⟩
      | true => exact .inr ⟨(), trivial, e⟩) G 0 () (by have := W.big; omega) (by omega) trivial
    obtain ⟨o, h4, -⟩ := h3
    rw [show ((0 : Nat) : Int) = 0 from rfl] at h4
    rw [h4, Option.bind_some]
    cases o with
    | inr r => exact ⟨_, rfl⟩
    | inl v =>
      rw [aft_inl]
      unfold p_gLayouts_k1
      cases decide (g.Layout ≤ a) <;> cases decide ((1 : Int) ≤ g.Layout) <;> cases decide (g.Kind = 7) <;> exact ⟨_, rfl⟩
theorem cover_t (a b : Int) : ∃ c, p_Cover a b = some c := by
  unfold p_Cover
  cases decide (a = 2) <;> cases decide (b = 3) <;> cases decide (a = 3) <;> cases decide (b = 2) <;> exact ⟨_, rfl⟩
theorem layoutOf_t : ∀ (N : Nat) (g : TImpl_Geom), gF g ≤ N → WfG g → ∀ F, gF g < F → ∃ b, p_LayoutOf F g = some b := by
  intro N
  induction N with
  | zero => intro g h hw; have := hw.tell.big.1; omega
  | succ N ih =>
    intro g h hw F hF
    have W := hw.tell
    obtain ⟨G, rfl⟩ : ∃ G, F = G + 1 := ⟨F - 1, by omega⟩
    show ∃ n, p_LayoutOf_b (fun a0 => p_LayoutOf G a0) G g = some n
    have key : ∀ c, ∃ n, p_LayoutOf_k1 g G (fun a0 => p_LayoutOf G a0) c = some n := fun c => by
      unfold p_LayoutOf_k1
      cases c with
      | true => exact ⟨_, rfl⟩
      | false =>
        rw [cond_f rfl]
        have h3 := tot_loop (L := g.Kids.length) (P := fun _ => True) (Post := fun o : Sum Int Int => ∃ v, o = .inl v) (fun s i => (s, i)) (p_LayoutOf_l3 g (fun a0 => p_LayoutOf G a0)) (fun K s _ => by
          unfold p_LayoutOf_l3; dsimp only; rw [cond_f (decide_eq_false (by omega))]; exact ⟨_, rfl, _, rfl⟩) (fun K s i hi _ => by
          have hk := W.kid _ (List.getElem_mem hi)
          obtain ⟨n, hn⟩ := ih _ (by omega) hk.1 G (by omega)
          obtain ⟨m, hm⟩ := cover_t s n
          refine .inr ⟨m, trivial, ?_⟩
          unfold p_LayoutOf_l3; dsimp only
          rw [cond_t (decide_eq_true (by omega)), idx_get (List.getElem?_eq_getElem hi), Option.bind_some, hn, Option.bind_some, hm, Option.bind_some, need_pos (inM hi W.kids), succ_cast]) G 0 g.Layout (by have := W.big; omega) (by omega) trivial
        obtain ⟨o, h4, u, rfl⟩ := h3
        rw [show ((0 : Nat) : Int) = 0 from rfl] at h4
        rw [h4, Option.bind_some]
        exact ⟨_, rfl⟩
    unfold p_LayoutOf_b
    cases (!decide (g.Kind = (7 : Int))) with
    | true => rw [cond_t rfl]; exact key _
    | false => rw [cond_f rfl]; exact key _
theorem goodEnds_t {l : List Int} (h1 : l.length ≤ maxLen) (h2 : ∀ x ∈ l, lo .i64 ≤ x ∧ x ≤ hi .i64) {F : Nat} (hF : l.length < F) {a s : Int} (ha : 0 ≤ a) (hs : s ≠ 0) (hhi : a ≤ hi .i64) (c : Bool) :
    ∃ n b, p_goodEnds F l a s c = some (n, b) ∧ 0 ≤ n ∧ n ≤ hi .i64 := by
  unfold p_goodEnds
  have h3 := tot_loop (L := l.length) (P := fun x : Int => 0 ≤ x ∧ x ≤ hi .i64) (Post := fun o : Sum Int (Int × Bool) => ∃ v, 0 ≤ v ∧ v ≤ hi .i64 ∧ (o = .inl v ∨ ∃ b, o = .inr (v, b))) (fun s i => (s, i)) (p_goodEnds_l2 l s c) (fun K v hv => by
    unfold p_goodEnds_l2; dsimp only; rw [cond_f (decide_eq_false (by omega))]; exact ⟨_, rfl, v, hv.1, hv.2, .inl rfl⟩) (fun K v i hi hv => by
    have hx := h2 _ (List.getElem_mem hi)
    obtain ⟨x, hxe⟩ : ∃ x, x = l[i] := ⟨_, rfl⟩
    rw [← hxe] at hx
    have step : ∀ b, (∃ o, p_goodEnds_k3 (v, (i : Int)) K x b = some o ∧ ∃ v, 0 ≤ v ∧ v ≤ Vm.hi .i64 ∧ (o = .inl v ∨ ∃ b, o = .inr (v, b))) ∨ (b = false ∧ p_goodEnds_k3 (v, (i : Int)) K x b = K (x, ((i + 1 : Nat) : Int))) := fun b => by
      unfold p_goodEnds_k3; dsimp only
      cases b with
      | true => exact .inl ⟨_, rfl, v, hv.1, hv.2, .inr ⟨_, rfl⟩⟩
      | false => rw [cond_f rfl, need_pos (inM hi h1), succ_cast]; exact .inr ⟨rfl, rfl⟩
    have go : ∀ b, (b = false → v ≤ x) → p_goodEnds_l2 l s c K (v, (i : Int)) = p_goodEnds_k3 (v, (i : Int)) K x b → (∃ o, p_goodEnds_l2 l s c K (v, (i : Int)) = some o ∧ ∃ v, 0 ≤ v ∧ v ≤ Vm.hi .i64 ∧ (o = .inl v ∨ ∃ b, o = .inr (v, b))) ∨
        ∃ s', (0 ≤ s' ∧ s' ≤ Vm.hi .i64) ∧ p_goodEnds_l2 l s c K (v, (i : Int)) = K (s', ((i + 1 : Nat) : Int)) := fun b hb e => by
      rcases step b with ⟨o, h4, h5⟩ | ⟨h4, h5⟩
      · exact .inl ⟨o, e.trans h4, h5⟩
      · exact .inr ⟨x, ⟨by have := hb h4; omega, hx.2⟩, e.trans h5⟩
    by_cases c1 : x < v
    · refine go true (fun h => by cases h) ?_
      unfold p_goodEnds_l2; dsimp only
      rw [cond_t (decide_eq_true (by omega)), idx_get (List.getElem?_eq_getElem hi), Option.bind_some, ← hxe, cond_t (decide_eq_true c1)]
    · have hin : inI .i64 (x - v) := in64 (by omega) (by have := hx.2; simp only [Vm.hi] at this; omega)
      by_cases c2 : Int.tmod (x - v) s = 0
      · cases c with
        | false =>
          refine go false (fun _ => by omega) ?_
          unfold p_goodEnds_l2; dsimp only
          rw [cond_t (decide_eq_true (by omega)), idx_get (List.getElem?_eq_getElem hi), Option.bind_some, ← hxe, cond_f (decide_eq_false c1), need_pos hin, need_pos hs, cond_f (nF c2), cond_f rfl]
        | true =>
          refine go (decide (s < x - v)) (fun _ => by omega) ?_
          unfold p_goodEnds_l2; dsimp only
          rw [cond_t (decide_eq_true (by omega)), idx_get (List.getElem?_eq_getElem hi), Option.bind_some, ← hxe, cond_f (decide_eq_false c1), need_pos hin, need_pos hs, cond_f (nF c2), cond_t rfl, need_pos hin]
      · refine go true (fun h => by cases h) ?_
        unfold p_goodEnds_l2; dsimp only
        rw [cond_t (decide_eq_true (by omega)), idx_get (List.getElem?_eq_getElem hi), Option.bind_some, ← hxe, cond_f (decide_eq_false c1), need_pos hin, need_pos hs, cond_t (nT c2)]) F 0 a (by omega) (by omega) ⟨ha, hhi⟩
  obtain ⟨o, h4, v, h5, h6, h7⟩ := h3
  rw [show ((0 : Nat) : Int) = 0 from rfl] at h4
  rw [h4, Option.bind_some]
  rcases h7 with rfl | ⟨b, rfl⟩
  · exact ⟨v, true, rfl, h5, h6⟩
  · exact ⟨v, b, rfl, h5, h6⟩
theorem stride_t (a : Int) : ∃ s : Nat, p_Stride a = some (s : Int) ∧ (s ≠ 0 → 1 ≤ a ∧ 2 ≤ s ∧ p_Layout_Stride a = some (s : Int) ∧ (a ≤ 9 → s ≤ 9) ∧ (5 ≤ a → a = s)) ∧ (s = 0 → a ≤ 0) := by
  unfold p_Stride p_Layout_Stride
  by_cases c : a < 1
  · exact ⟨0, by rw [cond_t (decide_eq_true c)]; rfl, fun h => absurd rfl h, fun _ => by omega⟩
  · rw [cond_f (decide_eq_false c), cond_f (b := decide (a = 0)) (decide_eq_false (by omega))]
    by_cases c1 : a = 1
    · subst c1; exact ⟨2, rfl, fun _ => ⟨by omega, by omega, rfl, by omega, by omega⟩, by omega⟩
    rw [cond_f (decide_eq_false c1)]
    by_cases c2 : a = 2
    · subst c2; exact ⟨3, rfl, fun _ => ⟨by omega, by omega, rfl, by omega, by omega⟩, by omega⟩
    rw [cond_f (decide_eq_false c2)]
    by_cases c3 : a = 3
    · subst c3; exact ⟨3, rfl, fun _ => ⟨by omega, by omega, rfl, by omega, by omega⟩, by omega⟩
    rw [cond_f (decide_eq_false c3), cond_f (decide_eq_false c1), cond_f (decide_eq_false c2), cond_f (decide_eq_false c3)]
    refine ⟨a.toNat, by rw [show ((a.toNat : Nat) : Int) = a by omega], fun _ => ⟨by omega, by omega, ?_, by omega, by omega⟩, by omega⟩
    rw [show ((a.toNat : Nat) : Int) = a by omega]
    by_cases c4 : a = 4
    · rw [cond_t (decide_eq_true c4), c4]
    · rw [cond_f (decide_eq_false c4)]
end Go.Proofs.YtdpkjmoeapibnaaDoor.Wk
