/- Proved: the law of a ring that is moved. -/
import Derived.Test.YtlafodjpnolmhaaAreM
namespace Go.Proofs.Ytlafodjpnolmhaa.Wk
open Go.Vm
set_option linter.unusedVariables false
set_option linter.unusedSimpArgs false
theorem gWhole_p (x : Nat) : p_gWhole x = some (Flt.okF 4697254411347427328 x) := by
  have e : fneg 4697254411347427328 = 13920626448202203136 := by decide +kernel
  unfold p_gWhole Flt.okF Flt.inR
  rw [e]
  cases g1 : fge x 13920626448202203136 with
  | false => rw [cond_f rfl]; rfl
  | true =>
    rw [cond_t rfl]
    cases g2 : fle x 4697254411347427328 with
    | false => rw [cond_f rfl]; rfl
    | true => rw [cond_t rfl, Flt.truncN_of (show Flt.isNan x = false from nan_le _ x g2)]; rfl
theorem each_p {g : TImpl_Geom} (hk : g.Kids = []) (hl : g.Flat.length ≤ 2000) {F : Nat} (hF : 3000 < F) : p_gEach F g = some (g.Flat.all (Flt.okF 4697254411347427328)) := by
  obtain ⟨G, rfl⟩ : ∃ G, F = G + 2 := ⟨F - 2, by omega⟩
  show p_gEach_b (fun a0 => p_gEach (G + 1) a0) (G + 1) g = _
  unfold p_gEach_b
  have hs := scan_loop0 g.Flat (p_gEach_l4 g) (Flt.okF 4697254411347427328) false (fun K k hk => by
    unfold p_gEach_l4; rw [cond_f (decide_eq_false (by omega))]) (fun K k x hx => by
    have hk := (List.getElem?_eq_some_iff.1 hx).1
    unfold p_gEach_l4
    rw [cond_t (decide_eq_true (by omega)), idx_get hx, Option.bind_some, gWhole_p, Option.bind_some]
    cases h : Flt.okF 4697254411347427328 x with
    | false => rw [cond_t (rfl : (!false) = true), if_neg (by simp)]
    | true => rw [cond_f (rfl : (!true) = false), need_pos (in64 (by omega) (by omega)), if_pos rfl, succ_cast]) (F := G + 1) (by omega)
  rw [hs, Option.bind_some]
  by_cases h : g.Flat.all (Flt.okF 4697254411347427328) = true
  · rw [if_pos h, aft_inl, h]
    unfold p_gEach_k1
    rw [iter_one]
    have e : ∀ R K, p_gEach_l3 g R K (0 : Int) = some (.inl ()) := fun R K => by unfold p_gEach_l3; rw [hk, cond_f (by rfl)]
    rw [e, Option.bind_some, aft_inl]
    rfl
  · rw [if_neg h, aft_inr]; simp [h]
theorem c18 : Flt.I 13911619248947462144 (-262144) ∧ Flt.I 4688247212092686336 262144 := by
  have h1 := Flt.ofInt_int (n := -262144) (by decide)
  have h2 := Flt.ofInt_int (n := 262144) (by decide)
  rw [show ofInt (-262144) = 13911619248947462144 by decide +kernel] at h1
  rw [show ofInt 262144 = 4688247212092686336 by decide +kernel] at h2
  exact ⟨h1, h2⟩
def Moved (l M : List Nat) (f : Nat → Int) (s : Nat) (x y : Int) (i : Nat) : Prop := M.length = i ∧ ∀ j, j < i → Flt.I (M.getD j 0) (mv f s x y j) ∧ (f j).natAbs ≤ 262144
theorem getD_app {M : List Nat} {z : Nat} {j : Nat} : (M ++ [z]).getD j 0 = if j < M.length then M.getD j 0 else if j = M.length then z else 0 := by
  rw [List.getD_eq_getElem?_getD, List.getElem?_append]
  split
  · rw [List.getD_eq_getElem?_getD]
  · split
    · rename_i h; subst h; simp
    · rename_i h1 h2
      rw [List.getElem?_eq_none (by simp; omega)]; rfl
theorem Moved.next {l M : List Nat} {f : Nat → Int} {s : Nat} {x y : Int} {i z : Nat} (h : Moved l M f s x y i) (hz : Flt.I z (mv f s x y i)) (hf : (f i).natAbs ≤ 262144) : Moved l (M ++ [z]) f s x y (i + 1) := by
  refine ⟨by simp [h.1], fun j hj => ?_⟩
  rw [getD_app, h.1]
  by_cases hji : j < i
  · rw [if_pos hji]; exact h.2 j hji
  · rw [if_neg hji, if_pos (by omega)]
    obtain rfl : j = i := by omega
    exact ⟨hz, hf⟩
theorem mv_loop {g : TImpl_Geom} {f : Nat → Int} {s : Nat} {x y : Int} (h2 : 2 ≤ s) (hx : x.natAbs ≤ 262144) (hy : y.natAbs ≤ 262144) (hl : g.Flat.length ≤ 2000) (hI : ∀ j, j < g.Flat.length → Flt.I (g.Flat.getD j 0) (f j)) :
    ∀ F i M, g.Flat.length - i < F → i ≤ g.Flat.length → Moved g.Flat M f s x y i → ∃ o, iter (p_FnAreaMoved_l4 g x y (s : Int)) F ((i : Int), M) = some o ∧ (o = .inr true ∨ ∃ M', o = .inl M' ∧ Moved g.Flat M' f s x y g.Flat.length) := by
  intro F
  induction F with
  | zero => intro i M h; omega
  | succ F ih =>
    intro i M h hi hM
    show ∃ o, p_FnAreaMoved_l4 g x y _ (iter (p_FnAreaMoved_l4 g x y (s : Int)) F) _ = some o ∧ _
    obtain ⟨K, hK⟩ : ∃ K, K = iter (p_FnAreaMoved_l4 g x y (s : Int)) F := ⟨_, rfl⟩
    rw [← hK] at ih ⊢
    by_cases hil : i < g.Flat.length
    · have hv := hI i hil
      have k5t : p_FnAreaMoved_k5 x y (s : Int) ((i : Int), M) K (g.Flat.getD i 0) true = some (.inr true) := by unfold p_FnAreaMoved_k5; rw [cond_t rfl]
      unfold p_FnAreaMoved_l4
      dsimp only
      rw [cond_t (decide_eq_true (by omega)), idx_lt _ i 0 hil, Option.bind_some, Flt.flt_int hv c18.1, Flt.fgt_int hv c18.2]
      by_cases c1 : f i < -262144
      · rw [cond_t (decide_eq_true c1), k5t]; exact ⟨_, rfl, .inl rfl⟩
      rw [cond_f (decide_eq_false c1)]
      by_cases c2 : 262144 < f i
      · rw [decide_eq_true c2, k5t]; exact ⟨_, rfl, .inl rfl⟩
      rw [decide_eq_false c2]
      have hf : (f i).natAbs ≤ 262144 := by omega
      have k6 : ∀ z, Flt.I z (mv f s x y i) → ∃ o, p_FnAreaMoved_k6 ((i : Int), M) K z = some o ∧ (o = .inr true ∨ ∃ M', o = .inl M' ∧ Moved g.Flat M' f s x y g.Flat.length) := fun z hz => by
        unfold p_FnAreaMoved_k6
        dsimp only
        rw [need_pos (by rw [hM.1]; simp; omega), need_pos (in64 (by omega) (by omega)), succ_cast]
        exact ih (i + 1) _ (by omega) (by omega) (hM.next hz hf)
      have ht : Int.tmod (i : Int) (s : Int) = ((i % s : Nat) : Int) := rfl
      unfold p_FnAreaMoved_k5
      dsimp only
      rw [cond_f rfl, need_pos (by omega), ht]
      by_cases c3 : i % s = 0
      · rw [cond_t (decide_eq_true (by omega))]
        obtain ⟨z, e, w⟩ := Flt.add_int hv (Flt.ofInt_int (n := x) (by omega)) (by omega)
        rw [e, Option.bind_some]
        exact k6 z (by unfold mv; rw [if_pos c3]; exact w)
      rw [cond_f (decide_eq_false (by omega))]
      by_cases c4 : i % s = 1
      · rw [cond_t (decide_eq_true (by omega))]
        obtain ⟨z, e, w⟩ := Flt.add_int hv (Flt.ofInt_int (n := y) (by omega)) (by omega)
        rw [e, Option.bind_some]
        exact k6 z (by unfold mv; rw [if_neg c3, if_pos c4]; exact w)
      rw [cond_f (decide_eq_false (by omega))]
      exact k6 _ (by unfold mv; rw [if_neg c3, if_neg c4, Int.add_zero]; exact hv)
    · obtain rfl : i = g.Flat.length := by omega
      unfold p_FnAreaMoved_l4
      dsimp only
      rw [cond_f (decide_eq_false (by omega))]
      exact ⟨_, rfl, .inr ⟨M, rfl, hM⟩⟩
theorem law_area {g : TImpl_Geom} {F : Nat} (hw : WfG g) (hF : gF g + 2147483660 ≤ F) (x y : Int) : p_FnAreaMoved F g x y = some true := by
  unfold p_FnAreaMoved
  obtain ⟨b, hb, hb2⟩ := zzFits2_p (F := F) (by omega) hw
  rw [hb, Option.bind_some]
  cases b with
  | false => rw [cond_t (rfl : (!false) = true)]
  | true =>
    obtain ⟨hl, he, -, -, -⟩ := hb2 rfl
    rw [cond_f (rfl : (!true) = false)]
    obtain ⟨s0, hs0, -, -⟩ := stride_t g.Layout
    rw [hs0, Option.bind_some]
    have kt : p_FnAreaMoved_k1 g x y F (s0 : Int) true = some true := by unfold p_FnAreaMoved_k1; rw [cond_t rfl]
    obtain ⟨c, hc, hc2⟩ := small_p hw (F := F) (by omega) hl he
    have hp : p_gPlain F g = some (c && !decide (g.Kind = 7)) := by
      unfold p_gPlain; rw [hc, Option.bind_some]; cases c <;> rfl
    rw [hp, Option.bind_some]
    cases hcc : (c && !decide (g.Kind = 7)) with
    | false => rw [cond_t (rfl : (!false) = true), kt]
    | true =>
      rw [cond_f (rfl : (!true) = false)]
      by_cases h8' : ¬ g.Kind = 8
      · rw [cond_t (nT h8'), kt]
      have h8 := Decidable.not_not.1 h8'
      rw [cond_f (nF h8)]
      obtain ⟨s, S, h9⟩ := hc2 (by simp at hcc; exact hcc.1) (by omega) (by omega)
      obtain rfl : s0 = s := by have := S.str; rw [hs0] at this; have := Option.some.inj this; omega
      have few := S.few
      have h2 := S.s2
      by_cases h0 : ((g.Flat.length : Nat) : Int) = 0
      · rw [cond_t (decide_eq_true h0), kt]
      rw [cond_f (decide_eq_false h0), each_p S.kids (by omega) (by omega), Option.bind_some]
      cases hall : g.Flat.all (Flt.okF 4697254411347427328) with
      | false => rw [cond_t (rfl : (!false) = true), kt]
      | true =>
        rw [cond_f (rfl : (!true) = false)]
        by_cases x1 : x < -262144
        · rw [cond_t (decide_eq_true x1), kt]
        rw [cond_f (decide_eq_false x1)]
        by_cases x2 : 262144 < x
        · rw [cond_t (decide_eq_true x2), kt]
        rw [cond_f (decide_eq_false x2)]
        by_cases y1 : y < -262144
        · rw [cond_t (decide_eq_true y1), kt]
        rw [cond_f (decide_eq_false y1)]
        by_cases y2 : 262144 < y
        · rw [decide_eq_true y2, kt]
        rw [decide_eq_false y2]
        obtain ⟨f, hI⟩ : ∃ f : Nat → Int, ∀ j, j < g.Flat.length → Flt.I (g.Flat.getD j 0) (f j) := by
          refine Classical.axiomOfChoice (r := fun j n => j < g.Flat.length → Flt.I (g.Flat.getD j 0) n) fun j => ?_
          by_cases hj : j < g.Flat.length
          · have hm : g.Flat.getD j 0 ∈ g.Flat := by
              rw [List.getD_eq_getElem?_getD, List.getElem?_eq_getElem hj]; exact List.getElem_mem hj
            obtain ⟨n, hn, -⟩ := Flt.okF_K20 (List.all_eq_true.1 hall _ hm)
            exact ⟨n, fun _ => hn⟩
          · exact ⟨0, fun h => absurd h hj⟩
        obtain ⟨n, hn⟩ : ∃ n, g.Flat.length = n * s0 := ⟨g.Flat.length / s0, by
          have := Nat.div_add_mod g.Flat.length s0
          rw [S.dvd, Nat.add_zero, Nat.mul_comm] at this
          exact this.symm⟩
        have hn1 : 1 ≤ n := by
          cases n with
          | zero => rw [Nat.zero_mul] at hn; omega
          | succ n => omega
        have hn2 : n ≤ 1000 := by
          have : n * 2 ≤ n * s0 := Nat.mul_le_mul_left n h2
          omega
        obtain ⟨m, rfl⟩ : ∃ m, n = m + 1 := ⟨n - 1, by omega⟩
        have hms : (m + 1) * s0 = m * s0 + s0 := Nat.succ_mul m s0
        have cs : ((g.Flat.length : Nat) : Int) - (s0 : Int) = ((m * s0 : Nat) : Int) := by omega
        have cs1 : ((m * s0 : Nat) : Int) + 1 = ((m * s0 + 1 : Nat) : Int) := by omega
        have k2t : p_FnAreaMoved_k2 g x y F (s0 : Int) true = some true := by unfold p_FnAreaMoved_k2; rw [cond_t rfl]
        unfold p_FnAreaMoved_k1
        have i0 : idx g.Flat (0 : Int) = some (g.Flat.getD 0 0) := idx_lt g.Flat 0 0 (by omega)
        have i1 : idx g.Flat (1 : Int) = some (g.Flat.getD 1 0) := idx_lt g.Flat 1 0 (by omega)
        rw [cond_f rfl, cs, need_pos (in64 (by omega) (by omega)), i0, Option.bind_some, idx_lt _ _ 0 (by omega), Option.bind_some, Flt.feq_int (hI 0 (by omega)) (hI (m * s0) (by omega))]
        by_cases q0 : ¬ f 0 = f (m * s0)
        · rw [cond_t (nT q0), k2t]
        rw [cond_f (nF (Decidable.not_not.1 q0)), i1, Option.bind_some, cs1, need_pos (in64 (by omega) (by omega)), idx_lt _ _ 0 (by omega), Option.bind_some, Flt.feq_int (hI 1 (by omega)) (hI (m * s0 + 1) (by omega))]
        by_cases q1' : ¬ f 1 = f (m * s0 + 1)
        · rw [nT q1', k2t]
        have q1 := Decidable.not_not.1 q1'
        rw [nF q1]
        unfold p_FnAreaMoved_k2
        rw [cond_f rfl]
        obtain ⟨o, ho, ho2⟩ := mv_loop (x := x) (y := y) h2 (by omega) (by omega) (by omega) hI F 0 [] (by omega) (by omega) ⟨rfl, fun j hj => by omega⟩
        rw [show ((0 : Nat) : Int) = 0 from rfl] at ho
        rw [ho, Option.bind_some]
        rcases ho2 with rfl | ⟨M, rfl, hM⟩
        · rfl
        · rw [aft_inl]
          unfold p_FnAreaMoved_k3
          obtain ⟨hMl, hMI⟩ := hM
          rw [hn] at hI hMI hMl
          obtain ⟨u, z, q, a1, a2, a3, a4, a5, a6⟩ := area_p (F := F) h2 h9 h8 S.str' hn hn2 (by omega) hI (fun j hj => by have := (hMI j hj).2; omega) (by omega)
          obtain ⟨u', z', q', b1, b2, b3, b4, b5, b6⟩ := area_p (g := ⟨g.Kind, g.Layout, 0, M, [], [], []⟩) (F := F) (f := mv f s0 x y) h2 h9 h8 S.str' hMl hn2 (by omega) (fun j hj => (hMI j hj).1) (fun j hj => by
            have := (hMI j hj).2
            unfold mv
            split
            · omega
            · split <;> omega) (by omega)
          rw [a1, Option.bind_some, b1, Option.bind_some]
          dsimp only
          rw [cond_t rfl, cond_t rfl]
          rw [sA_mv h2, show m + 1 - 1 = m from rfl, ← q1, Int.sub_self, Int.mul_zero, Int.add_zero] at b3 b6
          rw [show m + 1 - 1 = m from rfl] at a3 a6
          rw [Flt.quo_same a3 b3 (fun h => ⟨a6 (by exact_mod_cast h), b6 (by exact_mod_cast h)⟩) a4 b4 a2 b2 a5]
end Go.Proofs.Ytlafodjpnolmhaa.Wk
