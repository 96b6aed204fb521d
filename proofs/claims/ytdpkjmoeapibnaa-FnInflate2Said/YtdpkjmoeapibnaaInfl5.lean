/- Proved: the law of flat lines, put up as places: it is so. -/
import Derived.Test.YtdpkjmoeapibnaaInfl4
namespace Go.Proofs.Ytdpkjmoeapibnaa.Wk
open Go.Vm
set_option linter.unusedVariables false
set_option linter.unusedSimpArgs false
theorem linesF_all {l : List Nat} {t : Nat} (h2 : 2 ≤ t) (h9 : t ≤ 9) (hb : l.length ≤ 2000) : ∀ (ns : List Nat) (a : Nat), lastF t a ns ≤ l.length → ∀ y ∈ linesF t l a ns, y.length ≤ 2000 ∧ ∀ x ∈ y, x ≠ [] ∧ x.length ≤ 2000
  | [], a, _, y, h => by cases h
  | n :: r, a, ha, y, h => by
    have hle : a + n * t ≤ l.length := Nat.le_trans (lastF_le r _) ha
    rcases List.mem_cons.1 h with rfl | h
    · have hn : n ≤ 2000 := Nat.le_trans (Nat.le_mul_of_pos_right n (by omega : 0 < t)) (by omega)
      refine ⟨by simp [plcsF]; omega, fun x hx => ?_⟩
      obtain ⟨k, hk, rfl⟩ := List.mem_map.1 hx
      have hk : k < n := List.mem_range.1 hk
      have hm : (k + 1) * t ≤ n * t := Nat.mul_le_mul_right t hk
      have hs : (k + 1) * t = k * t + t := Nat.succ_mul k t
      have hl : (plcF t l (a + k * t)).length = t := by simp [plcF]; omega
      exact ⟨fun e => by rw [e] at hl; simp at hl; omega, by omega⟩
    · exact linesF_all h2 h9 hb r _ ha y h
theorem inflate2_holds {F : Nat} (hF : 1073741826 ≤ F) (l : List Nat) (e : List Int) (s : Int) (he : ∀ x ∈ e, inI .i64 x) (hFe : e.length + 1 < F) : p_FnInflate2 F l e s = some true := by
  unfold p_FnInflate2
  have key : l.length ≤ 2147483647 → e.length ≤ 2147483647 → p_FnInflate2_k1 l e s F false = some true := by
    intro hl hle
    unfold p_FnInflate2_k1
    rw [cond_f rfl]
    obtain ⟨G, rfl⟩ : ∃ G, F = G + 2 := ⟨F - 2, by omega⟩
    obtain ⟨g, b, hg, hb⟩ : ∃ g b, p_fRows (G + 2) l e s = some (g, b) ∧ (b = true → g = gF l e s ∧ Rws l e s) := by
      exact fRows_p l e s he hl hle (by omega)
    rw [hg, Option.bind_some]
    cases b with
    | false => rw [cond_t (by rfl)]
    | true =>
      obtain ⟨rfl, r⟩ := hb rfl
      obtain ⟨t, rfl⟩ : ∃ t : Nat, s = t := ⟨s.toNat, by have := r.lo; omega⟩
      have h2 : 2 ≤ t := by have := r.lo; omega
      have h9 : t ≤ 9 := by have := r.hi; omega
      have hfew := r.few
      obtain ⟨ns, rfl, hq⟩ := EndsG.nat h2 e 0 r.ends
      rw [endsF_len] at hfew
      have hlast : lastF t 0 ns ≤ l.length := by omega
      have hall := linesF_all h2 h9 (by omega) ns 0 hlast
      have hlen := linesF_len (t := t) (l := l) ns 0
      rw [cond_f (by rfl)]
      unfold p_Inflate2 p_DoorInflate2
      rw [inflate2_p h2 h9 (by omega) (by omega) hlast (by omega), Option.bind_some, Option.bind_some, plain2_p _ (by omega) (fun x hx => ⟨(hall x hx).1, fun y hy => ((hall x hx).2 y hy).2⟩) (by omega), Option.bind_some, Option.bind_some, cond_t rfl]
      show (p_gPlacess (G + 2) (gF l (endsF t 0 ns) (t : Int))).bind _ = _
      rw [gPlacess_p rfl h2 h9 (by omega) (by omega) hlast (by omega), Option.bind_some, gRowss_p _ (by omega) hall (by omega), Option.bind_some]
  by_cases h1 : (2147483647 : Int) < (l.length : Int)
  · rw [cond_t (decide_eq_true h1)]
    rfl
  · rw [cond_f (decide_eq_false h1)]
    by_cases h3 : (2147483647 : Int) < (e.length : Int)
    · rw [decide_eq_true h3]; rfl
    · rw [decide_eq_false h3]
      exact key (by omega) (by omega)
theorem wfI {x : Int} (h : (Lit.int .i64 x).wf = true) : inI .i64 x := by
  simp only [Lit.wf, Bool.and_eq_true, decide_eq_true_eq] at h
  exact h
theorem law_infl (l : List Nat) (e : List Int) (s : Int) (he : ∀ x ∈ e, inI .i64 x) : p_FnInflate2 (e.length + 1073741826) l e s = some true :=
  inflate2_holds (by omega) l e s he (by omega)
end Go.Proofs.Ytdpkjmoeapibnaa.Wk
