/- Proved: the law of the size of Hilbert curves. -/
import Derived.Test.YtkajoiehicpnlaaDoorPHs
import Derived.Test.YtkajoiehicpnlaaDoorPureKit
namespace Go.Proofs.YtkajoiehicpnlaaDoor.Wk
open Go.Vm
theorem hilb_all : ((List.range 31).all fun n => p_FnHilbertSize 10 2 ((n + 1 : Nat) : Int) == some true) = true ∧ ((List.range 20).all fun n => p_FnHilbertSize 10 3 ((n + 1 : Nat) : Int) == some true) = true ∧ ((List.range 15).all fun n => p_FnHilbertSize 10 4 ((n + 1 : Nat) : Int) == some true) = true := by
  decide +kernel
theorem hilb_one {a m : Nat} (h : ((List.range m).all fun n => p_FnHilbertSize 10 (a : Int) ((n + 1 : Nat) : Int) == some true) = true) {b : Int} (h1 : 1 ≤ b) (h2 : b ≤ m) : p_FnHilbertSize 10 (a : Int) b = some true := by
  have := List.all_eq_true.1 h (b.toNat - 1) (List.mem_range.2 (by omega))
  rw [show ((b.toNat - 1 + 1 : Nat) : Int) = b by omega] at this
  simpa using this
theorem hilb_few {a b m : Int} (ha : a = 2 ∨ a = 3 ∨ a = 4) (hm : p_orders a = some m) (h : b < 1) (hb : b ≤ m) : p_FnHilbertSize 10 a b = some true := by
  have e : decide (m < b) = false := decide_eq_false (by omega)
  have hL : p_HLen a b = some (0, false) := by
    unfold p_HLen
    rcases ha with rfl | rfl | rfl <;> simp [h]
  have hD : p_HDims a b = some ([], false) := by
    unfold p_HDims
    rcases ha with rfl | rfl | rfl <;> simp [h]
  unfold p_FnHilbertSize
  rw [cond_f (decide_eq_false (by omega)), cond_f (decide_eq_false (by omega)), hm, Option.bind_some, e]
  unfold p_FnHilbertSize_k1
  rw [cond_f rfl, hL, Option.bind_some, hD, Option.bind_some, cond_t (decide_eq_true h)]
  rfl
theorem hilb_p (a b : Int) : p_FnHilbertSize 10 a b = some true := by
  by_cases h1 : a < 2
  · unfold p_FnHilbertSize
    rw [cond_t (decide_eq_true h1)]
    rfl
  by_cases h2 : 4 < a
  · unfold p_FnHilbertSize
    rw [cond_f (decide_eq_false h1), cond_t (decide_eq_true h2)]
    rfl
  have ha : a = 2 ∨ a = 3 ∨ a = 4 := by omega
  obtain ⟨m, hm, hmm⟩ : ∃ m, p_orders a = some m ∧ (1 ≤ b → b ≤ m → p_FnHilbertSize 10 a b = some true) := by
    rcases ha with rfl | rfl | rfl
    · exact ⟨31, rfl, fun h3 h4 => hilb_one (a := 2) hilb_all.1 h3 h4⟩
    · exact ⟨20, by decide +kernel, fun h3 h4 => hilb_one (a := 3) hilb_all.2.1 h3 h4⟩
    · exact ⟨15, by decide +kernel, fun h3 h4 => hilb_one (a := 4) hilb_all.2.2 h3 h4⟩
  by_cases h3 : b ≤ m
  · by_cases h4 : b < 1
    · exact hilb_few ha hm h4 h3
    · exact hmm (by omega) h3
  · unfold p_FnHilbertSize
    rw [cond_f (decide_eq_false h1), cond_f (decide_eq_false h2), hm, Option.bind_some, decide_eq_true (show m < b by omega)]
    rfl
end Go.Proofs.YtkajoiehicpnlaaDoor.Wk
