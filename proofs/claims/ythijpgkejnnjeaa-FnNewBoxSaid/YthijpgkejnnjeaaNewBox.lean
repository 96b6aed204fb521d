/- Proved: the law of the empty box. -/
import Derived.Test.YthijpgkejnnjeaaPNb
import Derived.Test.YthijpgkejnnjeaaPureKit
namespace Go.Proofs.Ythijpgkejnnjeaa.Wk
open Go.Vm
set_option linter.unusedVariables false
theorem law_new (k : Int) : p_FnNewBox 20 k = some true := by
  unfold p_FnNewBox
  by_cases h1 : k < 0
  · rw [cond_t (decide_eq_true h1)]; rfl
  · rw [cond_f (decide_eq_false h1)]
    by_cases h2 : 9 < k
    · rw [decide_eq_true h2]; rfl
    · rw [decide_eq_false h2]
      have : k = 0 ∨ k = 1 ∨ k = 2 ∨ k = 3 ∨ k = 4 ∨ k = 5 ∨ k = 6 ∨ k = 7 ∨ k = 8 ∨ k = 9 := by omega
      rcases this with rfl | rfl | rfl | rfl | rfl | rfl | rfl | rfl | rfl | rfl <;> decide +kernel
end Go.Proofs.Ythijpgkejnnjeaa.Wk
