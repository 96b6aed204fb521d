/- Proved: absolute values and whole numbers of the reference. -/
import Derived.Test.YtohpmbodfpjjmaaExact4
namespace Go.Proofs.Ytohpmbodfpjjmaa.Wk
open Go.Vm Limb
set_option linter.unusedVariables false
set_option linter.unusedSimpArgs false
theorem intOf_p {n : Int} (h1 : -9223372036854775808 ≤ n) (h2 : n ≤ 9223372036854775807) {F : Nat} (hF : BigF F) : ∃ d, p_IntOf F n = some d ∧ Dyd d (n : Rat) 2 0 := by
  have hF' : 1073741826 ≤ F := hF
  unfold p_IntOf
  rw [wholeOf_p h1 h2 (by omega), Option.bind_some]
  refine ⟨_, rfl, n, 0, rfl, by rw [Flt.zpow_zero', Rat.mul_one], sz_of ?_, by omega, by omega⟩
  have : (4294967296 : Nat) ^ 2 = 18446744073709551616 := by decide
  omega
end Go.Proofs.Ytohpmbodfpjjmaa.Wk
