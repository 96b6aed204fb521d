/- Two ways that meet again. -/
import Derived.Test.YtbgdonedjgkhiaaVmBits
set_option linter.unusedVariables false
namespace Go.Vm
def JoinQ {G : Type} (ksC ksV : List Nat) (m : Nat) (cenv : List (Nat × SV)) (venv : G → List (Nat × SV)) (ob : G → List Ob) (inv : G → Prop) (Q : Exit → St → Prop) : Exit → St → Prop
  | .normal, s => Vm.keep ksC s.env = some cenv ∧ ∃ g, Vm.keep ksV s.env = some (venv g) ∧ s.obs.take m = ob g ∧ keepOK m (cenv ++ venv g) (ob g) = true ∧ inv g
  | e, s => Q e s
/-- Behind x the state is as one of many; the rest is gone through once. -/
theorem AC.join {C : Ctx} {s : St} {Q : Exit → St → Prop} {G : Type} (ksC ksV : List Nat) (m : Nat) (venv : G → List (Nat × SV)) (ob : G → List Ob) (inv : G → Prop) {x y : Code} {cenv : List (Nat × SV)}
    (hC : Vm.keep ksC s.env = some cenv) (h : AC C x s (JoinQ ksC ksV m cenv venv ob inv Q)) (rest : ∀ g, inv g → AC C y ⟨cenv ++ venv g, ob g⟩ Q) : AC C (.seq x y) s Q := fun Ω a w hr =>
  wp_seq (wp_mono (h Ω a w hr) fun e a w ⟨s', Ω', hr', hq⟩ => by
    cases e with
    | normal =>
      obtain ⟨h1, g, h2, h3, h4, h5⟩ := hq
      have := hr'.keep (m := m) (keep_append h1 h2) (by rw [h3]; exact h4)
      rw [h3] at this
      exact rest g h5 _ a w this
    | _ => exact ⟨s', Ω', hr', hq⟩)
end Go.Vm
