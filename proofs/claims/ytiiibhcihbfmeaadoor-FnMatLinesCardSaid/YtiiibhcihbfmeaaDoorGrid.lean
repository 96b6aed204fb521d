/- Proved: what the reference's test of whole numbers in a range tells. Lists shorter than 2^62. -/
import Derived.Test.YtiiibhcihbfmeaaDoorPMl
import Derived.Test.YtiiibhcihbfmeaaDoorPureKit
namespace Go.Proofs.YtiiibhcihbfmeaaDoor.Wk
open Go.Vm
set_option linter.unusedVariables false
set_option linter.unusedSimpArgs false
def rowB (n : Int) (m : Nat) (l : List Nat) : Bool := decide ((l.length : Int) = n) && l.all (Flt.okF m)
def gridB (ls : List (List Nat)) (n : Int) (m : Nat) : Bool := ls.all (rowB n m) && decide (0 < n)
theorem grid_in {F : Nat} (m : Nat) (l : List Nat) (hl : l.length < F) (hl2 : l.length < 4611686018427387904) : iter (p_Grid_l4 m l) F (0 : Int) = some (if l.all (Flt.okF m) = true then Sum.inl () else Sum.inr false) := by
  refine scan_loop0 l _ _ _ (fun K k hk => ?_) (fun K k x hx => ?_) hl
  · unfold p_Grid_l4; rw [cond_f (decide_eq_false (by omega))]
  · have hk := (List.getElem?_eq_some_iff.1 hx).1
    unfold p_Grid_l4
    rw [cond_t (decide_eq_true (by omega)), idx_get hx, Option.bind_some, succ_cast]
    cases g1 : fge x (fneg m) with
    | false => rw [cond_f rfl, if_neg (by simp [Flt.okF, Flt.inR, g1])]
    | true =>
      rw [cond_t rfl]
      cases g2 : fle x m with
      | false => rw [cond_t (show (!false) = true from rfl), if_neg (by simp [Flt.okF, Flt.inR, g2])]
      | true =>
        rw [cond_f (show (!true) = false from rfl), Flt.truncN_of (show Flt.isNan x = false from nan_le m x g2)]
        cases g3 : feq x (Flt.truncD x) with
        | false => rw [cond_t (show (!false) = true from rfl), if_neg (by simp [Flt.okF, g3])]
        | true => rw [cond_f (show (!true) = false from rfl), need_pos (in64 (by omega) (by omega)), if_pos (by simp [Flt.okF, Flt.inR, g1, g2, g3])]
theorem grid_p {F : Nat} {ls : List (List Nat)} {n : Int} {m : Nat} (h1 : ls.length < F) (h2 : ∀ l, l ∈ ls → l.length < F) (hF1 : ls.length < 4611686018427387904) (hF2 : ∀ l, l ∈ ls → l.length < 4611686018427387904) :
    p_Grid F ls n m = some (gridB ls n m) := by
  unfold p_Grid
  have outer : iter (p_Grid_l2 ls n m F) F (0 : Int) = some (if ls.all (rowB n m) = true then Sum.inl () else Sum.inr false) := by
    refine scan_loop0 ls _ _ _ (fun K k hk => ?_) (fun K k x hx => ?_) h1
    · unfold p_Grid_l2; rw [cond_f (decide_eq_false (by omega))]
    · have hk := (List.getElem?_eq_some_iff.1 hx).1
      have hm := List.mem_of_getElem? hx
      unfold p_Grid_l2
      rw [cond_t (decide_eq_true (by omega)), idx_get hx, Option.bind_some]
      by_cases hl : (x.length : Int) = n
      · rw [cond_f (nF hl), grid_in m x (h2 x hm) (hF2 x hm), Option.bind_some]
        by_cases ha : x.all (Flt.okF m) = true
        · have e1 : rowB n m x = true := by unfold rowB; rw [ha]; simp [hl]
          have e2 : p_Grid_k3 (k : Int) K () = K ((k + 1 : Nat) : Int) := by
            unfold p_Grid_k3
            rw [succ_cast, need_pos (in64 (by omega) (by omega))]
          rw [if_pos ha, if_pos e1, aft_inl]
          exact e2
        · have e1 : ¬ rowB n m x = true := by unfold rowB; simp [ha]
          rw [if_neg ha, if_neg e1, aft_inr]
      · rw [cond_t (nT hl), if_neg (by unfold rowB; simp [hl])]
  rw [outer, Option.bind_some]
  by_cases ha : ls.all (rowB n m) = true
  · rw [if_pos ha, aft_inl]
    unfold p_Grid_k1 gridB
    rw [ha, Bool.true_and]
  · rw [if_neg ha, aft_inr]
    unfold gridB
    simp [ha]
end Go.Proofs.YtiiibhcihbfmeaaDoor.Wk
