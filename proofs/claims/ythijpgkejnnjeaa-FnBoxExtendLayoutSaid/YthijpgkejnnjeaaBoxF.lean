/- Proved: the law of a box that gets the axes of a layout: each layout with each. -/
import Derived.Test.YthijpgkejnnjeaaBoxE
namespace Go.Proofs.Ythijpgkejnnjeaa.Wk
open Go.Vm
set_option linter.unusedVariables false
set_option linter.unusedSimpArgs false
def BeOk (x : TImpl_Box) (l : Int) : Prop := ∃ B, p_BoxExtendLayout 40 x l = some (B, true) ∧ p_Extend 40 x (TImpl_Geom.mk 2 l 0 [] [] [] []) = some B ∧ B.Max.length = B.Min.length ∧ B.Min.length ≤ 9 ∧ (∀ y ∈ B.Min, feq y y = true) ∧ ∀ y ∈ B.Max, feq y y = true
theorem be0_1 : BeOk ⟨0, [], []⟩ 1 := by
  refine ⟨⟨1, [9218868437227405312, 9218868437227405312], [18442240474082181120, 18442240474082181120]⟩, rfl, rfl, rfl, Nat.le_of_ble_eq_true rfl, ?_, ?_⟩
  all_goals
    intro y hy
    simp only [List.mem_cons, List.not_mem_nil, or_false] at hy
    first
      | exact hy.elim
      | (rcases hy with rfl | rfl | rfl | rfl <;> assumption)
      | (rcases hy with rfl | rfl | rfl | rfl <;> first | assumption | exact be_inf.1 | exact be_inf.2)
      | (rcases hy with rfl | rfl | rfl <;> first | assumption | exact be_inf.1 | exact be_inf.2)
      | (rcases hy with rfl | rfl <;> first | assumption | exact be_inf.1 | exact be_inf.2)
theorem be0_2 : BeOk ⟨0, [], []⟩ 2 := by
  refine ⟨⟨2, [9218868437227405312, 9218868437227405312, 9218868437227405312], [18442240474082181120, 18442240474082181120, 18442240474082181120]⟩, rfl, rfl, rfl, Nat.le_of_ble_eq_true rfl, ?_, ?_⟩
  all_goals
    intro y hy
    simp only [List.mem_cons, List.not_mem_nil, or_false] at hy
    first
      | exact hy.elim
      | (rcases hy with rfl | rfl | rfl | rfl <;> assumption)
      | (rcases hy with rfl | rfl | rfl | rfl <;> first | assumption | exact be_inf.1 | exact be_inf.2)
      | (rcases hy with rfl | rfl | rfl <;> first | assumption | exact be_inf.1 | exact be_inf.2)
      | (rcases hy with rfl | rfl <;> first | assumption | exact be_inf.1 | exact be_inf.2)
theorem be0_3 : BeOk ⟨0, [], []⟩ 3 := by
  refine ⟨⟨3, [9218868437227405312, 9218868437227405312, 9218868437227405312], [18442240474082181120, 18442240474082181120, 18442240474082181120]⟩, rfl, rfl, rfl, Nat.le_of_ble_eq_true rfl, ?_, ?_⟩
  all_goals
    intro y hy
    simp only [List.mem_cons, List.not_mem_nil, or_false] at hy
    first
      | exact hy.elim
      | (rcases hy with rfl | rfl | rfl | rfl <;> assumption)
      | (rcases hy with rfl | rfl | rfl | rfl <;> first | assumption | exact be_inf.1 | exact be_inf.2)
      | (rcases hy with rfl | rfl | rfl <;> first | assumption | exact be_inf.1 | exact be_inf.2)
      | (rcases hy with rfl | rfl <;> first | assumption | exact be_inf.1 | exact be_inf.2)
theorem be0_4 : BeOk ⟨0, [], []⟩ 4 := by
  refine ⟨⟨4, [9218868437227405312, 9218868437227405312, 9218868437227405312, 9218868437227405312], [18442240474082181120, 18442240474082181120, 18442240474082181120, 18442240474082181120]⟩, rfl, rfl, rfl, Nat.le_of_ble_eq_true rfl, ?_, ?_⟩
  all_goals
    intro y hy
    simp only [List.mem_cons, List.not_mem_nil, or_false] at hy
    first
      | exact hy.elim
      | (rcases hy with rfl | rfl | rfl | rfl <;> assumption)
      | (rcases hy with rfl | rfl | rfl | rfl <;> first | assumption | exact be_inf.1 | exact be_inf.2)
      | (rcases hy with rfl | rfl | rfl <;> first | assumption | exact be_inf.1 | exact be_inf.2)
      | (rcases hy with rfl | rfl <;> first | assumption | exact be_inf.1 | exact be_inf.2)
theorem be1_1 {a0 a1 b0 b1 : Nat} (ha0 : feq a0 a0 = true) (ha1 : feq a1 a1 = true) (hb0 : feq b0 b0 = true) (hb1 : feq b1 b1 = true) : BeOk ⟨1, [a0, a1], [b0, b1]⟩ 1 := by
  refine ⟨⟨1, [a0, a1], [b0, b1]⟩, rfl, rfl, rfl, Nat.le_of_ble_eq_true rfl, ?_, ?_⟩
  all_goals
    intro y hy
    simp only [List.mem_cons, List.not_mem_nil, or_false] at hy
    first
      | exact hy.elim
      | (rcases hy with rfl | rfl | rfl | rfl <;> assumption)
      | (rcases hy with rfl | rfl | rfl | rfl <;> first | assumption | exact be_inf.1 | exact be_inf.2)
      | (rcases hy with rfl | rfl | rfl <;> first | assumption | exact be_inf.1 | exact be_inf.2)
      | (rcases hy with rfl | rfl <;> first | assumption | exact be_inf.1 | exact be_inf.2)
theorem be1_2 {a0 a1 b0 b1 : Nat} (ha0 : feq a0 a0 = true) (ha1 : feq a1 a1 = true) (hb0 : feq b0 b0 = true) (hb1 : feq b1 b1 = true) : BeOk ⟨1, [a0, a1], [b0, b1]⟩ 2 := by
  refine ⟨⟨2, [a0, a1, 9218868437227405312], [b0, b1, 18442240474082181120]⟩, rfl, rfl, rfl, Nat.le_of_ble_eq_true rfl, ?_, ?_⟩
  all_goals
    intro y hy
    simp only [List.mem_cons, List.not_mem_nil, or_false] at hy
    first
      | exact hy.elim
      | (rcases hy with rfl | rfl | rfl | rfl <;> assumption)
      | (rcases hy with rfl | rfl | rfl | rfl <;> first | assumption | exact be_inf.1 | exact be_inf.2)
      | (rcases hy with rfl | rfl | rfl <;> first | assumption | exact be_inf.1 | exact be_inf.2)
      | (rcases hy with rfl | rfl <;> first | assumption | exact be_inf.1 | exact be_inf.2)
theorem be1_3 {a0 a1 b0 b1 : Nat} (ha0 : feq a0 a0 = true) (ha1 : feq a1 a1 = true) (hb0 : feq b0 b0 = true) (hb1 : feq b1 b1 = true) : BeOk ⟨1, [a0, a1], [b0, b1]⟩ 3 := by
  refine ⟨⟨3, [a0, a1, 9218868437227405312], [b0, b1, 18442240474082181120]⟩, rfl, rfl, rfl, Nat.le_of_ble_eq_true rfl, ?_, ?_⟩
  all_goals
    intro y hy
    simp only [List.mem_cons, List.not_mem_nil, or_false] at hy
    first
      | exact hy.elim
      | (rcases hy with rfl | rfl | rfl | rfl <;> assumption)
      | (rcases hy with rfl | rfl | rfl | rfl <;> first | assumption | exact be_inf.1 | exact be_inf.2)
      | (rcases hy with rfl | rfl | rfl <;> first | assumption | exact be_inf.1 | exact be_inf.2)
      | (rcases hy with rfl | rfl <;> first | assumption | exact be_inf.1 | exact be_inf.2)
theorem be1_4 {a0 a1 b0 b1 : Nat} (ha0 : feq a0 a0 = true) (ha1 : feq a1 a1 = true) (hb0 : feq b0 b0 = true) (hb1 : feq b1 b1 = true) : BeOk ⟨1, [a0, a1], [b0, b1]⟩ 4 := by
  refine ⟨⟨4, [a0, a1, 9218868437227405312, 9218868437227405312], [b0, b1, 18442240474082181120, 18442240474082181120]⟩, rfl, rfl, rfl, Nat.le_of_ble_eq_true rfl, ?_, ?_⟩
  all_goals
    intro y hy
    simp only [List.mem_cons, List.not_mem_nil, or_false] at hy
    first
      | exact hy.elim
      | (rcases hy with rfl | rfl | rfl | rfl <;> assumption)
      | (rcases hy with rfl | rfl | rfl | rfl <;> first | assumption | exact be_inf.1 | exact be_inf.2)
      | (rcases hy with rfl | rfl | rfl <;> first | assumption | exact be_inf.1 | exact be_inf.2)
      | (rcases hy with rfl | rfl <;> first | assumption | exact be_inf.1 | exact be_inf.2)
theorem be2_1 {a0 a1 a2 b0 b1 b2 : Nat} (ha0 : feq a0 a0 = true) (ha1 : feq a1 a1 = true) (ha2 : feq a2 a2 = true) (hb0 : feq b0 b0 = true) (hb1 : feq b1 b1 = true) (hb2 : feq b2 b2 = true) : BeOk ⟨2, [a0, a1, a2], [b0, b1, b2]⟩ 1 := by
  refine ⟨⟨2, [a0, a1, a2], [b0, b1, b2]⟩, rfl, rfl, rfl, Nat.le_of_ble_eq_true rfl, ?_, ?_⟩
  all_goals
    intro y hy
    simp only [List.mem_cons, List.not_mem_nil, or_false] at hy
    first
      | exact hy.elim
      | (rcases hy with rfl | rfl | rfl | rfl <;> assumption)
      | (rcases hy with rfl | rfl | rfl | rfl <;> first | assumption | exact be_inf.1 | exact be_inf.2)
      | (rcases hy with rfl | rfl | rfl <;> first | assumption | exact be_inf.1 | exact be_inf.2)
      | (rcases hy with rfl | rfl <;> first | assumption | exact be_inf.1 | exact be_inf.2)
theorem be2_2 {a0 a1 a2 b0 b1 b2 : Nat} (ha0 : feq a0 a0 = true) (ha1 : feq a1 a1 = true) (ha2 : feq a2 a2 = true) (hb0 : feq b0 b0 = true) (hb1 : feq b1 b1 = true) (hb2 : feq b2 b2 = true) : BeOk ⟨2, [a0, a1, a2], [b0, b1, b2]⟩ 2 := by
  refine ⟨⟨2, [a0, a1, a2], [b0, b1, b2]⟩, rfl, rfl, rfl, Nat.le_of_ble_eq_true rfl, ?_, ?_⟩
  all_goals
    intro y hy
    simp only [List.mem_cons, List.not_mem_nil, or_false] at hy
    first
      | exact hy.elim
      | (rcases hy with rfl | rfl | rfl | rfl <;> assumption)
      | (rcases hy with rfl | rfl | rfl | rfl <;> first | assumption | exact be_inf.1 | exact be_inf.2)
      | (rcases hy with rfl | rfl | rfl <;> first | assumption | exact be_inf.1 | exact be_inf.2)
      | (rcases hy with rfl | rfl <;> first | assumption | exact be_inf.1 | exact be_inf.2)
theorem be2_3 {a0 a1 a2 b0 b1 b2 : Nat} (ha0 : feq a0 a0 = true) (ha1 : feq a1 a1 = true) (ha2 : feq a2 a2 = true) (hb0 : feq b0 b0 = true) (hb1 : feq b1 b1 = true) (hb2 : feq b2 b2 = true) : BeOk ⟨2, [a0, a1, a2], [b0, b1, b2]⟩ 3 := by
  refine ⟨⟨4, [a0, a1, a2, 9218868437227405312], [b0, b1, b2, 18442240474082181120]⟩, rfl, rfl, rfl, Nat.le_of_ble_eq_true rfl, ?_, ?_⟩
  all_goals
    intro y hy
    simp only [List.mem_cons, List.not_mem_nil, or_false] at hy
    first
      | exact hy.elim
      | (rcases hy with rfl | rfl | rfl | rfl <;> assumption)
      | (rcases hy with rfl | rfl | rfl | rfl <;> first | assumption | exact be_inf.1 | exact be_inf.2)
      | (rcases hy with rfl | rfl | rfl <;> first | assumption | exact be_inf.1 | exact be_inf.2)
      | (rcases hy with rfl | rfl <;> first | assumption | exact be_inf.1 | exact be_inf.2)
theorem be2_4 {a0 a1 a2 b0 b1 b2 : Nat} (ha0 : feq a0 a0 = true) (ha1 : feq a1 a1 = true) (ha2 : feq a2 a2 = true) (hb0 : feq b0 b0 = true) (hb1 : feq b1 b1 = true) (hb2 : feq b2 b2 = true) : BeOk ⟨2, [a0, a1, a2], [b0, b1, b2]⟩ 4 := by
  refine ⟨⟨4, [a0, a1, a2, 9218868437227405312], [b0, b1, b2, 18442240474082181120]⟩, rfl, rfl, rfl, Nat.le_of_ble_eq_true rfl, ?_, ?_⟩
  all_goals
    intro y hy
    simp only [List.mem_cons, List.not_mem_nil, or_false] at hy
    first
      | exact hy.elim
      | (rcases hy with rfl | rfl | rfl | rfl <;> assumption)
      | (rcases hy with rfl | rfl | rfl | rfl <;> first | assumption | exact be_inf.1 | exact be_inf.2)
      | (rcases hy with rfl | rfl | rfl <;> first | assumption | exact be_inf.1 | exact be_inf.2)
      | (rcases hy with rfl | rfl <;> first | assumption | exact be_inf.1 | exact be_inf.2)
theorem be3_1 {a0 a1 a2 b0 b1 b2 : Nat} (ha0 : feq a0 a0 = true) (ha1 : feq a1 a1 = true) (ha2 : feq a2 a2 = true) (hb0 : feq b0 b0 = true) (hb1 : feq b1 b1 = true) (hb2 : feq b2 b2 = true) : BeOk ⟨3, [a0, a1, a2], [b0, b1, b2]⟩ 1 := by
  refine ⟨⟨3, [a0, a1, a2], [b0, b1, b2]⟩, rfl, rfl, rfl, Nat.le_of_ble_eq_true rfl, ?_, ?_⟩
  all_goals
    intro y hy
    simp only [List.mem_cons, List.not_mem_nil, or_false] at hy
    first
      | exact hy.elim
      | (rcases hy with rfl | rfl | rfl | rfl <;> assumption)
      | (rcases hy with rfl | rfl | rfl | rfl <;> first | assumption | exact be_inf.1 | exact be_inf.2)
      | (rcases hy with rfl | rfl | rfl <;> first | assumption | exact be_inf.1 | exact be_inf.2)
      | (rcases hy with rfl | rfl <;> first | assumption | exact be_inf.1 | exact be_inf.2)
theorem be3_2 {a0 a1 a2 b0 b1 b2 : Nat} (ha0 : feq a0 a0 = true) (ha1 : feq a1 a1 = true) (ha2 : feq a2 a2 = true) (hb0 : feq b0 b0 = true) (hb1 : feq b1 b1 = true) (hb2 : feq b2 b2 = true) : BeOk ⟨3, [a0, a1, a2], [b0, b1, b2]⟩ 2 := by
  refine ⟨⟨4, [a0, a1, 9218868437227405312, a2], [b0, b1, 18442240474082181120, b2]⟩, rfl, rfl, rfl, Nat.le_of_ble_eq_true rfl, ?_, ?_⟩
  all_goals
    intro y hy
    simp only [List.mem_cons, List.not_mem_nil, or_false] at hy
    first
      | exact hy.elim
      | (rcases hy with rfl | rfl | rfl | rfl <;> assumption)
      | (rcases hy with rfl | rfl | rfl | rfl <;> first | assumption | exact be_inf.1 | exact be_inf.2)
      | (rcases hy with rfl | rfl | rfl <;> first | assumption | exact be_inf.1 | exact be_inf.2)
      | (rcases hy with rfl | rfl <;> first | assumption | exact be_inf.1 | exact be_inf.2)
theorem be3_3 {a0 a1 a2 b0 b1 b2 : Nat} (ha0 : feq a0 a0 = true) (ha1 : feq a1 a1 = true) (ha2 : feq a2 a2 = true) (hb0 : feq b0 b0 = true) (hb1 : feq b1 b1 = true) (hb2 : feq b2 b2 = true) : BeOk ⟨3, [a0, a1, a2], [b0, b1, b2]⟩ 3 := by
  refine ⟨⟨3, [a0, a1, a2], [b0, b1, b2]⟩, rfl, rfl, rfl, Nat.le_of_ble_eq_true rfl, ?_, ?_⟩
  all_goals
    intro y hy
    simp only [List.mem_cons, List.not_mem_nil, or_false] at hy
    first
      | exact hy.elim
      | (rcases hy with rfl | rfl | rfl | rfl <;> assumption)
      | (rcases hy with rfl | rfl | rfl | rfl <;> first | assumption | exact be_inf.1 | exact be_inf.2)
      | (rcases hy with rfl | rfl | rfl <;> first | assumption | exact be_inf.1 | exact be_inf.2)
      | (rcases hy with rfl | rfl <;> first | assumption | exact be_inf.1 | exact be_inf.2)
theorem be3_4 {a0 a1 a2 b0 b1 b2 : Nat} (ha0 : feq a0 a0 = true) (ha1 : feq a1 a1 = true) (ha2 : feq a2 a2 = true) (hb0 : feq b0 b0 = true) (hb1 : feq b1 b1 = true) (hb2 : feq b2 b2 = true) : BeOk ⟨3, [a0, a1, a2], [b0, b1, b2]⟩ 4 := by
  refine ⟨⟨4, [a0, a1, 9218868437227405312, a2], [b0, b1, 18442240474082181120, b2]⟩, rfl, rfl, rfl, Nat.le_of_ble_eq_true rfl, ?_, ?_⟩
  all_goals
    intro y hy
    simp only [List.mem_cons, List.not_mem_nil, or_false] at hy
    first
      | exact hy.elim
      | (rcases hy with rfl | rfl | rfl | rfl <;> assumption)
      | (rcases hy with rfl | rfl | rfl | rfl <;> first | assumption | exact be_inf.1 | exact be_inf.2)
      | (rcases hy with rfl | rfl | rfl <;> first | assumption | exact be_inf.1 | exact be_inf.2)
      | (rcases hy with rfl | rfl <;> first | assumption | exact be_inf.1 | exact be_inf.2)
theorem be4_1 {a0 a1 a2 a3 b0 b1 b2 b3 : Nat} (ha0 : feq a0 a0 = true) (ha1 : feq a1 a1 = true) (ha2 : feq a2 a2 = true) (ha3 : feq a3 a3 = true) (hb0 : feq b0 b0 = true) (hb1 : feq b1 b1 = true) (hb2 : feq b2 b2 = true) (hb3 : feq b3 b3 = true) : BeOk ⟨4, [a0, a1, a2, a3], [b0, b1, b2, b3]⟩ 1 := by
  refine ⟨⟨4, [a0, a1, a2, a3], [b0, b1, b2, b3]⟩, rfl, rfl, rfl, Nat.le_of_ble_eq_true rfl, ?_, ?_⟩
  all_goals
    intro y hy
    simp only [List.mem_cons, List.not_mem_nil, or_false] at hy
    first
      | exact hy.elim
      | (rcases hy with rfl | rfl | rfl | rfl <;> assumption)
      | (rcases hy with rfl | rfl | rfl | rfl <;> first | assumption | exact be_inf.1 | exact be_inf.2)
      | (rcases hy with rfl | rfl | rfl <;> first | assumption | exact be_inf.1 | exact be_inf.2)
      | (rcases hy with rfl | rfl <;> first | assumption | exact be_inf.1 | exact be_inf.2)
theorem be4_2 {a0 a1 a2 a3 b0 b1 b2 b3 : Nat} (ha0 : feq a0 a0 = true) (ha1 : feq a1 a1 = true) (ha2 : feq a2 a2 = true) (ha3 : feq a3 a3 = true) (hb0 : feq b0 b0 = true) (hb1 : feq b1 b1 = true) (hb2 : feq b2 b2 = true) (hb3 : feq b3 b3 = true) : BeOk ⟨4, [a0, a1, a2, a3], [b0, b1, b2, b3]⟩ 2 := by
  refine ⟨⟨4, [a0, a1, a2, a3], [b0, b1, b2, b3]⟩, rfl, rfl, rfl, Nat.le_of_ble_eq_true rfl, ?_, ?_⟩
  all_goals
    intro y hy
    simp only [List.mem_cons, List.not_mem_nil, or_false] at hy
    first
      | exact hy.elim
      | (rcases hy with rfl | rfl | rfl | rfl <;> assumption)
      | (rcases hy with rfl | rfl | rfl | rfl <;> first | assumption | exact be_inf.1 | exact be_inf.2)
      | (rcases hy with rfl | rfl | rfl <;> first | assumption | exact be_inf.1 | exact be_inf.2)
      | (rcases hy with rfl | rfl <;> first | assumption | exact be_inf.1 | exact be_inf.2)
theorem be4_3 {a0 a1 a2 a3 b0 b1 b2 b3 : Nat} (ha0 : feq a0 a0 = true) (ha1 : feq a1 a1 = true) (ha2 : feq a2 a2 = true) (ha3 : feq a3 a3 = true) (hb0 : feq b0 b0 = true) (hb1 : feq b1 b1 = true) (hb2 : feq b2 b2 = true) (hb3 : feq b3 b3 = true) : BeOk ⟨4, [a0, a1, a2, a3], [b0, b1, b2, b3]⟩ 3 := by
  refine ⟨⟨4, [a0, a1, a2, a3], [b0, b1, b2, b3]⟩, rfl, rfl, rfl, Nat.le_of_ble_eq_true rfl, ?_, ?_⟩
  all_goals
    intro y hy
    simp only [List.mem_cons, List.not_mem_nil, or_false] at hy
    first
      | exact hy.elim
      | (rcases hy with rfl | rfl | rfl | rfl <;> assumption)
      | (rcases hy with rfl | rfl | rfl | rfl <;> first | assumption | exact be_inf.1 | exact be_inf.2)
      | (rcases hy with rfl | rfl | rfl <;> first | assumption | exact be_inf.1 | exact be_inf.2)
      | (rcases hy with rfl | rfl <;> first | assumption | exact be_inf.1 | exact be_inf.2)
theorem be4_4 {a0 a1 a2 a3 b0 b1 b2 b3 : Nat} (ha0 : feq a0 a0 = true) (ha1 : feq a1 a1 = true) (ha2 : feq a2 a2 = true) (ha3 : feq a3 a3 = true) (hb0 : feq b0 b0 = true) (hb1 : feq b1 b1 = true) (hb2 : feq b2 b2 = true) (hb3 : feq b3 b3 = true) : BeOk ⟨4, [a0, a1, a2, a3], [b0, b1, b2, b3]⟩ 4 := by
  refine ⟨⟨4, [a0, a1, a2, a3], [b0, b1, b2, b3]⟩, rfl, rfl, rfl, Nat.le_of_ble_eq_true rfl, ?_, ?_⟩
  all_goals
    intro y hy
    simp only [List.mem_cons, List.not_mem_nil, or_false] at hy
    first
      | exact hy.elim
      | (rcases hy with rfl | rfl | rfl | rfl <;> assumption)
      | (rcases hy with rfl | rfl | rfl | rfl <;> first | assumption | exact be_inf.1 | exact be_inf.2)
      | (rcases hy with rfl | rfl | rfl <;> first | assumption | exact be_inf.1 | exact be_inf.2)
      | (rcases hy with rfl | rfl <;> first | assumption | exact be_inf.1 | exact be_inf.2)
theorem len0 {l : List Nat} (h : l.length = 0) : l = [] := List.eq_nil_of_length_eq_zero h
theorem len2 {l : List Nat} (h : l.length = 2) : ∃ a b, l = [a, b] := by
  match l, h with
  | [a, b], _ => exact ⟨a, b, rfl⟩
theorem len3 {l : List Nat} (h : l.length = 3) : ∃ a b c, l = [a, b, c] := by
  match l, h with
  | [a, b, c], _ => exact ⟨a, b, c, rfl⟩
theorem len4 {l : List Nat} (h : l.length = 4) : ∃ a b c d, l = [a, b, c, d] := by
  match l, h with
  | [a, b, c, d], _ => exact ⟨a, b, c, d, rfl⟩
theorem be_ok {x : TImpl_Box} {l : Int} (h : BeOk x l) : p_FnBoxExtendLayout_k1 x l 40 false = some true := by
  obtain ⟨B, h1, h2, h3, h4, h5, h6⟩ := h
  unfold p_FnBoxExtendLayout_k1
  rw [cond_f rfl, h1, Option.bind_some, cond_t rfl, h2, Option.bind_some, be_same h3 h4 h5 h6]
  rfl
theorem be_p (x : TImpl_Box) (l : Int) : p_FnBoxExtendLayout 40 x l = some true := by
  unfold p_FnBoxExtendLayout
  obtain ⟨f, hf⟩ : ∃ f, p_zzFits1 x = some f := by
    unfold p_zzFits1
    by_cases h1 : (2147483647 : Int) < ((x.Min.length : Nat) : Int)
    · rw [cond_t (decide_eq_true h1)]; exact ⟨_, rfl⟩
    · rw [cond_f (decide_eq_false h1)]
      by_cases h2 : (2147483647 : Int) < ((x.Max.length : Nat) : Int)
      · rw [cond_t (decide_eq_true h2)]; exact ⟨_, rfl⟩
      · rw [cond_f (decide_eq_false h2)]; exact ⟨_, rfl⟩
  rw [hf, Option.bind_some]
  cases f with
  | false => rfl
  | true =>
    rw [cond_f (rfl : (!true) = false)]
    obtain ⟨b, hb, h⟩ := be_box x
    rw [hb, Option.bind_some]
    cases b with
    | false => rfl
    | true =>
      rw [cond_f (rfl : (!true) = false)]
      obtain ⟨n, e1, e0, e2, e3, e4, e5, e6⟩ := h rfl
      by_cases h4 : 4 < x.Layout
      · rw [cond_t (decide_eq_true h4)]; rfl
      rw [cond_f (decide_eq_false h4)]
      by_cases h5 : l < 1
      · rw [cond_t (decide_eq_true h5)]; rfl
      rw [cond_f (decide_eq_false h5)]
      by_cases h6 : 4 < l
      · rw [decide_eq_true h6]; rfl
      rw [decide_eq_false h6]
      have hl : l = 1 ∨ l = 2 ∨ l = 3 ∨ l = 4 := by omega
      obtain ⟨L, mn, mx⟩ := x
      simp only at e1 e0 e2 e3 e4 e5 e6 h4
      refine be_ok ?_
      rcases e2 (by omega) with ⟨rfl, rfl⟩ | ⟨rfl, rfl⟩ | ⟨rfl, rfl⟩ | ⟨rfl, rfl⟩ | ⟨rfl, rfl⟩
      · obtain rfl : mn = [] := len0 e3
        obtain rfl : mx = [] := len0 e4
        rcases hl with rfl | rfl | rfl | rfl
        · exact be0_1  
        · exact be0_2  
        · exact be0_3  
        · exact be0_4  
      · obtain ⟨a0, a1, rfl⟩ : ∃ a0 a1, mn = [a0, a1] := len2 e3
        obtain ⟨b0, b1, rfl⟩ : ∃ b0 b1, mx = [b0, b1] := len2 e4
        have ha0 := e5 a0 (by simp)
        have hb0 := e6 b0 (by simp)
        have ha1 := e5 a1 (by simp)
        have hb1 := e6 b1 (by simp)
        rcases hl with rfl | rfl | rfl | rfl
        · exact be1_1 ha0 ha1 hb0 hb1
        · exact be1_2 ha0 ha1 hb0 hb1
        · exact be1_3 ha0 ha1 hb0 hb1
        · exact be1_4 ha0 ha1 hb0 hb1
      · obtain ⟨a0, a1, a2, rfl⟩ : ∃ a0 a1 a2, mn = [a0, a1, a2] := len3 e3
        obtain ⟨b0, b1, b2, rfl⟩ : ∃ b0 b1 b2, mx = [b0, b1, b2] := len3 e4
        have ha0 := e5 a0 (by simp)
        have hb0 := e6 b0 (by simp)
        have ha1 := e5 a1 (by simp)
        have hb1 := e6 b1 (by simp)
        have ha2 := e5 a2 (by simp)
        have hb2 := e6 b2 (by simp)
        rcases hl with rfl | rfl | rfl | rfl
        · exact be2_1 ha0 ha1 ha2 hb0 hb1 hb2
        · exact be2_2 ha0 ha1 ha2 hb0 hb1 hb2
        · exact be2_3 ha0 ha1 ha2 hb0 hb1 hb2
        · exact be2_4 ha0 ha1 ha2 hb0 hb1 hb2
      · obtain ⟨a0, a1, a2, rfl⟩ : ∃ a0 a1 a2, mn = [a0, a1, a2] := len3 e3
        obtain ⟨b0, b1, b2, rfl⟩ : ∃ b0 b1 b2, mx = [b0, b1, b2] := len3 e4
        have ha0 := e5 a0 (by simp)
        have hb0 := e6 b0 (by simp)
        have ha1 := e5 a1 (by simp)
        have hb1 := e6 b1 (by simp)
        have ha2 := e5 a2 (by simp)
        have hb2 := e6 b2 (by simp)
        rcases hl with rfl | rfl | rfl | rfl
        · exact be3_1 ha0 ha1 ha2 hb0 hb1 hb2
        · exact be3_2 ha0 ha1 ha2 hb0 hb1 hb2
        · exact be3_3 ha0 ha1 ha2 hb0 hb1 hb2
        · exact be3_4 ha0 ha1 ha2 hb0 hb1 hb2
      · obtain ⟨a0, a1, a2, a3, rfl⟩ : ∃ a0 a1 a2 a3, mn = [a0, a1, a2, a3] := len4 e3
        obtain ⟨b0, b1, b2, b3, rfl⟩ : ∃ b0 b1 b2 b3, mx = [b0, b1, b2, b3] := len4 e4
        have ha0 := e5 a0 (by simp)
        have hb0 := e6 b0 (by simp)
        have ha1 := e5 a1 (by simp)
        have hb1 := e6 b1 (by simp)
        have ha2 := e5 a2 (by simp)
        have hb2 := e6 b2 (by simp)
        have ha3 := e5 a3 (by simp)
        have hb3 := e6 b3 (by simp)
        rcases hl with rfl | rfl | rfl | rfl
        · exact be4_1 ha0 ha1 ha2 ha3 hb0 hb1 hb2 hb3
        · exact be4_2 ha0 ha1 ha2 ha3 hb0 hb1 hb2 hb3
        · exact be4_3 ha0 ha1 ha2 ha3 hb0 hb1 hb2 hb3
        · exact be4_4 ha0 ha1 ha2 ha3 hb0 hb1 hb2 hb3
end Go.Proofs.Ythijpgkejnnjeaa.Wk
