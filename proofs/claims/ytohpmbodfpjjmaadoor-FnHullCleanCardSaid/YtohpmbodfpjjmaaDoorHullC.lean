/- Proved: the law of the lines that are cleaned ahead of a hull. -/
import Derived.Test.YtohpmbodfpjjmaaDoorHullB
namespace Go.Proofs.YtohpmbodfpjjmaaDoor.Wk
open Go.Vm
set_option linter.unusedVariables false
set_option linter.unusedSimpArgs false
theorem sameFloats_p {F : Nat} (l : List Nat) (hl : l.length < F) (hl2 : l.length < 4611686018427387904) : p_sameFloats F l l = some true := by
  unfold p_sameFloats
  rw [cond_f (nF rfl)]
  have outer : iter (p_sameFloats_l2 l l) F (0 : Int) = some (if (l.all fun _ => true) = true then Sum.inl () else Sum.inr false) := by
    refine scan_loop0 l _ _ _ (fun K k hk => ?_) (fun K k x hx => ?_) hl
    · unfold p_sameFloats_l2; rw [cond_f (decide_eq_false (by omega))]
    · have hk := (List.getElem?_eq_some_iff.1 hx).1
      unfold p_sameFloats_l2
      rw [cond_t (decide_eq_true (by omega)), idx_get hx, Option.bind_some, Option.bind_some, Option.bind_some, Option.bind_some, succ_cast, need_pos (in64 (by omega) (by omega)), if_pos rfl]
      cases feq x x <;> rfl
  rw [outer, if_pos (by simp), Option.bind_some, aft_inl]
  rfl
/-- the stride of a layout from 1 to 8 -/
def strideN (k : Int) : Nat := if k = 1 then 2 else if k = 2 then 3 else if k = 3 then 3 else k.toNat
theorem stride_p {k : Int} (h1 : 1 ≤ k) (h2 : k ≤ 8) : p_Stride k = some (strideN k : Int) ∧ p_Layout_Stride k = some (strideN k : Int) ∧ 2 ≤ strideN k ∧ strideN k ≤ 8 := by
  unfold p_Stride p_Layout_Stride strideN
  have : k = 1 ∨ k = 2 ∨ k = 3 ∨ k = 4 ∨ k = 5 ∨ k = 6 ∨ k = 7 ∨ k = 8 := by omega
  rcases this with rfl | rfl | rfl | rfl | rfl | rfl | rfl | rfl <;> exact ⟨rfl, rfl, by decide, by decide⟩
/-- place number i of a row -/
def plc (s : Nat) (l : List Nat) (i : Nat) : TImpl_P2 := ⟨l.getD (i * s) 0, l.getD (i * s + 1) 0⟩
def row (s : Nat) (l : List Nat) (i : Nat) : List Nat := (l.drop (i * s)).take s
theorem row_len {s m i : Nat} {l : List Nat} (hl : l.length = m * s) (hi : i < m) : (row s l i).length = s := by
  unfold row
  rw [List.length_take, List.length_drop, hl]
  have : (i + 1) * s ≤ m * s := Nat.mul_le_mul_right s hi
  rw [Nat.add_mul] at this
  omega
theorem mul_lt' {s m i : Nat} (hi : i < m) (hs : 2 ≤ s) : i * s + s ≤ m * s := by
  have : (i + 1) * s ≤ m * s := Nat.mul_le_mul_right s hi
  rw [Nat.add_mul] at this
  omega
theorem flat_loop {l : List Nat} {s m : Nat} (hs : 2 ≤ s) (hl : l.length = m * s) (hb : l.length < 2147483648) : ∀ (F i : Nat), m - i < F → i ≤ m →
    iter (p_flatTo_l4 l (s : Int)) F ((((i * s : Nat) : Int), (List.range i).map (plc s l)) : Int × List TImpl_P2) = some (Sum.inl ((List.range m).map (plc s l))) := by
  intro F
  induction F with
  | zero => intro i h; omega
  | succ F ih =>
    intro i h him
    have hms : i * s ≤ m * s := Nat.mul_le_mul_right s him
    show p_flatTo_l4 l (s : Int) (iter (p_flatTo_l4 l (s : Int)) F) _ = _
    generalize hK : iter (p_flatTo_l4 l (s : Int)) F = K at *
    unfold p_flatTo_l4
    simp only
    by_cases hi : i < m
    · have hle := mul_lt' hi hs
      have him2 : i ≤ i * s := Nat.le_mul_of_pos_right i (by omega)
      rw [cond_t (decide_eq_true (by omega)), idx_lt l (i * s) 0 (by omega), Option.bind_some, need_pos (in64 (by omega) (by omega)), succ_cast, idx_lt l (i * s + 1) 0 (by omega), Option.bind_some,
        need_pos (by simp; omega), need_pos (in64 (by omega) (by omega))]
      have e1 : (((i * s : Nat) : Int) + (s : Int)) = (((i + 1) * s : Nat) : Int) := by rw [Nat.add_mul]; omega
      have e2 : (List.range i).map (plc s l) ++ [(TImpl_P2.mk (l.getD (i * s) 0) (l.getD (i * s + 1) 0))] = (List.range (i + 1)).map (plc s l) := by
        rw [List.range_succ, List.map_append]; rfl
      rw [e1, e2]
      exact ih (i + 1) (by omega) hi
    · have : i = m := by omega
      subst this
      rw [cond_f (decide_eq_false (by omega))]
theorem rows_loop {l : List Nat} {s m : Nat} (hs : 2 ≤ s) (hs8 : s ≤ 8) (hl : l.length = m * s) (hb : l.length < 2147483648) : ∀ (F i : Nat), m - i < F → i ≤ m →
    iter (p_rowsOf_l2 l (s : Int)) F ((((i * s : Nat) : Int), (List.range i).map (row s l)) : Int × List (List Nat)) = some (Sum.inl ((List.range m).map (row s l))) := by
  intro F
  induction F with
  | zero => intro i h; omega
  | succ F ih =>
    intro i h him
    have hms : i * s ≤ m * s := Nat.mul_le_mul_right s him
    show p_rowsOf_l2 l (s : Int) (iter (p_rowsOf_l2 l (s : Int)) F) _ = _
    generalize hK : iter (p_rowsOf_l2 l (s : Int)) F = K at *
    unfold p_rowsOf_l2
    simp only
    rw [need_pos (in64 (by omega) (by omega))]
    by_cases hi : i < m
    · have hle := mul_lt' hi hs
      have him2 : i ≤ i * s := Nat.le_mul_of_pos_right i (by omega)
      have e1 : (((i * s : Nat) : Int) + (s : Int)) = (((i + 1) * s : Nat) : Int) := by rw [Nat.add_mul]; omega
      have e3 : (((i * s : Nat) : Int) + (s : Int)).toNat = i * s + s := by omega
      have e4 : (((i * s : Nat) : Int)).toNat = i * s := by omega
      rw [cond_t (decide_eq_true (by omega)), need_pos (in64 (by omega) (by omega)), e3, e4, need_pos ⟨⟨by omega, by omega⟩, by omega, by omega⟩, need_pos (by simp; omega), need_pos (in64 (by omega) (by omega))]
      have e2 : (List.range i).map (row s l) ++ [(l.drop (i * s)).take (i * s + s - i * s)] = (List.range (i + 1)).map (row s l) := by
        rw [List.range_succ, List.map_append, Nat.add_sub_cancel_left]; rfl
      rw [e1, e2]
      exact ih (i + 1) (by omega) hi
    · have : i = m := by omega
      subst this
      rw [cond_f (decide_eq_false (by omega))]
theorem codeB_on {ax ay bx b_y cx cy : Int} (hac : ¬ (ax = cx ∧ ay = cy)) : codeB ax ay bx b_y cx cy = decide (turn ax ay bx b_y cx cy = 0 ∧ btwI ax cx bx ∧ btwI ay cy b_y) := by
  unfold codeB
  by_cases ht : turn ax ay bx b_y cx cy = 0
  · have hz := turn_zero ht
    have g1 : ax ≠ cx → btwI ax cx bx → btwI ay cy b_y := fun hne hb => seg' hne hb hz
    have g2 : ay ≠ cy → btwI ay cy b_y → btwI ax cx bx := fun hne hb => seg' hne hb (by rw [← hz])
    have g3 : ax = cx → ay ≠ cy := fun e1 e2 => hac ⟨e1, e2⟩
    by_cases b1 : btwI ax cx bx <;> by_cases b2 : btwI ay cy b_y <;> by_cases b3 : ax = cx <;> by_cases b4 : ay = cy <;> simp [ht, b1, b2, b3, b4] <;> simp_all
  · simp [ht]
theorem codeB_same {ax ay bx b_y cx cy : Int} (h1 : ax = cx) (h2 : ay = cy) : codeB ax ay bx b_y cx cy = false := by
  unfold codeB; simp [h1, h2]
/-- the first two numbers of a list -/
def Two (l : List Nat) (x y : Nat) : Prop := idx l (0 : Int) = some x ∧ idx l (1 : Int) = some y
theorem between_congr (k : TXy_convexHullCalculator) {a b c : List Nat} {xa ya xb yb xc yc : Nat} (ha : Two a xa ya) (hb : Two b xb yb) (hc : Two c xc yc) :
    p_convexHullCalculator_isBetween k a b c = p_convexHullCalculator_isBetween k [xa, ya] [xb, yb] [xc, yc] := by
  have q : ∀ (x y : Nat), idx [x, y] (0 : Int) = some x ∧ idx [x, y] (1 : Int) = some y := fun x y => ⟨rfl, rfl⟩
  simp only [p_convexHullCalculator_isBetween, p_convexHullCalculator_isBetween_k1, p_convexHullCalculator_isBetween_k2, p_convexHullCalculator_isBetween_k3, p_OrientationIndex, p_orientationIndexFilter, ha.1, ha.2, hb.1, hb.2, hc.1, hc.2, (q _ _).1, (q _ _).2]
theorem row_two {s m i : Nat} {l : List Nat} (hs : 2 ≤ s) (hl : l.length = m * s) (hi : i < m) : Two (row s l i) (plc s l i).X (plc s l i).Y := by
  have hle := mul_lt' hi hs
  have g : ∀ j, j < s → (row s l i)[j]? = some (l.getD (i * s + j) 0) := fun j hj => by
    unfold row
    rw [List.getElem?_take, if_pos hj, List.getElem?_drop, List.getD_eq_getElem?_getD, List.getElem?_eq_getElem (by omega)]
    rfl
  exact ⟨idx_get (k := 0) (g 0 (by omega)), idx_get (k := 1) (g 1 (by omega))⟩
/-- the places, as whole numbers -/
def Whole2 (s m : Nat) (l : List Nat) (X : Nat → Int × Int) : Prop := ∀ i, i < m → At (plc s l i) (X i).1 (X i).2 ∧ (-16777216 ≤ (X i).1 ∧ (X i).1 ≤ 16777216) ∧ (-16777216 ≤ (X i).2 ∧ (X i).2 ≤ 16777216)
def skipB (X : Nat → Int × Int) (last : Option Nat) (i : Nat) : Bool :=
  (decide ((X i).1 = (X (i + 1)).1) && decide ((X i).2 = (X (i + 1)).2)) || (match last with
    | none => false
    | some j => codeB (X j).1 (X j).2 (X i).1 (X i).2 (X (i + 1)).1 (X (i + 1)).2)
def runC (rw_ : Nat → List Nat) (sk : Option Nat → Nat → Bool) : Nat → Nat → Option Nat → List Nat → List Nat
  | 0, _, _, out => out
  | k + 1, i, last, out => if sk last i = true then runC rw_ sk k (i + 1) last out else runC rw_ sk k (i + 1) (some i) (out ++ rw_ i)
theorem runC_len {s m : Nat} {l : List Nat} {sk : Option Nat → Nat → Bool} (hl : l.length = m * s) : ∀ (k i : Nat) (last : Option Nat) (out : List Nat), i + k ≤ m → out.length ≤ i * s → (runC (row s l) sk k i last out).length ≤ (i + k) * s
  | 0, i, last, out, h, h1 => h1
  | k + 1, i, last, out, h, h1 => by
    unfold runC
    have e : i + (k + 1) = (i + 1) + k := by omega
    rw [e]
    split
    · exact runC_len hl k (i + 1) last out (by omega) (by rw [Nat.add_mul]; omega)
    · exact runC_len hl k (i + 1) (some i) _ (by omega) (by rw [List.length_append, row_len hl (by omega), Nat.add_mul]; omega)
theorem code_loop {l : List Nat} {s m : Nat} {X : Nat → Int × Int} (k0 : TXy_convexHullCalculator) (hk : k0.stride = (s : Int)) (hs : 2 ≤ s) (hs8 : s ≤ 8) (hl : l.length = m * s) (hb : l.length < 2147483648) (hm : 2 ≤ m) (hX : Whole2 s m l X) :
    ∀ (F i : Nat) (last : Option Nat) (out : List Nat), m - 1 - i < F → i ≤ m - 1 → (∀ j, last = some j → j < i) → out.length ≤ i * s →
    iter (p_convexHullCalculator_cleanRing_l2 k0 l) F ((last.map (row s l), ((i * s : Nat) : Int), out) : Option (List Nat) × Int × List Nat) = some (Sum.inl (runC (row s l) (skipB X) (m - 1 - i) i last out)) := by
  intro F
  induction F with
  | zero => intro i last out h; omega
  | succ F ih =>
    intro i last out h him hlast hout
    have hms : (m - 1) * s + s = m * s := by
      have : (m - 1 + 1) * s = (m - 1) * s + s := by rw [Nat.add_mul]; omega
      rw [← this]; congr 1; omega
    have hle2 : i * s ≤ (m - 1) * s := Nat.mul_le_mul_right s him
    show p_convexHullCalculator_cleanRing_l2 k0 l (iter (p_convexHullCalculator_cleanRing_l2 k0 l) F) _ = _
    generalize hK : iter (p_convexHullCalculator_cleanRing_l2 k0 l) F = K at *
    unfold p_convexHullCalculator_cleanRing_l2
    simp only [hk]
    rw [need_pos (in64m (by omega) (by omega))]
    by_cases hi : i < m - 1
    · have hle := mul_lt' (m := m - 1) hi hs
      have e1 : (((i * s : Nat) : Int) + (s : Int)) = (((i + 1) * s : Nat) : Int) := by rw [Nat.add_mul]; omega
      have e1' : ((((i + 1) * s : Nat) : Int) + (s : Int)) = ((((i + 1) * s + s : Nat)) : Int) := by omega
      have e5 : (i + 1) * s = i * s + s := by rw [Nat.add_mul]; omega
      obtain ⟨⟨ax, ay⟩, lx, ly⟩ := hX i (by omega)
      obtain ⟨⟨bx, b_y⟩, mx, my⟩ := hX (i + 1) (by omega)
      have hEq : p_Equal l ((i * s : Nat) : Int) l (((i + 1) * s : Nat) : Int) = some (decide ((X i).1 = (X (i + 1)).1) && decide ((X i).2 = (X (i + 1)).2)) := by
        have fx : feq (l.getD (i * s) 0) (l.getD ((i + 1) * s) 0) = decide ((X i).1 = (X (i + 1)).1) := Flt.feq_int ax bx
        have fy : feq (l.getD (i * s + 1) 0) (l.getD ((i + 1) * s + 1) 0) = decide ((X i).2 = (X (i + 1)).2) := Flt.feq_int ay b_y
        unfold p_Equal
        rw [idx_lt l (i * s) 0 (by omega), Option.bind_some, idx_lt l ((i + 1) * s) 0 (by omega), Option.bind_some, fx, succ_cast, succ_cast, need_pos (in64 (by omega) (by omega)), idx_lt l (i * s + 1) 0 (by omega), Option.bind_some, need_pos (in64 (by omega) (by omega)), idx_lt l ((i + 1) * s + 1) 0 (by omega), Option.bind_some, fy]
        cases decide ((X i).1 = (X (i + 1)).1) <;> cases decide ((X i).2 = (X (i + 1)).2) <;> rfl
      rw [cond_t (decide_eq_true (by omega)), e1, need_pos (in64 (by omega) (by omega)), hEq, Option.bind_some]
      have hr : m - 1 - i = (m - 1 - (i + 1)) + 1 := by omega
      rw [hr]
      have hK1 := ih (i + 1) last out (by omega) (by omega) (fun j hj => by have := hlast j hj; omega) (by omega)
      have hK2 := ih (i + 1) (some i) (out ++ row s l i) (by omega) (by omega) (fun j hj => by cases hj; omega) (by rw [List.length_append, row_len hl (by omega)]; omega)
      cases hq : (decide ((X i).1 = (X (i + 1)).1) && decide ((X i).2 = (X (i + 1)).2)) with
      | true =>
        rw [cond_t rfl, need_pos (in64 (by omega) (by omega)), hK1]
        have : skipB X last i = true := by unfold skipB; rw [hq]; rfl
        rw [runC, if_pos this]
      | false =>
        have e3 : (((i * s : Nat) : Int)).toNat = i * s := by omega
        have e4 : ((((i + 1) * s : Nat) : Int)).toNat = (i + 1) * s := by omega
        have e6 : ((((i + 1) * s + s : Nat) : Int)).toNat = (i + 1) * s + s := by omega
        have r1 : (l.drop (i * s)).take ((i + 1) * s - i * s) = row s l i := by unfold row; rw [e5, Nat.add_sub_cancel_left]
        have r2 : (l.drop ((i + 1) * s)).take ((i + 1) * s + s - (i + 1) * s) = row s l (i + 1) := by unfold row; rw [Nat.add_sub_cancel_left]
        have rl := row_len hl (show i < m by omega)
        rw [cond_f rfl, need_pos (in64 (by omega) (by omega)), e3, e4, need_pos ⟨⟨by omega, by omega⟩, by omega, by omega⟩, need_pos (in64 (by omega) (by omega)), need_pos (in64 (by omega) (by omega)), e1', need_pos (in64 (by omega) (by omega)), e6,
          need_pos ⟨⟨by omega, by omega⟩, by omega, by omega⟩, r1, r2]
        have hk3 : ∀ b : Bool, p_convexHullCalculator_cleanRing_k3 k0 l (last.map (row s l), ((i * s : Nat) : Int), out) K b = if b = true then K (last.map (row s l), (((i + 1) * s : Nat) : Int), out) else K ((some i).map (row s l), (((i + 1) * s : Nat) : Int), out ++ row s l i) := fun b => by
          unfold p_convexHullCalculator_cleanRing_k3
          simp only [hk, e1, e3, e4, r1]
          rw [need_pos (in64 (by omega) (by omega)), need_pos (by omega), need_pos (in64 (by omega) (by omega))]
          cases b <;> rfl
        cases last with
        | none =>
          rw [need_pos (show neO (Option.map (row s l) none) = true from rfl), cond_f (show (!(Option.map (row s l) none).isNone) = false from rfl), hk3, if_neg (by simp), hK2]
          have : ¬ skipB X none i = true := by unfold skipB; rw [hq]; simp
          rw [runC, if_neg this]
        | some j =>
          have hji := hlast j rfl
          have rj := row_len hl (show j < m by omega)
          have hne : neO (Option.map (row s l) (some j)) = true := by
            show (!(row s l j).isEmpty) = true
            cases hrow : row s l j with
            | nil => rw [hrow] at rj; simp at rj; omega
            | cons a b => rfl
          obtain ⟨⟨cx, cy⟩, nx, ny⟩ := hX j (by omega)
          have hbt : p_convexHullCalculator_isBetween k0 (row s l j) (row s l i) (row s l (i + 1)) = some (codeB (X j).1 (X j).2 (X i).1 (X i).2 (X (i + 1)).1 (X (i + 1)).2) := by
            rw [between_congr k0 (row_two hs hl (by omega)) (row_two hs hl (by omega)) (row_two hs hl (by omega))]
            exact is_between_p k0 cx cy ax ay bx b_y nx ny lx ly mx my
          rw [need_pos hne, cond_t (show (!(Option.map (row s l) (some j)).isNone) = true from rfl), show (Option.map (row s l) (some j)).getD [] = row s l j from rfl, hbt, Option.bind_some, hk3]
          have hsk : skipB X (some j) i = codeB (X j).1 (X j).2 (X i).1 (X i).2 (X (i + 1)).1 (X (i + 1)).2 := by unfold skipB; rw [hq]; rfl
          rw [runC, hsk]
          split
          · exact hK1
          · exact hK2
    · have : i = m - 1 := by omega
      subst this
      rw [cond_f (decide_eq_false (by omega)), Nat.sub_self]
      rfl
/-- the law's own last place -/
def lastI : Option Nat → Int
  | none => -1
  | some j => j
theorem at_range {α : Type} (f : Nat → α) {m i : Nat} (hi : i < m) : idx ((List.range m).map f) (i : Int) = some (f i) := idx_get (by simp [hi])
theorem law_loop {F : Nat} (hF : BigF F) {l : List Nat} {s m : Nat} {X : Nat → Int × Int} (hs : 2 ≤ s) (hs8 : s ≤ 8) (hl : l.length = m * s) (hb : l.length < 2147483648) (hw : ∀ x, x ∈ l → x < 18446744073709551616) (hm : 2 ≤ m) (hX : Whole2 s m l X) (b : Bool) :
    ∀ (G i : Nat) (last : Option Nat) (out : List Nat), m - 1 - i < G → i ≤ m - 1 → (∀ j, last = some j → j < i) → out.length ≤ i * s →
    iter (p_FnHullClean_l3 F ((List.range m).map (plc s l), b) ((List.range m).map (row s l))) G ((lastI last, (i : Int), out) : Int × Int × List Nat) = some (Sum.inl (runC (row s l) (skipB X) (m - 1 - i) i last out)) := by
  intro G
  induction G with
  | zero => intro i last out h; omega
  | succ G ih =>
    intro i last out h him hlast hout
    have hms : (m - 1) * s + s = m * s := by
      have : (m - 1 + 1) * s = (m - 1) * s + s := by rw [Nat.add_mul]; omega
      rw [← this]; congr 1; omega
    have hmle : m ≤ m * s := Nat.le_mul_of_pos_right m (by omega)
    have hle2 : i * s ≤ (m - 1) * s := Nat.mul_le_mul_right s him
    show p_FnHullClean_l3 F _ _ (iter (p_FnHullClean_l3 F _ _) G) _ = _
    generalize hK : iter (p_FnHullClean_l3 F ((List.range m).map (plc s l), b) ((List.range m).map (row s l))) G = K at *
    unfold p_FnHullClean_l3
    simp only
    have hlen : (((List.range m).map (plc s l)).length : Int) = (m : Int) := by simp
    rw [hlen]
    by_cases hi : i < m - 1
    · have hle := mul_lt' (m := m - 1) hi hs
      have wg : ∀ k, l.getD k 0 < 18446744073709551616 := fun k => by
        rw [List.getD_eq_getElem?_getD]
        cases hk : l[k]? with
        | none => simp
        | some x => exact hw x (List.mem_of_getElem? hk)
      obtain ⟨⟨ax, ay⟩, lx, ly⟩ := hX i (by omega)
      obtain ⟨⟨bx, b_y⟩, mx, my⟩ := hX (i + 1) (by omega)
      have rl := row_len hl (show i < m by omega)
      have hr : m - 1 - i = (m - 1 - (i + 1)) + 1 := by omega
      have hK1 := ih (i + 1) last out (by omega) (by omega) (fun j hj => by have := hlast j hj; omega) (by rw [Nat.add_mul]; omega)
      have hK2 := ih (i + 1) (some i) (out ++ row s l i) (by omega) (by omega) (fun j hj => by cases hj; omega) (by rw [List.length_append, rl, Nat.add_mul]; omega)
      have hk4 : p_FnHullClean_k4 ((List.range m).map (row s l)) (lastI last, (i : Int), out) K () = K (lastI (some i), ((i + 1 : Nat) : Int), out ++ row s l i) := by
        unfold p_FnHullClean_k4
        simp only
        rw [at_range _ (by omega), Option.bind_some, need_pos (by omega), need_pos (in64 (by omega) (by omega)), succ_cast]
        rfl
      rw [cond_t (decide_eq_true (by omega)), at_range _ (by omega), Option.bind_some, need_pos (in64 (by omega) (by omega)), succ_cast, at_range _ (by omega), Option.bind_some, Bool.and_true, Flt.feq_int ax bx, Flt.feq_int ay b_y, hr]
      cases hq : (decide ((X i).1 = (X (i + 1)).1) && decide ((X i).2 = (X (i + 1)).2)) with
      | true =>
        rw [cond_t rfl, need_pos (in64 (by omega) (by omega)), hK1]
        have : skipB X last i = true := by unfold skipB; rw [hq]; rfl
        rw [runC, if_pos this]
      | false =>
        rw [cond_f rfl]
        cases last with
        | none =>
          rw [cond_f (decide_eq_false (by simp [lastI])), hk4, hK2]
          have : ¬ skipB X none i = true := by unfold skipB; rw [hq]; simp
          rw [runC, if_neg this]
        | some j =>
          have hji := hlast j rfl
          obtain ⟨⟨cx, cy⟩, nx, ny⟩ := hX j (by omega)
          have hsk : skipB X (some j) i = codeB (X j).1 (X j).2 (X i).1 (X i).2 (X (i + 1)).1 (X (i + 1)).2 := by unfold skipB; rw [hq]; rfl
          have ej : lastI (some j) = (j : Int) := rfl
          rw [ej] at hk4 hK1 ⊢
          rw [cond_t (decide_eq_true (by omega)), at_range _ (by omega), Option.bind_some, need_pos (in64 (by omega) (by omega)), Option.bind_some, Bool.and_true, Flt.feq_int cx bx, Flt.feq_int cy b_y, runC, hsk]
          by_cases hac : (X j).1 = (X (i + 1)).1 ∧ (X j).2 = (X (i + 1)).2
          · rw [cond_f (by simp [hac.1, hac.2]), hk4, hK2, codeB_same hac.1 hac.2, if_neg (by simp)]
          · rw [cond_t (by simp; omega), Option.bind_some]
            obtain ⟨d1, f1, k1⟩ := exactly_p hF ⟨ax, ay⟩ (wg _) (wg _)
            obtain ⟨d2, f2, k2⟩ := exactly_p hF ⟨cx, cy⟩ (wg _) (wg _)
            obtain ⟨d3, f3, k3⟩ := exactly_p hF ⟨bx, b_y⟩ (wg _) (wg _)
            rw [f1, Option.bind_some, Option.bind_some, f2, Option.bind_some, need_pos (in64 (by omega) (by omega)), Option.bind_some, f3, Option.bind_some, on_p hF k2 k1 k3, Option.bind_some, ← codeB_on hac]
            cases hcb : codeB (X j).1 (X j).2 (X i).1 (X i).2 (X (i + 1)).1 (X (i + 1)).2 with
            | true => rw [cond_t rfl, need_pos (in64 (by omega) (by omega)), hK1, if_pos rfl]
            | false => rw [cond_f rfl, hk4, hK2, if_neg (by simp)]
    · have : i = m - 1 := by omega
      subst this
      rw [cond_f (decide_eq_false (by omega)), Nat.sub_self]
      rfl
end Go.Proofs.YtohpmbodfpjjmaaDoor.Wk
