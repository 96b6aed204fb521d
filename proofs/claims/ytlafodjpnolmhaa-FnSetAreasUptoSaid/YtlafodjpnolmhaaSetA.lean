/- Plain: lists of lists of places: sizes, loops that go through a list with an exit, their flat numbers and ends. -/
import Derived.Test.YtlafodjpnolmhaaPSa
import Derived.Test.YtlafodjpnolmhaaPureKit
import Derived.Test.YtlafodjpnolmhaaVmRowB
set_option linter.unusedVariables false
set_option linter.unusedSimpArgs false
namespace Go.Proofs.Ytlafodjpnolmhaa.Wk
open Go.Vm
abbrev L1 := List Nat
abbrev L2 := List L1
abbrev L3 := List L2
abbrev L4 := List L3
def B1 (x : L1) : Nat := x.length + 1
def B2 (x : L2) : Nat := (x.map B1).sum + 1
def B3 (x : L3) : Nat := (x.map B2).sum + 1
def B4 (x : L4) : Nat := (x.map B3).sum + 1
theorem bulk1 (x : L1) : bulkD (eS3 x) = B1 x := by
  simp only [bulkD, bulkDs_map, B1]
  congr 1
  induction x with
  | nil => rfl
  | cons a x ih => simp only [List.map_cons, List.sum_cons, List.length_cons, ih, keS3, dfl, bulkD]; omega
theorem bulk2 (x : L2) : bulkD (eS2 x) = B2 x := by
  have e : (fun y => bulkD (keS2 y)) = B1 := funext bulk1
  show bulkDs (x.map keS2) + 1 = _
  rw [bulkDs_map, e]; rfl
theorem bulk3 (x : L3) : bulkD (eS1 x) = B3 x := by
  have e : (fun y => bulkD (keS1 y)) = B2 := funext bulk2
  show bulkDs (x.map keS1) + 1 = _
  rw [bulkDs_map, e]; rfl
theorem bulk4 (x : L4) : bulkD (eS0 x) = B4 x := by
  have e : (fun y => bulkD (keS0 y)) = B3 := funext bulk3
  show bulkDs (x.map keS0) + 1 = _
  rw [bulkDs_map, e]; rfl
theorem le_sum {α : Type} (f : α → Nat) : ∀ {l : List α} {x : α}, x ∈ l → f x ≤ (l.map f).sum
  | y :: l, x, h => by
    rw [List.map_cons, List.sum_cons]
    rcases List.mem_cons.1 h with rfl | h
    · omega
    · have := le_sum f h; omega
theorem len_sum {α : Type} (f : α → Nat) (h1 : ∀ x, 1 ≤ f x) : ∀ l : List α, l.length ≤ (l.map f).sum
  | [] => Nat.le_refl _
  | x :: l => by
    have := h1 x; have := len_sum f h1 l
    rw [List.map_cons, List.sum_cons, List.length_cons]; omega
theorem B1p (x : L1) : 1 ≤ B1 x := by unfold B1; omega
theorem B2p (x : L2) : 1 ≤ B2 x := by unfold B2; omega
theorem B3p (x : L3) : 1 ≤ B3 x := by unfold B3; omega
theorem flat_len2 (x : L2) : x.flatten.length < B2 x := by
  unfold B2
  induction x with
  | nil => simp
  | cons a x ih => simp only [List.flatten_cons, List.length_append, List.map_cons, List.sum_cons, B1] at *; omega
theorem flat_len3 (x : L3) : x.flatten.flatten.length < B3 x := by
  unfold B3
  induction x with
  | nil => simp
  | cons a x ih => have := flat_len2 a; simp only [List.flatten_cons, List.flatten_append, List.length_append, List.map_cons, List.sum_cons] at *; omega
theorem flat_len4 (x : L4) : x.flatten.flatten.flatten.length < B4 x := by
  unfold B4
  induction x with
  | nil => simp
  | cons a x ih => have := flat_len3 a; simp only [List.flatten_cons, List.flatten_append, List.length_append, List.map_cons, List.sum_cons] at *; omega
theorem sum_split {α : Type} (f : α → Nat) {l : List α} {i : Nat} {x : α} (h : l[i]? = some x) : ((l.drop i).map f).sum = f x + ((l.drop (i + 1)).map f).sum := by
  obtain ⟨hi, rfl⟩ := List.getElem?_eq_some_iff.1 h
  rw [List.drop_eq_getElem_cons hi, List.map_cons, List.sum_cons]
/-- A loop through a list that is left with badv at the first element that is not p. -/
theorem fold_exit {α σ St V T : Type} (L : List α) (b : (St → Option (Sum V T)) → St → Option (Sum V T)) (mk : Nat → σ → St) (step : σ → α → σ) (p : α → Bool) (badv : T) (out : σ → V) (Inv : Nat → σ → Prop)
    (hend : ∀ K s, Inv L.length s → b K (mk L.length s) = some (.inl (out s)))
    (hstep : ∀ K i x s, L[i]? = some x → Inv i s → b K (mk i s) = if p x = true then K (mk (i + 1) (step s x)) else some (.inr badv))
    (hinv : ∀ i x s, L[i]? = some x → Inv i s → p x = true → Inv (i + 1) (step s x)) :
    ∀ (F i : Nat) (s : σ), L.length - i < F → i ≤ L.length → Inv i s → iter b F (mk i s) = some (if (L.drop i).all p = true then .inl (out ((L.drop i).foldl step s)) else .inr badv) := by
  intro F
  induction F with
  | zero => intro i s h; omega
  | succ F ih =>
    intro i s h hi hs
    show b (iter b F) (mk i s) = _
    by_cases hk : i < L.length
    · have hx : L[i]? = some L[i] := List.getElem?_eq_getElem hk
      rw [hstep _ i _ s hx hs, List.drop_eq_getElem_cons hk, List.all_cons, List.foldl_cons]
      cases hb : p L[i] with
      | false => rw [if_neg (by simp), Bool.false_and, if_neg (by simp)]
      | true => rw [if_pos rfl, Bool.true_and]; exact ih (i + 1) _ (by omega) (by omega) (hinv i _ s hx hs hb)
    · have : i = L.length := by omega
      subst this
      rw [hend _ s hs, List.drop_length]; rfl
/-- The same, without an exit. -/
theorem fold_all {α σ St V T : Type} (L : List α) (b : (St → Option (Sum V T)) → St → Option (Sum V T)) (mk : Nat → σ → St) (step : σ → α → σ) (out : σ → V) (Inv : Nat → σ → Prop)
    (hend : ∀ K s, Inv L.length s → b K (mk L.length s) = some (.inl (out s)))
    (hstep : ∀ K i x s, L[i]? = some x → Inv i s → b K (mk i s) = K (mk (i + 1) (step s x)))
    (hinv : ∀ i x s, L[i]? = some x → Inv i s → Inv (i + 1) (step s x)) :
    ∀ (F i : Nat) (s : σ), L.length - i < F → i ≤ L.length → Inv i s → iter b F (mk i s) = some (.inl (out ((L.drop i).foldl step s))) := by
  intro F
  induction F with
  | zero => intro i s h; omega
  | succ F ih =>
    intro i s h hi hs
    show b (iter b F) (mk i s) = _
    by_cases hk : i < L.length
    · have hx : L[i]? = some L[i] := List.getElem?_eq_getElem hk
      rw [hstep _ i _ s hx hs, List.drop_eq_getElem_cons hk, List.foldl_cons]
      exact ih (i + 1) _ (by omega) (by omega) (hinv i _ s hx hs)
    · have : i = L.length := by omega
      subst this
      rw [hend _ s hs, List.drop_length]; rfl
/-- The ends behind each ring, and the lists of ends. -/
def endsF : Nat → L3 → List Int
  | _, [] => []
  | n, r :: rs => ((n + r.flatten.length : Nat) : Int) :: endsF (n + r.flatten.length) rs
def endssF : Nat → L4 → List (List Int)
  | _, [] => []
  | n, p :: ps => endsF n p :: endssF (n + p.flatten.flatten.length) ps
theorem endsF_len : ∀ (n : Nat) (x : L3), (endsF n x).length = x.length
  | _, [] => rfl
  | n, r :: rs => by simp only [endsF, List.length_cons, endsF_len]
theorem endssF_len : ∀ (n : Nat) (x : L4), (endssF n x).length = x.length
  | _, [] => rfl
  | n, r :: rs => by simp only [endssF, List.length_cons, endssF_len]
theorem endssF_all {N : Nat} : ∀ (n : Nat) (x : L4), B4 x ≤ N → ∀ y ∈ endssF n x, y.length ≤ N
  | n, p :: ps, h, y, hy => by
    unfold B4 at h
    rw [List.map_cons, List.sum_cons] at h
    rw [endssF] at hy
    rcases List.mem_cons.1 hy with rfl | hy
    · rw [endsF_len]
      have := len_sum B2 B2p p
      unfold B3 at h; omega
    · exact endssF_all _ ps (by unfold B4; omega) y hy
theorem fold_flat2 : ∀ (x : L2) (s : L1), x.foldl (fun s y => s ++ y) s = s ++ x.flatten
  | [], s => by simp
  | a :: x, s => by rw [List.foldl_cons, fold_flat2 x, List.flatten_cons, List.append_assoc]
theorem fold_ends : ∀ (x : L3) (s : L1 × List Int), x.foldl (fun s y => (s.1 ++ y.flatten, s.2 ++ [(((s.1 ++ y.flatten).length : Nat) : Int)])) s = (s.1 ++ x.flatten.flatten, s.2 ++ endsF s.1.length x)
  | [], s => by simp [endsF]
  | a :: x, s => by
    rw [List.foldl_cons, fold_ends x]
    simp only [List.flatten_cons, List.flatten_append, List.append_assoc, endsF, List.length_append, List.singleton_append]
theorem fold_endss : ∀ (x : L4) (s : L1 × List (List Int)), x.foldl (fun s y => (s.1 ++ y.flatten.flatten, s.2 ++ [endsF s.1.length y])) s = (s.1 ++ x.flatten.flatten.flatten, s.2 ++ endssF s.1.length x)
  | [], s => by simp [endssF]
  | a :: x, s => by
    rw [List.foldl_cons, fold_endss x]
    simp only [List.flatten_cons, List.flatten_append, List.append_assoc, endssF, List.length_append, List.singleton_append]
theorem fold_copy {α : Type} : ∀ (x s : List α), x.foldl (fun s y => s ++ [y]) s = s ++ x
  | [], s => by simp
  | a :: x, s => by rw [List.foldl_cons, fold_copy x]; simp
theorem dlt {i n : Nat} (h : i < n) : decide ((i : Int) < (n : Int)) = true := decide_eq_true (by omega)
theorem dge {n : Nat} : decide ((n : Int) < (n : Int)) = false := decide_eq_false (by omega)
theorem mem_get {α : Type} {l : List α} {i : Nat} {x : α} (h : l[i]? = some x) : x ∈ l := List.mem_of_getElem? h
theorem lt_get {α : Type} {l : List α} {i : Nat} {x : α} (h : l[i]? = some x) : i < l.length := (List.getElem?_eq_some_iff.1 h).1
theorem i64s {k : Nat} (h : k < 4611686018427387904) : inI .i64 ((k : Int) + 1) := in64 (by omega) (by omega)
end Go.Proofs.Ytlafodjpnolmhaa.Wk
