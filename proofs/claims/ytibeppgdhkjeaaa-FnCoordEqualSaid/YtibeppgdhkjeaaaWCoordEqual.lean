/- Proved: what functions of this seat answer, as contracts over the memory view; no conditions beyond those that each theorem names. -/
import Derived.Test.YtibeppgdhkjeaaaVmMore
import Derived.Test.YtibeppgdhkjeaaaProg
namespace Go.Proofs.Ytibeppgdhkjeaaa.Wk
open Go.Vm
set_option linter.unusedVariables false
set_option linter.unusedSimpArgs false
theorem agg47 : aggT Try.prog 47 = some false := by kernel_rfl
theorem el22 : elemT Try.prog 22 = some (47, 1) := by kernel_rfl
theorem el90 : elemT Try.prog 90 = some (47, 1) := by kernel_rfl
theorem idle66 (vs : Array Value) (w : World) (h : vs.size = 2) : CallsD Try.prog 66 vs .returning w fun e u' w' => e = .returned (.tuple #[]) ∧ u' = .returning ∧ w' = w := by
  obtain ⟨x0, x1, rfl⟩ : ∃ x0 x1, vs = #[x0, x1] := by
    obtain ⟨l⟩ := vs
    match l, h with
    | [x0, x1], _ => exact ⟨x0, x1, rfl⟩
  refine callsD_of_wpS Try.func66 rfl fun c₀ cs hu => ?_
  apply wpS_seq
  apply wpS_region
  simp [wpOpsS, go_sem, recoverD, hu, Try.ntmps66, Exit.thenS]
  refine wpS_cond (t := false) (by simp [Act.eval, Array.replicate]) ?_
  simp only [Bool.false_eq_true, if_false]
  refine wpS_of_wp (wp_skip ?_)
  cases c₀
  simp_all [bodyPostS, results, Try.results66]
theorem mixed : Try.prog.follows .mixedOrders = true := by kernel_rfl
theorem size4 : sizeT Try.prog 4 = some 1 := by kernel_rfl
theorem zero4 : (Try.prog.info? 4).map (·.zero) = some (some (.bool false)) := by kernel_rfl
/-- how many numbers a place of a layout has -/
def stride (n : Int) : Int := if n < 1 then 0 else if n = 1 then 2 else if n = 2 ∨ n = 3 then 3 else n
def lstride (n : Int) : Int := if n = 0 then 0 else if n = 1 then 2 else if n = 2 then 3 else if n = 3 then 3 else if n = 4 then 4 else n
theorem lstride_eq {n : Int} (h : 0 ≤ n) : lstride n = stride n := by unfold lstride stride; (repeat' split) <;> omega
theorem dint_eq {a b : Int} (h : a = b) : dint a = dint b := by rw [h]

set_option maxRecDepth 100000 in
/-- pub-orthodrome/spec.Stride -/
theorem strideS (n : Int) : FnD Try.prog 19 [dint n] (fun r => r = dint (stride n)) := by
  refine FnD.of (by kernel_rfl) Try.func19 rfl Try.ntmps19 rfl (leb rfl) fun W ok => ?_
  refine AC.seq ?_
  refine AC.region ?_
  refine AO.op rfl (AOp.assign rfl rfl (ltb rfl) rfl ?_)
  refine AO.nil ?_
  change AC _ _ _ _
  refine AC.seq ?_
  refine AC.block ?_
  refine AC.seq ?_
  refine AC.region ?_
  refine AO.op rfl (AOp.move rfl rfl (ltb rfl) rfl ?_)
  refine AO.op rfl (AOp.ilss rfl rfl (ltb rfl) rfl rfl ?_)
  refine AO.op rfl (AOp.assign rfl rfl (ltb rfl) rfl ?_)
  refine AO.nil ?_
  change AC _ _ _ _
  refine AC.cond rfl (fun h1 => ?_) (fun h1 => ?_)
  · refine AC.seq ?_
    refine AC.region ?_
    refine AO.op rfl (AOp.assign rfl rfl (ltb rfl) rfl ?_)
    refine AO.nil ?_
    change AC _ _ _ _
    refine AC.ret ?_
    change RetQ _ _ _ .ret _
    refine retq rfl ?_
    refine dint_eq ?_
    unfold stride
    simp at *
    all_goals ((repeat' split) <;> omega)
  · refine AC.seq ?_
    refine AC.region ?_
    refine AO.op rfl (AOp.move rfl rfl (ltb rfl) rfl ?_)
    refine AO.op rfl (AOp.ieql rfl rfl (ltb rfl) rfl rfl ?_)
    refine AO.op rfl (AOp.assign rfl rfl (ltb rfl) rfl ?_)
    refine AO.nil ?_
    change AC _ _ _ _
    refine AC.cond rfl (fun h2 => ?_) (fun h2 => ?_)
    · refine AC.seq ?_
      refine AC.region ?_
      refine AO.op rfl (AOp.assign rfl rfl (ltb rfl) rfl ?_)
      refine AO.nil ?_
      change AC _ _ _ _
      refine AC.ret ?_
      change RetQ _ _ _ .ret _
      refine retq rfl ?_
      refine dint_eq ?_
      unfold stride
      simp at *
      all_goals ((repeat' split) <;> omega)
    · refine AC.seq ?_
      refine AC.region ?_
      refine AO.op rfl (AOp.move rfl rfl (ltb rfl) rfl ?_)
      refine AO.op rfl (AOp.ieql rfl rfl (ltb rfl) rfl rfl ?_)
      refine AO.op rfl (AOp.move rfl rfl (ltb rfl) rfl ?_)
      refine AO.guard rfl rfl rfl (ltb rfl) rfl (fun h3 => ?_) (fun h3 => ?_)
      · refine AOp.move rfl rfl (ltb rfl) rfl ?_
        refine AO.guardY rfl rfl rfl h3 (AOp.ieql rfl rfl (ltb rfl) rfl rfl ?_)
        refine AO.op rfl (AOp.pickN rfl rfl (ltb rfl) rfl h3 rfl ?_)
        refine AO.op rfl (AOp.assign rfl rfl (ltb rfl) rfl ?_)
        refine AO.nil ?_
        change AC _ _ _ _
        refine AC.cond rfl (fun h4 => ?_) (fun h4 => ?_)
        · refine AC.seq ?_
          refine AC.region ?_
          refine AO.op rfl (AOp.assign rfl rfl (ltb rfl) rfl ?_)
          refine AO.nil ?_
          change AC _ _ _ _
          refine AC.ret ?_
          change RetQ _ _ _ .ret _
          refine retq rfl ?_
          refine dint_eq ?_
          unfold stride
          simp at *
          all_goals ((repeat' split) <;> omega)
        · refine AC.skip ?_
          change AC _ _ _ _
          refine AC.seq ?_
          refine AC.region ?_
          refine AO.op rfl (AOp.move rfl rfl (ltb rfl) rfl ?_)
          refine AO.op rfl (AOp.assign rfl rfl (ltb rfl) rfl ?_)
          refine AO.nil ?_
          change AC _ _ _ _
          refine AC.ret ?_
          change RetQ _ _ _ .ret _
          refine retq rfl ?_
          refine dint_eq ?_
          unfold stride
          simp at *
          all_goals ((repeat' split) <;> omega)
      · refine AO.guardN rfl rfl rfl (ltb rfl) rfl h3 ?_
        refine AO.op rfl (AOp.pick rfl rfl (ltb rfl) rfl h3 rfl ?_)
        refine AO.op rfl (AOp.assign rfl rfl (ltb rfl) rfl ?_)
        refine AO.nil ?_
        change AC _ _ _ _
        refine AC.condT rfl rfl ?_
        refine AC.seq ?_
        refine AC.region ?_
        refine AO.op rfl (AOp.assign rfl rfl (ltb rfl) rfl ?_)
        refine AO.nil ?_
        change AC _ _ _ _
        refine AC.ret ?_
        change RetQ _ _ _ .ret _
        refine retq rfl ?_
        refine dint_eq ?_
        unfold stride
        simp at *
        all_goals ((repeat' split) <;> omega)

set_option maxRecDepth 100000 in
/-- (pub-orthodrome/pub/gogeom.Layout).Stride -/
theorem strideL (n : Int) : FnD Try.prog 76 [dint n] (fun r => r = dint (lstride n)) := by
  refine FnD.of (by kernel_rfl) Try.func76 rfl Try.ntmps76 rfl (leb rfl) fun W ok => ?_
  refine AC.seq ?_
  refine AC.region ?_
  refine AO.op rfl (AOp.assign rfl rfl (ltb rfl) rfl ?_)
  refine AO.nil ?_
  change AC _ _ _ _
  refine AC.seq ?_
  refine AC.region ?_
  refine AO.op rfl (AOp.move rfl rfl (ltb rfl) rfl ?_)
  refine AO.nil ?_
  change AC _ _ _ _
  refine AC.block ?_
  refine AC.seq ?_
  refine AC.region ?_
  refine AO.op rfl (AOp.ieql rfl rfl (ltb rfl) rfl rfl ?_)
  refine AO.op rfl (AOp.assign rfl rfl (ltb rfl) rfl ?_)
  refine AO.nil ?_
  change AC _ _ _ _
  refine AC.cond rfl (fun h1 => ?_) (fun h1 => ?_)
  · refine AC.seq ?_
    refine AC.region ?_
    refine AO.op rfl (AOp.assign rfl rfl (ltb rfl) rfl ?_)
    refine AO.nil ?_
    change AC _ _ _ _
    refine AC.ret ?_
    change RetQ _ _ _ .ret _
    refine retq rfl ?_
    refine dint_eq ?_
    unfold lstride
    simp at *
    all_goals ((repeat' split) <;> omega)
  · refine AC.seq ?_
    refine AC.region ?_
    refine AO.op rfl (AOp.ieql rfl rfl (ltb rfl) rfl rfl ?_)
    refine AO.op rfl (AOp.assign rfl rfl (ltb rfl) rfl ?_)
    refine AO.nil ?_
    change AC _ _ _ _
    refine AC.cond rfl (fun h2 => ?_) (fun h2 => ?_)
    · refine AC.seq ?_
      refine AC.region ?_
      refine AO.op rfl (AOp.assign rfl rfl (ltb rfl) rfl ?_)
      refine AO.nil ?_
      change AC _ _ _ _
      refine AC.ret ?_
      change RetQ _ _ _ .ret _
      refine retq rfl ?_
      refine dint_eq ?_
      unfold lstride
      simp at *
      all_goals ((repeat' split) <;> omega)
    · refine AC.seq ?_
      refine AC.region ?_
      refine AO.op rfl (AOp.ieql rfl rfl (ltb rfl) rfl rfl ?_)
      refine AO.op rfl (AOp.assign rfl rfl (ltb rfl) rfl ?_)
      refine AO.nil ?_
      change AC _ _ _ _
      refine AC.cond rfl (fun h3 => ?_) (fun h3 => ?_)
      · refine AC.seq ?_
        refine AC.region ?_
        refine AO.op rfl (AOp.assign rfl rfl (ltb rfl) rfl ?_)
        refine AO.nil ?_
        change AC _ _ _ _
        refine AC.ret ?_
        change RetQ _ _ _ .ret _
        refine retq rfl ?_
        refine dint_eq ?_
        unfold lstride
        simp at *
        all_goals ((repeat' split) <;> omega)
      · refine AC.seq ?_
        refine AC.region ?_
        refine AO.op rfl (AOp.ieql rfl rfl (ltb rfl) rfl rfl ?_)
        refine AO.op rfl (AOp.assign rfl rfl (ltb rfl) rfl ?_)
        refine AO.nil ?_
        change AC _ _ _ _
        refine AC.cond rfl (fun h4 => ?_) (fun h4 => ?_)
        · refine AC.seq ?_
          refine AC.region ?_
          refine AO.op rfl (AOp.assign rfl rfl (ltb rfl) rfl ?_)
          refine AO.nil ?_
          change AC _ _ _ _
          refine AC.ret ?_
          change RetQ _ _ _ .ret _
          refine retq rfl ?_
          refine dint_eq ?_
          unfold lstride
          simp at *
          all_goals ((repeat' split) <;> omega)
        · refine AC.seq ?_
          refine AC.region ?_
          refine AO.op rfl (AOp.ieql rfl rfl (ltb rfl) rfl rfl ?_)
          refine AO.op rfl (AOp.assign rfl rfl (ltb rfl) rfl ?_)
          refine AO.nil ?_
          change AC _ _ _ _
          refine AC.cond rfl (fun h5 => ?_) (fun h5 => ?_)
          · refine AC.seq ?_
            refine AC.region ?_
            refine AO.op rfl (AOp.assign rfl rfl (ltb rfl) rfl ?_)
            refine AO.nil ?_
            change AC _ _ _ _
            refine AC.ret ?_
            change RetQ _ _ _ .ret _
            refine retq rfl ?_
            refine dint_eq ?_
            unfold lstride
            simp at *
            all_goals ((repeat' split) <;> omega)
          · refine AC.seq ?_
            refine AC.region ?_
            refine AO.op rfl (AOp.move rfl rfl (ltb rfl) rfl ?_)
            refine AO.op rfl (AOp.assign rfl rfl (ltb rfl) rfl ?_)
            refine AO.nil ?_
            change AC _ _ _ _
            refine AC.ret ?_
            change RetQ _ _ _ .ret _
            refine retq rfl ?_
            refine dint_eq ?_
            unfold lstride
            simp at *
            all_goals ((repeat' split) <;> omega)

set_option maxRecDepth 100000 in
/-- pub-orthodrome/laws.gNumber -/
theorem gNumber (x : Nat) : FnD Try.prog 21 [dfl x] (fun r => r = dbool (feq x x)) := by
  refine FnD.of (by kernel_rfl) Try.func21 rfl Try.ntmps21 rfl (leb rfl) fun W ok => ?_
  refine AC.seq ?_
  refine AC.region ?_
  refine AO.op rfl (AOp.assign rfl rfl (ltb rfl) rfl ?_)
  refine AO.nil ?_
  change AC _ _ _ _
  refine AC.seq ?_
  refine AC.region ?_
  refine AO.op rfl (AOp.move rfl rfl (ltb rfl) rfl ?_)
  refine AO.op rfl (AOp.move rfl rfl (ltb rfl) rfl ?_)
  refine AO.op rfl (AOp.feql rfl rfl (ltb rfl) rfl rfl ?_)
  refine AO.op rfl (AOp.assign rfl rfl (ltb rfl) rfl ?_)
  refine AO.nil ?_
  change AC _ _ _ _
  refine AC.ret ?_
  change RetQ _ _ _ .ret _
  refine retq rfl ?_
  exact rfl

def row (l : List Nat) : D := .ds 1 (l.map dfl)
def rows (ls : List (List Nat)) : D := .ds 1 (ls.map row)
theorem map_at {α β : Type} (f : α → β) (l : List α) (k : Nat) (d : α) (h : k < l.length) : (l.map f)[(k : Int).toNat * 1]? = some (f (l.getD k d)) := by
  simp [h]
theorem all_take_succ {α : Type} (p : α → Bool) (l : List α) (k : Nat) (d : α) (h : k < l.length) : (l.take (k + 1)).all p = ((l.take k).all p && p (l.getD k d)) := by
  rw [List.take_succ_eq_append_getElem h, List.all_append]
  simp [h]
theorem all_false_at {α : Type} (p : α → Bool) (l : List α) (j : Nat) (d : α) (h : j < l.length) (hf : p (l.getD j d) = false) : l.all p = false := by
  rw [List.all_eq_false]
  refine ⟨l.getD j d, ?_, by rw [hf]; decide⟩
  rw [List.getD_eq_getElem?_getD, List.getElem?_eq_getElem h]; simp

theorem all_range_succ (p : Nat → Bool) (k : Nat) : (List.range (k + 1)).all p = ((List.range k).all p && p k) := by
  rw [List.range_succ, List.all_append]; simp
theorem all_range_no {p : Nat → Bool} {n k : Nat} (h : k < n) (hp : p k = false) : (List.range n).all p = false := by
  rw [List.all_eq_false]; exact ⟨k, by simpa using h, by rw [hp]; decide⟩
theorem row_at (l : List Nat) (k : Nat) (h : k < l.length) : (l.map dfl)[(k : Int).toNat * 1]? = some (dfl (l.getD k 0)) := map_at dfl l k 0 h
def nums (a b : List Nat) (n : Nat) : Bool := (List.range n).all fun i => feq (a.getD i 0) (a.getD i 0) && feq (b.getD i 0) (b.getD i 0)
/-- what bBox asks of a box -/
def boxOK (l : Int) (a b : List Nat) : Bool := (decide (0 ≤ l) && decide (l ≤ 9) && decide ((a.length : Int) = stride l) && decide (b.length = a.length)) && nums a b a.length
theorem dbool_eq {a b : Bool} (h : a = b) : dbool a = dbool b := by rw [h]
def boxD (l : Int) (a b : List Nat) : D := .ag [dint l, row a, row b]

def eqAll (s : Nat) (a b : List Nat) : Bool := (List.range s).all fun i => feq (a.getD i 0) (b.getD i 0)
theorem all_range_at {p : Nat → Bool} {n k : Nat} (h : (List.range n).all p = true) (hk : k < n) : p k = true := List.all_eq_true.1 h k (by simpa using hk)

set_option maxRecDepth 100000 in
/-- pub-orthodrome/laws.gCoord -/
theorem gCoord (l : Int) (a : List Nat) (ha : a.length < 2147483648) : FnD Try.prog 35 [dint l, row a] (fun r => r = dbool (decide (1 ≤ l) && decide (l ≤ 9) && decide ((a.length : Int) = stride l))) := by
  refine FnD.of (by kernel_rfl) Try.func35 rfl Try.ntmps35 rfl (leb rfl) fun W ok => ?_
  refine AC.seq ?_
  refine AC.region ?_
  refine AO.op rfl (AOp.assign rfl rfl (ltb rfl) rfl ?_)
  refine AO.nil ?_
  change AC _ _ _ _
  refine AC.seq ?_
  refine AC.region ?_
  refine AO.op rfl (AOp.move rfl rfl (ltb rfl) rfl ?_)
  refine AO.op rfl (AOp.igeq rfl rfl (ltb rfl) rfl rfl ?_)
  refine AO.op rfl (AOp.move rfl rfl (ltb rfl) rfl ?_)
  refine AO.guard rfl rfl rfl (ltb rfl) rfl (fun h1 => ?_) (fun h1 => ?_)
  · refine AOp.move rfl rfl (ltb rfl) rfl ?_
    refine AO.guardY rfl rfl rfl h1 (AOp.ileq rfl rfl (ltb rfl) rfl rfl ?_)
    refine AO.op rfl (AOp.pick rfl rfl (ltb rfl) rfl h1 rfl ?_)
    refine AO.op rfl (AOp.move rfl rfl (ltb rfl) rfl ?_)
    refine AO.guard rfl rfl rfl (ltb rfl) rfl (fun h2 => ?_) (fun h2 => ?_)
    · refine AOp.move rfl rfl (ltb rfl) rfl ?_
      first | refine AO.guardY rfl rfl rfl h2 (AOp.lenDs (n := a.length) rfl rfl (ltb rfl) rfl el22 (by decide) (by simp) ?_) | refine AO.guardY rfl rfl rfl h2 (AOp.lenOwn (n := a.length) rfl rfl (ltb rfl) rfl el22 rfl (by decide) (by simp) ?_)
      refine AO.guardY rfl rfl rfl h2 (AOp.move rfl rfl (ltb rfl) rfl ?_)
      refine AO.guardY rfl rfl rfl h2 (AOp.callD rfl rfl (ltb rfl) rfl (strideS _) ?_)
      rintro _ rfl
      refine AO.guardY rfl rfl rfl h2 (AOp.ieql rfl rfl (ltb rfl) rfl rfl ?_)
      refine AO.op rfl (AOp.pick rfl rfl (ltb rfl) rfl h2 rfl ?_)
      refine AO.op rfl (AOp.assign rfl rfl (ltb rfl) rfl ?_)
      refine AO.nil ?_
      change AC _ _ _ _
      refine AC.ret ?_
      change RetQ _ _ _ .ret _
      refine retq rfl ?_
      refine congrArg dbool ?_
      first | (simp_all; done) | (simp at *; intros; omega)
    · refine AO.guardN rfl rfl rfl (ltb rfl) rfl h2 ?_
      refine AO.guardN rfl rfl rfl (ltb rfl) rfl h2 ?_
      refine AO.guardN rfl rfl rfl (ltb rfl) rfl h2 ?_
      refine AO.guardN rfl rfl rfl (ltb rfl) rfl h2 ?_
      refine AO.op rfl (AOp.pickN rfl rfl (ltb rfl) rfl h2 rfl ?_)
      refine AO.op rfl (AOp.assign rfl rfl (ltb rfl) rfl ?_)
      refine AO.nil ?_
      change AC _ _ _ _
      refine AC.ret ?_
      change RetQ _ _ _ .ret _
      refine retq rfl ?_
      refine congrArg dbool ?_
      first | (simp_all; done) | (simp at *; intros; omega)
  · refine AO.guardN rfl rfl rfl (ltb rfl) rfl h1 ?_
    refine AO.op rfl (AOp.pickN rfl rfl (ltb rfl) rfl h1 rfl ?_)
    refine AO.op rfl (AOp.move rfl rfl (ltb rfl) rfl ?_)
    refine AO.guardN rfl rfl rfl (ltb rfl) rfl rfl ?_
    refine AO.guardN rfl rfl rfl (ltb rfl) rfl rfl ?_
    refine AO.guardN rfl rfl rfl (ltb rfl) rfl rfl ?_
    refine AO.guardN rfl rfl rfl (ltb rfl) rfl rfl ?_
    refine AO.guardN rfl rfl rfl (ltb rfl) rfl rfl ?_
    refine AO.op rfl (AOp.pickN rfl rfl (ltb rfl) rfl rfl rfl ?_)
    refine AO.op rfl (AOp.assign rfl rfl (ltb rfl) rfl ?_)
    refine AO.nil ?_
    change AC _ _ _ _
    refine AC.ret ?_
    change RetQ _ _ _ .ret _
    refine retq rfl ?_
    refine congrArg dbool ?_
    first | (simp_all; done) | (simp at *; intros; omega)

set_option maxRecDepth 100000 in
/-- math.IsNaN -/
theorem isNaN (x : Nat) : FnD Try.prog 82 [dfl x] (fun r => r = dbool (!feq x x)) := by
  refine FnD.of (by kernel_rfl) Try.func82 rfl Try.ntmps82 rfl (leb rfl) fun W ok => ?_
  refine AC.seq ?_
  refine AC.region ?_
  refine AO.op rfl (AOp.assign rfl rfl (ltb rfl) rfl ?_)
  refine AO.nil ?_
  change AC _ _ _ _
  refine AC.seq ?_
  refine AC.region ?_
  refine AO.op rfl (AOp.move rfl rfl (ltb rfl) rfl ?_)
  refine AO.op rfl (AOp.move rfl rfl (ltb rfl) rfl ?_)
  refine AO.op rfl (AOp.fneq rfl rfl (ltb rfl) rfl rfl ?_)
  refine AO.op rfl (AOp.assign rfl rfl (ltb rfl) rfl ?_)
  refine AO.nil ?_
  change AC _ _ _ _
  refine AC.ret ?_
  change RetQ _ _ _ .ret _
  refine retq rfl ?_
  exact rfl

set_option maxRecDepth 100000 in
/-- (pub-orthodrome/pub/gogeom.Coord).Equal -/
theorem coordEq (l : Int) (a b : List Nat) (s : Nat) (hs : lstride l = s) (hal : a.length = s) (hbl : b.length = s) (hlen : s < 2147483648) (hnum : nums a b s = true) : FnD Try.prog 67 [row a, dint l, row b] (fun r => r = dbool (eqAll s a b)) := by
  refine FnD.of (by kernel_rfl) Try.func67 rfl Try.ntmps67 rfl (leb rfl) fun W ok => ?_
  have hmin : (if lstride l > (a.length : Int) then (a.length : Int) else lstride l) = s := by split <;> omega
  have hmin2 : (if (a.length : Int) < lstride l then (a.length : Int) else lstride l) = s := by split <;> omega
  have qla : decide ((a.length : Int) < lstride l) = false := by simp; omega
  have qlb : decide ((b.length : Int) < lstride l) = false := by simp; omega
  refine AC.seq ?_
  refine AC.region ?_
  refine AO.op rfl (AOp.assign rfl rfl (ltb rfl) rfl ?_)
  refine AO.nil ?_
  change AC _ _ _ _
  refine AC.seq ?_
  refine AC.region ?_
  refine AO.op rfl (AOp.move rfl rfl (ltb rfl) rfl ?_)
  refine AO.op rfl (AOp.callD rfl rfl (ltb rfl) rfl (strideL _) ?_)
  rintro _ rfl
  refine AO.op rfl (AOp.move rfl rfl (ltb rfl) rfl ?_)
  first | refine AO.op rfl (AOp.lenDs (n := a.length) rfl rfl (ltb rfl) rfl el90 (by decide) (by simp) ?_) | refine AO.op rfl (AOp.lenOwn (n := a.length) rfl rfl (ltb rfl) rfl el90 rfl (by decide) (by simp) ?_)
  refine AO.op rfl (AOp.imin rfl rfl (ltb rfl) rfl rfl ?_)
  refine AO.op rfl (AOp.assign rfl rfl (ltb rfl) rfl ?_)
  refine AO.nil ?_
  change AC _ _ _ _
  refine AC.seq ?_
  refine AC.seq ?_
  refine AC.region ?_
  refine AO.op rfl (AOp.move rfl rfl (ltb rfl) rfl ?_)
  first | refine AO.op rfl (AOp.lenDs (n := a.length) rfl rfl (ltb rfl) rfl el90 (by decide) (by simp) ?_) | refine AO.op rfl (AOp.lenOwn (n := a.length) rfl rfl (ltb rfl) rfl el90 rfl (by decide) (by simp) ?_)
  refine AO.op rfl (AOp.move rfl rfl (ltb rfl) rfl ?_)
  refine AO.op rfl (AOp.callD rfl rfl (ltb rfl) rfl (strideL _) ?_)
  rintro _ rfl
  refine AO.op rfl (AOp.ilss rfl rfl (ltb rfl) rfl rfl ?_)
  refine AO.op rfl (AOp.move rfl rfl (ltb rfl) rfl ?_)
  refine AO.guardY rfl rfl rfl qla (AOp.move rfl rfl (ltb rfl) rfl ?_)
  first | refine AO.guardY rfl rfl rfl qla (AOp.lenDs (n := b.length) rfl rfl (ltb rfl) rfl el90 (by decide) (by simp) ?_) | refine AO.guardY rfl rfl rfl qla (AOp.lenOwn (n := b.length) rfl rfl (ltb rfl) rfl el90 rfl (by decide) (by simp) ?_)
  refine AO.guardY rfl rfl rfl qla (AOp.move rfl rfl (ltb rfl) rfl ?_)
  refine AO.guardY rfl rfl rfl qla (AOp.callD rfl rfl (ltb rfl) rfl (strideL _) ?_)
  rintro _ rfl
  refine AO.guardY rfl rfl rfl qla (AOp.ilss rfl rfl (ltb rfl) rfl rfl ?_)
  refine AO.op rfl (AOp.pickN rfl rfl (ltb rfl) rfl qla rfl ?_)
  refine AO.op rfl (AOp.move rfl rfl (ltb rfl) rfl ?_)
  refine AO.guardN rfl rfl rfl (ltb rfl) rfl qlb ?_
  refine AO.guardN rfl rfl rfl (ltb rfl) rfl qlb ?_
  refine AO.guardN rfl rfl rfl (ltb rfl) rfl qlb ?_
  refine AO.guardN rfl rfl rfl (ltb rfl) rfl qlb ?_
  refine AO.guardN rfl rfl rfl (ltb rfl) rfl qlb ?_
  refine AO.op rfl (AOp.pickN rfl rfl (ltb rfl) rfl qlb rfl ?_)
  refine AO.nil ?_
  change AC _ _ _ _
  refine AC.condF rfl rfl ?_
  refine AC.skip ?_
  change AC _ _ _ _
  refine AC.seq ?_
  refine AC.seq ?_
  refine AC.region ?_
  refine AO.op rfl (AOp.move rfl rfl (ltb rfl) rfl ?_)
  refine AO.op rfl (AOp.move rfl rfl (ltb rfl) rfl ?_)
  refine AO.nil ?_
  change AC _ _ _ _
  refine AC.block ?_
  refine AC.loopV (G := Nat) [0, 2, 33] [34] 0 (fun k => [(34, .d (dint (k : Nat)))]) (fun _ => _) (fun k => k ≤ s ∧ eqAll k a b = true) (fun k => s - k) (0) rfl rfl rfl rfl ⟨by omega, rfl⟩ ?_
  rintro k ⟨hk, hk2⟩
  refine AC.seq ?_
  refine AC.region ?_
  refine AO.op rfl (AOp.ilss rfl rfl (ltb rfl) rfl rfl ?_)
  refine AO.nil ?_
  change AC _ _ _ _
  refine AC.seq ?_
  refine AC.cond rfl (fun h1 => ?_) (fun h1 => ?_)
  · refine AC.skip ?_
    change AC _ _ _ _
    refine AC.seq ?_
    refine AC.block ?_
    refine AC.seq ?_
    refine AC.region ?_
    have hlt : k < s := by simp only [hmin2, decide_eq_true_eq] at *; omega
    have hnk := all_range_at (p := fun i => feq (a.getD i 0) (a.getD i 0) && feq (b.getD i 0) (b.getD i 0)) hnum hlt
    have qa : (!feq (a.getD k 0) (a.getD k 0)) = false := by simp at hnk; simp [hnk.1]
    have qb : (!feq (b.getD k 0) (b.getD k 0)) = false := by simp at hnk; simp [hnk.2]
    refine AO.op rfl (AOp.move rfl rfl (ltb rfl) rfl ?_)
    refine AO.op rfl (AOp.assign rfl rfl (ltb rfl) rfl ?_)
    refine AO.nil ?_
    change AC _ _ _ _
    refine AC.seq ?_
    refine AC.region ?_
    refine AO.op rfl (AOp.move rfl rfl (ltb rfl) rfl ?_)
    refine AO.op rfl (AOp.move rfl rfl (ltb rfl) rfl ?_)
    first | refine AO.op rfl (AOp.indexDs rfl rfl (ltb rfl) rfl rfl el90 (by decide) (by omega) (by simp; omega) ?_) | refine AO.op rfl (AOp.indexSl rfl rfl (ltb rfl) rfl rfl el90 (by omega) (by simp; omega) ?_)
    refine AO.op rfl (AOp.loadEp rfl rfl (ltb rfl) rfl agg47 (y := dfl (a.getD k 0)) (row_at a k (by omega)) ?_)
    refine AO.op rfl (AOp.callD rfl rfl (ltb rfl) rfl (isNaN _) ?_)
    rintro _ rfl
    refine AO.op rfl (AOp.move rfl rfl (ltb rfl) rfl ?_)
    refine AO.guardY rfl rfl rfl qa (AOp.move rfl rfl (ltb rfl) rfl ?_)
    refine AO.guardY rfl rfl rfl qa (AOp.move rfl rfl (ltb rfl) rfl ?_)
    first | refine AO.guardY rfl rfl rfl qa (AOp.indexDs rfl rfl (ltb rfl) rfl rfl el90 (by decide) (by omega) (by simp; omega) ?_) | refine AO.guardY rfl rfl rfl qa (AOp.indexSl rfl rfl (ltb rfl) rfl rfl el90 (by omega) (by simp; omega) ?_)
    refine AO.guardY rfl rfl rfl qa (AOp.loadEp rfl rfl (ltb rfl) rfl agg47 (y := dfl (b.getD k 0)) (row_at b k (by omega)) ?_)
    refine AO.guardY rfl rfl rfl qa (AOp.callD rfl rfl (ltb rfl) rfl (isNaN _) ?_)
    rintro _ rfl
    refine AO.op rfl (AOp.pickN rfl rfl (ltb rfl) rfl qa rfl ?_)
    refine AO.nil ?_
    change AC _ _ _ _
    refine AC.condF rfl qb ?_
    refine AC.seq ?_
    refine AC.draw 9 mixed (by kernel_rfl) ?_
    refine AD.op [0] rfl (by kernel_rfl) rfl rfl (fun _ _ h => AOp.move rfl rfl (ltb rfl) rfl h) ?_
    refine AD.op [8] rfl (by kernel_rfl) rfl rfl (fun _ _ h => AOp.move rfl rfl (ltb rfl) rfl h) ?_
    first | refine AD.op [63, 64] rfl (by kernel_rfl) rfl rfl (fun _ _ h => AOp.indexDs rfl rfl (ltb rfl) rfl rfl el90 (by decide) (by omega) (by simp; omega) h) ?_ | refine AD.op [63, 64] rfl (by kernel_rfl) rfl rfl (fun _ _ h => AOp.indexSl rfl rfl (ltb rfl) rfl rfl el90 (by omega) (by simp; omega) h) ?_
    refine AD.op [65] rfl (by kernel_rfl) rfl rfl (fun _ _ h => AOp.loadEp rfl rfl (ltb rfl) rfl agg47 (y := dfl (a.getD k 0)) (row_at a k (by omega)) h) ?_
    refine AD.op [2] rfl (by kernel_rfl) rfl rfl (fun _ _ h => AOp.move rfl rfl (ltb rfl) rfl h) ?_
    refine AD.op [8] rfl (by kernel_rfl) rfl rfl (fun _ _ h => AOp.move rfl rfl (ltb rfl) rfl h) ?_
    first | refine AD.op [67, 68] rfl (by kernel_rfl) rfl rfl (fun _ _ h => AOp.indexDs rfl rfl (ltb rfl) rfl rfl el90 (by decide) (by omega) (by simp; omega) h) ?_ | refine AD.op [67, 68] rfl (by kernel_rfl) rfl rfl (fun _ _ h => AOp.indexSl rfl rfl (ltb rfl) rfl rfl el90 (by omega) (by simp; omega) h) ?_
    refine AD.op [69] rfl (by kernel_rfl) rfl rfl (fun _ _ h => AOp.loadEp rfl rfl (ltb rfl) rfl agg47 (y := dfl (b.getD k 0)) (row_at b k (by omega)) h) ?_
    refine AD.op [66, 70] rfl (by kernel_rfl) rfl rfl (fun _ _ h => AOp.fneq rfl rfl (ltb rfl) rfl rfl h) ?_
    refine AD.done ?_
    refine AO.nil ?_
    change AC _ _ _ _
    refine AC.cond rfl (fun h2 => ?_) (fun h2 => ?_)
    · refine AC.seq ?_
      refine AC.region ?_
      refine AO.op rfl (AOp.assign rfl rfl (ltb rfl) rfl ?_)
      refine AO.nil ?_
      change AC _ _ _ _
      refine AC.ret ?_
      change RetQ _ _ _ .ret _
      refine retq rfl ?_
      refine dbool_eq ?_
      first | (unfold eqAll; rw [all_range_no hlt (by simp_all)]; done) | (have hk3 : k = s := (by simp only [hmin2, decide_eq_false_iff_not] at *; omega); subst hk3; exact hk2.symm)
    · refine AC.skip ?_
      change AC _ _ _ _
      refine AC.region ?_
      refine AO.op rfl (AOp.iadd rfl rfl (ltb rfl) rfl rfl rfl (by simp only [lo]; omega) (by simp only [hi]; omega) ?_)
      refine AO.op rfl (AOp.move rfl rfl (ltb rfl) rfl ?_)
      refine AO.nil ?_
      refine ⟨rfl, k + 1, rfl, rfl, rfl, ⟨by omega, by unfold eqAll at *; rw [all_range_succ, hk2]; simp_all⟩, (by first | omega | (dsimp only; omega))⟩
  · refine AC.exit ?_
    change AC _ _ _ _
    refine AC.seq ?_
    refine AC.region ?_
    refine AO.op rfl (AOp.assign rfl rfl (ltb rfl) rfl ?_)
    refine AO.nil ?_
    change AC _ _ _ _
    refine AC.ret ?_
    change RetQ _ _ _ .ret _
    refine retq rfl ?_
    refine dbool_eq ?_
    first | (unfold eqAll; rw [all_range_no hlt (by simp_all)]; done) | (have hk3 : k = s := (by simp only [hmin2, decide_eq_false_iff_not] at *; omega); subst hk3; exact hk2.symm)

set_option maxRecDepth 100000 in
/-- pub-orthodrome/impl.CoordEqual -/
theorem implCoordEq (l : Int) (a b : List Nat) (s : Nat) (hs : lstride l = s) (hal : a.length = s) (hbl : b.length = s) (hlen : s < 2147483648) (hnum : nums a b s = true) : FnD Try.prog 36 [dint l, row a, row b] (fun r => r = .tu [dbool (eqAll s a b), dbool true]) := by
  refine FnD.wrap (g := 66) (m := 2) (fun vs w h => idle66 vs w h) (by kernel_rfl) Try.func36 rfl Try.ntmps36 rfl (leb rfl) fun W ok => ?_
  refine AW.seq ?_
  refine AC.region ?_
  refine AO.op rfl (AOp.alloc rfl rfl (ltb rfl) zero4 rfl ?_)
  refine AO.op rfl (AOp.alloc rfl rfl (ltb rfl) zero4 rfl ?_)
  refine AO.nil ?_
  refine ⟨rfl, ?_⟩
  refine AW.defer (caps := [.tmp 6, .tmp 7]) rfl rfl rfl (ltb rfl) rfl rfl rfl rfl (by kernel_rfl) rfl fun df => ?_
  refine AC.seq ?_
  refine AC.region ?_
  refine AO.op rfl (AOp.move rfl rfl (ltb rfl) rfl ?_)
  refine AO.op rfl (AOp.move rfl rfl (ltb rfl) rfl ?_)
  refine AO.op rfl (AOp.move rfl rfl (ltb rfl) rfl ?_)
  refine AO.op rfl (AOp.callD rfl rfl (ltb rfl) rfl (coordEq l a b s hs hal hbl hlen hnum) ?_)
  rintro _ rfl
  refine AO.op rfl (AOp.store rfl rfl rfl rfl size4 rfl rfl rfl (leb rfl) ?_)
  refine AO.op rfl (AOp.store rfl rfl rfl rfl size4 rfl rfl rfl (leb rfl) ?_)
  refine AO.nil ?_
  change AC _ _ _ _
  refine AC.ret ?_
  change RetQ _ _ _ .ret _
  refine retq rfl ?_
  exact rfl

set_option maxRecDepth 100000 in
/-- pub-orthodrome/laws.FnCoordEqual -/
theorem lawCoordEqual (l : Int) (a b : List Nat) (ha0 : a.length ≤ maxLen) (hb0 : b.length ≤ maxLen) : FnD Try.prog 9 [dint l, row a, row b] (fun r => r = dbool true) := by
  refine FnD.of (by kernel_rfl) Try.func9 rfl Try.ntmps9 rfl (leb rfl) fun W ok => ?_
  refine AC.seq ?_
  refine AC.region ?_
  refine AO.op rfl (AOp.assign rfl rfl (ltb rfl) rfl ?_)
  refine AO.nil ?_
  change AC _ _ _ _
  refine AC.seq ?_
  refine AC.seq ?_
  refine AC.region ?_
  refine AO.op rfl (AOp.move rfl rfl (ltb rfl) rfl ?_)
  first | refine AO.op rfl (AOp.lenDs (n := a.length) rfl rfl (ltb rfl) rfl el22 (by decide) (by simp) ?_) | refine AO.op rfl (AOp.lenOwn (n := a.length) rfl rfl (ltb rfl) rfl el22 rfl (by decide) (by simp) ?_)
  refine AO.op rfl (AOp.igtr rfl rfl (ltb rfl) rfl rfl ?_)
  refine AO.op rfl (AOp.move rfl rfl (ltb rfl) rfl ?_)
  refine AO.guard rfl rfl rfl (ltb rfl) rfl (fun h1 => ?_) (fun h1 => ?_)
  · refine AOp.move rfl rfl (ltb rfl) rfl ?_
    first | refine AO.guardY rfl rfl rfl h1 (AOp.lenDs (n := b.length) rfl rfl (ltb rfl) rfl el22 (by decide) (by simp) ?_) | refine AO.guardY rfl rfl rfl h1 (AOp.lenOwn (n := b.length) rfl rfl (ltb rfl) rfl el22 rfl (by decide) (by simp) ?_)
    refine AO.guardY rfl rfl rfl h1 (AOp.igtr rfl rfl (ltb rfl) rfl rfl ?_)
    refine AO.op rfl (AOp.pickN rfl rfl (ltb rfl) rfl h1 rfl ?_)
    refine AO.nil ?_
    change AC _ _ _ _
    refine AC.cond rfl (fun h2 => ?_) (fun h2 => ?_)
    · refine AC.seq ?_
      refine AC.region ?_
      refine AO.op rfl (AOp.assign rfl rfl (ltb rfl) rfl ?_)
      refine AO.nil ?_
      change AC _ _ _ _
      refine AC.ret ?_
      change RetQ _ _ _ .ret _
      refine retq rfl ?_
      first | rfl | (refine congrArg dbool ?_; simp only [BEq.rfl]; done) | contradiction | (simp only [Bool.true_eq_false, Bool.not_true] at *; done)
    · refine AC.skip ?_
      change AC _ _ _ _
      refine AC.seq ?_
      refine AC.seq ?_
      refine AC.region ?_
      refine AO.op rfl (AOp.move rfl rfl (ltb rfl) rfl ?_)
      refine AO.op rfl (AOp.move rfl rfl (ltb rfl) rfl ?_)
      refine AO.op rfl (AOp.callD rfl rfl (ltb rfl) rfl (gCoord l a (by have q := of_decide_eq_false h1; omega)) ?_)
      rintro _ rfl
      refine AO.op rfl (AOp.bnot rfl rfl (ltb rfl) rfl ?_)
      refine AO.op rfl (AOp.move rfl rfl (ltb rfl) rfl ?_)
      refine AO.guard rfl rfl rfl (ltb rfl) rfl (fun h3 => ?_) (fun h3 => ?_)
      · refine AOp.move rfl rfl (ltb rfl) rfl ?_
        refine AO.guardY rfl rfl rfl h3 (AOp.move rfl rfl (ltb rfl) rfl ?_)
        refine AO.guardY rfl rfl rfl h3 (AOp.callD rfl rfl (ltb rfl) rfl (gCoord l b (by have q := of_decide_eq_false h2; omega)) ?_)
        rintro _ rfl
        refine AO.guardY rfl rfl rfl h3 (AOp.bnot rfl rfl (ltb rfl) rfl ?_)
        refine AO.op rfl (AOp.pickN rfl rfl (ltb rfl) rfl h3 rfl ?_)
        refine AO.nil ?_
        change AC _ _ _ _
        refine AC.cond rfl (fun h4 => ?_) (fun h4 => ?_)
        · refine AC.seq ?_
          refine AC.region ?_
          refine AO.op rfl (AOp.assign rfl rfl (ltb rfl) rfl ?_)
          refine AO.nil ?_
          change AC _ _ _ _
          refine AC.ret ?_
          change RetQ _ _ _ .ret _
          refine retq rfl ?_
          first | rfl | (refine congrArg dbool ?_; simp only [BEq.rfl]; done) | contradiction | (simp only [Bool.true_eq_false, Bool.not_true] at *; done)
        · refine AC.skip ?_
          change AC _ _ _ _
          refine AC.seq ?_
          refine AC.region ?_
          refine AO.op rfl (AOp.assign rfl rfl (ltb rfl) rfl ?_)
          refine AO.nil ?_
          change AC _ _ _ _
          refine AC.seq ?_
          refine AC.seq ?_
          refine AC.region ?_
          have g1 := of_decide_eq_false h1
          have g2 := of_decide_eq_false h2
          have g3 : (1 ≤ l ∧ l ≤ 9) ∧ (a.length : Int) = stride l := by simpa using h3
          have g4 : (1 ≤ l ∧ l ≤ 9) ∧ (b.length : Int) = stride l := by simpa using h4
          obtain ⟨s, hal⟩ : ∃ s, a.length = s := ⟨_, rfl⟩
          have hbl : b.length = s := by omega
          have hlen : s < 2147483648 := by omega
          have hsl : lstride l = s := by rw [lstride_eq (by omega)]; omega
          refine AO.op rfl (AOp.move rfl rfl (ltb rfl) rfl ?_)
          first | refine AO.op rfl (AOp.lenDs (n := a.length) rfl rfl (ltb rfl) rfl el22 (by decide) (by simp) ?_) | refine AO.op rfl (AOp.lenOwn (n := a.length) rfl rfl (ltb rfl) rfl el22 rfl (by decide) (by simp) ?_)
          refine AO.op rfl (AOp.move rfl rfl (ltb rfl) rfl ?_)
          refine AO.nil ?_
          change AC _ _ _ _
          refine AC.block ?_
          refine AC.loopV (G := Nat) [0, 1, 2, 30, 31] [7, 32] 0 (fun k => [(7, .d (dbool (eqAll k a b))), (32, .d (dint (k : Nat)))]) (fun _ => _) (fun k => k ≤ s ∧ nums a b k = true) (fun k => s - k) (0) rfl rfl rfl rfl ⟨by omega, rfl⟩ ?_
          rintro k ⟨hk, hk2⟩
          refine AC.seq ?_
          refine AC.region ?_
          refine AO.op rfl (AOp.ilss rfl rfl (ltb rfl) rfl rfl ?_)
          refine AO.nil ?_
          change AC _ _ _ _
          refine AC.seq ?_
          refine AC.cond rfl (fun h5 => ?_) (fun h5 => ?_)
          · have hlt : k < s := by simp at h5; omega
            refine AC.skip ?_
            change AC _ _ _ _
            refine AC.seq ?_
            refine AC.block ?_
            refine AC.seq ?_
            refine AC.region ?_
            refine AO.op rfl (AOp.move rfl rfl (ltb rfl) rfl ?_)
            first | refine AO.op rfl (AOp.indexDs rfl rfl (ltb rfl) rfl rfl el22 (by decide) (by omega) (by simp; omega) ?_) | refine AO.op rfl (AOp.indexSl rfl rfl (ltb rfl) rfl rfl el22 (by omega) (by simp; omega) ?_)
            refine AO.op rfl (AOp.loadEp rfl rfl (ltb rfl) rfl agg47 (y := dfl (a.getD k 0)) (row_at a k (by omega)) ?_)
            refine AO.op rfl (AOp.assign rfl rfl (ltb rfl) rfl ?_)
            refine AO.op rfl (AOp.assign rfl rfl (ltb rfl) rfl ?_)
            refine AO.nil ?_
            change AC _ _ _ _
            refine AC.seq ?_
            refine AC.seq ?_
            refine AC.region ?_
            refine AO.op rfl (AOp.move rfl rfl (ltb rfl) rfl ?_)
            refine AO.op rfl (AOp.callD rfl rfl (ltb rfl) rfl (gNumber _) ?_)
            rintro _ rfl
            refine AO.op rfl (AOp.bnot rfl rfl (ltb rfl) rfl ?_)
            refine AO.op rfl (AOp.move rfl rfl (ltb rfl) rfl ?_)
            refine AO.guard rfl rfl rfl (ltb rfl) rfl (fun h6 => ?_) (fun h6 => ?_)
            · refine AOp.move rfl rfl (ltb rfl) rfl ?_
              refine AO.guardY rfl rfl rfl h6 (AOp.move rfl rfl (ltb rfl) rfl ?_)
              first | refine AO.guardY rfl rfl rfl h6 (AOp.indexDs rfl rfl (ltb rfl) rfl rfl el22 (by decide) (by omega) (by simp; omega) ?_) | refine AO.guardY rfl rfl rfl h6 (AOp.indexSl rfl rfl (ltb rfl) rfl rfl el22 (by omega) (by simp; omega) ?_)
              refine AO.guardY rfl rfl rfl h6 (AOp.loadEp rfl rfl (ltb rfl) rfl agg47 (y := dfl (b.getD k 0)) (row_at b k (by omega)) ?_)
              refine AO.guardY rfl rfl rfl h6 (AOp.callD rfl rfl (ltb rfl) rfl (gNumber _) ?_)
              rintro _ rfl
              refine AO.guardY rfl rfl rfl h6 (AOp.bnot rfl rfl (ltb rfl) rfl ?_)
              refine AO.op rfl (AOp.pickN rfl rfl (ltb rfl) rfl h6 rfl ?_)
              refine AO.nil ?_
              change AC _ _ _ _
              refine AC.cond rfl (fun h7 => ?_) (fun h7 => ?_)
              · refine AC.seq ?_
                refine AC.region ?_
                refine AO.op rfl (AOp.assign rfl rfl (ltb rfl) rfl ?_)
                refine AO.nil ?_
                change AC _ _ _ _
                refine AC.ret ?_
                change RetQ _ _ _ .ret _
                refine retq rfl ?_
                first | rfl | (refine congrArg dbool ?_; simp only [BEq.rfl]; done) | contradiction | (simp only [Bool.true_eq_false, Bool.not_true] at *; done)
              · refine AC.skip ?_
                change AC _ _ _ _
                refine AC.region ?_
                refine AO.op rfl (AOp.move rfl rfl (ltb rfl) rfl ?_)
                refine AO.op rfl (AOp.move rfl rfl (ltb rfl) rfl ?_)
                refine AO.guard rfl rfl rfl (ltb rfl) rfl (fun h8 => ?_) (fun h8 => ?_)
                · refine AOp.move rfl rfl (ltb rfl) rfl ?_
                  refine AO.guardY rfl rfl rfl h8 (AOp.move rfl rfl (ltb rfl) rfl ?_)
                  refine AO.guardY rfl rfl rfl h8 (AOp.move rfl rfl (ltb rfl) rfl ?_)
                  first | refine AO.guardY rfl rfl rfl h8 (AOp.indexDs rfl rfl (ltb rfl) rfl rfl el22 (by decide) (by omega) (by simp; omega) ?_) | refine AO.guardY rfl rfl rfl h8 (AOp.indexSl rfl rfl (ltb rfl) rfl rfl el22 (by omega) (by simp; omega) ?_)
                  refine AO.guardY rfl rfl rfl h8 (AOp.loadEp rfl rfl (ltb rfl) rfl agg47 (y := dfl (b.getD k 0)) (row_at b k (by omega)) ?_)
                  refine AO.guardY rfl rfl rfl h8 (AOp.feql rfl rfl (ltb rfl) rfl rfl ?_)
                  refine AO.op rfl (AOp.pick rfl rfl (ltb rfl) rfl h8 rfl ?_)
                  refine AO.op rfl (AOp.assign rfl rfl (ltb rfl) rfl ?_)
                  refine AO.nil ?_
                  change AC _ _ _ _
                  refine AC.region ?_
                  refine AO.op rfl (AOp.iadd rfl rfl (ltb rfl) rfl rfl rfl (by simp only [lo]; omega) (by simp only [hi]; omega) ?_)
                  refine AO.op rfl (AOp.move rfl rfl (ltb rfl) rfl ?_)
                  refine AO.nil ?_
                  have e0 : eqAll (k + 1) a b = (eqAll k a b && feq (a.getD k 0) (b.getD k 0)) := by unfold eqAll; rw [all_range_succ]
                  have e1 : eqAll (k + 1) a b = feq (a.getD k 0) (b.getD k 0) := by rw [e0, h8]; rfl
                  refine ⟨rfl, k + 1, (by show _ = some [(7, SV.d (dbool (eqAll (k + 1) a b))), (32, SV.d (dint ((k + 1 : Nat) : Int)))]; rw [e1]; rfl), rfl, rfl, ⟨by omega, by unfold nums at *; rw [all_range_succ, hk2]; simp only [Bool.not_eq_false'] at h6 h7; rw [h6, h7]; rfl⟩, (by first | omega | (dsimp only; omega))⟩
                · refine AO.guardN rfl rfl rfl (ltb rfl) rfl h8 ?_
                  refine AO.guardN rfl rfl rfl (ltb rfl) rfl h8 ?_
                  refine AO.guardN rfl rfl rfl (ltb rfl) rfl h8 ?_
                  refine AO.guardN rfl rfl rfl (ltb rfl) rfl h8 ?_
                  refine AO.guardN rfl rfl rfl (ltb rfl) rfl h8 ?_
                  refine AO.op rfl (AOp.pickN rfl rfl (ltb rfl) rfl h8 rfl ?_)
                  refine AO.op rfl (AOp.assign rfl rfl (ltb rfl) rfl ?_)
                  refine AO.nil ?_
                  change AC _ _ _ _
                  refine AC.region ?_
                  refine AO.op rfl (AOp.iadd rfl rfl (ltb rfl) rfl rfl rfl (by simp only [lo]; omega) (by simp only [hi]; omega) ?_)
                  refine AO.op rfl (AOp.move rfl rfl (ltb rfl) rfl ?_)
                  refine AO.nil ?_
                  have e0 : eqAll (k + 1) a b = (eqAll k a b && feq (a.getD k 0) (b.getD k 0)) := by unfold eqAll; rw [all_range_succ]
                  have e1 : eqAll (k + 1) a b = false := by rw [e0, h8]; rfl
                  refine ⟨rfl, k + 1, (by show _ = some [(7, SV.d (dbool (eqAll (k + 1) a b))), (32, SV.d (dint ((k + 1 : Nat) : Int)))]; rw [e1]; rfl), rfl, rfl, ⟨by omega, by unfold nums at *; rw [all_range_succ, hk2]; simp only [Bool.not_eq_false'] at h6 h7; rw [h6, h7]; rfl⟩, (by first | omega | (dsimp only; omega))⟩
            · refine AO.guardN rfl rfl rfl (ltb rfl) rfl h6 ?_
              refine AO.guardN rfl rfl rfl (ltb rfl) rfl h6 ?_
              refine AO.guardN rfl rfl rfl (ltb rfl) rfl h6 ?_
              refine AO.guardN rfl rfl rfl (ltb rfl) rfl h6 ?_
              refine AO.guardN rfl rfl rfl (ltb rfl) rfl h6 ?_
              refine AO.op rfl (AOp.pick rfl rfl (ltb rfl) rfl h6 rfl ?_)
              refine AO.nil ?_
              change AC _ _ _ _
              refine AC.condT rfl rfl ?_
              refine AC.seq ?_
              refine AC.region ?_
              refine AO.op rfl (AOp.assign rfl rfl (ltb rfl) rfl ?_)
              refine AO.nil ?_
              change AC _ _ _ _
              refine AC.ret ?_
              change RetQ _ _ _ .ret _
              refine retq rfl ?_
              first | rfl | (refine congrArg dbool ?_; simp only [BEq.rfl]; done) | contradiction | (simp only [Bool.true_eq_false, Bool.not_true] at *; done)
          · refine AC.exit ?_
            change AC _ _ _ _
            refine AC.seq ?_
            refine AC.region ?_
            have hk3 : s = k := by simp at h5; omega
            have hnum : nums a b s = true := by rw [hk3]; exact hk2
            subst hk3
            refine AO.op rfl (AOp.move rfl rfl (ltb rfl) rfl ?_)
            refine AO.op rfl (AOp.move rfl rfl (ltb rfl) rfl ?_)
            refine AO.op rfl (AOp.move rfl rfl (ltb rfl) rfl ?_)
            refine AO.op rfl (AOp.callD rfl rfl (ltb rfl) rfl (implCoordEq l a b s hsl hal hbl hlen hnum) ?_)
            rintro _ rfl
            refine AO.op rfl (AOp.move rfl rfl (ltb rfl) rfl ?_)
            first | refine AO.op rfl (AOp.extract rfl rfl (ltb rfl) rfl rfl ?_) | refine AO.op rfl (AOp.extractD rfl rfl (ltb rfl) rfl rfl ?_)
            first | refine AO.op rfl (AOp.extract rfl rfl (ltb rfl) rfl rfl ?_) | refine AO.op rfl (AOp.extractD rfl rfl (ltb rfl) rfl rfl ?_)
            refine AO.op rfl (AOp.assign rfl rfl (ltb rfl) rfl ?_)
            refine AO.op rfl (AOp.assign rfl rfl (ltb rfl) rfl ?_)
            refine AO.nil ?_
            change AC _ _ _ _
            refine AC.seq ?_
            refine AC.region ?_
            refine AO.op rfl (AOp.move rfl rfl (ltb rfl) rfl ?_)
            refine AO.op rfl (AOp.move rfl rfl (ltb rfl) rfl ?_)
            refine AO.guard rfl rfl rfl (ltb rfl) rfl (fun h9 => ?_) (fun h9 => ?_)
            · refine AOp.move rfl rfl (ltb rfl) rfl ?_
              refine AO.guardY rfl rfl rfl h9 (AOp.move rfl rfl (ltb rfl) rfl ?_)
              refine AO.guardY rfl rfl rfl h9 (AOp.beql Try.underlying4 rfl rfl (ltb rfl) rfl rfl ?_)
              refine AO.op rfl (AOp.pick rfl rfl (ltb rfl) rfl h9 rfl ?_)
              refine AO.op rfl (AOp.assign rfl rfl (ltb rfl) rfl ?_)
              refine AO.nil ?_
              change AC _ _ _ _
              refine AC.ret ?_
              change RetQ _ _ _ .ret _
              refine retq rfl ?_
              first | rfl | (refine congrArg dbool ?_; simp only [BEq.rfl]; done) | contradiction | (simp only [Bool.true_eq_false, Bool.not_true] at *; done)
            · refine AO.guardN rfl rfl rfl (ltb rfl) rfl h9 ?_
              refine AO.guardN rfl rfl rfl (ltb rfl) rfl h9 ?_
              refine AO.op rfl (AOp.pickN rfl rfl (ltb rfl) rfl h9 rfl ?_)
              refine AO.op rfl (AOp.assign rfl rfl (ltb rfl) rfl ?_)
              refine AO.nil ?_
              change AC _ _ _ _
              refine AC.ret ?_
              change RetQ _ _ _ .ret _
              refine retq rfl ?_
              first | rfl | (refine congrArg dbool ?_; simp only [BEq.rfl]; done) | contradiction | (simp only [Bool.true_eq_false, Bool.not_true] at *; done)
      · refine AO.guardN rfl rfl rfl (ltb rfl) rfl h3 ?_
        refine AO.guardN rfl rfl rfl (ltb rfl) rfl h3 ?_
        refine AO.guardN rfl rfl rfl (ltb rfl) rfl h3 ?_
        refine AO.op rfl (AOp.pick rfl rfl (ltb rfl) rfl h3 rfl ?_)
        refine AO.nil ?_
        change AC _ _ _ _
        refine AC.condT rfl rfl ?_
        refine AC.seq ?_
        refine AC.region ?_
        refine AO.op rfl (AOp.assign rfl rfl (ltb rfl) rfl ?_)
        refine AO.nil ?_
        change AC _ _ _ _
        refine AC.ret ?_
        change RetQ _ _ _ .ret _
        refine retq rfl ?_
        first | rfl | (refine congrArg dbool ?_; simp only [BEq.rfl]; done) | contradiction | (simp only [Bool.true_eq_false, Bool.not_true] at *; done)
  · refine AO.guardN rfl rfl rfl (ltb rfl) rfl h1 ?_
    refine AO.guardN rfl rfl rfl (ltb rfl) rfl h1 ?_
    refine AO.op rfl (AOp.pick rfl rfl (ltb rfl) rfl h1 rfl ?_)
    refine AO.nil ?_
    change AC _ _ _ _
    refine AC.condT rfl rfl ?_
    refine AC.seq ?_
    refine AC.region ?_
    refine AO.op rfl (AOp.assign rfl rfl (ltb rfl) rfl ?_)
    refine AO.nil ?_
    change AC _ _ _ _
    refine AC.ret ?_
    change RetQ _ _ _ .ret _
    refine retq rfl ?_
    first | rfl | (refine congrArg dbool ?_; simp only [BEq.rfl]; done) | contradiction | (simp only [Bool.true_eq_false, Bool.not_true] at *; done)

end Go.Proofs.Ytibeppgdhkjeaaa.Wk
