/- Proved: what functions of this seat answer, as contracts over the memory view; no conditions beyond those that each theorem names. -/
import Derived.Test.YtibeppgdhkjeaaaVmMore
import Derived.Test.YtibeppgdhkjeaaaProg
namespace Go.Proofs.Ytibeppgdhkjeaaa.Wk
open Go.Vm
set_option linter.unusedVariables false
set_option linter.unusedSimpArgs false
theorem agg22 : aggT Try.prog 22 = some false := by kernel_rfl
theorem agg3 : aggT Try.prog 3 = some false := by kernel_rfl
theorem agg38 : aggT Try.prog 38 = some true := by kernel_rfl
theorem agg47 : aggT Try.prog 47 = some false := by kernel_rfl
theorem agg89 : aggT Try.prog 89 = some false := by kernel_rfl
theorem agg90 : aggT Try.prog 90 = some false := by kernel_rfl
theorem el22 : elemT Try.prog 22 = some (47, 1) := by kernel_rfl
theorem el85 : elemT Try.prog 85 = some (38, 3) := by kernel_rfl
theorem el90 : elemT Try.prog 90 = some (47, 1) := by kernel_rfl
theorem fo115_0 : fieldOff Try.prog 115 0 = some 0 := by kernel_rfl
theorem fo115_1 : fieldOff Try.prog 115 1 = some 1 := by kernel_rfl
theorem fo115_2 : fieldOff Try.prog 115 2 = some 2 := by kernel_rfl
theorem fo38_0 : fieldOff Try.prog 38 0 = some 0 := by kernel_rfl
theorem fo38_1 : fieldOff Try.prog 38 1 = some 1 := by kernel_rfl
theorem fo38_2 : fieldOff Try.prog 38 2 = some 2 := by kernel_rfl
theorem idle64 (vs : Array Value) (w : World) (h : vs.size = 2) : CallsD Try.prog 64 vs .returning w fun e u' w' => e = .returned (.tuple #[]) ∧ u' = .returning ∧ w' = w := by
  obtain ⟨x0, x1, rfl⟩ : ∃ x0 x1, vs = #[x0, x1] := by
    obtain ⟨l⟩ := vs
    match l, h with
    | [x0, x1], _ => exact ⟨x0, x1, rfl⟩
  refine callsD_of_wpS Try.func64 rfl fun c₀ cs hu => ?_
  apply wpS_seq
  apply wpS_region
  simp [wpOpsS, go_sem, recoverD, hu, Try.ntmps64, Exit.thenS]
  refine wpS_cond (t := false) (by simp [Act.eval, Array.replicate]) ?_
  simp only [Bool.false_eq_true, if_false]
  refine wpS_of_wp (wp_skip ?_)
  cases c₀
  simp_all [bodyPostS, results, Try.results64]
theorem info47 : (Try.prog.info? 47).map (fun i => (i.zero, i.size, i.bytes)) = some (some (.float .f64 0), 1, 8) := by kernel_rfl
theorem mixed : Try.prog.follows .mixedOrders = true := by kernel_rfl
def pl115 : Nat → Option (Nat × Nat) := fun i => ([(0, 1), (1, 1), (2, 1)] : List (Nat × Nat))[i]?
theorem places115 : placesT Try.prog 115 = some pl115 := by kernel_rfl
theorem size38 : sizeT Try.prog 38 = some 3 := by kernel_rfl
theorem size4 : sizeT Try.prog 4 = some 1 := by kernel_rfl
theorem zero115 : (Try.prog.info? 115).map (·.zero) = some (some (.agg #[.int .i64 0, .slice none 0 0, .slice none 0 0])) := by kernel_rfl
theorem zero38 : (Try.prog.info? 38).map (·.zero) = some (some (.agg #[.int .i64 0, .slice none 0 0, .slice none 0 0])) := by kernel_rfl
theorem zero4 : (Try.prog.info? 4).map (·.zero) = some (some (.bool false)) := by kernel_rfl
/-- how many numbers a place of a layout has -/
def stride (n : Int) : Int := if n < 1 then 0 else if n = 1 then 2 else if n = 2 ∨ n = 3 then 3 else n
def lstride (n : Int) : Int := if n = 0 then 0 else if n = 1 then 2 else if n = 2 then 3 else if n = 3 then 3 else if n = 4 then 4 else n
theorem lstride_eq {n : Int} (h : 0 ≤ n) : lstride n = stride n := by unfold lstride stride; (repeat' split) <;> omega
theorem dint_eq {a b : Int} (h : a = b) : dint a = dint b := by rw [h]

set_option maxRecDepth 100000 in
/-- pub-orthodrome/spec.Stride -/
theorem strideS (n : Int) : FnD Try.prog 19 [dint n] (fun r => r = dint (stride n)) := by
  refine FnD.of (by kernel_rfl) Try.func19 rfl Try.ntmps19 rfl (leb rfl) fun W ok => ?_
  refine AC.seq ?_
  refine AC.region ?_
  refine AO.op rfl (AOp.assign rfl rfl (ltb rfl) rfl ?_)
  refine AO.nil ?_
  change AC _ _ _ _
  refine AC.seq ?_
  refine AC.block ?_
  refine AC.seq ?_
  refine AC.region ?_
  refine AO.op rfl (AOp.move rfl rfl (ltb rfl) rfl ?_)
  refine AO.op rfl (AOp.ilss rfl rfl (ltb rfl) rfl rfl ?_)
  refine AO.op rfl (AOp.assign rfl rfl (ltb rfl) rfl ?_)
  refine AO.nil ?_
  change AC _ _ _ _
  refine AC.cond rfl (fun h1 => ?_) (fun h1 => ?_)
  · refine AC.seq ?_
    refine AC.region ?_
    refine AO.op rfl (AOp.assign rfl rfl (ltb rfl) rfl ?_)
    refine AO.nil ?_
    change AC _ _ _ _
    refine AC.ret ?_
    change RetQ _ _ _ .ret _
    refine retq rfl ?_
    refine dint_eq ?_
    unfold stride
    simp at *
    all_goals ((repeat' split) <;> omega)
  · refine AC.seq ?_
    refine AC.region ?_
    refine AO.op rfl (AOp.move rfl rfl (ltb rfl) rfl ?_)
    refine AO.op rfl (AOp.ieql rfl rfl (ltb rfl) rfl rfl ?_)
    refine AO.op rfl (AOp.assign rfl rfl (ltb rfl) rfl ?_)
    refine AO.nil ?_
    change AC _ _ _ _
    refine AC.cond rfl (fun h2 => ?_) (fun h2 => ?_)
    · refine AC.seq ?_
      refine AC.region ?_
      refine AO.op rfl (AOp.assign rfl rfl (ltb rfl) rfl ?_)
      refine AO.nil ?_
      change AC _ _ _ _
      refine AC.ret ?_
      change RetQ _ _ _ .ret _
      refine retq rfl ?_
      refine dint_eq ?_
      unfold stride
      simp at *
      all_goals ((repeat' split) <;> omega)
    · refine AC.seq ?_
      refine AC.region ?_
      refine AO.op rfl (AOp.move rfl rfl (ltb rfl) rfl ?_)
      refine AO.op rfl (AOp.ieql rfl rfl (ltb rfl) rfl rfl ?_)
      refine AO.op rfl (AOp.move rfl rfl (ltb rfl) rfl ?_)
      refine AO.guard rfl rfl rfl (ltb rfl) rfl (fun h3 => ?_) (fun h3 => ?_)
      · refine AOp.move rfl rfl (ltb rfl) rfl ?_
        refine AO.guardY rfl rfl rfl h3 (AOp.ieql rfl rfl (ltb rfl) rfl rfl ?_)
        refine AO.op rfl (AOp.pickN rfl rfl (ltb rfl) rfl h3 rfl ?_)
        refine AO.op rfl (AOp.assign rfl rfl (ltb rfl) rfl ?_)
        refine AO.nil ?_
        change AC _ _ _ _
        refine AC.cond rfl (fun h4 => ?_) (fun h4 => ?_)
        · refine AC.seq ?_
          refine AC.region ?_
          refine AO.op rfl (AOp.assign rfl rfl (ltb rfl) rfl ?_)
          refine AO.nil ?_
          change AC _ _ _ _
          refine AC.ret ?_
          change RetQ _ _ _ .ret _
          refine retq rfl ?_
          refine dint_eq ?_
          unfold stride
          simp at *
          all_goals ((repeat' split) <;> omega)
        · refine AC.skip ?_
          change AC _ _ _ _
          refine AC.seq ?_
          refine AC.region ?_
          refine AO.op rfl (AOp.move rfl rfl (ltb rfl) rfl ?_)
          refine AO.op rfl (AOp.assign rfl rfl (ltb rfl) rfl ?_)
          refine AO.nil ?_
          change AC _ _ _ _
          refine AC.ret ?_
          change RetQ _ _ _ .ret _
          refine retq rfl ?_
          refine dint_eq ?_
          unfold stride
          simp at *
          all_goals ((repeat' split) <;> omega)
      · refine AO.guardN rfl rfl rfl (ltb rfl) rfl h3 ?_
        refine AO.op rfl (AOp.pick rfl rfl (ltb rfl) rfl h3 rfl ?_)
        refine AO.op rfl (AOp.assign rfl rfl (ltb rfl) rfl ?_)
        refine AO.nil ?_
        change AC _ _ _ _
        refine AC.condT rfl rfl ?_
        refine AC.seq ?_
        refine AC.region ?_
        refine AO.op rfl (AOp.assign rfl rfl (ltb rfl) rfl ?_)
        refine AO.nil ?_
        change AC _ _ _ _
        refine AC.ret ?_
        change RetQ _ _ _ .ret _
        refine retq rfl ?_
        refine dint_eq ?_
        unfold stride
        simp at *
        all_goals ((repeat' split) <;> omega)

set_option maxRecDepth 100000 in
/-- (pub-orthodrome/pub/gogeom.Layout).Stride -/
theorem strideL (n : Int) : FnD Try.prog 76 [dint n] (fun r => r = dint (lstride n)) := by
  refine FnD.of (by kernel_rfl) Try.func76 rfl Try.ntmps76 rfl (leb rfl) fun W ok => ?_
  refine AC.seq ?_
  refine AC.region ?_
  refine AO.op rfl (AOp.assign rfl rfl (ltb rfl) rfl ?_)
  refine AO.nil ?_
  change AC _ _ _ _
  refine AC.seq ?_
  refine AC.region ?_
  refine AO.op rfl (AOp.move rfl rfl (ltb rfl) rfl ?_)
  refine AO.nil ?_
  change AC _ _ _ _
  refine AC.block ?_
  refine AC.seq ?_
  refine AC.region ?_
  refine AO.op rfl (AOp.ieql rfl rfl (ltb rfl) rfl rfl ?_)
  refine AO.op rfl (AOp.assign rfl rfl (ltb rfl) rfl ?_)
  refine AO.nil ?_
  change AC _ _ _ _
  refine AC.cond rfl (fun h1 => ?_) (fun h1 => ?_)
  · refine AC.seq ?_
    refine AC.region ?_
    refine AO.op rfl (AOp.assign rfl rfl (ltb rfl) rfl ?_)
    refine AO.nil ?_
    change AC _ _ _ _
    refine AC.ret ?_
    change RetQ _ _ _ .ret _
    refine retq rfl ?_
    refine dint_eq ?_
    unfold lstride
    simp at *
    all_goals ((repeat' split) <;> omega)
  · refine AC.seq ?_
    refine AC.region ?_
    refine AO.op rfl (AOp.ieql rfl rfl (ltb rfl) rfl rfl ?_)
    refine AO.op rfl (AOp.assign rfl rfl (ltb rfl) rfl ?_)
    refine AO.nil ?_
    change AC _ _ _ _
    refine AC.cond rfl (fun h2 => ?_) (fun h2 => ?_)
    · refine AC.seq ?_
      refine AC.region ?_
      refine AO.op rfl (AOp.assign rfl rfl (ltb rfl) rfl ?_)
      refine AO.nil ?_
      change AC _ _ _ _
      refine AC.ret ?_
      change RetQ _ _ _ .ret _
      refine retq rfl ?_
      refine dint_eq ?_
      unfold lstride
      simp at *
      all_goals ((repeat' split) <;> omega)
    · refine AC.seq ?_
      refine AC.region ?_
      refine AO.op rfl (AOp.ieql rfl rfl (ltb rfl) rfl rfl ?_)
      refine AO.op rfl (AOp.assign rfl rfl (ltb rfl) rfl ?_)
      refine AO.nil ?_
      change AC _ _ _ _
      refine AC.cond rfl (fun h3 => ?_) (fun h3 => ?_)
      · refine AC.seq ?_
        refine AC.region ?_
        refine AO.op rfl (AOp.assign rfl rfl (ltb rfl) rfl ?_)
        refine AO.nil ?_
        change AC _ _ _ _
        refine AC.ret ?_
        change RetQ _ _ _ .ret _
        refine retq rfl ?_
        refine dint_eq ?_
        unfold lstride
        simp at *
        all_goals ((repeat' split) <;> omega)
      · refine AC.seq ?_
        refine AC.region ?_
        refine AO.op rfl (AOp.ieql rfl rfl (ltb rfl) rfl rfl ?_)
        refine AO.op rfl (AOp.assign rfl rfl (ltb rfl) rfl ?_)
        refine AO.nil ?_
        change AC _ _ _ _
        refine AC.cond rfl (fun h4 => ?_) (fun h4 => ?_)
        · refine AC.seq ?_
          refine AC.region ?_
          refine AO.op rfl (AOp.assign rfl rfl (ltb rfl) rfl ?_)
          refine AO.nil ?_
          change AC _ _ _ _
          refine AC.ret ?_
          change RetQ _ _ _ .ret _
          refine retq rfl ?_
          refine dint_eq ?_
          unfold lstride
          simp at *
          all_goals ((repeat' split) <;> omega)
        · refine AC.seq ?_
          refine AC.region ?_
          refine AO.op rfl (AOp.ieql rfl rfl (ltb rfl) rfl rfl ?_)
          refine AO.op rfl (AOp.assign rfl rfl (ltb rfl) rfl ?_)
          refine AO.nil ?_
          change AC _ _ _ _
          refine AC.cond rfl (fun h5 => ?_) (fun h5 => ?_)
          · refine AC.seq ?_
            refine AC.region ?_
            refine AO.op rfl (AOp.assign rfl rfl (ltb rfl) rfl ?_)
            refine AO.nil ?_
            change AC _ _ _ _
            refine AC.ret ?_
            change RetQ _ _ _ .ret _
            refine retq rfl ?_
            refine dint_eq ?_
            unfold lstride
            simp at *
            all_goals ((repeat' split) <;> omega)
          · refine AC.seq ?_
            refine AC.region ?_
            refine AO.op rfl (AOp.move rfl rfl (ltb rfl) rfl ?_)
            refine AO.op rfl (AOp.assign rfl rfl (ltb rfl) rfl ?_)
            refine AO.nil ?_
            change AC _ _ _ _
            refine AC.ret ?_
            change RetQ _ _ _ .ret _
            refine retq rfl ?_
            refine dint_eq ?_
            unfold lstride
            simp at *
            all_goals ((repeat' split) <;> omega)

def row (l : List Nat) : D := .ds 1 (l.map dfl)
def rows (ls : List (List Nat)) : D := .ds 1 (ls.map row)
theorem map_at {α β : Type} (f : α → β) (l : List α) (k : Nat) (d : α) (h : k < l.length) : (l.map f)[(k : Int).toNat * 1]? = some (f (l.getD k d)) := by
  simp [h]
theorem all_take_succ {α : Type} (p : α → Bool) (l : List α) (k : Nat) (d : α) (h : k < l.length) : (l.take (k + 1)).all p = ((l.take k).all p && p (l.getD k d)) := by
  rw [List.take_succ_eq_append_getElem h, List.all_append]
  simp [h]
theorem all_false_at {α : Type} (p : α → Bool) (l : List α) (j : Nat) (d : α) (h : j < l.length) (hf : p (l.getD j d) = false) : l.all p = false := by
  rw [List.all_eq_false]
  refine ⟨l.getD j d, ?_, by rw [hf]; decide⟩
  rw [List.getD_eq_getElem?_getD, List.getElem?_eq_getElem h]; simp

theorem all_range_succ (p : Nat → Bool) (k : Nat) : (List.range (k + 1)).all p = ((List.range k).all p && p k) := by
  rw [List.range_succ, List.all_append]; simp
theorem all_range_no {p : Nat → Bool} {n k : Nat} (h : k < n) (hp : p k = false) : (List.range n).all p = false := by
  rw [List.all_eq_false]; exact ⟨k, by simpa using h, by rw [hp]; decide⟩
theorem row_at (l : List Nat) (k : Nat) (h : k < l.length) : (l.map dfl)[(k : Int).toNat * 1]? = some (dfl (l.getD k 0)) := map_at dfl l k 0 h
def nums (a b : List Nat) (n : Nat) : Bool := (List.range n).all fun i => feq (a.getD i 0) (a.getD i 0) && feq (b.getD i 0) (b.getD i 0)
/-- what bBox asks of a box -/
def boxOK (l : Int) (a b : List Nat) : Bool := (decide (0 ≤ l) && decide (l ≤ 9) && decide ((a.length : Int) = stride l) && decide (b.length = a.length)) && nums a b a.length
theorem dbool_eq {a b : Bool} (h : a = b) : dbool a = dbool b := by rw [h]
def boxD (l : Int) (a b : List Nat) : D := .ag [dint l, row a, row b]

set_option maxRecDepth 100000 in
/-- pub-orthodrome/laws.zzFits1 -/
theorem fits1 (l : Int) (a b : List Nat) (ha : a.length ≤ maxLen) (hb : b.length ≤ maxLen) : FnD Try.prog 17 [.ag [dint l, row a, row b]] (fun r => r = dbool (decide (a.length ≤ 2147483647) && decide (b.length ≤ 2147483647))) := by
  refine FnD.of (by kernel_rfl) Try.func17 rfl Try.ntmps17 rfl (leb rfl) fun W ok => ?_
  refine AC.seq ?_
  refine AC.region ?_
  refine AO.op rfl (AOp.box rfl rfl (ltb rfl) rfl rfl ?_)
  refine AO.op rfl (AOp.assign rfl rfl (ltb rfl) rfl ?_)
  refine AO.nil ?_
  change AC _ _ _ _
  refine AC.seq ?_
  refine AC.seq ?_
  refine AC.region ?_
  first | refine AO.op rfl (AOp.fieldAddr rfl rfl (ltb rfl) rfl fo38_1 ?_) | refine AO.op rfl (AOp.fieldAddrPt rfl rfl (ltb rfl) rfl fo38_1 ?_) | refine AO.op rfl (AOp.fieldAddrEp rfl rfl (ltb rfl) rfl fo38_1 ?_)
  first | refine AO.op rfl (AOp.load1 rfl rfl (ltb rfl) rfl agg22 rfl rfl ?_) | refine AO.op rfl (AOp.loadEp rfl rfl (ltb rfl) rfl agg22 rfl ?_)
  first | refine AO.op rfl (AOp.lenDs (n := a.length) rfl rfl (ltb rfl) rfl el22 (by decide) (by simp) ?_) | refine AO.op rfl (AOp.lenOwn (n := a.length) rfl rfl (ltb rfl) rfl el22 rfl (by decide) (by simp) ?_)
  refine AO.op rfl (AOp.igtr rfl rfl (ltb rfl) rfl rfl ?_)
  refine AO.nil ?_
  change AC _ _ _ _
  refine AC.cond rfl (fun h1 => ?_) (fun h1 => ?_)
  · refine AC.seq ?_
    refine AC.region ?_
    refine AO.op rfl (AOp.assign rfl rfl (ltb rfl) rfl ?_)
    refine AO.nil ?_
    change AC _ _ _ _
    refine AC.ret ?_
    change RetQ _ _ _ .ret _
    refine retq rfl ?_
    refine congrArg dbool ?_
    simp at *
    omega
  · refine AC.skip ?_
    change AC _ _ _ _
    refine AC.seq ?_
    refine AC.seq ?_
    refine AC.region ?_
    first | refine AO.op rfl (AOp.fieldAddr rfl rfl (ltb rfl) rfl fo38_2 ?_) | refine AO.op rfl (AOp.fieldAddrPt rfl rfl (ltb rfl) rfl fo38_2 ?_) | refine AO.op rfl (AOp.fieldAddrEp rfl rfl (ltb rfl) rfl fo38_2 ?_)
    first | refine AO.op rfl (AOp.load1 rfl rfl (ltb rfl) rfl agg22 rfl rfl ?_) | refine AO.op rfl (AOp.loadEp rfl rfl (ltb rfl) rfl agg22 rfl ?_)
    first | refine AO.op rfl (AOp.lenDs (n := b.length) rfl rfl (ltb rfl) rfl el22 (by decide) (by simp) ?_) | refine AO.op rfl (AOp.lenOwn (n := b.length) rfl rfl (ltb rfl) rfl el22 rfl (by decide) (by simp) ?_)
    refine AO.op rfl (AOp.igtr rfl rfl (ltb rfl) rfl rfl ?_)
    refine AO.nil ?_
    change AC _ _ _ _
    refine AC.cond rfl (fun h2 => ?_) (fun h2 => ?_)
    · refine AC.seq ?_
      refine AC.region ?_
      refine AO.op rfl (AOp.assign rfl rfl (ltb rfl) rfl ?_)
      refine AO.nil ?_
      change AC _ _ _ _
      refine AC.ret ?_
      change RetQ _ _ _ .ret _
      refine retq rfl ?_
      refine congrArg dbool ?_
      simp at *
      omega
    · refine AC.skip ?_
      change AC _ _ _ _
      refine AC.seq ?_
      refine AC.region ?_
      refine AO.op rfl (AOp.assign rfl rfl (ltb rfl) rfl ?_)
      refine AO.nil ?_
      change AC _ _ _ _
      refine AC.ret ?_
      change RetQ _ _ _ .ret _
      refine retq rfl ?_
      refine congrArg dbool ?_
      simp at *
      omega

set_option maxRecDepth 100000 in
/-- pub-orthodrome/laws.gNumber -/
theorem gNumber (x : Nat) : FnD Try.prog 21 [dfl x] (fun r => r = dbool (feq x x)) := by
  refine FnD.of (by kernel_rfl) Try.func21 rfl Try.ntmps21 rfl (leb rfl) fun W ok => ?_
  refine AC.seq ?_
  refine AC.region ?_
  refine AO.op rfl (AOp.assign rfl rfl (ltb rfl) rfl ?_)
  refine AO.nil ?_
  change AC _ _ _ _
  refine AC.seq ?_
  refine AC.region ?_
  refine AO.op rfl (AOp.move rfl rfl (ltb rfl) rfl ?_)
  refine AO.op rfl (AOp.move rfl rfl (ltb rfl) rfl ?_)
  refine AO.op rfl (AOp.feql rfl rfl (ltb rfl) rfl rfl ?_)
  refine AO.op rfl (AOp.assign rfl rfl (ltb rfl) rfl ?_)
  refine AO.nil ?_
  change AC _ _ _ _
  refine AC.ret ?_
  change RetQ _ _ _ .ret _
  refine retq rfl ?_
  exact rfl

set_option maxRecDepth 100000 in
/-- pub-orthodrome/laws.bBox -/
theorem bBox (l : Int) (a b : List Nat) (ha : a.length < 2147483648) (hb : b.length < 2147483648) : FnD Try.prog 18 [.ds 3 [dint l, row a, row b]] (fun r => r = dbool (boxOK l a b)) := by
  refine FnD.of (by kernel_rfl) Try.func18 rfl Try.ntmps18 rfl (leb rfl) fun W ok => ?_
  refine AC.seq ?_
  refine AC.region ?_
  refine AO.op rfl (AOp.assign rfl rfl (ltb rfl) rfl ?_)
  refine AO.nil ?_
  change AC _ _ _ _
  refine AC.seq ?_
  refine AC.seq ?_
  refine AC.region ?_
  refine AO.op rfl (AOp.move rfl rfl (ltb rfl) rfl ?_)
  first | refine AO.op rfl (AOp.lenDs (n := 1) rfl rfl (ltb rfl) rfl el85 (by decide) rfl ?_) | refine AO.op rfl (AOp.lenOwn (n := 1) rfl rfl (ltb rfl) rfl el85 rfl (by decide) rfl ?_)
  refine AO.op rfl (AOp.move rfl rfl (ltb rfl) rfl ?_)
  refine AO.nil ?_
  change AC _ _ _ _
  refine AC.block ?_
  refine AC.loopV (G := Nat) [6, 7] [8] 0 (fun k => [(8, .d (dint (k : Nat)))]) (fun _ => _) (fun k => k ≤ 1 ∧ (k = 1 → boxOK l a b = true)) (fun k => 1 - k) (0) rfl rfl rfl rfl ⟨by omega, fun h => by cases h⟩ ?_
  rintro k ⟨hk, hk2⟩
  refine AC.seq ?_
  refine AC.region ?_
  refine AO.op rfl (AOp.ilss rfl rfl (ltb rfl) rfl rfl ?_)
  refine AO.nil ?_
  change AC _ _ _ _
  refine AC.seq ?_
  refine AC.cond rfl (fun h1 => ?_) (fun h1 => ?_)
  · have hk0 : k = 0 := by simp at h1; omega
    refine AC.skip ?_
    change AC _ _ _ _
    refine AC.seq ?_
    refine AC.block ?_
    refine AC.seq ?_
    refine AC.region ?_
    first | refine AO.op rfl (AOp.indexDs rfl rfl (ltb rfl) rfl rfl el85 (by decide) (by omega) (by simp; omega) ?_) | refine AO.op rfl (AOp.indexSl rfl rfl (ltb rfl) rfl rfl el85 (by omega) (by simp; omega) ?_)
    refine AO.op rfl (AOp.loadEpN rfl rfl (ltb rfl) rfl agg38 size38 (ys := [dint l, row a, row b]) (by simp [hk0]) (by rw [hk0]; rfl) ?_)
    refine AO.op rfl (AOp.alloc rfl rfl (ltb rfl) zero38 rfl ?_)
    refine AO.op rfl (AOp.store rfl rfl rfl rfl size38 rfl rfl rfl (leb rfl) ?_)
    refine AO.nil ?_
    change AC _ _ _ _
    refine AC.seq ?_
    refine AC.seq ?_
    refine AC.draw 26 mixed (by kernel_rfl) ?_
    first | refine AD.op [4] rfl (by kernel_rfl) rfl rfl (fun _ _ h => AOp.fieldAddr rfl rfl (ltb rfl) rfl fo38_0 h) ?_ | refine AD.op [4] rfl (by kernel_rfl) rfl rfl (fun _ _ h => AOp.fieldAddrPt rfl rfl (ltb rfl) rfl fo38_0 h) ?_ | refine AD.op [4] rfl (by kernel_rfl) rfl rfl (fun _ _ h => AOp.fieldAddrEp rfl rfl (ltb rfl) rfl fo38_0 h) ?_
    first | refine AD.op [12] rfl (by kernel_rfl) rfl rfl (fun _ _ h => AOp.load1 rfl rfl (ltb rfl) rfl agg3 rfl rfl h) ?_ | refine AD.op [12] rfl (by kernel_rfl) rfl rfl (fun _ _ h => AOp.loadEp rfl rfl (ltb rfl) rfl agg3 rfl h) ?_
    refine AD.op [13] rfl (by kernel_rfl) rfl rfl (fun _ _ h => AOp.ilss rfl rfl (ltb rfl) rfl rfl h) ?_
    refine AD.op [14] rfl (by kernel_rfl) rfl rfl (fun _ _ h => AOp.move rfl rfl (ltb rfl) rfl h) ?_
    refine AD.split 15 false rfl (fun h2 => ?_) (fun h2 => ?_)
    · first | refine AD.opY [4, 15] rfl rfl rfl h2 (by kernel_rfl) rfl rfl (fun _ _ h => AOp.fieldAddr rfl rfl (ltb rfl) rfl fo38_0 h) ?_ | refine AD.opY [4, 15] rfl rfl rfl h2 (by kernel_rfl) rfl rfl (fun _ _ h => AOp.fieldAddrPt rfl rfl (ltb rfl) rfl fo38_0 h) ?_ | refine AD.opY [4, 15] rfl rfl rfl h2 (by kernel_rfl) rfl rfl (fun _ _ h => AOp.fieldAddrEp rfl rfl (ltb rfl) rfl fo38_0 h) ?_
      first | refine AD.opY [15, 16] rfl rfl rfl h2 (by kernel_rfl) rfl rfl (fun _ _ h => AOp.load1 rfl rfl (ltb rfl) rfl agg3 rfl rfl h) ?_ | refine AD.opY [15, 16] rfl rfl rfl h2 (by kernel_rfl) rfl rfl (fun _ _ h => AOp.loadEp rfl rfl (ltb rfl) rfl agg3 rfl h) ?_
      refine AD.opY [15, 17] rfl rfl rfl h2 (by kernel_rfl) rfl rfl (fun _ _ h => AOp.igtr rfl rfl (ltb rfl) rfl rfl h) ?_
      refine AD.op [15, 18] rfl (by kernel_rfl) rfl rfl (fun _ _ h => AOp.pickN rfl rfl (ltb rfl) rfl h2 rfl h) ?_
      refine AD.op [19] rfl (by kernel_rfl) rfl rfl (fun _ _ h => AOp.move rfl rfl (ltb rfl) rfl h) ?_
      refine AD.split 20 false rfl (fun h3 => ?_) (fun h3 => ?_)
      · first | refine AD.opY [4, 20] rfl rfl rfl h3 (by kernel_rfl) rfl rfl (fun _ _ h => AOp.fieldAddr rfl rfl (ltb rfl) rfl fo38_1 h) ?_ | refine AD.opY [4, 20] rfl rfl rfl h3 (by kernel_rfl) rfl rfl (fun _ _ h => AOp.fieldAddrPt rfl rfl (ltb rfl) rfl fo38_1 h) ?_ | refine AD.opY [4, 20] rfl rfl rfl h3 (by kernel_rfl) rfl rfl (fun _ _ h => AOp.fieldAddrEp rfl rfl (ltb rfl) rfl fo38_1 h) ?_
        first | refine AD.opY [20, 21] rfl rfl rfl h3 (by kernel_rfl) rfl rfl (fun _ _ h => AOp.load1 rfl rfl (ltb rfl) rfl agg22 rfl rfl h) ?_ | refine AD.opY [20, 21] rfl rfl rfl h3 (by kernel_rfl) rfl rfl (fun _ _ h => AOp.loadEp rfl rfl (ltb rfl) rfl agg22 rfl h) ?_
        first | refine AD.opY [20, 22] rfl rfl rfl h3 (by kernel_rfl) rfl rfl (fun _ _ h => AOp.lenDs (n := a.length) rfl rfl (ltb rfl) rfl el22 (by decide) (by simp) h) ?_ | refine AD.opY [20, 22] rfl rfl rfl h3 (by kernel_rfl) rfl rfl (fun _ _ h => AOp.lenOwn (n := a.length) rfl rfl (ltb rfl) rfl el22 rfl (by decide) (by simp) h) ?_
        first | refine AD.opY [4, 20] rfl rfl rfl h3 (by kernel_rfl) rfl rfl (fun _ _ h => AOp.fieldAddr rfl rfl (ltb rfl) rfl fo38_0 h) ?_ | refine AD.opY [4, 20] rfl rfl rfl h3 (by kernel_rfl) rfl rfl (fun _ _ h => AOp.fieldAddrPt rfl rfl (ltb rfl) rfl fo38_0 h) ?_ | refine AD.opY [4, 20] rfl rfl rfl h3 (by kernel_rfl) rfl rfl (fun _ _ h => AOp.fieldAddrEp rfl rfl (ltb rfl) rfl fo38_0 h) ?_
        first | refine AD.opY [20, 24] rfl rfl rfl h3 (by kernel_rfl) rfl rfl (fun _ _ h => AOp.load1 rfl rfl (ltb rfl) rfl agg3 rfl rfl h) ?_ | refine AD.opY [20, 24] rfl rfl rfl h3 (by kernel_rfl) rfl rfl (fun _ _ h => AOp.loadEp rfl rfl (ltb rfl) rfl agg3 rfl h) ?_
        refine AD.opY [20, 25] rfl rfl rfl h3 (by kernel_rfl) rfl rfl (fun _ _ h => AOp.callD rfl rfl (ltb rfl) rfl (strideS _) (by rintro _ rfl; exact h)) ?_
        refine AD.opY [20, 23, 26] rfl rfl rfl h3 (by kernel_rfl) rfl rfl (fun _ _ h => AOp.ineq rfl rfl (ltb rfl) rfl rfl h) ?_
        refine AD.op [20, 27] rfl (by kernel_rfl) rfl rfl (fun _ _ h => AOp.pickN rfl rfl (ltb rfl) rfl h3 rfl h) ?_
        refine AD.op [28] rfl (by kernel_rfl) rfl rfl (fun _ _ h => AOp.move rfl rfl (ltb rfl) rfl h) ?_
        refine AD.split 29 false rfl (fun h4 => ?_) (fun h4 => ?_)
        · first | refine AD.opY [4, 29] rfl rfl rfl h4 (by kernel_rfl) rfl rfl (fun _ _ h => AOp.fieldAddr rfl rfl (ltb rfl) rfl fo38_2 h) ?_ | refine AD.opY [4, 29] rfl rfl rfl h4 (by kernel_rfl) rfl rfl (fun _ _ h => AOp.fieldAddrPt rfl rfl (ltb rfl) rfl fo38_2 h) ?_ | refine AD.opY [4, 29] rfl rfl rfl h4 (by kernel_rfl) rfl rfl (fun _ _ h => AOp.fieldAddrEp rfl rfl (ltb rfl) rfl fo38_2 h) ?_
          first | refine AD.opY [29, 30] rfl rfl rfl h4 (by kernel_rfl) rfl rfl (fun _ _ h => AOp.load1 rfl rfl (ltb rfl) rfl agg22 rfl rfl h) ?_ | refine AD.opY [29, 30] rfl rfl rfl h4 (by kernel_rfl) rfl rfl (fun _ _ h => AOp.loadEp rfl rfl (ltb rfl) rfl agg22 rfl h) ?_
          first | refine AD.opY [29, 31] rfl rfl rfl h4 (by kernel_rfl) rfl rfl (fun _ _ h => AOp.lenDs (n := b.length) rfl rfl (ltb rfl) rfl el22 (by decide) (by simp) h) ?_ | refine AD.opY [29, 31] rfl rfl rfl h4 (by kernel_rfl) rfl rfl (fun _ _ h => AOp.lenOwn (n := b.length) rfl rfl (ltb rfl) rfl el22 rfl (by decide) (by simp) h) ?_
          first | refine AD.opY [4, 29] rfl rfl rfl h4 (by kernel_rfl) rfl rfl (fun _ _ h => AOp.fieldAddr rfl rfl (ltb rfl) rfl fo38_1 h) ?_ | refine AD.opY [4, 29] rfl rfl rfl h4 (by kernel_rfl) rfl rfl (fun _ _ h => AOp.fieldAddrPt rfl rfl (ltb rfl) rfl fo38_1 h) ?_ | refine AD.opY [4, 29] rfl rfl rfl h4 (by kernel_rfl) rfl rfl (fun _ _ h => AOp.fieldAddrEp rfl rfl (ltb rfl) rfl fo38_1 h) ?_
          first | refine AD.opY [29, 33] rfl rfl rfl h4 (by kernel_rfl) rfl rfl (fun _ _ h => AOp.load1 rfl rfl (ltb rfl) rfl agg22 rfl rfl h) ?_ | refine AD.opY [29, 33] rfl rfl rfl h4 (by kernel_rfl) rfl rfl (fun _ _ h => AOp.loadEp rfl rfl (ltb rfl) rfl agg22 rfl h) ?_
          first | refine AD.opY [29, 34] rfl rfl rfl h4 (by kernel_rfl) rfl rfl (fun _ _ h => AOp.lenDs (n := a.length) rfl rfl (ltb rfl) rfl el22 (by decide) (by simp) h) ?_ | refine AD.opY [29, 34] rfl rfl rfl h4 (by kernel_rfl) rfl rfl (fun _ _ h => AOp.lenOwn (n := a.length) rfl rfl (ltb rfl) rfl el22 rfl (by decide) (by simp) h) ?_
          refine AD.opY [29, 32, 35] rfl rfl rfl h4 (by kernel_rfl) rfl rfl (fun _ _ h => AOp.ineq rfl rfl (ltb rfl) rfl rfl h) ?_
          refine AD.op [29, 36] rfl (by kernel_rfl) rfl rfl (fun _ _ h => AOp.pickN rfl rfl (ltb rfl) rfl h4 rfl h) ?_
          refine AD.done ?_
          refine AO.nil ?_
          change AC _ _ _ _
          refine AC.cond rfl (fun h5 => ?_) (fun h5 => ?_)
          · refine AC.seq ?_
            refine AC.region ?_
            refine AO.op rfl (AOp.assign rfl rfl (ltb rfl) rfl ?_)
            refine AO.nil ?_
            change AC _ _ _ _
            refine AC.ret ?_
            change RetQ _ _ _ .ret _
            refine retq rfl ?_
            refine dbool_eq ?_
            first | exact (hk2 (by simp at h1; omega)).symm | (unfold boxOK nums; rw [all_range_no hia (by simp_all)]; simp; done) | (have hg2 : ¬ ((0 ≤ l ∧ l ≤ 9) ∧ (a.length : Int) = stride l ∧ b.length = a.length) := (by simp at *; omega); unfold boxOK; simp; omega)
          · have hg : (0 ≤ l ∧ l ≤ 9) ∧ (a.length : Int) = stride l ∧ b.length = a.length := by simp at *; omega
            refine AC.skip ?_
            change AC _ _ _ _
            refine AC.seq ?_
            refine AC.region ?_
            first | refine AO.op rfl (AOp.fieldAddr rfl rfl (ltb rfl) rfl fo38_1 ?_) | refine AO.op rfl (AOp.fieldAddrPt rfl rfl (ltb rfl) rfl fo38_1 ?_) | refine AO.op rfl (AOp.fieldAddrEp rfl rfl (ltb rfl) rfl fo38_1 ?_)
            first | refine AO.op rfl (AOp.load1 rfl rfl (ltb rfl) rfl agg22 rfl rfl ?_) | refine AO.op rfl (AOp.loadEp rfl rfl (ltb rfl) rfl agg22 rfl ?_)
            first | refine AO.op rfl (AOp.lenDs (n := a.length) rfl rfl (ltb rfl) rfl el22 (by decide) (by simp) ?_) | refine AO.op rfl (AOp.lenOwn (n := a.length) rfl rfl (ltb rfl) rfl el22 rfl (by decide) (by simp) ?_)
            refine AO.op rfl (AOp.move rfl rfl (ltb rfl) rfl ?_)
            refine AO.nil ?_
            change AC _ _ _ _
            refine AC.block ?_
            refine AC.loopV (G := Nat) [4, 6, 7, 8, 40] [41] 1 (fun i => [(41, .d (dint (i : Nat)))]) (fun _ => _) (fun i => i ≤ a.length ∧ nums a b i = true) (fun i => a.length - i) (0) rfl rfl rfl rfl ⟨by omega, rfl⟩ ?_
            rintro i ⟨hi1, hi2⟩
            refine AC.seq ?_
            refine AC.region ?_
            refine AO.op rfl (AOp.ilss rfl rfl (ltb rfl) rfl rfl ?_)
            refine AO.nil ?_
            change AC _ _ _ _
            refine AC.seq ?_
            refine AC.cond rfl (fun h6 => ?_) (fun h6 => ?_)
            · have hia : i < a.length := by simpa using h6
              have hib : i < b.length := by omega
              refine AC.skip ?_
              change AC _ _ _ _
              refine AC.seq ?_
              refine AC.block ?_
              refine AC.seq ?_
              refine AC.region ?_
              refine AO.op rfl (AOp.move rfl rfl (ltb rfl) rfl ?_)
              refine AO.op rfl (AOp.assign rfl rfl (ltb rfl) rfl ?_)
              refine AO.nil ?_
              change AC _ _ _ _
              refine AC.seq ?_
              refine AC.region ?_
              first | refine AO.op rfl (AOp.fieldAddr rfl rfl (ltb rfl) rfl fo38_1 ?_) | refine AO.op rfl (AOp.fieldAddrPt rfl rfl (ltb rfl) rfl fo38_1 ?_) | refine AO.op rfl (AOp.fieldAddrEp rfl rfl (ltb rfl) rfl fo38_1 ?_)
              first | refine AO.op rfl (AOp.load1 rfl rfl (ltb rfl) rfl agg22 rfl rfl ?_) | refine AO.op rfl (AOp.loadEp rfl rfl (ltb rfl) rfl agg22 rfl ?_)
              refine AO.op rfl (AOp.move rfl rfl (ltb rfl) rfl ?_)
              first | refine AO.op rfl (AOp.indexDs rfl rfl (ltb rfl) rfl rfl el22 (by decide) (by omega) (by simp; omega) ?_) | refine AO.op rfl (AOp.indexSl rfl rfl (ltb rfl) rfl rfl el22 (by omega) (by simp; omega) ?_)
              refine AO.op rfl (AOp.loadEp rfl rfl (ltb rfl) rfl agg47 (y := dfl (a.getD i 0)) (row_at a i hia) ?_)
              refine AO.op rfl (AOp.callD rfl rfl (ltb rfl) rfl (gNumber _) ?_)
              rintro _ rfl
              refine AO.op rfl (AOp.bnot rfl rfl (ltb rfl) rfl ?_)
              refine AO.op rfl (AOp.move rfl rfl (ltb rfl) rfl ?_)
              refine AO.guard rfl rfl rfl (ltb rfl) rfl (fun h7 => ?_) (fun h7 => ?_)
              · first | refine AOp.fieldAddr rfl rfl (ltb rfl) rfl fo38_2 ?_ | refine AOp.fieldAddrPt rfl rfl (ltb rfl) rfl fo38_2 ?_ | refine AOp.fieldAddrEp rfl rfl (ltb rfl) rfl fo38_2 ?_
                first | refine AO.guardY rfl rfl rfl h7 (AOp.load1 rfl rfl (ltb rfl) rfl agg22 rfl rfl ?_) | refine AO.guardY rfl rfl rfl h7 (AOp.loadEp rfl rfl (ltb rfl) rfl agg22 rfl ?_)
                refine AO.guardY rfl rfl rfl h7 (AOp.move rfl rfl (ltb rfl) rfl ?_)
                first | refine AO.guardY rfl rfl rfl h7 (AOp.indexDs rfl rfl (ltb rfl) rfl rfl el22 (by decide) (by omega) (by simp; omega) ?_) | refine AO.guardY rfl rfl rfl h7 (AOp.indexSl rfl rfl (ltb rfl) rfl rfl el22 (by omega) (by simp; omega) ?_)
                refine AO.guardY rfl rfl rfl h7 (AOp.loadEp rfl rfl (ltb rfl) rfl agg47 (y := dfl (b.getD i 0)) (row_at b i hib) ?_)
                refine AO.guardY rfl rfl rfl h7 (AOp.callD rfl rfl (ltb rfl) rfl (gNumber _) ?_)
                rintro _ rfl
                refine AO.guardY rfl rfl rfl h7 (AOp.bnot rfl rfl (ltb rfl) rfl ?_)
                refine AO.op rfl (AOp.pickN rfl rfl (ltb rfl) rfl h7 rfl ?_)
                refine AO.nil ?_
                change AC _ _ _ _
                refine AC.cond rfl (fun h8 => ?_) (fun h8 => ?_)
                · refine AC.seq ?_
                  refine AC.region ?_
                  refine AO.op rfl (AOp.assign rfl rfl (ltb rfl) rfl ?_)
                  refine AO.nil ?_
                  change AC _ _ _ _
                  refine AC.ret ?_
                  change RetQ _ _ _ .ret _
                  refine retq rfl ?_
                  refine dbool_eq ?_
                  first | exact (hk2 (by simp at h1; omega)).symm | (unfold boxOK nums; rw [all_range_no hia (by simp_all)]; simp; done) | (have hg2 : ¬ ((0 ≤ l ∧ l ≤ 9) ∧ (a.length : Int) = stride l ∧ b.length = a.length) := (by simp at *; omega); unfold boxOK; simp; omega)
                · refine AC.skip ?_
                  change AC _ _ _ _
                  refine AC.region ?_
                  refine AO.op rfl (AOp.iadd rfl rfl (ltb rfl) rfl rfl rfl (by simp only [lo]; omega) (by simp only [hi]; omega) ?_)
                  refine AO.op rfl (AOp.move rfl rfl (ltb rfl) rfl ?_)
                  refine AO.nil ?_
                  refine ⟨rfl, i + 1, rfl, rfl, rfl, ⟨by omega, by unfold nums at *; rw [all_range_succ, hi2]; simp_all⟩, (by first | omega | (dsimp only; omega))⟩
              · refine AO.guardN rfl rfl rfl (ltb rfl) rfl h7 ?_
                refine AO.guardN rfl rfl rfl (ltb rfl) rfl h7 ?_
                refine AO.guardN rfl rfl rfl (ltb rfl) rfl h7 ?_
                refine AO.guardN rfl rfl rfl (ltb rfl) rfl h7 ?_
                refine AO.guardN rfl rfl rfl (ltb rfl) rfl h7 ?_
                refine AO.guardN rfl rfl rfl (ltb rfl) rfl h7 ?_
                refine AO.op rfl (AOp.pick rfl rfl (ltb rfl) rfl h7 rfl ?_)
                refine AO.nil ?_
                change AC _ _ _ _
                refine AC.condT rfl rfl ?_
                refine AC.seq ?_
                refine AC.region ?_
                refine AO.op rfl (AOp.assign rfl rfl (ltb rfl) rfl ?_)
                refine AO.nil ?_
                change AC _ _ _ _
                refine AC.ret ?_
                change RetQ _ _ _ .ret _
                refine retq rfl ?_
                refine dbool_eq ?_
                first | exact (hk2 (by simp at h1; omega)).symm | (unfold boxOK nums; rw [all_range_no hia (by simp_all)]; simp; done) | (have hg2 : ¬ ((0 ≤ l ∧ l ≤ 9) ∧ (a.length : Int) = stride l ∧ b.length = a.length) := (by simp at *; omega); unfold boxOK; simp; omega)
            · refine AC.exit ?_
              change AC _ _ _ _
              refine AC.region ?_
              refine AO.op rfl (AOp.iadd rfl rfl (ltb rfl) rfl rfl rfl (by simp only [lo]; omega) (by simp only [hi]; omega) ?_)
              refine AO.op rfl (AOp.move rfl rfl (ltb rfl) rfl ?_)
              refine AO.nil ?_
              refine ⟨rfl, k + 1, rfl, rfl, rfl, ⟨by omega, fun _ => by have hi3 : i = a.length := (by simp at h6; omega); subst hi3; simp [boxOK, hi2, hg]⟩, (by first | omega | (dsimp only; omega))⟩
        · refine AD.opN rfl rfl rfl (ltb rfl) rfl h4 ?_
          refine AD.opN rfl rfl rfl (ltb rfl) rfl h4 ?_
          refine AD.opN rfl rfl rfl (ltb rfl) rfl h4 ?_
          refine AD.opN rfl rfl rfl (ltb rfl) rfl h4 ?_
          refine AD.opN rfl rfl rfl (ltb rfl) rfl h4 ?_
          refine AD.opN rfl rfl rfl (ltb rfl) rfl h4 ?_
          refine AD.opN rfl rfl rfl (ltb rfl) rfl h4 ?_
          refine AD.op [29, 36] rfl (by kernel_rfl) rfl rfl (fun _ _ h => AOp.pick rfl rfl (ltb rfl) rfl h4 rfl h) ?_
          refine AD.done ?_
          refine AO.nil ?_
          change AC _ _ _ _
          refine AC.condT rfl rfl ?_
          refine AC.seq ?_
          refine AC.region ?_
          refine AO.op rfl (AOp.assign rfl rfl (ltb rfl) rfl ?_)
          refine AO.nil ?_
          change AC _ _ _ _
          refine AC.ret ?_
          change RetQ _ _ _ .ret _
          refine retq rfl ?_
          refine dbool_eq ?_
          first | exact (hk2 (by simp at h1; omega)).symm | (unfold boxOK nums; rw [all_range_no hia (by simp_all)]; simp; done) | (have hg2 : ¬ ((0 ≤ l ∧ l ≤ 9) ∧ (a.length : Int) = stride l ∧ b.length = a.length) := (by simp at *; omega); unfold boxOK; simp; omega)
      · refine AD.opN rfl rfl rfl (ltb rfl) rfl h3 ?_
        refine AD.opN rfl rfl rfl (ltb rfl) rfl h3 ?_
        refine AD.opN rfl rfl rfl (ltb rfl) rfl h3 ?_
        refine AD.opN rfl rfl rfl (ltb rfl) rfl h3 ?_
        refine AD.opN rfl rfl rfl (ltb rfl) rfl h3 ?_
        refine AD.opN rfl rfl rfl (ltb rfl) rfl h3 ?_
        refine AD.opN rfl rfl rfl (ltb rfl) rfl h3 ?_
        refine AD.op [20, 27] rfl (by kernel_rfl) rfl rfl (fun _ _ h => AOp.pick rfl rfl (ltb rfl) rfl h3 rfl h) ?_
        refine AD.op [28] rfl (by kernel_rfl) rfl rfl (fun _ _ h => AOp.move rfl rfl (ltb rfl) rfl h) ?_
        refine AD.opN rfl rfl rfl (ltb rfl) rfl rfl ?_
        refine AD.opN rfl rfl rfl (ltb rfl) rfl rfl ?_
        refine AD.opN rfl rfl rfl (ltb rfl) rfl rfl ?_
        refine AD.opN rfl rfl rfl (ltb rfl) rfl rfl ?_
        refine AD.opN rfl rfl rfl (ltb rfl) rfl rfl ?_
        refine AD.opN rfl rfl rfl (ltb rfl) rfl rfl ?_
        refine AD.opN rfl rfl rfl (ltb rfl) rfl rfl ?_
        refine AD.op [29, 36] rfl (by kernel_rfl) rfl rfl (fun _ _ h => AOp.pick rfl rfl (ltb rfl) rfl rfl rfl h) ?_
        refine AD.done ?_
        refine AO.nil ?_
        change AC _ _ _ _
        refine AC.condT rfl rfl ?_
        refine AC.seq ?_
        refine AC.region ?_
        refine AO.op rfl (AOp.assign rfl rfl (ltb rfl) rfl ?_)
        refine AO.nil ?_
        change AC _ _ _ _
        refine AC.ret ?_
        change RetQ _ _ _ .ret _
        refine retq rfl ?_
        refine dbool_eq ?_
        first | exact (hk2 (by simp at h1; omega)).symm | (unfold boxOK nums; rw [all_range_no hia (by simp_all)]; simp; done) | (have hg2 : ¬ ((0 ≤ l ∧ l ≤ 9) ∧ (a.length : Int) = stride l ∧ b.length = a.length) := (by simp at *; omega); unfold boxOK; simp; omega)
    · refine AD.opN rfl rfl rfl (ltb rfl) rfl h2 ?_
      refine AD.opN rfl rfl rfl (ltb rfl) rfl h2 ?_
      refine AD.opN rfl rfl rfl (ltb rfl) rfl h2 ?_
      refine AD.op [15, 18] rfl (by kernel_rfl) rfl rfl (fun _ _ h => AOp.pick rfl rfl (ltb rfl) rfl h2 rfl h) ?_
      refine AD.op [19] rfl (by kernel_rfl) rfl rfl (fun _ _ h => AOp.move rfl rfl (ltb rfl) rfl h) ?_
      refine AD.opN rfl rfl rfl (ltb rfl) rfl rfl ?_
      refine AD.opN rfl rfl rfl (ltb rfl) rfl rfl ?_
      refine AD.opN rfl rfl rfl (ltb rfl) rfl rfl ?_
      refine AD.opN rfl rfl rfl (ltb rfl) rfl rfl ?_
      refine AD.opN rfl rfl rfl (ltb rfl) rfl rfl ?_
      refine AD.opN rfl rfl rfl (ltb rfl) rfl rfl ?_
      refine AD.opN rfl rfl rfl (ltb rfl) rfl rfl ?_
      refine AD.op [20, 27] rfl (by kernel_rfl) rfl rfl (fun _ _ h => AOp.pick rfl rfl (ltb rfl) rfl rfl rfl h) ?_
      refine AD.op [28] rfl (by kernel_rfl) rfl rfl (fun _ _ h => AOp.move rfl rfl (ltb rfl) rfl h) ?_
      refine AD.opN rfl rfl rfl (ltb rfl) rfl rfl ?_
      refine AD.opN rfl rfl rfl (ltb rfl) rfl rfl ?_
      refine AD.opN rfl rfl rfl (ltb rfl) rfl rfl ?_
      refine AD.opN rfl rfl rfl (ltb rfl) rfl rfl ?_
      refine AD.opN rfl rfl rfl (ltb rfl) rfl rfl ?_
      refine AD.opN rfl rfl rfl (ltb rfl) rfl rfl ?_
      refine AD.opN rfl rfl rfl (ltb rfl) rfl rfl ?_
      refine AD.op [29, 36] rfl (by kernel_rfl) rfl rfl (fun _ _ h => AOp.pick rfl rfl (ltb rfl) rfl rfl rfl h) ?_
      refine AD.done ?_
      refine AO.nil ?_
      change AC _ _ _ _
      refine AC.condT rfl rfl ?_
      refine AC.seq ?_
      refine AC.region ?_
      refine AO.op rfl (AOp.assign rfl rfl (ltb rfl) rfl ?_)
      refine AO.nil ?_
      change AC _ _ _ _
      refine AC.ret ?_
      change RetQ _ _ _ .ret _
      refine retq rfl ?_
      refine dbool_eq ?_
      first | exact (hk2 (by simp at h1; omega)).symm | (unfold boxOK nums; rw [all_range_no hia (by simp_all)]; simp; done) | (have hg2 : ¬ ((0 ≤ l ∧ l ≤ 9) ∧ (a.length : Int) = stride l ∧ b.length = a.length) := (by simp at *; omega); unfold boxOK; simp; omega)
  · refine AC.exit ?_
    change AC _ _ _ _
    refine AC.seq ?_
    refine AC.region ?_
    refine AO.op rfl (AOp.assign rfl rfl (ltb rfl) rfl ?_)
    refine AO.nil ?_
    change AC _ _ _ _
    refine AC.ret ?_
    change RetQ _ _ _ .ret _
    refine retq rfl ?_
    refine dbool_eq ?_
    first | exact (hk2 (by simp at h1; omega)).symm | (unfold boxOK nums; rw [all_range_no hia (by simp_all)]; simp; done) | (have hg2 : ¬ ((0 ≤ l ∧ l ≤ 9) ∧ (a.length : Int) = stride l ∧ b.length = a.length) := (by simp at *; omega); unfold boxOK; simp; omega)

set_option maxRecDepth 100000 in
/-- pub-orthodrome/impl.floats -/
theorem floats (l : List Nat) (hl : l.length ≤ 4294967296) : FnD Try.prog 44 [row l] (fun r => r = row l) := by
  refine FnD.of (by kernel_rfl) Try.func44 rfl Try.ntmps44 rfl (leb rfl) fun W ok => ?_
  refine AC.seq ?_
  refine AC.region ?_
  refine AO.op rfl (AOp.assign rfl rfl (ltb rfl) rfl ?_)
  refine AO.nil ?_
  change AC _ _ _ _
  refine AC.seq ?_
  refine AC.region ?_
  refine AO.op rfl (AOp.move rfl rfl (ltb rfl) rfl ?_)
  refine AO.op rfl (AOp.appendNil (m := l.length) rfl rfl (ltb rfl) rfl rfl el22 info47 rfl (by decide) (by simp) (by intro x hx; simp at hx; obtain ⟨y, _, rfl⟩ := hx; rfl) (by simp only [maxLen]; omega) (by omega) ?_)
  refine AO.op rfl (AOp.assign rfl rfl (ltb rfl) rfl ?_)
  refine AO.nil ?_
  change AC _ _ _ _
  refine AC.ret ?_
  change RetQ _ _ _ .ret _
  refine retq rfl ?_
  exact rfl

set_option maxRecDepth 100000 in
/-- pub-orthodrome/pub/gogeom.DoorBounds -/
theorem doorBounds (l : Int) (a b : List Nat) : FnD Try.prog 75 [dint l, row a, row b] (fun r => r = .pt [dint l, row a, row b]) := by
  refine FnD.of (by kernel_rfl) Try.func75 rfl Try.ntmps75 rfl (leb rfl) fun W ok => ?_
  refine AC.seq ?_
  refine AC.region ?_
  refine AO.op rfl (AOp.assign rfl rfl (ltb rfl) rfl ?_)
  refine AO.nil ?_
  change AC _ _ _ _
  refine AC.seq ?_
  refine AC.region ?_
  refine AO.op rfl (AOp.move rfl rfl (ltb rfl) rfl ?_)
  refine AO.op rfl (AOp.move rfl rfl (ltb rfl) rfl ?_)
  refine AO.op rfl (AOp.move rfl rfl (ltb rfl) rfl ?_)
  refine AO.op rfl (AOp.build rfl rfl (ltb rfl) zero115 rfl places115 rfl rfl ?_)
  refine AO.op rfl (AOp.box rfl rfl (ltb rfl) rfl rfl ?_)
  refine AO.op rfl (AOp.assign rfl rfl (ltb rfl) rfl ?_)
  refine AO.nil ?_
  change AC _ _ _ _
  refine AC.ret ?_
  change RetQ _ _ _ .ret _
  refine retq rfl ?_
  exact rfl

set_option maxRecDepth 100000 in
/-- pub-orthodrome/impl.box -/
theorem implBox (l : Int) (a b : List Nat) (ha : a.length < 2147483648) (hb : b.length < 2147483648) : FnD Try.prog 48 [.ag [dint l, row a, row b]] (fun r => r = .pt [dint l, row a, row b]) := by
  refine FnD.of (by kernel_rfl) Try.func48 rfl Try.ntmps48 rfl (leb rfl) fun W ok => ?_
  refine AC.seq ?_
  refine AC.region ?_
  refine AO.op rfl (AOp.box rfl rfl (ltb rfl) rfl rfl ?_)
  refine AO.op rfl (AOp.assign rfl rfl (ltb rfl) rfl ?_)
  refine AO.nil ?_
  change AC _ _ _ _
  refine AC.seq ?_
  refine AC.draw 10 mixed (by kernel_rfl) ?_
  first | refine AD.op [1] rfl (by kernel_rfl) rfl rfl (fun _ _ h => AOp.fieldAddr rfl rfl (ltb rfl) rfl fo38_0 h) ?_ | refine AD.op [1] rfl (by kernel_rfl) rfl rfl (fun _ _ h => AOp.fieldAddrPt rfl rfl (ltb rfl) rfl fo38_0 h) ?_ | refine AD.op [1] rfl (by kernel_rfl) rfl rfl (fun _ _ h => AOp.fieldAddrEp rfl rfl (ltb rfl) rfl fo38_0 h) ?_
  first | refine AD.op [3] rfl (by kernel_rfl) rfl rfl (fun _ _ h => AOp.load1 rfl rfl (ltb rfl) rfl agg3 rfl rfl h) ?_ | refine AD.op [3] rfl (by kernel_rfl) rfl rfl (fun _ _ h => AOp.loadEp rfl rfl (ltb rfl) rfl agg3 rfl h) ?_
  first | refine AD.op [1] rfl (by kernel_rfl) rfl rfl (fun _ _ h => AOp.fieldAddr rfl rfl (ltb rfl) rfl fo38_1 h) ?_ | refine AD.op [1] rfl (by kernel_rfl) rfl rfl (fun _ _ h => AOp.fieldAddrPt rfl rfl (ltb rfl) rfl fo38_1 h) ?_ | refine AD.op [1] rfl (by kernel_rfl) rfl rfl (fun _ _ h => AOp.fieldAddrEp rfl rfl (ltb rfl) rfl fo38_1 h) ?_
  first | refine AD.op [5] rfl (by kernel_rfl) rfl rfl (fun _ _ h => AOp.load1 rfl rfl (ltb rfl) rfl agg22 rfl rfl h) ?_ | refine AD.op [5] rfl (by kernel_rfl) rfl rfl (fun _ _ h => AOp.loadEp rfl rfl (ltb rfl) rfl agg22 rfl h) ?_
  refine AD.op [6] rfl (by kernel_rfl) rfl rfl (fun _ _ h => AOp.callD rfl rfl (ltb rfl) rfl (floats a (by omega)) (by rintro _ rfl; exact h)) ?_
  first | refine AD.op [1] rfl (by kernel_rfl) rfl rfl (fun _ _ h => AOp.fieldAddr rfl rfl (ltb rfl) rfl fo38_2 h) ?_ | refine AD.op [1] rfl (by kernel_rfl) rfl rfl (fun _ _ h => AOp.fieldAddrPt rfl rfl (ltb rfl) rfl fo38_2 h) ?_ | refine AD.op [1] rfl (by kernel_rfl) rfl rfl (fun _ _ h => AOp.fieldAddrEp rfl rfl (ltb rfl) rfl fo38_2 h) ?_
  first | refine AD.op [8] rfl (by kernel_rfl) rfl rfl (fun _ _ h => AOp.load1 rfl rfl (ltb rfl) rfl agg22 rfl rfl h) ?_ | refine AD.op [8] rfl (by kernel_rfl) rfl rfl (fun _ _ h => AOp.loadEp rfl rfl (ltb rfl) rfl agg22 rfl h) ?_
  refine AD.op [9] rfl (by kernel_rfl) rfl rfl (fun _ _ h => AOp.callD rfl rfl (ltb rfl) rfl (floats b (by omega)) (by rintro _ rfl; exact h)) ?_
  refine AD.op [4, 7, 10] rfl (by kernel_rfl) rfl rfl (fun _ _ h => AOp.callD rfl rfl (ltb rfl) rfl (doorBounds _ _ _) (by rintro _ rfl; exact h)) ?_
  refine AD.op [11] rfl (by kernel_rfl) rfl rfl (fun _ _ h => AOp.assign rfl rfl (ltb rfl) rfl h) ?_
  refine AD.done ?_
  refine AO.nil ?_
  change AC _ _ _ _
  refine AC.ret ?_
  change RetQ _ _ _ .ret _
  refine retq rfl ?_
  exact rfl

def noLess (s : Nat) (a b : List Nat) : Bool := (List.range s).all fun i => !(flt (b.getD i 0) (a.getD i 0))

set_option maxRecDepth 100000 in
/-- pub-orthodrome/spec.BoxEmpty -/
theorem boxEmpty (l : Int) (a b : List Nat) (s : Nat) (hs : stride l = s) (hl0 : 0 ≤ l) (hal : a.length = s) (hbl : b.length = s) (hlen : s < 2147483648) : FnD Try.prog 34 [.ag [dint l, row a, row b]] (fun r => r = dbool (decide (l = 0) || !noLess s a b)) := by
  refine FnD.of (by kernel_rfl) Try.func34 rfl Try.ntmps34 rfl (leb rfl) fun W ok => ?_
  refine AC.seq ?_
  refine AC.region ?_
  refine AO.op rfl (AOp.box rfl rfl (ltb rfl) rfl rfl ?_)
  refine AO.op rfl (AOp.assign rfl rfl (ltb rfl) rfl ?_)
  refine AO.nil ?_
  change AC _ _ _ _
  refine AC.seq ?_
  refine AC.seq ?_
  refine AC.region ?_
  first | refine AO.op rfl (AOp.fieldAddr rfl rfl (ltb rfl) rfl fo38_1 ?_) | refine AO.op rfl (AOp.fieldAddrPt rfl rfl (ltb rfl) rfl fo38_1 ?_) | refine AO.op rfl (AOp.fieldAddrEp rfl rfl (ltb rfl) rfl fo38_1 ?_)
  first | refine AO.op rfl (AOp.load1 rfl rfl (ltb rfl) rfl agg22 rfl rfl ?_) | refine AO.op rfl (AOp.loadEp rfl rfl (ltb rfl) rfl agg22 rfl ?_)
  first | refine AO.op rfl (AOp.lenDs (n := a.length) rfl rfl (ltb rfl) rfl el22 (by decide) (by simp) ?_) | refine AO.op rfl (AOp.lenOwn (n := a.length) rfl rfl (ltb rfl) rfl el22 rfl (by decide) (by simp) ?_)
  refine AO.op rfl (AOp.move rfl rfl (ltb rfl) rfl ?_)
  refine AO.nil ?_
  change AC _ _ _ _
  refine AC.block ?_
  refine AC.loopV (G := Nat) [1, 6] [7] 1 (fun k => [(7, .d (dint (k : Nat)))]) (fun _ => _) (fun k => k ≤ s ∧ noLess k a b = true) (fun k => s - k) (0) rfl rfl rfl rfl ⟨by omega, rfl⟩ ?_
  rintro k ⟨hk, hk2⟩
  refine AC.seq ?_
  refine AC.region ?_
  refine AO.op rfl (AOp.ilss rfl rfl (ltb rfl) rfl rfl ?_)
  refine AO.nil ?_
  change AC _ _ _ _
  refine AC.seq ?_
  refine AC.cond rfl (fun h1 => ?_) (fun h1 => ?_)
  · have hlt : k < s := by simp at h1; omega
    refine AC.skip ?_
    change AC _ _ _ _
    refine AC.seq ?_
    refine AC.block ?_
    refine AC.seq ?_
    refine AC.region ?_
    refine AO.op rfl (AOp.move rfl rfl (ltb rfl) rfl ?_)
    refine AO.op rfl (AOp.assign rfl rfl (ltb rfl) rfl ?_)
    refine AO.nil ?_
    change AC _ _ _ _
    refine AC.seq ?_
    refine AC.draw 11 mixed (by kernel_rfl) ?_
    first | refine AD.op [1] rfl (by kernel_rfl) rfl rfl (fun _ _ h => AOp.fieldAddr rfl rfl (ltb rfl) rfl fo38_2 h) ?_ | refine AD.op [1] rfl (by kernel_rfl) rfl rfl (fun _ _ h => AOp.fieldAddrPt rfl rfl (ltb rfl) rfl fo38_2 h) ?_ | refine AD.op [1] rfl (by kernel_rfl) rfl rfl (fun _ _ h => AOp.fieldAddrEp rfl rfl (ltb rfl) rfl fo38_2 h) ?_
    first | refine AD.op [10] rfl (by kernel_rfl) rfl rfl (fun _ _ h => AOp.load1 rfl rfl (ltb rfl) rfl agg22 rfl rfl h) ?_ | refine AD.op [10] rfl (by kernel_rfl) rfl rfl (fun _ _ h => AOp.loadEp rfl rfl (ltb rfl) rfl agg22 rfl h) ?_
    refine AD.op [3] rfl (by kernel_rfl) rfl rfl (fun _ _ h => AOp.move rfl rfl (ltb rfl) rfl h) ?_
    first | refine AD.op [11, 12] rfl (by kernel_rfl) rfl rfl (fun _ _ h => AOp.indexDs rfl rfl (ltb rfl) rfl rfl el22 (by decide) (by omega) (by simp; omega) h) ?_ | refine AD.op [11, 12] rfl (by kernel_rfl) rfl rfl (fun _ _ h => AOp.indexSl rfl rfl (ltb rfl) rfl rfl el22 (by omega) (by simp; omega) h) ?_
    refine AD.op [13] rfl (by kernel_rfl) rfl rfl (fun _ _ h => AOp.loadEp rfl rfl (ltb rfl) rfl agg47 (y := dfl (b.getD k 0)) (row_at b k (by omega)) h) ?_
    first | refine AD.op [1] rfl (by kernel_rfl) rfl rfl (fun _ _ h => AOp.fieldAddr rfl rfl (ltb rfl) rfl fo38_1 h) ?_ | refine AD.op [1] rfl (by kernel_rfl) rfl rfl (fun _ _ h => AOp.fieldAddrPt rfl rfl (ltb rfl) rfl fo38_1 h) ?_ | refine AD.op [1] rfl (by kernel_rfl) rfl rfl (fun _ _ h => AOp.fieldAddrEp rfl rfl (ltb rfl) rfl fo38_1 h) ?_
    first | refine AD.op [15] rfl (by kernel_rfl) rfl rfl (fun _ _ h => AOp.load1 rfl rfl (ltb rfl) rfl agg22 rfl rfl h) ?_ | refine AD.op [15] rfl (by kernel_rfl) rfl rfl (fun _ _ h => AOp.loadEp rfl rfl (ltb rfl) rfl agg22 rfl h) ?_
    refine AD.op [3] rfl (by kernel_rfl) rfl rfl (fun _ _ h => AOp.move rfl rfl (ltb rfl) rfl h) ?_
    first | refine AD.op [16, 17] rfl (by kernel_rfl) rfl rfl (fun _ _ h => AOp.indexDs rfl rfl (ltb rfl) rfl rfl el22 (by decide) (by omega) (by simp; omega) h) ?_ | refine AD.op [16, 17] rfl (by kernel_rfl) rfl rfl (fun _ _ h => AOp.indexSl rfl rfl (ltb rfl) rfl rfl el22 (by omega) (by simp; omega) h) ?_
    refine AD.op [18] rfl (by kernel_rfl) rfl rfl (fun _ _ h => AOp.loadEp rfl rfl (ltb rfl) rfl agg47 (y := dfl (a.getD k 0)) (row_at a k (by omega)) h) ?_
    refine AD.op [14, 19] rfl (by kernel_rfl) rfl rfl (fun _ _ h => AOp.flss rfl rfl (ltb rfl) rfl rfl h) ?_
    refine AD.done ?_
    refine AO.nil ?_
    change AC _ _ _ _
    refine AC.cond rfl (fun h2 => ?_) (fun h2 => ?_)
    · refine AC.seq ?_
      refine AC.region ?_
      refine AO.op rfl (AOp.assign rfl rfl (ltb rfl) rfl ?_)
      refine AO.nil ?_
      change AC _ _ _ _
      refine AC.ret ?_
      change RetQ _ _ _ .ret _
      refine retq rfl ?_
      refine dbool_eq ?_
      first | (unfold noLess; rw [all_range_no hlt (by simp_all)]; simp; done) | (have hk3 : k = s := (by simp at h1; omega); subst hk3; rw [hk2]; simp_all; done) | (simp_all; done)
    · refine AC.skip ?_
      change AC _ _ _ _
      refine AC.region ?_
      refine AO.op rfl (AOp.iadd rfl rfl (ltb rfl) rfl rfl rfl (by simp only [lo]; omega) (by simp only [hi]; omega) ?_)
      refine AO.op rfl (AOp.move rfl rfl (ltb rfl) rfl ?_)
      refine AO.nil ?_
      refine ⟨rfl, k + 1, rfl, rfl, rfl, ⟨by omega, by unfold noLess at *; rw [all_range_succ, hk2]; simp_all⟩, (by first | omega | (dsimp only; omega))⟩
  · refine AC.exit ?_
    change AC _ _ _ _
    refine AC.seq ?_
    refine AC.region ?_
    first | refine AO.op rfl (AOp.fieldAddr rfl rfl (ltb rfl) rfl fo38_0 ?_) | refine AO.op rfl (AOp.fieldAddrPt rfl rfl (ltb rfl) rfl fo38_0 ?_) | refine AO.op rfl (AOp.fieldAddrEp rfl rfl (ltb rfl) rfl fo38_0 ?_)
    first | refine AO.op rfl (AOp.load1 rfl rfl (ltb rfl) rfl agg3 rfl rfl ?_) | refine AO.op rfl (AOp.loadEp rfl rfl (ltb rfl) rfl agg3 rfl ?_)
    refine AO.op rfl (AOp.ieql rfl rfl (ltb rfl) rfl rfl ?_)
    refine AO.op rfl (AOp.assign rfl rfl (ltb rfl) rfl ?_)
    refine AO.nil ?_
    change AC _ _ _ _
    refine AC.ret ?_
    change RetQ _ _ _ .ret _
    refine retq rfl ?_
    refine dbool_eq ?_
    first | (unfold noLess; rw [all_range_no hlt (by simp_all)]; simp; done) | (have hk3 : k = s := (by simp at h1; omega); subst hk3; rw [hk2]; simp_all; done) | (simp_all; done)

set_option maxRecDepth 100000 in
/-- (*pub-orthodrome/pub/gogeom.Bounds).IsEmpty -/
theorem isEmpty (l : Int) (a b : List Nat) (s : Nat) (hs : stride l = s) (hl0 : 0 ≤ l) (hal : a.length = s) (hbl : b.length = s) (hlen : s < 2147483648) : FnD Try.prog 65 [.pt [dint l, row a, row b]] (fun r => r = dbool (decide (l = 0) || !noLess s a b)) := by
  refine FnD.of (by kernel_rfl) Try.func65 rfl Try.ntmps65 rfl (leb rfl) fun W ok => ?_
  refine AC.seq ?_
  refine AC.region ?_
  refine AO.op rfl (AOp.assign rfl rfl (ltb rfl) rfl ?_)
  refine AO.nil ?_
  change AC _ _ _ _
  refine AC.seq ?_
  refine AC.seq ?_
  refine AC.region ?_
  refine AO.op rfl (AOp.move rfl rfl (ltb rfl) rfl ?_)
  refine AO.op rfl (AOp.nilCheck rfl rfl (ltb rfl) rfl rfl ?_)
  first | refine AO.op rfl (AOp.fieldAddr rfl rfl (ltb rfl) rfl fo115_0 ?_) | refine AO.op rfl (AOp.fieldAddrPt rfl rfl (ltb rfl) rfl fo115_0 ?_) | refine AO.op rfl (AOp.fieldAddrEp rfl rfl (ltb rfl) rfl fo115_0 ?_)
  first | refine AO.op rfl (AOp.load1 rfl rfl (ltb rfl) rfl agg89 rfl rfl ?_) | refine AO.op rfl (AOp.loadEp rfl rfl (ltb rfl) rfl agg89 rfl ?_)
  refine AO.op rfl (AOp.ieql rfl rfl (ltb rfl) rfl rfl ?_)
  refine AO.nil ?_
  change AC _ _ _ _
  refine AC.cond rfl (fun h1 => ?_) (fun h1 => ?_)
  · refine AC.seq ?_
    refine AC.region ?_
    refine AO.op rfl (AOp.assign rfl rfl (ltb rfl) rfl ?_)
    refine AO.nil ?_
    change AC _ _ _ _
    refine AC.ret ?_
    change RetQ _ _ _ .ret _
    refine retq rfl ?_
    refine dbool_eq ?_
    first | (unfold noLess; rw [all_range_no hlt (by simp_all)]; simp; done) | (have hk3 : k = s := (by have := lstride_eq hl0; simp at h2; omega); subst hk3; rw [hk2]; simp_all; done) | (simp_all; done)
  · refine AC.skip ?_
    change AC _ _ _ _
    refine AC.seq ?_
    refine AC.seq ?_
    refine AC.region ?_
    refine AO.op rfl (AOp.move rfl rfl (ltb rfl) rfl ?_)
    refine AO.op rfl (AOp.nilCheck rfl rfl (ltb rfl) rfl rfl ?_)
    first | refine AO.op rfl (AOp.fieldAddr rfl rfl (ltb rfl) rfl fo115_0 ?_) | refine AO.op rfl (AOp.fieldAddrPt rfl rfl (ltb rfl) rfl fo115_0 ?_) | refine AO.op rfl (AOp.fieldAddrEp rfl rfl (ltb rfl) rfl fo115_0 ?_)
    first | refine AO.op rfl (AOp.load1 rfl rfl (ltb rfl) rfl agg89 rfl rfl ?_) | refine AO.op rfl (AOp.loadEp rfl rfl (ltb rfl) rfl agg89 rfl ?_)
    refine AO.op rfl (AOp.callD rfl rfl (ltb rfl) rfl (strideL _) ?_)
    rintro _ rfl
    refine AO.op rfl (AOp.assign rfl rfl (ltb rfl) rfl ?_)
    refine AO.op rfl (AOp.assign rfl rfl (ltb rfl) rfl ?_)
    refine AO.nil ?_
    change AC _ _ _ _
    refine AC.block ?_
    refine AC.loopV (G := Nat) [0, 4] [3] 0 (fun k => [(3, .d (dint (k : Nat)))]) (fun _ => _) (fun k => k ≤ s ∧ noLess k a b = true) (fun k => s - k) (0) rfl rfl rfl rfl ⟨by omega, rfl⟩ ?_
    rintro k ⟨hk, hk2⟩
    refine AC.seq ?_
    refine AC.seq ?_
    refine AC.region ?_
    refine AO.op rfl (AOp.move rfl rfl (ltb rfl) rfl ?_)
    refine AO.op rfl (AOp.move rfl rfl (ltb rfl) rfl ?_)
    refine AO.op rfl (AOp.ilss rfl rfl (ltb rfl) rfl rfl ?_)
    refine AO.nil ?_
    change AC _ _ _ _
    refine AC.cond rfl (fun h2 => ?_) (fun h2 => ?_)
    · have hlt : k < s := by have := lstride_eq hl0; simp at h2; omega
      refine AC.skip ?_
      change AC _ _ _ _
      refine AC.seq ?_
      refine AC.block ?_
      refine AC.seq ?_
      refine AC.draw 15 mixed (by kernel_rfl) ?_
      refine AD.op [0] rfl (by kernel_rfl) rfl rfl (fun _ _ h => AOp.move rfl rfl (ltb rfl) rfl h) ?_
      refine AD.op [20] rfl (by kernel_rfl) rfl rfl (fun _ _ h => AOp.nilCheck rfl rfl (ltb rfl) rfl rfl h) ?_
      first | refine AD.op [21] rfl (by kernel_rfl) rfl rfl (fun _ _ h => AOp.fieldAddr rfl rfl (ltb rfl) rfl fo115_2 h) ?_ | refine AD.op [21] rfl (by kernel_rfl) rfl rfl (fun _ _ h => AOp.fieldAddrPt rfl rfl (ltb rfl) rfl fo115_2 h) ?_ | refine AD.op [21] rfl (by kernel_rfl) rfl rfl (fun _ _ h => AOp.fieldAddrEp rfl rfl (ltb rfl) rfl fo115_2 h) ?_
      first | refine AD.op [22] rfl (by kernel_rfl) rfl rfl (fun _ _ h => AOp.load1 rfl rfl (ltb rfl) rfl agg90 rfl rfl h) ?_ | refine AD.op [22] rfl (by kernel_rfl) rfl rfl (fun _ _ h => AOp.loadEp rfl rfl (ltb rfl) rfl agg90 rfl h) ?_
      refine AD.op [3] rfl (by kernel_rfl) rfl rfl (fun _ _ h => AOp.move rfl rfl (ltb rfl) rfl h) ?_
      first | refine AD.op [23, 24] rfl (by kernel_rfl) rfl rfl (fun _ _ h => AOp.indexDs rfl rfl (ltb rfl) rfl rfl el90 (by decide) (by omega) (by simp; omega) h) ?_ | refine AD.op [23, 24] rfl (by kernel_rfl) rfl rfl (fun _ _ h => AOp.indexSl rfl rfl (ltb rfl) rfl rfl el90 (by omega) (by simp; omega) h) ?_
      refine AD.op [25] rfl (by kernel_rfl) rfl rfl (fun _ _ h => AOp.loadEp rfl rfl (ltb rfl) rfl agg47 (y := dfl (b.getD k 0)) (row_at b k (by omega)) h) ?_
      refine AD.op [0] rfl (by kernel_rfl) rfl rfl (fun _ _ h => AOp.move rfl rfl (ltb rfl) rfl h) ?_
      refine AD.op [27] rfl (by kernel_rfl) rfl rfl (fun _ _ h => AOp.nilCheck rfl rfl (ltb rfl) rfl rfl h) ?_
      first | refine AD.op [28] rfl (by kernel_rfl) rfl rfl (fun _ _ h => AOp.fieldAddr rfl rfl (ltb rfl) rfl fo115_1 h) ?_ | refine AD.op [28] rfl (by kernel_rfl) rfl rfl (fun _ _ h => AOp.fieldAddrPt rfl rfl (ltb rfl) rfl fo115_1 h) ?_ | refine AD.op [28] rfl (by kernel_rfl) rfl rfl (fun _ _ h => AOp.fieldAddrEp rfl rfl (ltb rfl) rfl fo115_1 h) ?_
      first | refine AD.op [29] rfl (by kernel_rfl) rfl rfl (fun _ _ h => AOp.load1 rfl rfl (ltb rfl) rfl agg90 rfl rfl h) ?_ | refine AD.op [29] rfl (by kernel_rfl) rfl rfl (fun _ _ h => AOp.loadEp rfl rfl (ltb rfl) rfl agg90 rfl h) ?_
      refine AD.op [3] rfl (by kernel_rfl) rfl rfl (fun _ _ h => AOp.move rfl rfl (ltb rfl) rfl h) ?_
      first | refine AD.op [30, 31] rfl (by kernel_rfl) rfl rfl (fun _ _ h => AOp.indexDs rfl rfl (ltb rfl) rfl rfl el90 (by decide) (by omega) (by simp; omega) h) ?_ | refine AD.op [30, 31] rfl (by kernel_rfl) rfl rfl (fun _ _ h => AOp.indexSl rfl rfl (ltb rfl) rfl rfl el90 (by omega) (by simp; omega) h) ?_
      refine AD.op [32] rfl (by kernel_rfl) rfl rfl (fun _ _ h => AOp.loadEp rfl rfl (ltb rfl) rfl agg47 (y := dfl (a.getD k 0)) (row_at a k (by omega)) h) ?_
      refine AD.op [26, 33] rfl (by kernel_rfl) rfl rfl (fun _ _ h => AOp.flss rfl rfl (ltb rfl) rfl rfl h) ?_
      refine AD.done ?_
      refine AO.nil ?_
      change AC _ _ _ _
      refine AC.cond rfl (fun h3 => ?_) (fun h3 => ?_)
      · refine AC.seq ?_
        refine AC.region ?_
        refine AO.op rfl (AOp.assign rfl rfl (ltb rfl) rfl ?_)
        refine AO.nil ?_
        change AC _ _ _ _
        refine AC.ret ?_
        change RetQ _ _ _ .ret _
        refine retq rfl ?_
        refine dbool_eq ?_
        first | (unfold noLess; rw [all_range_no hlt (by simp_all)]; simp; done) | (have hk3 : k = s := (by have := lstride_eq hl0; simp at h2; omega); subst hk3; rw [hk2]; simp_all; done) | (simp_all; done)
      · refine AC.skip ?_
        change AC _ _ _ _
        refine AC.region ?_
        refine AO.op rfl (AOp.move rfl rfl (ltb rfl) rfl ?_)
        refine AO.op rfl (AOp.iadd rfl rfl (ltb rfl) rfl rfl rfl (by simp only [lo]; omega) (by simp only [hi]; omega) ?_)
        refine AO.op rfl (AOp.assign rfl rfl (ltb rfl) rfl ?_)
        refine AO.nil ?_
        refine ⟨rfl, k + 1, rfl, rfl, rfl, ⟨by omega, by unfold noLess at *; rw [all_range_succ, hk2]; simp_all⟩, (by first | omega | (dsimp only; omega))⟩
    · refine AC.exit ?_
      change AC _ _ _ _
      refine AC.seq ?_
      refine AC.region ?_
      refine AO.op rfl (AOp.assign rfl rfl (ltb rfl) rfl ?_)
      refine AO.nil ?_
      change AC _ _ _ _
      refine AC.ret ?_
      change RetQ _ _ _ .ret _
      refine retq rfl ?_
      refine dbool_eq ?_
      first | (unfold noLess; rw [all_range_no hlt (by simp_all)]; simp; done) | (have hk3 : k = s := (by have := lstride_eq hl0; simp at h2; omega); subst hk3; rw [hk2]; simp_all; done) | (simp_all; done)

set_option maxRecDepth 100000 in
/-- pub-orthodrome/impl.BoxIsEmpty -/
theorem implIsEmpty (l : Int) (a b : List Nat) (s : Nat) (hs : stride l = s) (hl0 : 0 ≤ l) (hal : a.length = s) (hbl : b.length = s) (hlen : s < 2147483648) : FnD Try.prog 33 [.ag [dint l, row a, row b]] (fun r => r = .tu [dbool (decide (l = 0) || !noLess s a b), dbool true]) := by
  refine FnD.wrap (g := 64) (m := 2) (fun vs w h => idle64 vs w h) (by kernel_rfl) Try.func33 rfl Try.ntmps33 rfl (leb rfl) fun W ok => ?_
  refine AW.seq ?_
  refine AC.region ?_
  refine AO.op rfl (AOp.box rfl rfl (ltb rfl) rfl rfl ?_)
  refine AO.op rfl (AOp.alloc rfl rfl (ltb rfl) zero4 rfl ?_)
  refine AO.op rfl (AOp.alloc rfl rfl (ltb rfl) zero4 rfl ?_)
  refine AO.nil ?_
  refine ⟨rfl, ?_⟩
  refine AW.defer (caps := [.tmp 2, .tmp 3]) rfl rfl rfl (ltb rfl) rfl rfl rfl rfl (by kernel_rfl) rfl fun df => ?_
  refine AC.seq ?_
  refine AC.region ?_
  first | refine AO.op rfl (AOp.loadN rfl rfl (ltb rfl) rfl agg38 size38 rfl (leb rfl) rfl ?_) | refine AO.op rfl (AOp.loadEpN rfl rfl (ltb rfl) rfl agg38 size38 (leb rfl) rfl ?_)
  refine AO.op rfl (AOp.callD rfl rfl (ltb rfl) rfl (implBox _ _ _ (by omega) (by omega)) ?_)
  rintro _ rfl
  refine AO.op rfl (AOp.callD rfl rfl (ltb rfl) rfl (isEmpty l a b s hs hl0 hal hbl hlen) ?_)
  rintro _ rfl
  refine AO.op rfl (AOp.store rfl rfl rfl rfl size4 rfl rfl rfl (leb rfl) ?_)
  refine AO.op rfl (AOp.store rfl rfl rfl rfl size4 rfl rfl rfl (leb rfl) ?_)
  refine AO.nil ?_
  change AC _ _ _ _
  refine AC.ret ?_
  change RetQ _ _ _ .ret _
  refine retq rfl ?_
  exact rfl

set_option maxRecDepth 100000 in
/-- pub-orthodrome/laws.FnBoxIsEmpty -/
theorem lawBoxIsEmpty (l : Int) (a b : List Nat) (ha0 : a.length ≤ maxLen) (hb0 : b.length ≤ maxLen) : FnD Try.prog 8 [.ag [dint l, row a, row b]] (fun r => r = dbool true) := by
  refine FnD.of (by kernel_rfl) Try.func8 rfl Try.ntmps8 rfl (leb rfl) fun W ok => ?_
  refine AC.seq ?_
  refine AC.region ?_
  refine AO.op rfl (AOp.box rfl rfl (ltb rfl) rfl rfl ?_)
  refine AO.op rfl (AOp.assign rfl rfl (ltb rfl) rfl ?_)
  refine AO.nil ?_
  change AC _ _ _ _
  refine AC.seq ?_
  refine AC.seq ?_
  refine AC.region ?_
  first | refine AO.op rfl (AOp.loadN rfl rfl (ltb rfl) rfl agg38 size38 rfl (leb rfl) rfl ?_) | refine AO.op rfl (AOp.loadEpN rfl rfl (ltb rfl) rfl agg38 size38 (leb rfl) rfl ?_)
  refine AO.op rfl (AOp.callD rfl rfl (ltb rfl) rfl (fits1 l a b ha0 hb0) ?_)
  rintro _ rfl
  refine AO.op rfl (AOp.bnot rfl rfl (ltb rfl) rfl ?_)
  refine AO.nil ?_
  change AC _ _ _ _
  refine AC.cond rfl (fun h1 => ?_) (fun h1 => ?_)
  · refine AC.seq ?_
    refine AC.region ?_
    refine AO.op rfl (AOp.assign rfl rfl (ltb rfl) rfl ?_)
    refine AO.nil ?_
    change AC _ _ _ _
    refine AC.ret ?_
    change RetQ _ _ _ .ret _
    refine retq rfl ?_
    first | rfl | (refine congrArg dbool ?_; simp only [BEq.rfl]; done) | contradiction | (simp only [Bool.true_eq_false, Bool.not_true] at *; done)
  · refine AC.skip ?_
    change AC _ _ _ _
    refine AC.seq ?_
    refine AC.seq ?_
    refine AC.region ?_
    first | refine AO.op rfl (AOp.loadN rfl rfl (ltb rfl) rfl agg38 size38 rfl (leb rfl) rfl ?_) | refine AO.op rfl (AOp.loadEpN rfl rfl (ltb rfl) rfl agg38 size38 (leb rfl) rfl ?_)
    refine AO.op rfl (AOp.buildSliceD rfl rfl (ltb rfl) el85 zero38 rfl (leb rfl) rfl rfl rfl rfl ?_)
    refine AO.op rfl (AOp.callD rfl rfl (ltb rfl) rfl (bBox l a b (by simp at h1; omega) (by simp at h1; omega)) ?_)
    rintro _ rfl
    refine AO.op rfl (AOp.bnot rfl rfl (ltb rfl) rfl ?_)
    refine AO.nil ?_
    change AC _ _ _ _
    refine AC.cond rfl (fun h2 => ?_) (fun h2 => ?_)
    · refine AC.seq ?_
      refine AC.region ?_
      refine AO.op rfl (AOp.assign rfl rfl (ltb rfl) rfl ?_)
      refine AO.nil ?_
      change AC _ _ _ _
      refine AC.ret ?_
      change RetQ _ _ _ .ret _
      refine retq rfl ?_
      first | rfl | (refine congrArg dbool ?_; simp only [BEq.rfl]; done) | contradiction | (simp only [Bool.true_eq_false, Bool.not_true] at *; done)
    · refine AC.skip ?_
      change AC _ _ _ _
      refine AC.seq ?_
      refine AC.region ?_
      have f1 : a.length ≤ 2147483647 ∧ b.length ≤ 2147483647 := by simpa using h1
      have f3 : boxOK l a b = true := by simpa using h2
      obtain ⟨s, hal⟩ : ∃ s, a.length = s := ⟨_, rfl⟩
      have f4 : ((0 ≤ l ∧ l ≤ 9) ∧ (a.length : Int) = stride l) ∧ b.length = a.length := by unfold boxOK at f3; simp at f3; exact f3.1
      have hs : stride l = s := by omega
      have hl0 : 0 ≤ l := f4.1.1.1
      have hbl : b.length = s := by omega
      have hlen : s < 2147483648 := by omega
      first | refine AO.op rfl (AOp.loadN rfl rfl (ltb rfl) rfl agg38 size38 rfl (leb rfl) rfl ?_) | refine AO.op rfl (AOp.loadEpN rfl rfl (ltb rfl) rfl agg38 size38 (leb rfl) rfl ?_)
      refine AO.op rfl (AOp.callD rfl rfl (ltb rfl) rfl (implIsEmpty l a b s hs hl0 hal hbl hlen) ?_)
      rintro _ rfl
      refine AO.op rfl (AOp.move rfl rfl (ltb rfl) rfl ?_)
      first | refine AO.op rfl (AOp.extract rfl rfl (ltb rfl) rfl rfl ?_) | refine AO.op rfl (AOp.extractD rfl rfl (ltb rfl) rfl rfl ?_)
      first | refine AO.op rfl (AOp.extract rfl rfl (ltb rfl) rfl rfl ?_) | refine AO.op rfl (AOp.extractD rfl rfl (ltb rfl) rfl rfl ?_)
      refine AO.op rfl (AOp.assign rfl rfl (ltb rfl) rfl ?_)
      refine AO.op rfl (AOp.assign rfl rfl (ltb rfl) rfl ?_)
      refine AO.nil ?_
      change AC _ _ _ _
      refine AC.seq ?_
      refine AC.region ?_
      refine AO.op rfl (AOp.move rfl rfl (ltb rfl) rfl ?_)
      refine AO.op rfl (AOp.move rfl rfl (ltb rfl) rfl ?_)
      refine AO.guard rfl rfl rfl (ltb rfl) rfl (fun h3 => ?_) (fun h3 => ?_)
      · refine AOp.move rfl rfl (ltb rfl) rfl ?_
        first | refine AO.guardY rfl rfl rfl h3 (AOp.loadN rfl rfl (ltb rfl) rfl agg38 size38 rfl (leb rfl) rfl ?_) | refine AO.guardY rfl rfl rfl h3 (AOp.loadEpN rfl rfl (ltb rfl) rfl agg38 size38 (leb rfl) rfl ?_)
        refine AO.guardY rfl rfl rfl h3 (AOp.callD rfl rfl (ltb rfl) rfl (boxEmpty l a b s hs hl0 hal hbl hlen) ?_)
        rintro _ rfl
        refine AO.guardY rfl rfl rfl h3 (AOp.beql Try.underlying4 rfl rfl (ltb rfl) rfl rfl ?_)
        refine AO.op rfl (AOp.pick rfl rfl (ltb rfl) rfl h3 rfl ?_)
        refine AO.op rfl (AOp.assign rfl rfl (ltb rfl) rfl ?_)
        refine AO.nil ?_
        change AC _ _ _ _
        refine AC.ret ?_
        change RetQ _ _ _ .ret _
        refine retq rfl ?_
        first | rfl | (refine congrArg dbool ?_; simp only [BEq.rfl]; done) | contradiction | (simp only [Bool.true_eq_false, Bool.not_true] at *; done)
      · refine AO.guardN rfl rfl rfl (ltb rfl) rfl h3 ?_
        refine AO.guardN rfl rfl rfl (ltb rfl) rfl h3 ?_
        refine AO.guardN rfl rfl rfl (ltb rfl) rfl h3 ?_
        refine AO.op rfl (AOp.pickN rfl rfl (ltb rfl) rfl h3 rfl ?_)
        refine AO.op rfl (AOp.assign rfl rfl (ltb rfl) rfl ?_)
        refine AO.nil ?_
        change AC _ _ _ _
        refine AC.ret ?_
        change RetQ _ _ _ .ret _
        refine retq rfl ?_
        first | rfl | (refine congrArg dbool ?_; simp only [BEq.rfl]; done) | contradiction | (simp only [Bool.true_eq_false, Bool.not_true] at *; done)

end Go.Proofs.Ytibeppgdhkjeaaa.Wk
