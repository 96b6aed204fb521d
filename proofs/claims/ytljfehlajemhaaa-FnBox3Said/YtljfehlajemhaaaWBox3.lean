/- Proved: what functions of this seat answer, as contracts over the memory view; no conditions beyond those that each theorem names. -/
import Derived.Test.YtljfehlajemhaaaFltMin
import Derived.Test.YtljfehlajemhaaaProg
namespace Go.Proofs.Ytljfehlajemhaaa.Wk
open Go.Vm
set_option linter.unusedVariables false
set_option linter.unusedSimpArgs false
theorem agg22 : aggT Try.prog 22 = some false := by kernel_rfl
theorem agg29 : aggT Try.prog 29 = some true := by kernel_rfl
theorem agg53 : aggT Try.prog 53 = some true := by kernel_rfl
theorem agg56 : aggT Try.prog 56 = some false := by kernel_rfl
theorem agg73 : aggT Try.prog 73 = some true := by kernel_rfl
theorem eg53 : Try.prog.eqGuardType Try.prog.depth 53 = false := by kernel_rfl
theorem el56 : elemT Try.prog 56 = some (22, 1) := by kernel_rfl
theorem el58 : elemT Try.prog 58 = some (56, 1) := by kernel_rfl
theorem el71 : elemT Try.prog 71 = some (29, 3) := by kernel_rfl
theorem eq53 (a0 : Nat) (a1 : Nat) (a2 : Nat) (a3 : Nat) (a4 : Nat) (a5 : Nat) (b0 : Nat) (b1 : Nat) (b2 : Nat) (b3 : Nat) (b4 : Nat) (b5 : Nat) : eqT Try.prog 9 53 [.float .f64 a0, .float .f64 a1, .float .f64 a2, .float .f64 a3, .float .f64 a4, .float .f64 a5] [.float .f64 b0, .float .f64 b1, .float .f64 b2, .float .f64 b3, .float .f64 b4, .float .f64 b5] = some ((feq a0 b0 && (feq a1 b1 && (feq a2 b2 && true))) && ((feq a3 b3 && (feq a4 b4 && (feq a5 b5 && true))) && true)) := by kernel_rfl
theorem fo29_0 : fieldOff Try.prog 29 0 = some 0 := by kernel_rfl
theorem fo29_1 : fieldOff Try.prog 29 1 = some 1 := by kernel_rfl
theorem fo29_2 : fieldOff Try.prog 29 2 = some 2 := by kernel_rfl
theorem fo53_0 : fieldOff Try.prog 53 0 = some 0 := by kernel_rfl
theorem fo53_1 : fieldOff Try.prog 53 1 = some 3 := by kernel_rfl
theorem fo73_0 : fieldOff Try.prog 73 0 = some 0 := by kernel_rfl
theorem fo73_1 : fieldOff Try.prog 73 1 = some 1 := by kernel_rfl
theorem fo73_2 : fieldOff Try.prog 73 2 = some 2 := by kernel_rfl
theorem fo87_0 : fieldOff Try.prog 87 0 = some 0 := by kernel_rfl
theorem fo87_1 : fieldOff Try.prog 87 1 = some 3 := by kernel_rfl
theorem mixed : Try.prog.follows .mixedOrders = true := by kernel_rfl
def pl29 : Nat → Option (Nat × Nat) := fun i => ([(0, 1), (1, 1), (2, 1)] : List (Nat × Nat))[i]?
theorem places29 : placesT Try.prog 29 = some pl29 := by kernel_rfl
def pl53 : Nat → Option (Nat × Nat) := fun i => ([(0, 3), (3, 3)] : List (Nat × Nat))[i]?
theorem places53 : placesT Try.prog 53 = some pl53 := by kernel_rfl
def pl73 : Nat → Option (Nat × Nat) := fun i => ([(0, 1), (1, 1), (2, 1)] : List (Nat × Nat))[i]?
theorem places73 : placesT Try.prog 73 = some pl73 := by kernel_rfl
def pl87 : Nat → Option (Nat × Nat) := fun i => ([(0, 3), (3, 3)] : List (Nat × Nat))[i]?
theorem places87 : placesT Try.prog 87 = some pl87 := by kernel_rfl
theorem size29 : sizeT Try.prog 29 = some 3 := by kernel_rfl
theorem size53 : sizeT Try.prog 53 = some 6 := by kernel_rfl
theorem size73 : sizeT Try.prog 73 = some 3 := by kernel_rfl
theorem size87 : sizeT Try.prog 87 = some 6 := by kernel_rfl
theorem zero22 : (Try.prog.info? 22).map (·.zero) = some (some (.float .f64 0)) := by kernel_rfl
theorem zero29 : (Try.prog.info? 29).map (·.zero) = some (some (.agg #[.float .f64 0, .float .f64 0, .float .f64 0])) := by kernel_rfl
theorem zero53 : (Try.prog.info? 53).map (·.zero) = some (some (.agg #[.float .f64 0, .float .f64 0, .float .f64 0, .float .f64 0, .float .f64 0, .float .f64 0])) := by kernel_rfl
theorem zero56 : (Try.prog.info? 56).map (·.zero) = some (some (.slice none 0 0)) := by kernel_rfl
theorem zero73 : (Try.prog.info? 73).map (·.zero) = some (some (.agg #[.float .f64 0, .float .f64 0, .float .f64 0])) := by kernel_rfl
theorem zero87 : (Try.prog.info? 87).map (·.zero) = some (some (.agg #[.float .f64 0, .float .f64 0, .float .f64 0, .float .f64 0, .float .f64 0, .float .f64 0])) := by kernel_rfl
open Flt (truncD okF inR K20)
def notNan (x : Nat) : Prop := (FloatKind.f64.decode x).isNaN = false
def truncS (x : Nat) (d : Ieee.Datum) : Sem Value :=
  match d with
  | .nan s t =>
    if FloatKind.f64.format.quiet t = t then pure (.float .f64 x) else do
      let kept ← choose (.extern "math.Floor,Ceil,Trunc,RoundToEven.signallingNaN kept" 2)
      pure (.float .f64 (if kept == 1 then x else FloatKind.f64.encode (.nan s (FloatKind.f64.format.quiet t))))
  | d => pure (.float .f64 (FloatKind.f64.encode (d.integral .zero)))
theorem run_trunc (P : Program) (x : Nat) (h : notNan x) (w : World) : (Extern.MathFloor.toIntegral "math.archTrunc" .zero #[.float .f64 x]).run P w = .ok (.float .f64 (truncD x)) w := by
  unfold notNan at h
  have e : Extern.MathFloor.toIntegral "math.archTrunc" .zero #[.float .f64 x] = truncS x (FloatKind.f64.decode x) := rfl
  have e2 : ∀ d : Ieee.Datum, d.isNaN = false → truncS x d = pure (.float .f64 (FloatKind.f64.encode (d.integral .zero))) := by
    intro d hd
    cases d with
    | nan s t => cases hd
    | number s m e => rfl
    | infinity s => rfl
  rw [e, e2 _ h]
  rfl

theorem callTrunc (x : Nat) (h : notNan x) (w : World) : (callFunc 61 #[.float .f64 x]).run Try.prog w = .ok (.value (.float .f64 (truncD x))) w := by
  rw [run_callFunc_extern Try.func61 (by kernel_rfl) (by kernel_rfl) (by kernel_rfl) (e := Extern.MathFloor.toIntegral "math.archTrunc" .zero) (by kernel_rfl), run_trunc Try.prog x h]
  rfl

theorem inR_nn (m x : Nat) (h : fle x m = true) : notNan x := by
  unfold fle at h
  unfold notNan
  unfold Ieee.Format.order at h
  show (Ieee.double.read x).isNaN = false
  generalize Ieee.double.read x = d at *
  cases d with
  | nan s t => simp [Ieee.Datum.order] at h
  | number s m e => rfl
  | infinity s => rfl

set_option maxRecDepth 100000 in
/-- math.Trunc -/
theorem trunc (x : Nat) (h : notNan x) : FnD Try.prog 46 [dfl x] (fun r => r = dfl (truncD x)) := by
  refine FnD.of (by kernel_rfl) Try.func46 rfl Try.ntmps46 rfl (leb rfl) fun W ok => ?_
  refine AC.seq ?_
  refine AC.region ?_
  refine AO.op rfl (AOp.assign rfl rfl (ltb rfl) rfl ?_)
  refine AO.nil ?_
  change AC _ _ _ _
  refine AC.seq ?_
  refine AC.condT rfl rfl ?_
  refine AC.seq ?_
  refine AC.region ?_
  refine AO.op rfl (AOp.move rfl rfl (ltb rfl) rfl ?_)
  refine AO.op rfl (AOp.callX [.float .f64 x] rfl rfl (ltb rfl) rfl (callTrunc x h) ?_)
  refine AO.op rfl (AOp.assign rfl rfl (ltb rfl) rfl ?_)
  refine AO.nil ?_
  change AC _ _ _ _
  refine AC.ret ?_
  change RetQ _ _ _ .ret _
  refine retq rfl ?_
  exact rfl

def row (l : List Nat) : D := .ds 1 (l.map dfl)
def rows (ls : List (List Nat)) : D := .ds 1 (ls.map row)
theorem map_at {α β : Type} (f : α → β) (l : List α) (k : Nat) (d : α) (h : k < l.length) : (l.map f)[(k : Int).toNat * 1]? = some (f (l.getD k d)) := by
  simp [h]
theorem all_take_succ {α : Type} (p : α → Bool) (l : List α) (k : Nat) (d : α) (h : k < l.length) : (l.take (k + 1)).all p = ((l.take k).all p && p (l.getD k d)) := by
  rw [List.take_succ_eq_append_getElem h, List.all_append]
  simp [h]
theorem all_false_at {α : Type} (p : α → Bool) (l : List α) (j : Nat) (d : α) (h : j < l.length) (hf : p (l.getD j d) = false) : l.all p = false := by
  rw [List.all_eq_false]
  refine ⟨l.getD j d, ?_, by rw [hf]; decide⟩
  rw [List.getD_eq_getElem?_getD, List.getElem?_eq_getElem h]; simp

/-- what Grid tells -/
def rowB (n m : Nat) (l : List Nat) : Bool := decide (l.length = n) && l.all (okF m)
def gridB (ls : List (List Nat)) (n m : Nat) : Bool := ls.all (rowB n m) && decide (0 < n)
theorem grid_no {ls : List (List Nat)} {n m k : Nat} {l : List Nat} (hl0 : l = ls.getD k []) (hlt : k < ls.length) (h : rowB n m l = false) : dbool false = dbool (gridB ls n m) := by
  unfold gridB
  rw [all_false_at (rowB n m) ls k [] hlt (by rw [← hl0]; exact h)]; rfl
theorem row_no {n m j x : Nat} {l : List Nat} (hx0 : x = l.getD j 0) (hj : j < l.length) (h : okF m x = false) : rowB n m l = false := by
  unfold rowB
  rw [all_false_at (okF m) l j 0 hj (by rw [← hx0]; exact h), Bool.and_false]

set_option maxRecDepth 100000 in
/-- pub-orthodrome/spec.Grid -/
theorem grid (ls : List (List Nat)) (n m : Nat) (hls : ls.length < 4611686018427387904) (hl : ∀ l, l ∈ ls → l.length < 4611686018427387904) : FnD Try.prog 24 [rows ls, dint n, dfl m] (fun r => r = dbool (gridB ls n m)) := by
  refine FnD.of (by kernel_rfl) Try.func24 rfl Try.ntmps24 rfl (leb rfl) fun W ok => ?_
  refine AC.seq ?_
  refine AC.region ?_
  refine AO.op rfl (AOp.assign rfl rfl (ltb rfl) rfl ?_)
  refine AO.nil ?_
  change AC _ _ _ _
  refine AC.seq ?_
  refine AC.seq ?_
  refine AC.region ?_
  refine AO.op rfl (AOp.move rfl rfl (ltb rfl) rfl ?_)
  first | refine AO.op rfl (AOp.lenDs (n := ls.length) rfl rfl (ltb rfl) rfl el58 (by decide) (by simp) ?_) | refine AO.op rfl (AOp.lenOwn (n := ls.length) rfl rfl (ltb rfl) rfl el58 rfl (by decide) (by simp) ?_)
  refine AO.op rfl (AOp.move rfl rfl (ltb rfl) rfl ?_)
  refine AO.nil ?_
  change AC _ _ _ _
  refine AC.block ?_
  refine AC.loopV (G := Nat) [1, 2, 11, 12] [13] 0 (fun k => [(13, .d (dint (k : Nat)))]) (fun _ => _) (fun k => k ≤ ls.length ∧ (ls.take k).all (rowB n m) = true) (fun k => ls.length - k) (0) rfl rfl rfl rfl ⟨by omega, rfl⟩ ?_
  rintro k ⟨hk, hk2⟩
  refine AC.seq ?_
  refine AC.region ?_
  refine AO.op rfl (AOp.ilss rfl rfl (ltb rfl) rfl rfl ?_)
  refine AO.nil ?_
  change AC _ _ _ _
  refine AC.seq ?_
  refine AC.cond rfl (fun h1 => ?_) (fun h1 => ?_)
  · have hlt : k < ls.length := by simpa using h1
    obtain ⟨l, hl0⟩ : ∃ l, l = ls.getD k [] := ⟨_, rfl⟩
    have hll : l.length < 4611686018427387904 := hl l (by rw [hl0]; simp [hlt])
    refine AC.skip ?_
    change AC _ _ _ _
    refine AC.seq ?_
    refine AC.block ?_
    refine AC.seq ?_
    refine AC.region ?_
    first | refine AO.op rfl (AOp.indexDs rfl rfl (ltb rfl) rfl rfl el58 (by decide) (by omega) (by simp; omega) ?_) | refine AO.op rfl (AOp.indexSl rfl rfl (ltb rfl) rfl rfl el58 (by omega) (by simp; omega) ?_)
    refine AO.op rfl (AOp.loadEp rfl rfl (ltb rfl) rfl agg56 (y := row l) (by rw [hl0]; exact map_at row ls k [] hlt) ?_)
    refine AO.op rfl (AOp.assign rfl rfl (ltb rfl) rfl ?_)
    refine AO.nil ?_
    change AC _ _ _ _
    refine AC.seq ?_
    refine AC.seq ?_
    refine AC.region ?_
    refine AO.op rfl (AOp.move rfl rfl (ltb rfl) rfl ?_)
    first | refine AO.op rfl (AOp.lenDs (n := l.length) rfl rfl (ltb rfl) rfl el56 (by decide) (by simp) ?_) | refine AO.op rfl (AOp.lenOwn (n := l.length) rfl rfl (ltb rfl) rfl el56 rfl (by decide) (by simp) ?_)
    refine AO.op rfl (AOp.move rfl rfl (ltb rfl) rfl ?_)
    refine AO.op rfl (AOp.ineq rfl rfl (ltb rfl) rfl rfl ?_)
    refine AO.nil ?_
    change AC _ _ _ _
    refine AC.cond rfl (fun h2 => ?_) (fun h2 => ?_)
    · refine AC.seq ?_
      refine AC.region ?_
      refine AO.op rfl (AOp.assign rfl rfl (ltb rfl) rfl ?_)
      refine AO.nil ?_
      change AC _ _ _ _
      refine AC.ret ?_
      change RetQ _ _ _ .ret _
      refine retq rfl ?_
      exact grid_no hl0 hlt (by simp at h2; simp [rowB]; omega)
    · refine AC.skip ?_
      change AC _ _ _ _
      refine AC.seq ?_
      refine AC.region ?_
      refine AO.op rfl (AOp.move rfl rfl (ltb rfl) rfl ?_)
      first | refine AO.op rfl (AOp.lenDs (n := l.length) rfl rfl (ltb rfl) rfl el56 (by decide) (by simp) ?_) | refine AO.op rfl (AOp.lenOwn (n := l.length) rfl rfl (ltb rfl) rfl el56 rfl (by decide) (by simp) ?_)
      refine AO.op rfl (AOp.move rfl rfl (ltb rfl) rfl ?_)
      refine AO.nil ?_
      change AC _ _ _ _
      refine AC.block ?_
      refine AC.loopV (G := Nat) [1, 2, 11, 12, 13, 21, 22] [23] 0 (fun j => [(23, .d (dint (j : Nat)))]) (fun _ => _) (fun j => j ≤ l.length ∧ (l.take j).all (okF m) = true) (fun j => l.length - j) (0) rfl rfl rfl rfl ⟨by omega, rfl⟩ ?_
      rintro j ⟨hj1, hj2⟩
      refine AC.seq ?_
      refine AC.region ?_
      refine AO.op rfl (AOp.ilss rfl rfl (ltb rfl) rfl rfl ?_)
      refine AO.nil ?_
      change AC _ _ _ _
      refine AC.seq ?_
      refine AC.cond rfl (fun h3 => ?_) (fun h3 => ?_)
      · have hj : j < l.length := by simpa using h3
        obtain ⟨x, hx0⟩ : ∃ x, x = l.getD j 0 := ⟨_, rfl⟩
        refine AC.skip ?_
        change AC _ _ _ _
        refine AC.seq ?_
        refine AC.block ?_
        refine AC.seq ?_
        refine AC.region ?_
        first | refine AO.op rfl (AOp.indexDs rfl rfl (ltb rfl) rfl rfl el56 (by decide) (by omega) (by simp; omega) ?_) | refine AO.op rfl (AOp.indexSl rfl rfl (ltb rfl) rfl rfl el56 (by omega) (by simp; omega) ?_)
        refine AO.op rfl (AOp.loadEp rfl rfl (ltb rfl) rfl agg22 (y := dfl x) (by rw [hx0]; exact map_at dfl l j 0 hj) ?_)
        refine AO.op rfl (AOp.assign rfl rfl (ltb rfl) rfl ?_)
        refine AO.nil ?_
        change AC _ _ _ _
        refine AC.seq ?_
        refine AC.region ?_
        refine AO.op rfl (AOp.move rfl rfl (ltb rfl) rfl ?_)
        refine AO.op rfl (AOp.move rfl rfl (ltb rfl) rfl ?_)
        first | refine AO.op rfl (AOp.fneg rfl rfl (ltb rfl) rfl ?_) | refine AO.op rfl (AOp.ineg rfl rfl (ltb rfl) rfl rfl (by first | decide | (simp only [lo]; omega)) (by first | decide | (simp only [hi]; omega)) ?_)
        refine AO.op rfl (AOp.fgeq rfl rfl (ltb rfl) rfl rfl ?_)
        refine AO.op rfl (AOp.move rfl rfl (ltb rfl) rfl ?_)
        refine AO.guard rfl rfl rfl (ltb rfl) rfl (fun h4 => ?_) (fun h4 => ?_)
        · refine AOp.move rfl rfl (ltb rfl) rfl ?_
          refine AO.guardY rfl rfl rfl h4 (AOp.move rfl rfl (ltb rfl) rfl ?_)
          refine AO.guardY rfl rfl rfl h4 (AOp.fleq rfl rfl (ltb rfl) rfl rfl ?_)
          refine AO.op rfl (AOp.pick rfl rfl (ltb rfl) rfl h4 rfl ?_)
          refine AO.op rfl (AOp.bnot rfl rfl (ltb rfl) rfl ?_)
          refine AO.op rfl (AOp.move rfl rfl (ltb rfl) rfl ?_)
          refine AO.guard rfl rfl rfl (ltb rfl) rfl (fun h5 => ?_) (fun h5 => ?_)
          · refine AOp.move rfl rfl (ltb rfl) rfl ?_
            refine AO.guardY rfl rfl rfl h5 (AOp.move rfl rfl (ltb rfl) rfl ?_)
            refine AO.guardY rfl rfl rfl h5 (AOp.callD rfl rfl (ltb rfl) rfl (trunc _ (inR_nn m _ (by simpa using h5))) ?_)
            rintro _ rfl
            refine AO.guardY rfl rfl rfl h5 (AOp.fneq rfl rfl (ltb rfl) rfl rfl ?_)
            refine AO.op rfl (AOp.pickN rfl rfl (ltb rfl) rfl h5 rfl ?_)
            refine AO.nil ?_
            change AC _ _ _ _
            refine AC.cond rfl (fun h6 => ?_) (fun h6 => ?_)
            · refine AC.seq ?_
              refine AC.region ?_
              refine AO.op rfl (AOp.assign rfl rfl (ltb rfl) rfl ?_)
              refine AO.nil ?_
              change AC _ _ _ _
              refine AC.ret ?_
              change RetQ _ _ _ .ret _
              refine retq rfl ?_
              exact grid_no hl0 hlt (row_no hx0 hj (by simp_all [okF, inR]))
            · refine AC.skip ?_
              change AC _ _ _ _
              refine AC.region ?_
              refine AO.op rfl (AOp.iadd rfl rfl (ltb rfl) rfl rfl rfl (by simp only [lo]; omega) (by simp only [hi]; omega) ?_)
              refine AO.op rfl (AOp.move rfl rfl (ltb rfl) rfl ?_)
              refine AO.nil ?_
              refine ⟨rfl, j + 1, rfl, rfl, rfl, ⟨by omega, by rw [all_take_succ (okF m) l j 0 hj, hj2, ← hx0]; simp_all [okF, inR]⟩, (by first | omega | (dsimp only; omega))⟩
          · refine AO.guardN rfl rfl rfl (ltb rfl) rfl h5 ?_
            refine AO.guardN rfl rfl rfl (ltb rfl) rfl h5 ?_
            refine AO.guardN rfl rfl rfl (ltb rfl) rfl h5 ?_
            refine AO.op rfl (AOp.pick rfl rfl (ltb rfl) rfl h5 rfl ?_)
            refine AO.nil ?_
            change AC _ _ _ _
            refine AC.condT rfl rfl ?_
            refine AC.seq ?_
            refine AC.region ?_
            refine AO.op rfl (AOp.assign rfl rfl (ltb rfl) rfl ?_)
            refine AO.nil ?_
            change AC _ _ _ _
            refine AC.ret ?_
            change RetQ _ _ _ .ret _
            refine retq rfl ?_
            exact grid_no hl0 hlt (row_no hx0 hj (by simp_all [okF, inR]))
        · refine AO.guardN rfl rfl rfl (ltb rfl) rfl h4 ?_
          refine AO.guardN rfl rfl rfl (ltb rfl) rfl h4 ?_
          refine AO.op rfl (AOp.pickN rfl rfl (ltb rfl) rfl h4 rfl ?_)
          refine AO.op rfl (AOp.bnot rfl rfl (ltb rfl) rfl ?_)
          refine AO.op rfl (AOp.move rfl rfl (ltb rfl) rfl ?_)
          refine AO.guardN rfl rfl rfl (ltb rfl) rfl rfl ?_
          refine AO.guardN rfl rfl rfl (ltb rfl) rfl rfl ?_
          refine AO.guardN rfl rfl rfl (ltb rfl) rfl rfl ?_
          refine AO.guardN rfl rfl rfl (ltb rfl) rfl rfl ?_
          refine AO.op rfl (AOp.pick rfl rfl (ltb rfl) rfl rfl rfl ?_)
          refine AO.nil ?_
          change AC _ _ _ _
          refine AC.condT rfl rfl ?_
          refine AC.seq ?_
          refine AC.region ?_
          refine AO.op rfl (AOp.assign rfl rfl (ltb rfl) rfl ?_)
          refine AO.nil ?_
          change AC _ _ _ _
          refine AC.ret ?_
          change RetQ _ _ _ .ret _
          refine retq rfl ?_
          exact grid_no hl0 hlt (row_no hx0 hj (by simp_all [okF, inR]))
      · refine AC.exit ?_
        change AC _ _ _ _
        refine AC.region ?_
        refine AO.op rfl (AOp.iadd rfl rfl (ltb rfl) rfl rfl rfl (by simp only [lo]; omega) (by simp only [hi]; omega) ?_)
        refine AO.op rfl (AOp.move rfl rfl (ltb rfl) rfl ?_)
        refine AO.nil ?_
        have h2q : l.length = n := by simp at h2; omega
        refine ⟨rfl, k + 1, rfl, rfl, rfl, ⟨by omega, by rw [all_take_succ (rowB n m) ls k [] hlt, hk2, ← hl0]; unfold rowB; rw [← List.take_of_length_le (l := l) (i := j) (by simp at h3; omega), hj2]; simp [List.take_of_length_le (l := l) (i := j) (by simp at h3; omega), h2q]⟩, (by first | omega | (dsimp only; omega))⟩
  · refine AC.exit ?_
    change AC _ _ _ _
    refine AC.seq ?_
    refine AC.region ?_
    refine AO.op rfl (AOp.move rfl rfl (ltb rfl) rfl ?_)
    refine AO.op rfl (AOp.igtr rfl rfl (ltb rfl) rfl rfl ?_)
    refine AO.op rfl (AOp.assign rfl rfl (ltb rfl) rfl ?_)
    refine AO.nil ?_
    change AC _ _ _ _
    refine AC.ret ?_
    change RetQ _ _ _ .ret _
    refine retq rfl ?_
    rw [← List.take_of_length_le (l := ls) (i := k) (by simp at h1; omega)]
    simp [gridB, hk2]

def pts3 (pts : List (Nat × Nat × Nat)) : D := .ds 3 (pts.flatMap fun p => [dfl p.1, dfl p.2.1, dfl p.2.2])
theorem len3 (pts : List (Nat × Nat × Nat)) : (pts.flatMap fun p => [dfl p.1, dfl p.2.1, dfl p.2.2]).length = pts.length * 3 := by
  induction pts with
  | nil => rfl
  | cons p r ih => simp [ih]; omega
theorem flat3 (pts : List (Nat × Nat × Nat)) : ∀ (k : Nat), k < pts.length → ((pts.flatMap fun p => [dfl p.1, dfl p.2.1, dfl p.2.2]).drop ((k : Int).toNat * 3)).take 3 = [dfl (pts.getD k (0, 0, 0)).1, dfl (pts.getD k (0, 0, 0)).2.1, dfl (pts.getD k (0, 0, 0)).2.2] := by
  induction pts with
  | nil => intro k h; simp at h
  | cons p r ih =>
    intro k h
    cases k with
    | zero => rfl
    | succ k =>
      have := ih k (by simpa using h)
      have e : (((k + 1 : Nat) : Int).toNat) * 3 = ((k : Int).toNat * 3) + 1 + 1 + 1 := by omega
      rw [e]
      simpa using this

set_option maxRecDepth 100000 in
/-- pub-orthodrome/laws.off3 -/
theorem off3 (x y z : Nat) : FnD Try.prog 25 [.ag [dfl x, dfl y, dfl z]] (fun r => r = .ds 1 [dfl x, dfl y, dfl z]) := by
  refine FnD.of (by kernel_rfl) Try.func25 rfl Try.ntmps25 rfl (leb rfl) fun W ok => ?_
  refine AC.seq ?_
  refine AC.region ?_
  refine AO.op rfl (AOp.box rfl rfl (ltb rfl) rfl rfl ?_)
  refine AO.op rfl (AOp.assign rfl rfl (ltb rfl) rfl ?_)
  refine AO.nil ?_
  change AC _ _ _ _
  refine AC.seq ?_
  refine AC.region ?_
  first | refine AO.op rfl (AOp.fieldAddr rfl rfl (ltb rfl) rfl fo29_0 ?_) | refine AO.op rfl (AOp.fieldAddrPt rfl rfl (ltb rfl) rfl fo29_0 ?_) | refine AO.op rfl (AOp.fieldAddrEp rfl rfl (ltb rfl) rfl fo29_0 ?_)
  first | refine AO.op rfl (AOp.load1 rfl rfl (ltb rfl) rfl agg22 rfl rfl ?_) | refine AO.op rfl (AOp.loadEp rfl rfl (ltb rfl) rfl agg22 rfl ?_)
  first | refine AO.op rfl (AOp.fieldAddr rfl rfl (ltb rfl) rfl fo29_1 ?_) | refine AO.op rfl (AOp.fieldAddrPt rfl rfl (ltb rfl) rfl fo29_1 ?_) | refine AO.op rfl (AOp.fieldAddrEp rfl rfl (ltb rfl) rfl fo29_1 ?_)
  first | refine AO.op rfl (AOp.load1 rfl rfl (ltb rfl) rfl agg22 rfl rfl ?_) | refine AO.op rfl (AOp.loadEp rfl rfl (ltb rfl) rfl agg22 rfl ?_)
  first | refine AO.op rfl (AOp.fieldAddr rfl rfl (ltb rfl) rfl fo29_2 ?_) | refine AO.op rfl (AOp.fieldAddrPt rfl rfl (ltb rfl) rfl fo29_2 ?_) | refine AO.op rfl (AOp.fieldAddrEp rfl rfl (ltb rfl) rfl fo29_2 ?_)
  first | refine AO.op rfl (AOp.load1 rfl rfl (ltb rfl) rfl agg22 rfl rfl ?_) | refine AO.op rfl (AOp.loadEp rfl rfl (ltb rfl) rfl agg22 rfl ?_)
  refine AO.op rfl (AOp.buildSlice rfl rfl (ltb rfl) el56 zero22 rfl (leb rfl) rfl rfl rfl ?_)
  refine AO.op rfl (AOp.assign rfl rfl (ltb rfl) rfl ?_)
  refine AO.nil ?_
  change AC _ _ _ _
  refine AC.ret ?_
  change RetQ _ _ _ .ret _
  refine retq rfl ?_
  exact rfl

set_option maxRecDepth 100000 in
/-- pub-orthodrome/laws.whole3 -/
theorem whole3 (pts : List (Nat × Nat × Nat)) (hpl : pts.length < 1000000) : FnD Try.prog 12 [pts3 pts] (fun r => r = dbool (pts.all fun p => rowB 3 K20 [p.1, p.2.1, p.2.2])) := by
  refine FnD.of (by kernel_rfl) Try.func12 rfl Try.ntmps12 rfl (leb rfl) fun W ok => ?_
  refine AC.seq ?_
  refine AC.region ?_
  refine AO.op rfl (AOp.assign rfl rfl (ltb rfl) rfl ?_)
  refine AO.nil ?_
  change AC _ _ _ _
  refine AC.seq ?_
  refine AC.seq ?_
  refine AC.region ?_
  refine AO.op rfl (AOp.move rfl rfl (ltb rfl) rfl ?_)
  first | refine AO.op rfl (AOp.lenDs (n := pts.length) rfl rfl (ltb rfl) rfl el71 (by decide) (len3 pts) ?_) | refine AO.op rfl (AOp.lenOwn (n := pts.length) rfl rfl (ltb rfl) rfl el71 rfl (by decide) (len3 pts) ?_)
  refine AO.op rfl (AOp.move rfl rfl (ltb rfl) rfl ?_)
  refine AO.nil ?_
  change AC _ _ _ _
  refine AC.block ?_
  refine AC.loopV (G := Nat) [5, 6] [7] 0 (fun k => [(7, .d (dint (k : Nat)))]) (fun _ => _) (fun k => k ≤ pts.length ∧ (pts.take k).all (fun p => rowB 3 K20 [p.1, p.2.1, p.2.2]) = true) (fun k => pts.length - k) (0) rfl rfl rfl rfl ⟨by omega, rfl⟩ ?_
  rintro k ⟨hk, hk2⟩
  refine AC.seq ?_
  refine AC.region ?_
  refine AO.op rfl (AOp.ilss rfl rfl (ltb rfl) rfl rfl ?_)
  refine AO.nil ?_
  change AC _ _ _ _
  refine AC.seq ?_
  refine AC.cond rfl (fun h1 => ?_) (fun h1 => ?_)
  · have hlt : k < pts.length := by simpa using h1
    obtain ⟨p, hp0⟩ : ∃ p, p = pts.getD k (0, 0, 0) := ⟨_, rfl⟩
    refine AC.skip ?_
    change AC _ _ _ _
    refine AC.seq ?_
    refine AC.block ?_
    refine AC.seq ?_
    refine AC.region ?_
    first | refine AO.op rfl (AOp.indexDs rfl rfl (ltb rfl) rfl rfl el71 (by decide) (by omega) (by rw [len3]; omega) ?_) | refine AO.op rfl (AOp.indexSl rfl rfl (ltb rfl) rfl rfl el71 (by omega) (by rw [len3]; omega) ?_)
    refine AO.op rfl (AOp.loadEpN rfl rfl (ltb rfl) rfl agg29 size29 (ys := [dfl p.1, dfl p.2.1, dfl p.2.2]) (by rw [len3]; omega) (by rw [hp0]; exact flat3 pts k hlt) ?_)
    refine AO.op rfl (AOp.alloc rfl rfl (ltb rfl) zero29 rfl ?_)
    refine AO.op rfl (AOp.store rfl rfl rfl rfl size29 rfl rfl rfl (leb rfl) ?_)
    refine AO.nil ?_
    change AC _ _ _ _
    refine AC.seq ?_
    refine AC.region ?_
    first | refine AO.op rfl (AOp.loadN rfl rfl (ltb rfl) rfl agg29 size29 rfl (leb rfl) rfl ?_) | refine AO.op rfl (AOp.loadEpN rfl rfl (ltb rfl) rfl agg29 size29 (leb rfl) rfl ?_)
    refine AO.op rfl (AOp.callD rfl rfl (ltb rfl) rfl (off3 _ _ _) ?_)
    rintro _ rfl
    refine AO.op rfl (AOp.buildSlice rfl rfl (ltb rfl) el58 zero56 rfl (leb rfl) rfl rfl rfl ?_)
    refine AO.op rfl (AOp.callV rfl rfl (ltb rfl) rfl rfl (grid [[p.1, p.2.1, p.2.2]] 3 K20 (by simp) (by simp)) (by rintro _ rfl; rfl) ?_)
    rintro _ rfl
    refine AO.op rfl (AOp.bnot rfl rfl (ltb rfl) rfl ?_)
    refine AO.nil ?_
    change AC _ _ _ _
    refine AC.cond rfl (fun h2 => ?_) (fun h2 => ?_)
    · refine AC.seq ?_
      refine AC.region ?_
      refine AO.op rfl (AOp.assign rfl rfl (ltb rfl) rfl ?_)
      refine AO.nil ?_
      change AC _ _ _ _
      refine AC.ret ?_
      change RetQ _ _ _ .ret _
      refine retq rfl ?_
      rw [all_false_at _ pts k (0, 0, 0) hlt (by rw [← hp0]; simpa [gridB] using h2)]
    · refine AC.skip ?_
      change AC _ _ _ _
      refine AC.region ?_
      refine AO.op rfl (AOp.iadd rfl rfl (ltb rfl) rfl rfl rfl (by simp only [lo]; omega) (by simp only [hi]; omega) ?_)
      refine AO.op rfl (AOp.move rfl rfl (ltb rfl) rfl ?_)
      refine AO.nil ?_
      refine ⟨rfl, k + 1, rfl, rfl, rfl, ⟨by omega, by rw [all_take_succ _ pts k (0, 0, 0) hlt, hk2, ← hp0]; simp [gridB] at h2; simp [h2]⟩, (by first | omega | (dsimp only; omega))⟩
  · refine AC.exit ?_
    change AC _ _ _ _
    refine AC.seq ?_
    refine AC.region ?_
    refine AO.op rfl (AOp.assign rfl rfl (ltb rfl) rfl ?_)
    refine AO.nil ?_
    change AC _ _ _ _
    refine AC.ret ?_
    change RetQ _ _ _ .ret _
    refine retq rfl ?_
    rw [← List.take_of_length_le (l := pts) (i := k) (by simp at h1; omega), hk2]

theorem callAMin (x y : Nat) (w : World) : (callFunc 77 #[.float .f64 x, .float .f64 y]).run Try.prog w = .ok (.value (.float .f64 (Flt.amin x y))) w := by
  rw [run_callFunc_extern Try.func77 (by kernel_rfl) (by kernel_rfl) (by kernel_rfl) (e := Extern.MathDim.pick "math.archMin" true .lt) (by kernel_rfl), Flt.run_archMin Try.prog x y]
  rfl

set_option maxRecDepth 100000 in
/-- math.Min -/
theorem mathMin (x y : Nat) : FnD Try.prog 57 [dfl x, dfl y] (fun r => r = dfl (Flt.amin x y)) := by
  refine FnD.of (by kernel_rfl) Try.func57 rfl Try.ntmps57 rfl (leb rfl) fun W ok => ?_
  refine AC.seq ?_
  refine AC.region ?_
  refine AO.op rfl (AOp.assign rfl rfl (ltb rfl) rfl ?_)
  refine AO.nil ?_
  change AC _ _ _ _
  refine AC.seq ?_
  refine AC.condT rfl rfl ?_
  refine AC.seq ?_
  refine AC.region ?_
  refine AO.op rfl (AOp.move rfl rfl (ltb rfl) rfl ?_)
  refine AO.op rfl (AOp.move rfl rfl (ltb rfl) rfl ?_)
  refine AO.op rfl (AOp.callX [.float .f64 x, .float .f64 y] rfl rfl (ltb rfl) rfl (callAMin x y) ?_)
  refine AO.op rfl (AOp.assign rfl rfl (ltb rfl) rfl ?_)
  refine AO.nil ?_
  change AC _ _ _ _
  refine AC.ret ?_
  change RetQ _ _ _ .ret _
  refine retq rfl ?_
  exact rfl

theorem callAMax (x y : Nat) (w : World) : (callFunc 79 #[.float .f64 x, .float .f64 y]).run Try.prog w = .ok (.value (.float .f64 (Flt.amax x y))) w := by
  rw [run_callFunc_extern Try.func79 (by kernel_rfl) (by kernel_rfl) (by kernel_rfl) (e := Extern.MathDim.pick "math.archMax" false .gt) (by kernel_rfl), Flt.run_archMax Try.prog x y]
  rfl

set_option maxRecDepth 100000 in
/-- math.Max -/
theorem mathMax (x y : Nat) : FnD Try.prog 58 [dfl x, dfl y] (fun r => r = dfl (Flt.amax x y)) := by
  refine FnD.of (by kernel_rfl) Try.func58 rfl Try.ntmps58 rfl (leb rfl) fun W ok => ?_
  refine AC.seq ?_
  refine AC.region ?_
  refine AO.op rfl (AOp.assign rfl rfl (ltb rfl) rfl ?_)
  refine AO.nil ?_
  change AC _ _ _ _
  refine AC.seq ?_
  refine AC.condT rfl rfl ?_
  refine AC.seq ?_
  refine AC.region ?_
  refine AO.op rfl (AOp.move rfl rfl (ltb rfl) rfl ?_)
  refine AO.op rfl (AOp.move rfl rfl (ltb rfl) rfl ?_)
  refine AO.op rfl (AOp.callX [.float .f64 x, .float .f64 y] rfl rfl (ltb rfl) rfl (callAMax x y) ?_)
  refine AO.op rfl (AOp.assign rfl rfl (ltb rfl) rfl ?_)
  refine AO.nil ?_
  change AC _ _ _ _
  refine AC.ret ?_
  change RetQ _ _ _ .ret _
  refine retq rfl ?_
  exact rfl

set_option maxRecDepth 100000 in
/-- pub-orthodrome/impl.vec3 -/
theorem vec3 (x y z : Nat) : FnD Try.prog 37 [.ag [dfl x, dfl y, dfl z]] (fun r => r = .ag [dfl x, dfl y, dfl z]) := by
  refine FnD.of (by kernel_rfl) Try.func37 rfl Try.ntmps37 rfl (leb rfl) fun W ok => ?_
  refine AC.seq ?_
  refine AC.region ?_
  refine AO.op rfl (AOp.box rfl rfl (ltb rfl) rfl rfl ?_)
  refine AO.op rfl (AOp.alloc rfl rfl (ltb rfl) zero73 rfl ?_)
  refine AO.nil ?_
  change AC _ _ _ _
  refine AC.seq ?_
  refine AC.region ?_
  first | refine AO.op rfl (AOp.fieldAddr rfl rfl (ltb rfl) rfl fo29_0 ?_) | refine AO.op rfl (AOp.fieldAddrPt rfl rfl (ltb rfl) rfl fo29_0 ?_) | refine AO.op rfl (AOp.fieldAddrEp rfl rfl (ltb rfl) rfl fo29_0 ?_)
  first | refine AO.op rfl (AOp.load1 rfl rfl (ltb rfl) rfl agg22 rfl rfl ?_) | refine AO.op rfl (AOp.loadEp rfl rfl (ltb rfl) rfl agg22 rfl ?_)
  first | refine AO.op rfl (AOp.fieldAddr rfl rfl (ltb rfl) rfl fo29_1 ?_) | refine AO.op rfl (AOp.fieldAddrPt rfl rfl (ltb rfl) rfl fo29_1 ?_) | refine AO.op rfl (AOp.fieldAddrEp rfl rfl (ltb rfl) rfl fo29_1 ?_)
  first | refine AO.op rfl (AOp.load1 rfl rfl (ltb rfl) rfl agg22 rfl rfl ?_) | refine AO.op rfl (AOp.loadEp rfl rfl (ltb rfl) rfl agg22 rfl ?_)
  first | refine AO.op rfl (AOp.fieldAddr rfl rfl (ltb rfl) rfl fo29_2 ?_) | refine AO.op rfl (AOp.fieldAddrPt rfl rfl (ltb rfl) rfl fo29_2 ?_) | refine AO.op rfl (AOp.fieldAddrEp rfl rfl (ltb rfl) rfl fo29_2 ?_)
  first | refine AO.op rfl (AOp.load1 rfl rfl (ltb rfl) rfl agg22 rfl rfl ?_) | refine AO.op rfl (AOp.loadEp rfl rfl (ltb rfl) rfl agg22 rfl ?_)
  refine AO.op rfl (AOp.build rfl rfl (ltb rfl) zero73 rfl places73 rfl rfl ?_)
  refine AO.op rfl (AOp.store rfl rfl rfl rfl size73 rfl rfl rfl (leb rfl) ?_)
  refine AO.nil ?_
  change AC _ _ _ _
  refine AC.ret ?_
  change RetQ _ _ _ .ret _
  refine retq rfl ?_
  exact rfl

set_option maxRecDepth 100000 in
/-- pub-orthodrome/impl.plainP3 -/
theorem plainP3 (x y z : Nat) : FnD Try.prog 35 [.ag [dfl x, dfl y, dfl z]] (fun r => r = .ag [dfl x, dfl y, dfl z]) := by
  refine FnD.of (by kernel_rfl) Try.func35 rfl Try.ntmps35 rfl (leb rfl) fun W ok => ?_
  refine AC.seq ?_
  refine AC.region ?_
  refine AO.op rfl (AOp.box rfl rfl (ltb rfl) rfl rfl ?_)
  refine AO.op rfl (AOp.alloc rfl rfl (ltb rfl) zero29 rfl ?_)
  refine AO.nil ?_
  change AC _ _ _ _
  refine AC.seq ?_
  refine AC.region ?_
  first | refine AO.op rfl (AOp.fieldAddr rfl rfl (ltb rfl) rfl fo73_0 ?_) | refine AO.op rfl (AOp.fieldAddrPt rfl rfl (ltb rfl) rfl fo73_0 ?_) | refine AO.op rfl (AOp.fieldAddrEp rfl rfl (ltb rfl) rfl fo73_0 ?_)
  first | refine AO.op rfl (AOp.load1 rfl rfl (ltb rfl) rfl agg22 rfl rfl ?_) | refine AO.op rfl (AOp.loadEp rfl rfl (ltb rfl) rfl agg22 rfl ?_)
  first | refine AO.op rfl (AOp.fieldAddr rfl rfl (ltb rfl) rfl fo73_1 ?_) | refine AO.op rfl (AOp.fieldAddrPt rfl rfl (ltb rfl) rfl fo73_1 ?_) | refine AO.op rfl (AOp.fieldAddrEp rfl rfl (ltb rfl) rfl fo73_1 ?_)
  first | refine AO.op rfl (AOp.load1 rfl rfl (ltb rfl) rfl agg22 rfl rfl ?_) | refine AO.op rfl (AOp.loadEp rfl rfl (ltb rfl) rfl agg22 rfl ?_)
  first | refine AO.op rfl (AOp.fieldAddr rfl rfl (ltb rfl) rfl fo73_2 ?_) | refine AO.op rfl (AOp.fieldAddrPt rfl rfl (ltb rfl) rfl fo73_2 ?_) | refine AO.op rfl (AOp.fieldAddrEp rfl rfl (ltb rfl) rfl fo73_2 ?_)
  first | refine AO.op rfl (AOp.load1 rfl rfl (ltb rfl) rfl agg22 rfl rfl ?_) | refine AO.op rfl (AOp.loadEp rfl rfl (ltb rfl) rfl agg22 rfl ?_)
  refine AO.op rfl (AOp.build rfl rfl (ltb rfl) zero29 rfl places29 rfl rfl ?_)
  refine AO.op rfl (AOp.store rfl rfl rfl rfl size29 rfl rfl rfl (leb rfl) ?_)
  refine AO.nil ?_
  change AC _ _ _ _
  refine AC.ret ?_
  change RetQ _ _ _ .ret _
  refine retq rfl ?_
  exact rfl

theorem feq_amin {x y : Nat} {p q : Rat} (hx : Flt.V x = some p) (hy : Flt.V y = some q) : feq (Flt.amin x y) (bmin x y) = true := by
  rw [Flt.feq_val (Flt.amin_V hx hy) (Flt.bmin_V hx hy)]; simp
theorem feq_amax {x y : Nat} {p q : Rat} (hx : Flt.V x = some p) (hy : Flt.V y = some q) : feq (Flt.amax x y) (bmax x y) = true := by
  rw [Flt.feq_val (Flt.amax_V hx hy) (Flt.bmax_V hx hy)]; simp

set_option maxRecDepth 100000 in
/-- pub-orthodrome/pub/gonum/spatial/r3.minElem -/
theorem minElem3 (ax ay az cx cy cz : Nat) : FnD Try.prog 72 [.ag [dfl ax, dfl ay, dfl az], .ag [dfl cx, dfl cy, dfl cz]] (fun r => r = .ag [dfl (Flt.amin ax cx), dfl (Flt.amin ay cy), dfl (Flt.amin az cz)]) := by
  refine FnD.of (by kernel_rfl) Try.func72 rfl Try.ntmps72 rfl (leb rfl) fun W ok => ?_
  refine AC.seq ?_
  refine AC.region ?_
  refine AO.op rfl (AOp.box rfl rfl (ltb rfl) rfl rfl ?_)
  refine AO.op rfl (AOp.box rfl rfl (ltb rfl) rfl rfl ?_)
  refine AO.op rfl (AOp.alloc rfl rfl (ltb rfl) zero73 rfl ?_)
  refine AO.nil ?_
  change AC _ _ _ _
  refine AC.seq ?_
  refine AC.draw 16 mixed (by kernel_rfl) ?_
  first | refine AD.op [2] rfl (by kernel_rfl) rfl rfl (fun _ _ h => AOp.fieldAddr rfl rfl (ltb rfl) rfl fo73_0 h) ?_ | refine AD.op [2] rfl (by kernel_rfl) rfl rfl (fun _ _ h => AOp.fieldAddrPt rfl rfl (ltb rfl) rfl fo73_0 h) ?_ | refine AD.op [2] rfl (by kernel_rfl) rfl rfl (fun _ _ h => AOp.fieldAddrEp rfl rfl (ltb rfl) rfl fo73_0 h) ?_
  first | refine AD.op [5] rfl (by kernel_rfl) rfl rfl (fun _ _ h => AOp.load1 rfl rfl (ltb rfl) rfl agg22 rfl rfl h) ?_ | refine AD.op [5] rfl (by kernel_rfl) rfl rfl (fun _ _ h => AOp.loadEp rfl rfl (ltb rfl) rfl agg22 rfl h) ?_
  first | refine AD.op [3] rfl (by kernel_rfl) rfl rfl (fun _ _ h => AOp.fieldAddr rfl rfl (ltb rfl) rfl fo73_0 h) ?_ | refine AD.op [3] rfl (by kernel_rfl) rfl rfl (fun _ _ h => AOp.fieldAddrPt rfl rfl (ltb rfl) rfl fo73_0 h) ?_ | refine AD.op [3] rfl (by kernel_rfl) rfl rfl (fun _ _ h => AOp.fieldAddrEp rfl rfl (ltb rfl) rfl fo73_0 h) ?_
  first | refine AD.op [7] rfl (by kernel_rfl) rfl rfl (fun _ _ h => AOp.load1 rfl rfl (ltb rfl) rfl agg22 rfl rfl h) ?_ | refine AD.op [7] rfl (by kernel_rfl) rfl rfl (fun _ _ h => AOp.loadEp rfl rfl (ltb rfl) rfl agg22 rfl h) ?_
  refine AD.op [6, 8] rfl (by kernel_rfl) rfl rfl (fun _ _ h => AOp.callD rfl rfl (ltb rfl) rfl (mathMin _ _) (by rintro _ rfl; exact h)) ?_
  first | refine AD.op [2] rfl (by kernel_rfl) rfl rfl (fun _ _ h => AOp.fieldAddr rfl rfl (ltb rfl) rfl fo73_1 h) ?_ | refine AD.op [2] rfl (by kernel_rfl) rfl rfl (fun _ _ h => AOp.fieldAddrPt rfl rfl (ltb rfl) rfl fo73_1 h) ?_ | refine AD.op [2] rfl (by kernel_rfl) rfl rfl (fun _ _ h => AOp.fieldAddrEp rfl rfl (ltb rfl) rfl fo73_1 h) ?_
  first | refine AD.op [10] rfl (by kernel_rfl) rfl rfl (fun _ _ h => AOp.load1 rfl rfl (ltb rfl) rfl agg22 rfl rfl h) ?_ | refine AD.op [10] rfl (by kernel_rfl) rfl rfl (fun _ _ h => AOp.loadEp rfl rfl (ltb rfl) rfl agg22 rfl h) ?_
  first | refine AD.op [3] rfl (by kernel_rfl) rfl rfl (fun _ _ h => AOp.fieldAddr rfl rfl (ltb rfl) rfl fo73_1 h) ?_ | refine AD.op [3] rfl (by kernel_rfl) rfl rfl (fun _ _ h => AOp.fieldAddrPt rfl rfl (ltb rfl) rfl fo73_1 h) ?_ | refine AD.op [3] rfl (by kernel_rfl) rfl rfl (fun _ _ h => AOp.fieldAddrEp rfl rfl (ltb rfl) rfl fo73_1 h) ?_
  first | refine AD.op [12] rfl (by kernel_rfl) rfl rfl (fun _ _ h => AOp.load1 rfl rfl (ltb rfl) rfl agg22 rfl rfl h) ?_ | refine AD.op [12] rfl (by kernel_rfl) rfl rfl (fun _ _ h => AOp.loadEp rfl rfl (ltb rfl) rfl agg22 rfl h) ?_
  refine AD.op [11, 13] rfl (by kernel_rfl) rfl rfl (fun _ _ h => AOp.callD rfl rfl (ltb rfl) rfl (mathMin _ _) (by rintro _ rfl; exact h)) ?_
  first | refine AD.op [2] rfl (by kernel_rfl) rfl rfl (fun _ _ h => AOp.fieldAddr rfl rfl (ltb rfl) rfl fo73_2 h) ?_ | refine AD.op [2] rfl (by kernel_rfl) rfl rfl (fun _ _ h => AOp.fieldAddrPt rfl rfl (ltb rfl) rfl fo73_2 h) ?_ | refine AD.op [2] rfl (by kernel_rfl) rfl rfl (fun _ _ h => AOp.fieldAddrEp rfl rfl (ltb rfl) rfl fo73_2 h) ?_
  first | refine AD.op [15] rfl (by kernel_rfl) rfl rfl (fun _ _ h => AOp.load1 rfl rfl (ltb rfl) rfl agg22 rfl rfl h) ?_ | refine AD.op [15] rfl (by kernel_rfl) rfl rfl (fun _ _ h => AOp.loadEp rfl rfl (ltb rfl) rfl agg22 rfl h) ?_
  first | refine AD.op [3] rfl (by kernel_rfl) rfl rfl (fun _ _ h => AOp.fieldAddr rfl rfl (ltb rfl) rfl fo73_2 h) ?_ | refine AD.op [3] rfl (by kernel_rfl) rfl rfl (fun _ _ h => AOp.fieldAddrPt rfl rfl (ltb rfl) rfl fo73_2 h) ?_ | refine AD.op [3] rfl (by kernel_rfl) rfl rfl (fun _ _ h => AOp.fieldAddrEp rfl rfl (ltb rfl) rfl fo73_2 h) ?_
  first | refine AD.op [17] rfl (by kernel_rfl) rfl rfl (fun _ _ h => AOp.load1 rfl rfl (ltb rfl) rfl agg22 rfl rfl h) ?_ | refine AD.op [17] rfl (by kernel_rfl) rfl rfl (fun _ _ h => AOp.loadEp rfl rfl (ltb rfl) rfl agg22 rfl h) ?_
  refine AD.op [16, 18] rfl (by kernel_rfl) rfl rfl (fun _ _ h => AOp.callD rfl rfl (ltb rfl) rfl (mathMin _ _) (by rintro _ rfl; exact h)) ?_
  refine AD.op [9, 14, 19] rfl (by kernel_rfl) rfl rfl (fun _ _ h => AOp.build rfl rfl (ltb rfl) zero73 rfl places73 rfl rfl h) ?_
  refine AD.done ?_
  refine AO.op rfl (AOp.store rfl rfl rfl rfl size73 rfl rfl rfl (leb rfl) ?_)
  refine AO.nil ?_
  change AC _ _ _ _
  refine AC.ret ?_
  change RetQ _ _ _ .ret _
  refine retq rfl ?_
  exact rfl

set_option maxRecDepth 100000 in
/-- pub-orthodrome/pub/gonum/spatial/r3.maxElem -/
theorem maxElem3 (ax ay az cx cy cz : Nat) : FnD Try.prog 63 [.ag [dfl ax, dfl ay, dfl az], .ag [dfl cx, dfl cy, dfl cz]] (fun r => r = .ag [dfl (Flt.amax ax cx), dfl (Flt.amax ay cy), dfl (Flt.amax az cz)]) := by
  refine FnD.of (by kernel_rfl) Try.func63 rfl Try.ntmps63 rfl (leb rfl) fun W ok => ?_
  refine AC.seq ?_
  refine AC.region ?_
  refine AO.op rfl (AOp.box rfl rfl (ltb rfl) rfl rfl ?_)
  refine AO.op rfl (AOp.box rfl rfl (ltb rfl) rfl rfl ?_)
  refine AO.op rfl (AOp.alloc rfl rfl (ltb rfl) zero73 rfl ?_)
  refine AO.nil ?_
  change AC _ _ _ _
  refine AC.seq ?_
  refine AC.draw 16 mixed (by kernel_rfl) ?_
  first | refine AD.op [2] rfl (by kernel_rfl) rfl rfl (fun _ _ h => AOp.fieldAddr rfl rfl (ltb rfl) rfl fo73_0 h) ?_ | refine AD.op [2] rfl (by kernel_rfl) rfl rfl (fun _ _ h => AOp.fieldAddrPt rfl rfl (ltb rfl) rfl fo73_0 h) ?_ | refine AD.op [2] rfl (by kernel_rfl) rfl rfl (fun _ _ h => AOp.fieldAddrEp rfl rfl (ltb rfl) rfl fo73_0 h) ?_
  first | refine AD.op [5] rfl (by kernel_rfl) rfl rfl (fun _ _ h => AOp.load1 rfl rfl (ltb rfl) rfl agg22 rfl rfl h) ?_ | refine AD.op [5] rfl (by kernel_rfl) rfl rfl (fun _ _ h => AOp.loadEp rfl rfl (ltb rfl) rfl agg22 rfl h) ?_
  first | refine AD.op [3] rfl (by kernel_rfl) rfl rfl (fun _ _ h => AOp.fieldAddr rfl rfl (ltb rfl) rfl fo73_0 h) ?_ | refine AD.op [3] rfl (by kernel_rfl) rfl rfl (fun _ _ h => AOp.fieldAddrPt rfl rfl (ltb rfl) rfl fo73_0 h) ?_ | refine AD.op [3] rfl (by kernel_rfl) rfl rfl (fun _ _ h => AOp.fieldAddrEp rfl rfl (ltb rfl) rfl fo73_0 h) ?_
  first | refine AD.op [7] rfl (by kernel_rfl) rfl rfl (fun _ _ h => AOp.load1 rfl rfl (ltb rfl) rfl agg22 rfl rfl h) ?_ | refine AD.op [7] rfl (by kernel_rfl) rfl rfl (fun _ _ h => AOp.loadEp rfl rfl (ltb rfl) rfl agg22 rfl h) ?_
  refine AD.op [6, 8] rfl (by kernel_rfl) rfl rfl (fun _ _ h => AOp.callD rfl rfl (ltb rfl) rfl (mathMax _ _) (by rintro _ rfl; exact h)) ?_
  first | refine AD.op [2] rfl (by kernel_rfl) rfl rfl (fun _ _ h => AOp.fieldAddr rfl rfl (ltb rfl) rfl fo73_1 h) ?_ | refine AD.op [2] rfl (by kernel_rfl) rfl rfl (fun _ _ h => AOp.fieldAddrPt rfl rfl (ltb rfl) rfl fo73_1 h) ?_ | refine AD.op [2] rfl (by kernel_rfl) rfl rfl (fun _ _ h => AOp.fieldAddrEp rfl rfl (ltb rfl) rfl fo73_1 h) ?_
  first | refine AD.op [10] rfl (by kernel_rfl) rfl rfl (fun _ _ h => AOp.load1 rfl rfl (ltb rfl) rfl agg22 rfl rfl h) ?_ | refine AD.op [10] rfl (by kernel_rfl) rfl rfl (fun _ _ h => AOp.loadEp rfl rfl (ltb rfl) rfl agg22 rfl h) ?_
  first | refine AD.op [3] rfl (by kernel_rfl) rfl rfl (fun _ _ h => AOp.fieldAddr rfl rfl (ltb rfl) rfl fo73_1 h) ?_ | refine AD.op [3] rfl (by kernel_rfl) rfl rfl (fun _ _ h => AOp.fieldAddrPt rfl rfl (ltb rfl) rfl fo73_1 h) ?_ | refine AD.op [3] rfl (by kernel_rfl) rfl rfl (fun _ _ h => AOp.fieldAddrEp rfl rfl (ltb rfl) rfl fo73_1 h) ?_
  first | refine AD.op [12] rfl (by kernel_rfl) rfl rfl (fun _ _ h => AOp.load1 rfl rfl (ltb rfl) rfl agg22 rfl rfl h) ?_ | refine AD.op [12] rfl (by kernel_rfl) rfl rfl (fun _ _ h => AOp.loadEp rfl rfl (ltb rfl) rfl agg22 rfl h) ?_
  refine AD.op [11, 13] rfl (by kernel_rfl) rfl rfl (fun _ _ h => AOp.callD rfl rfl (ltb rfl) rfl (mathMax _ _) (by rintro _ rfl; exact h)) ?_
  first | refine AD.op [2] rfl (by kernel_rfl) rfl rfl (fun _ _ h => AOp.fieldAddr rfl rfl (ltb rfl) rfl fo73_2 h) ?_ | refine AD.op [2] rfl (by kernel_rfl) rfl rfl (fun _ _ h => AOp.fieldAddrPt rfl rfl (ltb rfl) rfl fo73_2 h) ?_ | refine AD.op [2] rfl (by kernel_rfl) rfl rfl (fun _ _ h => AOp.fieldAddrEp rfl rfl (ltb rfl) rfl fo73_2 h) ?_
  first | refine AD.op [15] rfl (by kernel_rfl) rfl rfl (fun _ _ h => AOp.load1 rfl rfl (ltb rfl) rfl agg22 rfl rfl h) ?_ | refine AD.op [15] rfl (by kernel_rfl) rfl rfl (fun _ _ h => AOp.loadEp rfl rfl (ltb rfl) rfl agg22 rfl h) ?_
  first | refine AD.op [3] rfl (by kernel_rfl) rfl rfl (fun _ _ h => AOp.fieldAddr rfl rfl (ltb rfl) rfl fo73_2 h) ?_ | refine AD.op [3] rfl (by kernel_rfl) rfl rfl (fun _ _ h => AOp.fieldAddrPt rfl rfl (ltb rfl) rfl fo73_2 h) ?_ | refine AD.op [3] rfl (by kernel_rfl) rfl rfl (fun _ _ h => AOp.fieldAddrEp rfl rfl (ltb rfl) rfl fo73_2 h) ?_
  first | refine AD.op [17] rfl (by kernel_rfl) rfl rfl (fun _ _ h => AOp.load1 rfl rfl (ltb rfl) rfl agg22 rfl rfl h) ?_ | refine AD.op [17] rfl (by kernel_rfl) rfl rfl (fun _ _ h => AOp.loadEp rfl rfl (ltb rfl) rfl agg22 rfl h) ?_
  refine AD.op [16, 18] rfl (by kernel_rfl) rfl rfl (fun _ _ h => AOp.callD rfl rfl (ltb rfl) rfl (mathMax _ _) (by rintro _ rfl; exact h)) ?_
  refine AD.op [9, 14, 19] rfl (by kernel_rfl) rfl rfl (fun _ _ h => AOp.build rfl rfl (ltb rfl) zero73 rfl places73 rfl rfl h) ?_
  refine AD.done ?_
  refine AO.op rfl (AOp.store rfl rfl rfl rfl size73 rfl rfl rfl (leb rfl) ?_)
  refine AO.nil ?_
  change AC _ _ _ _
  refine AC.ret ?_
  change RetQ _ _ _ .ret _
  refine retq rfl ?_
  exact rfl

set_option maxRecDepth 100000 in
/-- pub-orthodrome/pub/gonum/spatial/r3.NewBox -/
theorem newBox3 (ax ay az cx cy cz : Nat) : FnD Try.prog 50 [dfl ax, dfl ay, dfl az, dfl cx, dfl cy, dfl cz] (fun r => r = .ag [dfl (Flt.amin ax cx), dfl (Flt.amin ay cy), dfl (Flt.amin az cz), dfl (Flt.amax ax cx), dfl (Flt.amax ay cy), dfl (Flt.amax az cz)]) := by
  refine FnD.of (by kernel_rfl) Try.func50 rfl Try.ntmps50 rfl (leb rfl) fun W ok => ?_
  refine AC.seq ?_
  refine AC.region ?_
  refine AO.op rfl (AOp.alloc rfl rfl (ltb rfl) zero87 rfl ?_)
  refine AO.nil ?_
  change AC _ _ _ _
  refine AC.seq ?_
  refine AC.region ?_
  refine AO.op rfl (AOp.move rfl rfl (ltb rfl) rfl ?_)
  refine AO.op rfl (AOp.move rfl rfl (ltb rfl) rfl ?_)
  refine AO.op rfl (AOp.callD rfl rfl (ltb rfl) rfl (mathMin _ _) ?_)
  rintro _ rfl
  refine AO.op rfl (AOp.move rfl rfl (ltb rfl) rfl ?_)
  refine AO.op rfl (AOp.move rfl rfl (ltb rfl) rfl ?_)
  refine AO.op rfl (AOp.callD rfl rfl (ltb rfl) rfl (mathMin _ _) ?_)
  rintro _ rfl
  refine AO.op rfl (AOp.move rfl rfl (ltb rfl) rfl ?_)
  refine AO.op rfl (AOp.move rfl rfl (ltb rfl) rfl ?_)
  refine AO.op rfl (AOp.callD rfl rfl (ltb rfl) rfl (mathMin _ _) ?_)
  rintro _ rfl
  refine AO.op rfl (AOp.build rfl rfl (ltb rfl) zero73 rfl places73 rfl rfl ?_)
  refine AO.op rfl (AOp.move rfl rfl (ltb rfl) rfl ?_)
  refine AO.op rfl (AOp.move rfl rfl (ltb rfl) rfl ?_)
  refine AO.op rfl (AOp.callD rfl rfl (ltb rfl) rfl (mathMax _ _) ?_)
  rintro _ rfl
  refine AO.op rfl (AOp.move rfl rfl (ltb rfl) rfl ?_)
  refine AO.op rfl (AOp.move rfl rfl (ltb rfl) rfl ?_)
  refine AO.op rfl (AOp.callD rfl rfl (ltb rfl) rfl (mathMax _ _) ?_)
  rintro _ rfl
  refine AO.op rfl (AOp.move rfl rfl (ltb rfl) rfl ?_)
  refine AO.op rfl (AOp.move rfl rfl (ltb rfl) rfl ?_)
  refine AO.op rfl (AOp.callD rfl rfl (ltb rfl) rfl (mathMax _ _) ?_)
  rintro _ rfl
  refine AO.op rfl (AOp.build rfl rfl (ltb rfl) zero73 rfl places73 rfl rfl ?_)
  refine AO.op rfl (AOp.build rfl rfl (ltb rfl) zero87 rfl places87 rfl rfl ?_)
  refine AO.op rfl (AOp.store rfl rfl rfl rfl size87 rfl rfl rfl (leb rfl) ?_)
  refine AO.nil ?_
  change AC _ _ _ _
  refine AC.ret ?_
  change RetQ _ _ _ .ret _
  refine retq rfl ?_
  exact rfl

set_option maxRecDepth 100000 in
/-- (pub-orthodrome/pub/gonum/spatial/r3.Box).Canon -/
theorem canonR3 (ax ay az cx cy cz : Nat) : FnD Try.prog 51 [.ag [dfl ax, dfl ay, dfl az, dfl cx, dfl cy, dfl cz]] (fun r => r = .ag [dfl (Flt.amin ax cx), dfl (Flt.amin ay cy), dfl (Flt.amin az cz), dfl (Flt.amax ax cx), dfl (Flt.amax ay cy), dfl (Flt.amax az cz)]) := by
  refine FnD.of (by kernel_rfl) Try.func51 rfl Try.ntmps51 rfl (leb rfl) fun W ok => ?_
  refine AC.seq ?_
  refine AC.region ?_
  refine AO.op rfl (AOp.box rfl rfl (ltb rfl) rfl rfl ?_)
  refine AO.op rfl (AOp.alloc rfl rfl (ltb rfl) zero87 rfl ?_)
  refine AO.nil ?_
  change AC _ _ _ _
  refine AC.seq ?_
  refine AC.draw 11 mixed (by kernel_rfl) ?_
  first | refine AD.op [1] rfl (by kernel_rfl) rfl rfl (fun _ _ h => AOp.fieldAddr rfl rfl (ltb rfl) rfl fo87_0 h) ?_ | refine AD.op [1] rfl (by kernel_rfl) rfl rfl (fun _ _ h => AOp.fieldAddrPt rfl rfl (ltb rfl) rfl fo87_0 h) ?_ | refine AD.op [1] rfl (by kernel_rfl) rfl rfl (fun _ _ h => AOp.fieldAddrEp rfl rfl (ltb rfl) rfl fo87_0 h) ?_
  first | refine AD.op [3] rfl (by kernel_rfl) rfl rfl (fun _ _ h => AOp.loadN rfl rfl (ltb rfl) rfl agg73 size73 rfl (leb rfl) rfl h) ?_ | refine AD.op [3] rfl (by kernel_rfl) rfl rfl (fun _ _ h => AOp.loadEpN rfl rfl (ltb rfl) rfl agg73 size73 (leb rfl) rfl h) ?_
  first | refine AD.op [1] rfl (by kernel_rfl) rfl rfl (fun _ _ h => AOp.fieldAddr rfl rfl (ltb rfl) rfl fo87_1 h) ?_ | refine AD.op [1] rfl (by kernel_rfl) rfl rfl (fun _ _ h => AOp.fieldAddrPt rfl rfl (ltb rfl) rfl fo87_1 h) ?_ | refine AD.op [1] rfl (by kernel_rfl) rfl rfl (fun _ _ h => AOp.fieldAddrEp rfl rfl (ltb rfl) rfl fo87_1 h) ?_
  first | refine AD.op [5] rfl (by kernel_rfl) rfl rfl (fun _ _ h => AOp.loadN rfl rfl (ltb rfl) rfl agg73 size73 rfl (leb rfl) rfl h) ?_ | refine AD.op [5] rfl (by kernel_rfl) rfl rfl (fun _ _ h => AOp.loadEpN rfl rfl (ltb rfl) rfl agg73 size73 (leb rfl) rfl h) ?_
  refine AD.op [4, 6] rfl (by kernel_rfl) rfl rfl (fun _ _ h => AOp.callD rfl rfl (ltb rfl) rfl (minElem3 _ _ _ _ _ _) (by rintro _ rfl; exact h)) ?_
  first | refine AD.op [1] rfl (by kernel_rfl) rfl rfl (fun _ _ h => AOp.fieldAddr rfl rfl (ltb rfl) rfl fo87_0 h) ?_ | refine AD.op [1] rfl (by kernel_rfl) rfl rfl (fun _ _ h => AOp.fieldAddrPt rfl rfl (ltb rfl) rfl fo87_0 h) ?_ | refine AD.op [1] rfl (by kernel_rfl) rfl rfl (fun _ _ h => AOp.fieldAddrEp rfl rfl (ltb rfl) rfl fo87_0 h) ?_
  first | refine AD.op [8] rfl (by kernel_rfl) rfl rfl (fun _ _ h => AOp.loadN rfl rfl (ltb rfl) rfl agg73 size73 rfl (leb rfl) rfl h) ?_ | refine AD.op [8] rfl (by kernel_rfl) rfl rfl (fun _ _ h => AOp.loadEpN rfl rfl (ltb rfl) rfl agg73 size73 (leb rfl) rfl h) ?_
  first | refine AD.op [1] rfl (by kernel_rfl) rfl rfl (fun _ _ h => AOp.fieldAddr rfl rfl (ltb rfl) rfl fo87_1 h) ?_ | refine AD.op [1] rfl (by kernel_rfl) rfl rfl (fun _ _ h => AOp.fieldAddrPt rfl rfl (ltb rfl) rfl fo87_1 h) ?_ | refine AD.op [1] rfl (by kernel_rfl) rfl rfl (fun _ _ h => AOp.fieldAddrEp rfl rfl (ltb rfl) rfl fo87_1 h) ?_
  first | refine AD.op [10] rfl (by kernel_rfl) rfl rfl (fun _ _ h => AOp.loadN rfl rfl (ltb rfl) rfl agg73 size73 rfl (leb rfl) rfl h) ?_ | refine AD.op [10] rfl (by kernel_rfl) rfl rfl (fun _ _ h => AOp.loadEpN rfl rfl (ltb rfl) rfl agg73 size73 (leb rfl) rfl h) ?_
  refine AD.op [9, 11] rfl (by kernel_rfl) rfl rfl (fun _ _ h => AOp.callD rfl rfl (ltb rfl) rfl (maxElem3 _ _ _ _ _ _) (by rintro _ rfl; exact h)) ?_
  refine AD.op [7, 12] rfl (by kernel_rfl) rfl rfl (fun _ _ h => AOp.build rfl rfl (ltb rfl) zero87 rfl places87 rfl rfl h) ?_
  refine AD.done ?_
  refine AO.op rfl (AOp.store rfl rfl rfl rfl size87 rfl rfl rfl (leb rfl) ?_)
  refine AO.nil ?_
  change AC _ _ _ _
  refine AC.ret ?_
  change RetQ _ _ _ .ret _
  refine retq rfl ?_
  exact rfl

set_option maxRecDepth 100000 in
/-- pub-orthodrome/impl.plainBox3 -/
theorem plainBox3 (ax ay az cx cy cz : Nat) : FnD Try.prog 47 [.ag [dfl ax, dfl ay, dfl az, dfl cx, dfl cy, dfl cz]] (fun r => r = .ag [dfl ax, dfl ay, dfl az, dfl cx, dfl cy, dfl cz]) := by
  refine FnD.of (by kernel_rfl) Try.func47 rfl Try.ntmps47 rfl (leb rfl) fun W ok => ?_
  refine AC.seq ?_
  refine AC.region ?_
  refine AO.op rfl (AOp.box rfl rfl (ltb rfl) rfl rfl ?_)
  refine AO.op rfl (AOp.alloc rfl rfl (ltb rfl) zero53 rfl ?_)
  refine AO.nil ?_
  change AC _ _ _ _
  refine AC.seq ?_
  refine AC.draw 7 mixed (by kernel_rfl) ?_
  first | refine AD.op [1] rfl (by kernel_rfl) rfl rfl (fun _ _ h => AOp.fieldAddr rfl rfl (ltb rfl) rfl fo87_0 h) ?_ | refine AD.op [1] rfl (by kernel_rfl) rfl rfl (fun _ _ h => AOp.fieldAddrPt rfl rfl (ltb rfl) rfl fo87_0 h) ?_ | refine AD.op [1] rfl (by kernel_rfl) rfl rfl (fun _ _ h => AOp.fieldAddrEp rfl rfl (ltb rfl) rfl fo87_0 h) ?_
  first | refine AD.op [3] rfl (by kernel_rfl) rfl rfl (fun _ _ h => AOp.loadN rfl rfl (ltb rfl) rfl agg73 size73 rfl (leb rfl) rfl h) ?_ | refine AD.op [3] rfl (by kernel_rfl) rfl rfl (fun _ _ h => AOp.loadEpN rfl rfl (ltb rfl) rfl agg73 size73 (leb rfl) rfl h) ?_
  refine AD.op [4] rfl (by kernel_rfl) rfl rfl (fun _ _ h => AOp.callD rfl rfl (ltb rfl) rfl (plainP3 _ _ _) (by rintro _ rfl; exact h)) ?_
  first | refine AD.op [1] rfl (by kernel_rfl) rfl rfl (fun _ _ h => AOp.fieldAddr rfl rfl (ltb rfl) rfl fo87_1 h) ?_ | refine AD.op [1] rfl (by kernel_rfl) rfl rfl (fun _ _ h => AOp.fieldAddrPt rfl rfl (ltb rfl) rfl fo87_1 h) ?_ | refine AD.op [1] rfl (by kernel_rfl) rfl rfl (fun _ _ h => AOp.fieldAddrEp rfl rfl (ltb rfl) rfl fo87_1 h) ?_
  first | refine AD.op [6] rfl (by kernel_rfl) rfl rfl (fun _ _ h => AOp.loadN rfl rfl (ltb rfl) rfl agg73 size73 rfl (leb rfl) rfl h) ?_ | refine AD.op [6] rfl (by kernel_rfl) rfl rfl (fun _ _ h => AOp.loadEpN rfl rfl (ltb rfl) rfl agg73 size73 (leb rfl) rfl h) ?_
  refine AD.op [7] rfl (by kernel_rfl) rfl rfl (fun _ _ h => AOp.callD rfl rfl (ltb rfl) rfl (plainP3 _ _ _) (by rintro _ rfl; exact h)) ?_
  refine AD.op [5, 8] rfl (by kernel_rfl) rfl rfl (fun _ _ h => AOp.build rfl rfl (ltb rfl) zero53 rfl places53 rfl rfl h) ?_
  refine AD.done ?_
  refine AO.op rfl (AOp.store rfl rfl rfl rfl size53 rfl rfl rfl (leb rfl) ?_)
  refine AO.nil ?_
  change AC _ _ _ _
  refine AC.ret ?_
  change RetQ _ _ _ .ret _
  refine retq rfl ?_
  exact rfl

set_option maxRecDepth 100000 in
/-- pub-orthodrome/impl.NewBox3 -/
theorem implNewBox3 (ax ay az cx cy cz : Nat) : FnD Try.prog 29 [dfl ax, dfl ay, dfl az, dfl cx, dfl cy, dfl cz] (fun r => r = .ag [dfl (Flt.amin ax cx), dfl (Flt.amin ay cy), dfl (Flt.amin az cz), dfl (Flt.amax ax cx), dfl (Flt.amax ay cy), dfl (Flt.amax az cz)]) := by
  refine FnD.of (by kernel_rfl) Try.func29 rfl Try.ntmps29 rfl (leb rfl) fun W ok => ?_
  refine AC.seq ?_
  refine AC.region ?_
  refine AO.op rfl (AOp.alloc rfl rfl (ltb rfl) zero53 rfl ?_)
  refine AO.nil ?_
  change AC _ _ _ _
  refine AC.seq ?_
  refine AC.region ?_
  refine AO.op rfl (AOp.move rfl rfl (ltb rfl) rfl ?_)
  refine AO.op rfl (AOp.move rfl rfl (ltb rfl) rfl ?_)
  refine AO.op rfl (AOp.move rfl rfl (ltb rfl) rfl ?_)
  refine AO.op rfl (AOp.move rfl rfl (ltb rfl) rfl ?_)
  refine AO.op rfl (AOp.move rfl rfl (ltb rfl) rfl ?_)
  refine AO.op rfl (AOp.move rfl rfl (ltb rfl) rfl ?_)
  refine AO.op rfl (AOp.callD rfl rfl (ltb rfl) rfl (newBox3 _ _ _ _ _ _) ?_)
  rintro _ rfl
  refine AO.op rfl (AOp.callD rfl rfl (ltb rfl) rfl (plainBox3 _ _ _ _ _ _) ?_)
  rintro _ rfl
  refine AO.op rfl (AOp.store rfl rfl rfl rfl size53 rfl rfl rfl (leb rfl) ?_)
  refine AO.nil ?_
  change AC _ _ _ _
  refine AC.ret ?_
  change RetQ _ _ _ .ret _
  refine retq rfl ?_
  exact rfl

set_option maxRecDepth 100000 in
/-- pub-orthodrome/impl.Canon3 -/
theorem implCanon3 (ax ay az cx cy cz : Nat) : FnD Try.prog 30 [.ag [dfl ax, dfl ay, dfl az, dfl cx, dfl cy, dfl cz]] (fun r => r = .ag [dfl (Flt.amin ax cx), dfl (Flt.amin ay cy), dfl (Flt.amin az cz), dfl (Flt.amax ax cx), dfl (Flt.amax ay cy), dfl (Flt.amax az cz)]) := by
  refine FnD.of (by kernel_rfl) Try.func30 rfl Try.ntmps30 rfl (leb rfl) fun W ok => ?_
  refine AC.seq ?_
  refine AC.region ?_
  refine AO.op rfl (AOp.box rfl rfl (ltb rfl) rfl rfl ?_)
  refine AO.op rfl (AOp.alloc rfl rfl (ltb rfl) zero53 rfl ?_)
  refine AO.nil ?_
  change AC _ _ _ _
  refine AC.seq ?_
  refine AC.draw 9 mixed (by kernel_rfl) ?_
  first | refine AD.op [1] rfl (by kernel_rfl) rfl rfl (fun _ _ h => AOp.fieldAddr rfl rfl (ltb rfl) rfl fo53_0 h) ?_ | refine AD.op [1] rfl (by kernel_rfl) rfl rfl (fun _ _ h => AOp.fieldAddrPt rfl rfl (ltb rfl) rfl fo53_0 h) ?_ | refine AD.op [1] rfl (by kernel_rfl) rfl rfl (fun _ _ h => AOp.fieldAddrEp rfl rfl (ltb rfl) rfl fo53_0 h) ?_
  first | refine AD.op [3] rfl (by kernel_rfl) rfl rfl (fun _ _ h => AOp.loadN rfl rfl (ltb rfl) rfl agg29 size29 rfl (leb rfl) rfl h) ?_ | refine AD.op [3] rfl (by kernel_rfl) rfl rfl (fun _ _ h => AOp.loadEpN rfl rfl (ltb rfl) rfl agg29 size29 (leb rfl) rfl h) ?_
  refine AD.op [4] rfl (by kernel_rfl) rfl rfl (fun _ _ h => AOp.callD rfl rfl (ltb rfl) rfl (vec3 _ _ _) (by rintro _ rfl; exact h)) ?_
  first | refine AD.op [1] rfl (by kernel_rfl) rfl rfl (fun _ _ h => AOp.fieldAddr rfl rfl (ltb rfl) rfl fo53_1 h) ?_ | refine AD.op [1] rfl (by kernel_rfl) rfl rfl (fun _ _ h => AOp.fieldAddrPt rfl rfl (ltb rfl) rfl fo53_1 h) ?_ | refine AD.op [1] rfl (by kernel_rfl) rfl rfl (fun _ _ h => AOp.fieldAddrEp rfl rfl (ltb rfl) rfl fo53_1 h) ?_
  first | refine AD.op [6] rfl (by kernel_rfl) rfl rfl (fun _ _ h => AOp.loadN rfl rfl (ltb rfl) rfl agg29 size29 rfl (leb rfl) rfl h) ?_ | refine AD.op [6] rfl (by kernel_rfl) rfl rfl (fun _ _ h => AOp.loadEpN rfl rfl (ltb rfl) rfl agg29 size29 (leb rfl) rfl h) ?_
  refine AD.op [7] rfl (by kernel_rfl) rfl rfl (fun _ _ h => AOp.callD rfl rfl (ltb rfl) rfl (vec3 _ _ _) (by rintro _ rfl; exact h)) ?_
  refine AD.op [5, 8] rfl (by kernel_rfl) rfl rfl (fun _ _ h => AOp.build rfl rfl (ltb rfl) zero87 rfl places87 rfl rfl h) ?_
  refine AD.op [9] rfl (by kernel_rfl) rfl rfl (fun _ _ h => AOp.callD rfl rfl (ltb rfl) rfl (canonR3 _ _ _ _ _ _) (by rintro _ rfl; exact h)) ?_
  refine AD.op [10] rfl (by kernel_rfl) rfl rfl (fun _ _ h => AOp.callD rfl rfl (ltb rfl) rfl (plainBox3 _ _ _ _ _ _) (by rintro _ rfl; exact h)) ?_
  refine AD.done ?_
  refine AO.op rfl (AOp.store rfl rfl rfl rfl size53 rfl rfl rfl (leb rfl) ?_)
  refine AO.nil ?_
  change AC _ _ _ _
  refine AC.ret ?_
  change RetQ _ _ _ .ret _
  refine retq rfl ?_
  exact rfl

set_option maxRecDepth 100000 in
/-- pub-orthodrome/laws.canon3 -/
theorem canonL3 (ax ay az cx cy cz : Nat) (hx : (FloatKind.f64.format.order ax cx).isSome = true) (hy : (FloatKind.f64.format.order ay cy).isSome = true) (hz : (FloatKind.f64.format.order az cz).isSome = true) : FnD Try.prog 23 [.ag [dfl ax, dfl ay, dfl az], .ag [dfl cx, dfl cy, dfl cz]] (fun r => r = .ag [dfl (bmin ax cx), dfl (bmin ay cy), dfl (bmin az cz), dfl (bmax ax cx), dfl (bmax ay cy), dfl (bmax az cz)]) := by
  refine FnD.of (by kernel_rfl) Try.func23 rfl Try.ntmps23 rfl (leb rfl) fun W ok => ?_
  refine AC.seq ?_
  refine AC.region ?_
  refine AO.op rfl (AOp.box rfl rfl (ltb rfl) rfl rfl ?_)
  refine AO.op rfl (AOp.box rfl rfl (ltb rfl) rfl rfl ?_)
  refine AO.op rfl (AOp.alloc rfl rfl (ltb rfl) zero53 rfl ?_)
  refine AO.nil ?_
  change AC _ _ _ _
  refine AC.seq ?_
  refine AC.region ?_
  first | refine AO.op rfl (AOp.fieldAddr rfl rfl (ltb rfl) rfl fo29_0 ?_) | refine AO.op rfl (AOp.fieldAddrPt rfl rfl (ltb rfl) rfl fo29_0 ?_) | refine AO.op rfl (AOp.fieldAddrEp rfl rfl (ltb rfl) rfl fo29_0 ?_)
  first | refine AO.op rfl (AOp.load1 rfl rfl (ltb rfl) rfl agg22 rfl rfl ?_) | refine AO.op rfl (AOp.loadEp rfl rfl (ltb rfl) rfl agg22 rfl ?_)
  first | refine AO.op rfl (AOp.fieldAddr rfl rfl (ltb rfl) rfl fo29_0 ?_) | refine AO.op rfl (AOp.fieldAddrPt rfl rfl (ltb rfl) rfl fo29_0 ?_) | refine AO.op rfl (AOp.fieldAddrEp rfl rfl (ltb rfl) rfl fo29_0 ?_)
  first | refine AO.op rfl (AOp.load1 rfl rfl (ltb rfl) rfl agg22 rfl rfl ?_) | refine AO.op rfl (AOp.loadEp rfl rfl (ltb rfl) rfl agg22 rfl ?_)
  refine AO.op rfl (AOp.fmin rfl rfl (ltb rfl) rfl rfl (by assumption) ?_)
  first | refine AO.op rfl (AOp.fieldAddr rfl rfl (ltb rfl) rfl fo29_1 ?_) | refine AO.op rfl (AOp.fieldAddrPt rfl rfl (ltb rfl) rfl fo29_1 ?_) | refine AO.op rfl (AOp.fieldAddrEp rfl rfl (ltb rfl) rfl fo29_1 ?_)
  first | refine AO.op rfl (AOp.load1 rfl rfl (ltb rfl) rfl agg22 rfl rfl ?_) | refine AO.op rfl (AOp.loadEp rfl rfl (ltb rfl) rfl agg22 rfl ?_)
  first | refine AO.op rfl (AOp.fieldAddr rfl rfl (ltb rfl) rfl fo29_1 ?_) | refine AO.op rfl (AOp.fieldAddrPt rfl rfl (ltb rfl) rfl fo29_1 ?_) | refine AO.op rfl (AOp.fieldAddrEp rfl rfl (ltb rfl) rfl fo29_1 ?_)
  first | refine AO.op rfl (AOp.load1 rfl rfl (ltb rfl) rfl agg22 rfl rfl ?_) | refine AO.op rfl (AOp.loadEp rfl rfl (ltb rfl) rfl agg22 rfl ?_)
  refine AO.op rfl (AOp.fmin rfl rfl (ltb rfl) rfl rfl (by assumption) ?_)
  first | refine AO.op rfl (AOp.fieldAddr rfl rfl (ltb rfl) rfl fo29_2 ?_) | refine AO.op rfl (AOp.fieldAddrPt rfl rfl (ltb rfl) rfl fo29_2 ?_) | refine AO.op rfl (AOp.fieldAddrEp rfl rfl (ltb rfl) rfl fo29_2 ?_)
  first | refine AO.op rfl (AOp.load1 rfl rfl (ltb rfl) rfl agg22 rfl rfl ?_) | refine AO.op rfl (AOp.loadEp rfl rfl (ltb rfl) rfl agg22 rfl ?_)
  first | refine AO.op rfl (AOp.fieldAddr rfl rfl (ltb rfl) rfl fo29_2 ?_) | refine AO.op rfl (AOp.fieldAddrPt rfl rfl (ltb rfl) rfl fo29_2 ?_) | refine AO.op rfl (AOp.fieldAddrEp rfl rfl (ltb rfl) rfl fo29_2 ?_)
  first | refine AO.op rfl (AOp.load1 rfl rfl (ltb rfl) rfl agg22 rfl rfl ?_) | refine AO.op rfl (AOp.loadEp rfl rfl (ltb rfl) rfl agg22 rfl ?_)
  refine AO.op rfl (AOp.fmin rfl rfl (ltb rfl) rfl rfl (by assumption) ?_)
  refine AO.op rfl (AOp.build rfl rfl (ltb rfl) zero29 rfl places29 rfl rfl ?_)
  first | refine AO.op rfl (AOp.fieldAddr rfl rfl (ltb rfl) rfl fo29_0 ?_) | refine AO.op rfl (AOp.fieldAddrPt rfl rfl (ltb rfl) rfl fo29_0 ?_) | refine AO.op rfl (AOp.fieldAddrEp rfl rfl (ltb rfl) rfl fo29_0 ?_)
  first | refine AO.op rfl (AOp.load1 rfl rfl (ltb rfl) rfl agg22 rfl rfl ?_) | refine AO.op rfl (AOp.loadEp rfl rfl (ltb rfl) rfl agg22 rfl ?_)
  first | refine AO.op rfl (AOp.fieldAddr rfl rfl (ltb rfl) rfl fo29_0 ?_) | refine AO.op rfl (AOp.fieldAddrPt rfl rfl (ltb rfl) rfl fo29_0 ?_) | refine AO.op rfl (AOp.fieldAddrEp rfl rfl (ltb rfl) rfl fo29_0 ?_)
  first | refine AO.op rfl (AOp.load1 rfl rfl (ltb rfl) rfl agg22 rfl rfl ?_) | refine AO.op rfl (AOp.loadEp rfl rfl (ltb rfl) rfl agg22 rfl ?_)
  refine AO.op rfl (AOp.fmax rfl rfl (ltb rfl) rfl rfl (by assumption) ?_)
  first | refine AO.op rfl (AOp.fieldAddr rfl rfl (ltb rfl) rfl fo29_1 ?_) | refine AO.op rfl (AOp.fieldAddrPt rfl rfl (ltb rfl) rfl fo29_1 ?_) | refine AO.op rfl (AOp.fieldAddrEp rfl rfl (ltb rfl) rfl fo29_1 ?_)
  first | refine AO.op rfl (AOp.load1 rfl rfl (ltb rfl) rfl agg22 rfl rfl ?_) | refine AO.op rfl (AOp.loadEp rfl rfl (ltb rfl) rfl agg22 rfl ?_)
  first | refine AO.op rfl (AOp.fieldAddr rfl rfl (ltb rfl) rfl fo29_1 ?_) | refine AO.op rfl (AOp.fieldAddrPt rfl rfl (ltb rfl) rfl fo29_1 ?_) | refine AO.op rfl (AOp.fieldAddrEp rfl rfl (ltb rfl) rfl fo29_1 ?_)
  first | refine AO.op rfl (AOp.load1 rfl rfl (ltb rfl) rfl agg22 rfl rfl ?_) | refine AO.op rfl (AOp.loadEp rfl rfl (ltb rfl) rfl agg22 rfl ?_)
  refine AO.op rfl (AOp.fmax rfl rfl (ltb rfl) rfl rfl (by assumption) ?_)
  first | refine AO.op rfl (AOp.fieldAddr rfl rfl (ltb rfl) rfl fo29_2 ?_) | refine AO.op rfl (AOp.fieldAddrPt rfl rfl (ltb rfl) rfl fo29_2 ?_) | refine AO.op rfl (AOp.fieldAddrEp rfl rfl (ltb rfl) rfl fo29_2 ?_)
  first | refine AO.op rfl (AOp.load1 rfl rfl (ltb rfl) rfl agg22 rfl rfl ?_) | refine AO.op rfl (AOp.loadEp rfl rfl (ltb rfl) rfl agg22 rfl ?_)
  first | refine AO.op rfl (AOp.fieldAddr rfl rfl (ltb rfl) rfl fo29_2 ?_) | refine AO.op rfl (AOp.fieldAddrPt rfl rfl (ltb rfl) rfl fo29_2 ?_) | refine AO.op rfl (AOp.fieldAddrEp rfl rfl (ltb rfl) rfl fo29_2 ?_)
  first | refine AO.op rfl (AOp.load1 rfl rfl (ltb rfl) rfl agg22 rfl rfl ?_) | refine AO.op rfl (AOp.loadEp rfl rfl (ltb rfl) rfl agg22 rfl ?_)
  refine AO.op rfl (AOp.fmax rfl rfl (ltb rfl) rfl rfl (by assumption) ?_)
  refine AO.op rfl (AOp.build rfl rfl (ltb rfl) zero29 rfl places29 rfl rfl ?_)
  refine AO.op rfl (AOp.build rfl rfl (ltb rfl) zero53 rfl places53 rfl rfl ?_)
  refine AO.op rfl (AOp.store rfl rfl rfl rfl size53 rfl rfl rfl (leb rfl) ?_)
  refine AO.nil ?_
  change AC _ _ _ _
  refine AC.ret ?_
  change RetQ _ _ _ .ret _
  refine retq rfl ?_
  exact rfl

set_option maxRecDepth 100000 in
/-- pub-orthodrome/laws.box3 -/
theorem boxL3 (ax ay az cx cy cz : Nat) : FnD Try.prog 31 [.ag [dfl ax, dfl ay, dfl az], .ag [dfl cx, dfl cy, dfl cz]] (fun r => r = .ag [dfl ax, dfl ay, dfl az, dfl cx, dfl cy, dfl cz]) := by
  refine FnD.of (by kernel_rfl) Try.func31 rfl Try.ntmps31 rfl (leb rfl) fun W ok => ?_
  refine AC.seq ?_
  refine AC.region ?_
  refine AO.op rfl (AOp.box rfl rfl (ltb rfl) rfl rfl ?_)
  refine AO.op rfl (AOp.box rfl rfl (ltb rfl) rfl rfl ?_)
  refine AO.op rfl (AOp.alloc rfl rfl (ltb rfl) zero53 rfl ?_)
  refine AO.nil ?_
  change AC _ _ _ _
  refine AC.seq ?_
  refine AC.region ?_
  first | refine AO.op rfl (AOp.loadN rfl rfl (ltb rfl) rfl agg29 size29 rfl (leb rfl) rfl ?_) | refine AO.op rfl (AOp.loadEpN rfl rfl (ltb rfl) rfl agg29 size29 (leb rfl) rfl ?_)
  first | refine AO.op rfl (AOp.loadN rfl rfl (ltb rfl) rfl agg29 size29 rfl (leb rfl) rfl ?_) | refine AO.op rfl (AOp.loadEpN rfl rfl (ltb rfl) rfl agg29 size29 (leb rfl) rfl ?_)
  refine AO.op rfl (AOp.build rfl rfl (ltb rfl) zero53 rfl places53 rfl rfl ?_)
  refine AO.op rfl (AOp.store rfl rfl rfl rfl size53 rfl rfl rfl (leb rfl) ?_)
  refine AO.nil ?_
  change AC _ _ _ _
  refine AC.ret ?_
  change RetQ _ _ _ .ret _
  refine retq rfl ?_
  exact rfl

set_option maxRecDepth 100000 in
/-- pub-orthodrome/laws.FnBox3 -/
theorem lawBox3 (ax ay az cx cy cz : Nat) : FnD Try.prog 9 [.ag [dfl ax, dfl ay, dfl az], .ag [dfl cx, dfl cy, dfl cz]] (fun r => r = dbool true) := by
  refine FnD.of (by kernel_rfl) Try.func9 rfl Try.ntmps9 rfl (leb rfl) fun W ok => ?_
  refine AC.seq ?_
  refine AC.region ?_
  refine AO.op rfl (AOp.box rfl rfl (ltb rfl) rfl rfl ?_)
  refine AO.op rfl (AOp.box rfl rfl (ltb rfl) rfl rfl ?_)
  refine AO.op rfl (AOp.assign rfl rfl (ltb rfl) rfl ?_)
  refine AO.nil ?_
  change AC _ _ _ _
  refine AC.seq ?_
  refine AC.seq ?_
  refine AC.region ?_
  first | refine AO.op rfl (AOp.loadN rfl rfl (ltb rfl) rfl agg29 size29 rfl (leb rfl) rfl ?_) | refine AO.op rfl (AOp.loadEpN rfl rfl (ltb rfl) rfl agg29 size29 (leb rfl) rfl ?_)
  first | refine AO.op rfl (AOp.loadN rfl rfl (ltb rfl) rfl agg29 size29 rfl (leb rfl) rfl ?_) | refine AO.op rfl (AOp.loadEpN rfl rfl (ltb rfl) rfl agg29 size29 (leb rfl) rfl ?_)
  refine AO.op rfl (AOp.buildSlice rfl rfl (ltb rfl) el71 zero29 rfl (leb rfl) rfl rfl rfl ?_)
  refine AO.op rfl (AOp.callV rfl rfl (ltb rfl) rfl rfl (whole3 [(ax, ay, az), (cx, cy, cz)] (by simp)) (by rintro _ rfl; rfl) ?_)
  rintro _ rfl
  refine AO.op rfl (AOp.bnot rfl rfl (ltb rfl) rfl ?_)
  refine AO.nil ?_
  change AC _ _ _ _
  refine AC.cond rfl (fun h1 => ?_) (fun h1 => ?_)
  · refine AC.seq ?_
    refine AC.region ?_
    refine AO.op rfl (AOp.assign rfl rfl (ltb rfl) rfl ?_)
    refine AO.nil ?_
    change AC _ _ _ _
    refine AC.ret ?_
    change RetQ _ _ _ .ret _
    refine retq rfl ?_
    first | rfl | (simp_all; done)
  · refine AC.skip ?_
    change AC _ _ _ _
    refine AC.seq ?_
    refine AC.draw 28 mixed (by kernel_rfl) ?_
    have hw : rowB 3 K20 [ax, ay, az] = true ∧ rowB 3 K20 [cx, cy, cz] = true := by simpa using h1
    obtain ⟨oax, oay, oaz, ocx, ocy, ocz⟩ : Flt.okF K20 ax = true ∧ Flt.okF K20 ay = true ∧ Flt.okF K20 az = true ∧ Flt.okF K20 cx = true ∧ Flt.okF K20 cy = true ∧ Flt.okF K20 cz = true := by simpa [rowB, and_assoc] using hw
    obtain ⟨nax, iax, _, _⟩ := Flt.okF_K20 oax
    obtain ⟨nay, iay, _, _⟩ := Flt.okF_K20 oay
    obtain ⟨naz, iaz, _, _⟩ := Flt.okF_K20 oaz
    obtain ⟨ncx, icx, _, _⟩ := Flt.okF_K20 ocx
    obtain ⟨ncy, icy, _, _⟩ := Flt.okF_K20 ocy
    obtain ⟨ncz, icz, _, _⟩ := Flt.okF_K20 ocz
    have sx := Flt.ord_some iax icx
    have emx := feq_amin iax icx
    have eMx := feq_amax iax icx
    have sy := Flt.ord_some iay icy
    have emy := feq_amin iay icy
    have eMy := feq_amax iay icy
    have sz := Flt.ord_some iaz icz
    have emz := feq_amin iaz icz
    have eMz := feq_amax iaz icz
    first | refine AD.op [2] rfl (by kernel_rfl) rfl rfl (fun _ _ h => AOp.fieldAddr rfl rfl (ltb rfl) rfl fo29_0 h) ?_ | refine AD.op [2] rfl (by kernel_rfl) rfl rfl (fun _ _ h => AOp.fieldAddrPt rfl rfl (ltb rfl) rfl fo29_0 h) ?_ | refine AD.op [2] rfl (by kernel_rfl) rfl rfl (fun _ _ h => AOp.fieldAddrEp rfl rfl (ltb rfl) rfl fo29_0 h) ?_
    first | refine AD.op [10] rfl (by kernel_rfl) rfl rfl (fun _ _ h => AOp.load1 rfl rfl (ltb rfl) rfl agg22 rfl rfl h) ?_ | refine AD.op [10] rfl (by kernel_rfl) rfl rfl (fun _ _ h => AOp.loadEp rfl rfl (ltb rfl) rfl agg22 rfl h) ?_
    first | refine AD.op [2] rfl (by kernel_rfl) rfl rfl (fun _ _ h => AOp.fieldAddr rfl rfl (ltb rfl) rfl fo29_1 h) ?_ | refine AD.op [2] rfl (by kernel_rfl) rfl rfl (fun _ _ h => AOp.fieldAddrPt rfl rfl (ltb rfl) rfl fo29_1 h) ?_ | refine AD.op [2] rfl (by kernel_rfl) rfl rfl (fun _ _ h => AOp.fieldAddrEp rfl rfl (ltb rfl) rfl fo29_1 h) ?_
    first | refine AD.op [12] rfl (by kernel_rfl) rfl rfl (fun _ _ h => AOp.load1 rfl rfl (ltb rfl) rfl agg22 rfl rfl h) ?_ | refine AD.op [12] rfl (by kernel_rfl) rfl rfl (fun _ _ h => AOp.loadEp rfl rfl (ltb rfl) rfl agg22 rfl h) ?_
    first | refine AD.op [2] rfl (by kernel_rfl) rfl rfl (fun _ _ h => AOp.fieldAddr rfl rfl (ltb rfl) rfl fo29_2 h) ?_ | refine AD.op [2] rfl (by kernel_rfl) rfl rfl (fun _ _ h => AOp.fieldAddrPt rfl rfl (ltb rfl) rfl fo29_2 h) ?_ | refine AD.op [2] rfl (by kernel_rfl) rfl rfl (fun _ _ h => AOp.fieldAddrEp rfl rfl (ltb rfl) rfl fo29_2 h) ?_
    first | refine AD.op [14] rfl (by kernel_rfl) rfl rfl (fun _ _ h => AOp.load1 rfl rfl (ltb rfl) rfl agg22 rfl rfl h) ?_ | refine AD.op [14] rfl (by kernel_rfl) rfl rfl (fun _ _ h => AOp.loadEp rfl rfl (ltb rfl) rfl agg22 rfl h) ?_
    first | refine AD.op [3] rfl (by kernel_rfl) rfl rfl (fun _ _ h => AOp.fieldAddr rfl rfl (ltb rfl) rfl fo29_0 h) ?_ | refine AD.op [3] rfl (by kernel_rfl) rfl rfl (fun _ _ h => AOp.fieldAddrPt rfl rfl (ltb rfl) rfl fo29_0 h) ?_ | refine AD.op [3] rfl (by kernel_rfl) rfl rfl (fun _ _ h => AOp.fieldAddrEp rfl rfl (ltb rfl) rfl fo29_0 h) ?_
    first | refine AD.op [16] rfl (by kernel_rfl) rfl rfl (fun _ _ h => AOp.load1 rfl rfl (ltb rfl) rfl agg22 rfl rfl h) ?_ | refine AD.op [16] rfl (by kernel_rfl) rfl rfl (fun _ _ h => AOp.loadEp rfl rfl (ltb rfl) rfl agg22 rfl h) ?_
    first | refine AD.op [3] rfl (by kernel_rfl) rfl rfl (fun _ _ h => AOp.fieldAddr rfl rfl (ltb rfl) rfl fo29_1 h) ?_ | refine AD.op [3] rfl (by kernel_rfl) rfl rfl (fun _ _ h => AOp.fieldAddrPt rfl rfl (ltb rfl) rfl fo29_1 h) ?_ | refine AD.op [3] rfl (by kernel_rfl) rfl rfl (fun _ _ h => AOp.fieldAddrEp rfl rfl (ltb rfl) rfl fo29_1 h) ?_
    first | refine AD.op [18] rfl (by kernel_rfl) rfl rfl (fun _ _ h => AOp.load1 rfl rfl (ltb rfl) rfl agg22 rfl rfl h) ?_ | refine AD.op [18] rfl (by kernel_rfl) rfl rfl (fun _ _ h => AOp.loadEp rfl rfl (ltb rfl) rfl agg22 rfl h) ?_
    first | refine AD.op [3] rfl (by kernel_rfl) rfl rfl (fun _ _ h => AOp.fieldAddr rfl rfl (ltb rfl) rfl fo29_2 h) ?_ | refine AD.op [3] rfl (by kernel_rfl) rfl rfl (fun _ _ h => AOp.fieldAddrPt rfl rfl (ltb rfl) rfl fo29_2 h) ?_ | refine AD.op [3] rfl (by kernel_rfl) rfl rfl (fun _ _ h => AOp.fieldAddrEp rfl rfl (ltb rfl) rfl fo29_2 h) ?_
    first | refine AD.op [20] rfl (by kernel_rfl) rfl rfl (fun _ _ h => AOp.load1 rfl rfl (ltb rfl) rfl agg22 rfl rfl h) ?_ | refine AD.op [20] rfl (by kernel_rfl) rfl rfl (fun _ _ h => AOp.loadEp rfl rfl (ltb rfl) rfl agg22 rfl h) ?_
    refine AD.op [11, 13, 15, 17, 19, 21] rfl (by kernel_rfl) rfl rfl (fun _ _ h => AOp.callD rfl rfl (ltb rfl) rfl (implNewBox3 _ _ _ _ _ _) (by rintro _ rfl; exact h)) ?_
    first | refine AD.op [2] rfl (by kernel_rfl) rfl rfl (fun _ _ h => AOp.loadN rfl rfl (ltb rfl) rfl agg29 size29 rfl (leb rfl) rfl h) ?_ | refine AD.op [2] rfl (by kernel_rfl) rfl rfl (fun _ _ h => AOp.loadEpN rfl rfl (ltb rfl) rfl agg29 size29 (leb rfl) rfl h) ?_
    first | refine AD.op [3] rfl (by kernel_rfl) rfl rfl (fun _ _ h => AOp.loadN rfl rfl (ltb rfl) rfl agg29 size29 rfl (leb rfl) rfl h) ?_ | refine AD.op [3] rfl (by kernel_rfl) rfl rfl (fun _ _ h => AOp.loadEpN rfl rfl (ltb rfl) rfl agg29 size29 (leb rfl) rfl h) ?_
    refine AD.op [23, 24] rfl (by kernel_rfl) rfl rfl (fun _ _ h => AOp.callD rfl rfl (ltb rfl) rfl (canonL3 _ _ _ _ _ _ sx sy sz) (by rintro _ rfl; exact h)) ?_
    refine AD.op [22, 25] rfl (by kernel_rfl) rfl rfl (fun _ _ h => AOp.seql (n := 9) rfl rfl (ltb rfl) rfl rfl agg53 eg53 (by decide) (eq53 _ _ _ _ _ _ _ _ _ _ _ _) h) ?_
    refine AD.op [26] rfl (by kernel_rfl) rfl rfl (fun _ _ h => AOp.move rfl rfl (ltb rfl) rfl h) ?_
    refine AD.split 27 true rfl (fun h2 => ?_) (fun h2 => ?_)
    · first | refine AD.opY [2, 27] rfl rfl rfl h2 (by kernel_rfl) rfl rfl (fun _ _ h => AOp.loadN rfl rfl (ltb rfl) rfl agg29 size29 rfl (leb rfl) rfl h) ?_ | refine AD.opY [2, 27] rfl rfl rfl h2 (by kernel_rfl) rfl rfl (fun _ _ h => AOp.loadEpN rfl rfl (ltb rfl) rfl agg29 size29 (leb rfl) rfl h) ?_
      first | refine AD.opY [3, 27] rfl rfl rfl h2 (by kernel_rfl) rfl rfl (fun _ _ h => AOp.loadN rfl rfl (ltb rfl) rfl agg29 size29 rfl (leb rfl) rfl h) ?_ | refine AD.opY [3, 27] rfl rfl rfl h2 (by kernel_rfl) rfl rfl (fun _ _ h => AOp.loadEpN rfl rfl (ltb rfl) rfl agg29 size29 (leb rfl) rfl h) ?_
      refine AD.opY [27, 28, 29] rfl rfl rfl h2 (by kernel_rfl) rfl rfl (fun _ _ h => AOp.callD rfl rfl (ltb rfl) rfl (boxL3 _ _ _ _ _ _) (by rintro _ rfl; exact h)) ?_
      refine AD.opY [27, 30] rfl rfl rfl h2 (by kernel_rfl) rfl rfl (fun _ _ h => AOp.callD rfl rfl (ltb rfl) rfl (implCanon3 _ _ _ _ _ _) (by rintro _ rfl; exact h)) ?_
      first | refine AD.opY [2, 27] rfl rfl rfl h2 (by kernel_rfl) rfl rfl (fun _ _ h => AOp.loadN rfl rfl (ltb rfl) rfl agg29 size29 rfl (leb rfl) rfl h) ?_ | refine AD.opY [2, 27] rfl rfl rfl h2 (by kernel_rfl) rfl rfl (fun _ _ h => AOp.loadEpN rfl rfl (ltb rfl) rfl agg29 size29 (leb rfl) rfl h) ?_
      first | refine AD.opY [3, 27] rfl rfl rfl h2 (by kernel_rfl) rfl rfl (fun _ _ h => AOp.loadN rfl rfl (ltb rfl) rfl agg29 size29 rfl (leb rfl) rfl h) ?_ | refine AD.opY [3, 27] rfl rfl rfl h2 (by kernel_rfl) rfl rfl (fun _ _ h => AOp.loadEpN rfl rfl (ltb rfl) rfl agg29 size29 (leb rfl) rfl h) ?_
      refine AD.opY [27, 32, 33] rfl rfl rfl h2 (by kernel_rfl) rfl rfl (fun _ _ h => AOp.callD rfl rfl (ltb rfl) rfl (canonL3 _ _ _ _ _ _ sx sy sz) (by rintro _ rfl; exact h)) ?_
      refine AD.opY [27, 31, 34] rfl rfl rfl h2 (by kernel_rfl) rfl rfl (fun _ _ h => AOp.seql (n := 9) rfl rfl (ltb rfl) rfl rfl agg53 eg53 (by decide) (eq53 _ _ _ _ _ _ _ _ _ _ _ _) h) ?_
      refine AD.op [27, 35] rfl (by kernel_rfl) rfl rfl (fun _ _ h => AOp.pick rfl rfl (ltb rfl) rfl h2 rfl h) ?_
      refine AD.op [36] rfl (by kernel_rfl) rfl rfl (fun _ _ h => AOp.assign rfl rfl (ltb rfl) rfl h) ?_
      refine AD.done ?_
      refine AO.nil ?_
      change AC _ _ _ _
      refine AC.ret ?_
      change RetQ _ _ _ .ret _
      refine retq rfl ?_
      first | rfl | (simp_all; done)
    · refine AD.opN rfl rfl rfl (ltb rfl) rfl h2 ?_
      refine AD.opN rfl rfl rfl (ltb rfl) rfl h2 ?_
      refine AD.opN rfl rfl rfl (ltb rfl) rfl h2 ?_
      refine AD.opN rfl rfl rfl (ltb rfl) rfl h2 ?_
      refine AD.opN rfl rfl rfl (ltb rfl) rfl h2 ?_
      refine AD.opN rfl rfl rfl (ltb rfl) rfl h2 ?_
      refine AD.opN rfl rfl rfl (ltb rfl) rfl h2 ?_
      refine AD.opN rfl rfl rfl (ltb rfl) rfl h2 ?_
      refine AD.op [27, 35] rfl (by kernel_rfl) rfl rfl (fun _ _ h => AOp.pickN rfl rfl (ltb rfl) rfl h2 rfl h) ?_
      refine AD.op [36] rfl (by kernel_rfl) rfl rfl (fun _ _ h => AOp.assign rfl rfl (ltb rfl) rfl h) ?_
      refine AD.done ?_
      refine AO.nil ?_
      change AC _ _ _ _
      refine AC.ret ?_
      change RetQ _ _ _ .ret _
      refine retq rfl ?_
      first | rfl | (simp_all; done)

end Go.Proofs.Ytljfehlajemhaaa.Wk
