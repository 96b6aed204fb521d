/- Proved: what functions of this seat answer, as contracts over the memory view; no conditions beyond those that each theorem names. -/
import Derived.Test.YtljfehlajemhaaaScaled
import Derived.Test.YtljfehlajemhaaaProg
namespace Go.Proofs.Ytljfehlajemhaaa.Wk
open Go.Vm
set_option linter.unusedVariables false
set_option linter.unusedSimpArgs false
theorem agg22 : aggT Try.prog 22 = some false := by kernel_rfl
theorem agg29 : aggT Try.prog 29 = some true := by kernel_rfl
theorem agg53 : aggT Try.prog 53 = some true := by kernel_rfl
theorem agg56 : aggT Try.prog 56 = some false := by kernel_rfl
theorem agg73 : aggT Try.prog 73 = some true := by kernel_rfl
theorem agg87 : aggT Try.prog 87 = some true := by kernel_rfl
theorem el56 : elemT Try.prog 56 = some (22, 1) := by kernel_rfl
theorem el58 : elemT Try.prog 58 = some (56, 1) := by kernel_rfl
theorem el71 : elemT Try.prog 71 = some (29, 3) := by kernel_rfl
theorem fo29_0 : fieldOff Try.prog 29 0 = some 0 := by kernel_rfl
theorem fo29_1 : fieldOff Try.prog 29 1 = some 1 := by kernel_rfl
theorem fo29_2 : fieldOff Try.prog 29 2 = some 2 := by kernel_rfl
theorem fo53_0 : fieldOff Try.prog 53 0 = some 0 := by kernel_rfl
theorem fo53_1 : fieldOff Try.prog 53 1 = some 3 := by kernel_rfl
theorem fo73_0 : fieldOff Try.prog 73 0 = some 0 := by kernel_rfl
theorem fo73_1 : fieldOff Try.prog 73 1 = some 1 := by kernel_rfl
theorem fo73_2 : fieldOff Try.prog 73 2 = some 2 := by kernel_rfl
theorem fo87_0 : fieldOff Try.prog 87 0 = some 0 := by kernel_rfl
theorem fo87_1 : fieldOff Try.prog 87 1 = some 3 := by kernel_rfl
theorem mixed : Try.prog.follows .mixedOrders = true := by kernel_rfl
def pl29 : Nat → Option (Nat × Nat) := fun i => ([(0, 1), (1, 1), (2, 1)] : List (Nat × Nat))[i]?
theorem places29 : placesT Try.prog 29 = some pl29 := by kernel_rfl
def pl53 : Nat → Option (Nat × Nat) := fun i => ([(0, 3), (3, 3)] : List (Nat × Nat))[i]?
theorem places53 : placesT Try.prog 53 = some pl53 := by kernel_rfl
def pl73 : Nat → Option (Nat × Nat) := fun i => ([(0, 1), (1, 1), (2, 1)] : List (Nat × Nat))[i]?
theorem places73 : placesT Try.prog 73 = some pl73 := by kernel_rfl
def pl87 : Nat → Option (Nat × Nat) := fun i => ([(0, 3), (3, 3)] : List (Nat × Nat))[i]?
theorem places87 : placesT Try.prog 87 = some pl87 := by kernel_rfl
theorem size29 : sizeT Try.prog 29 = some 3 := by kernel_rfl
theorem size53 : sizeT Try.prog 53 = some 6 := by kernel_rfl
theorem size73 : sizeT Try.prog 73 = some 3 := by kernel_rfl
theorem size87 : sizeT Try.prog 87 = some 6 := by kernel_rfl
theorem zero22 : (Try.prog.info? 22).map (·.zero) = some (some (.float .f64 0)) := by kernel_rfl
theorem zero29 : (Try.prog.info? 29).map (·.zero) = some (some (.agg #[.float .f64 0, .float .f64 0, .float .f64 0])) := by kernel_rfl
theorem zero53 : (Try.prog.info? 53).map (·.zero) = some (some (.agg #[.float .f64 0, .float .f64 0, .float .f64 0, .float .f64 0, .float .f64 0, .float .f64 0])) := by kernel_rfl
theorem zero56 : (Try.prog.info? 56).map (·.zero) = some (some (.slice none 0 0)) := by kernel_rfl
theorem zero73 : (Try.prog.info? 73).map (·.zero) = some (some (.agg #[.float .f64 0, .float .f64 0, .float .f64 0])) := by kernel_rfl
theorem zero87 : (Try.prog.info? 87).map (·.zero) = some (some (.agg #[.float .f64 0, .float .f64 0, .float .f64 0, .float .f64 0, .float .f64 0, .float .f64 0])) := by kernel_rfl
open Flt (truncD okF inR K20)
def notNan (x : Nat) : Prop := (FloatKind.f64.decode x).isNaN = false
def truncS (x : Nat) (d : Ieee.Datum) : Sem Value :=
  match d with
  | .nan s t =>
    if FloatKind.f64.format.quiet t = t then pure (.float .f64 x) else do
      let kept ← choose (.extern "math.Floor,Ceil,Trunc,RoundToEven.signallingNaN kept" 2)
      pure (.float .f64 (if kept == 1 then x else FloatKind.f64.encode (.nan s (FloatKind.f64.format.quiet t))))
  | d => pure (.float .f64 (FloatKind.f64.encode (d.integral .zero)))
theorem run_trunc (P : Program) (x : Nat) (h : notNan x) (w : World) : (Extern.MathFloor.toIntegral "math.archTrunc" .zero #[.float .f64 x]).run P w = .ok (.float .f64 (truncD x)) w := by
  unfold notNan at h
  have e : Extern.MathFloor.toIntegral "math.archTrunc" .zero #[.float .f64 x] = truncS x (FloatKind.f64.decode x) := rfl
  have e2 : ∀ d : Ieee.Datum, d.isNaN = false → truncS x d = pure (.float .f64 (FloatKind.f64.encode (d.integral .zero))) := by
    intro d hd
    cases d with
    | nan s t => cases hd
    | number s m e => rfl
    | infinity s => rfl
  rw [e, e2 _ h]
  rfl

theorem callTrunc (x : Nat) (h : notNan x) (w : World) : (callFunc 61 #[.float .f64 x]).run Try.prog w = .ok (.value (.float .f64 (truncD x))) w := by
  rw [run_callFunc_extern Try.func61 (by kernel_rfl) (by kernel_rfl) (by kernel_rfl) (e := Extern.MathFloor.toIntegral "math.archTrunc" .zero) (by kernel_rfl), run_trunc Try.prog x h]
  rfl

theorem inR_nn (m x : Nat) (h : fle x m = true) : notNan x := by
  unfold fle at h
  unfold notNan
  unfold Ieee.Format.order at h
  show (Ieee.double.read x).isNaN = false
  generalize Ieee.double.read x = d at *
  cases d with
  | nan s t => simp [Ieee.Datum.order] at h
  | number s m e => rfl
  | infinity s => rfl

set_option maxRecDepth 100000 in
/-- math.Trunc -/
theorem trunc (x : Nat) (h : notNan x) : FnD Try.prog 46 [dfl x] (fun r => r = dfl (truncD x)) := by
  refine FnD.of (by kernel_rfl) Try.func46 rfl Try.ntmps46 rfl (leb rfl) fun W ok => ?_
  refine AC.seq ?_
  refine AC.region ?_
  refine AO.op rfl (AOp.assign rfl rfl (ltb rfl) rfl ?_)
  refine AO.nil ?_
  change AC _ _ _ _
  refine AC.seq ?_
  refine AC.condT rfl rfl ?_
  refine AC.seq ?_
  refine AC.region ?_
  refine AO.op rfl (AOp.move rfl rfl (ltb rfl) rfl ?_)
  refine AO.op rfl (AOp.callX [.float .f64 x] rfl rfl (ltb rfl) rfl (callTrunc x h) ?_)
  refine AO.op rfl (AOp.assign rfl rfl (ltb rfl) rfl ?_)
  refine AO.nil ?_
  change AC _ _ _ _
  refine AC.ret ?_
  change RetQ _ _ _ .ret _
  refine retq rfl ?_
  exact rfl

def row (l : List Nat) : D := .ds 1 (l.map dfl)
def rows (ls : List (List Nat)) : D := .ds 1 (ls.map row)
theorem map_at {α β : Type} (f : α → β) (l : List α) (k : Nat) (d : α) (h : k < l.length) : (l.map f)[(k : Int).toNat * 1]? = some (f (l.getD k d)) := by
  simp [h]
theorem all_take_succ {α : Type} (p : α → Bool) (l : List α) (k : Nat) (d : α) (h : k < l.length) : (l.take (k + 1)).all p = ((l.take k).all p && p (l.getD k d)) := by
  rw [List.take_succ_eq_append_getElem h, List.all_append]
  simp [h]
theorem all_false_at {α : Type} (p : α → Bool) (l : List α) (j : Nat) (d : α) (h : j < l.length) (hf : p (l.getD j d) = false) : l.all p = false := by
  rw [List.all_eq_false]
  refine ⟨l.getD j d, ?_, by rw [hf]; decide⟩
  rw [List.getD_eq_getElem?_getD, List.getElem?_eq_getElem h]; simp

/-- what Grid tells -/
def rowB (n m : Nat) (l : List Nat) : Bool := decide (l.length = n) && l.all (okF m)
def gridB (ls : List (List Nat)) (n m : Nat) : Bool := ls.all (rowB n m) && decide (0 < n)
theorem grid_no {ls : List (List Nat)} {n m k : Nat} {l : List Nat} (hl0 : l = ls.getD k []) (hlt : k < ls.length) (h : rowB n m l = false) : dbool false = dbool (gridB ls n m) := by
  unfold gridB
  rw [all_false_at (rowB n m) ls k [] hlt (by rw [← hl0]; exact h)]; rfl
theorem row_no {n m j x : Nat} {l : List Nat} (hx0 : x = l.getD j 0) (hj : j < l.length) (h : okF m x = false) : rowB n m l = false := by
  unfold rowB
  rw [all_false_at (okF m) l j 0 hj (by rw [← hx0]; exact h), Bool.and_false]

set_option maxRecDepth 100000 in
/-- pub-orthodrome/spec.Grid -/
theorem grid (ls : List (List Nat)) (n m : Nat) (hls : ls.length < 4611686018427387904) (hl : ∀ l, l ∈ ls → l.length < 4611686018427387904) : FnD Try.prog 24 [rows ls, dint n, dfl m] (fun r => r = dbool (gridB ls n m)) := by
  refine FnD.of (by kernel_rfl) Try.func24 rfl Try.ntmps24 rfl (leb rfl) fun W ok => ?_
  refine AC.seq ?_
  refine AC.region ?_
  refine AO.op rfl (AOp.assign rfl rfl (ltb rfl) rfl ?_)
  refine AO.nil ?_
  change AC _ _ _ _
  refine AC.seq ?_
  refine AC.seq ?_
  refine AC.region ?_
  refine AO.op rfl (AOp.move rfl rfl (ltb rfl) rfl ?_)
  first | refine AO.op rfl (AOp.lenDs (n := ls.length) rfl rfl (ltb rfl) rfl el58 (by decide) (by simp) ?_) | refine AO.op rfl (AOp.lenOwn (n := ls.length) rfl rfl (ltb rfl) rfl el58 rfl (by decide) (by simp) ?_)
  refine AO.op rfl (AOp.move rfl rfl (ltb rfl) rfl ?_)
  refine AO.nil ?_
  change AC _ _ _ _
  refine AC.block ?_
  refine AC.loopV (G := Nat) [1, 2, 11, 12] [13] 0 (fun k => [(13, .d (dint (k : Nat)))]) (fun _ => _) (fun k => k ≤ ls.length ∧ (ls.take k).all (rowB n m) = true) (fun k => ls.length - k) (0) rfl rfl rfl rfl ⟨by omega, rfl⟩ ?_
  rintro k ⟨hk, hk2⟩
  refine AC.seq ?_
  refine AC.region ?_
  refine AO.op rfl (AOp.ilss rfl rfl (ltb rfl) rfl rfl ?_)
  refine AO.nil ?_
  change AC _ _ _ _
  refine AC.seq ?_
  refine AC.cond rfl (fun h1 => ?_) (fun h1 => ?_)
  · have hlt : k < ls.length := by simpa using h1
    obtain ⟨l, hl0⟩ : ∃ l, l = ls.getD k [] := ⟨_, rfl⟩
    have hll : l.length < 4611686018427387904 := hl l (by rw [hl0]; simp [hlt])
    refine AC.skip ?_
    change AC _ _ _ _
    refine AC.seq ?_
    refine AC.block ?_
    refine AC.seq ?_
    refine AC.region ?_
    first | refine AO.op rfl (AOp.indexDs rfl rfl (ltb rfl) rfl rfl el58 (by decide) (by omega) (by simp; omega) ?_) | refine AO.op rfl (AOp.indexSl rfl rfl (ltb rfl) rfl rfl el58 (by omega) (by simp; omega) ?_)
    refine AO.op rfl (AOp.loadEp rfl rfl (ltb rfl) rfl agg56 (y := row l) (by rw [hl0]; exact map_at row ls k [] hlt) ?_)
    refine AO.op rfl (AOp.assign rfl rfl (ltb rfl) rfl ?_)
    refine AO.nil ?_
    change AC _ _ _ _
    refine AC.seq ?_
    refine AC.seq ?_
    refine AC.region ?_
    refine AO.op rfl (AOp.move rfl rfl (ltb rfl) rfl ?_)
    first | refine AO.op rfl (AOp.lenDs (n := l.length) rfl rfl (ltb rfl) rfl el56 (by decide) (by simp) ?_) | refine AO.op rfl (AOp.lenOwn (n := l.length) rfl rfl (ltb rfl) rfl el56 rfl (by decide) (by simp) ?_)
    refine AO.op rfl (AOp.move rfl rfl (ltb rfl) rfl ?_)
    refine AO.op rfl (AOp.ineq rfl rfl (ltb rfl) rfl rfl ?_)
    refine AO.nil ?_
    change AC _ _ _ _
    refine AC.cond rfl (fun h2 => ?_) (fun h2 => ?_)
    · refine AC.seq ?_
      refine AC.region ?_
      refine AO.op rfl (AOp.assign rfl rfl (ltb rfl) rfl ?_)
      refine AO.nil ?_
      change AC _ _ _ _
      refine AC.ret ?_
      change RetQ _ _ _ .ret _
      refine retq rfl ?_
      exact grid_no hl0 hlt (by simp at h2; simp [rowB]; omega)
    · refine AC.skip ?_
      change AC _ _ _ _
      refine AC.seq ?_
      refine AC.region ?_
      refine AO.op rfl (AOp.move rfl rfl (ltb rfl) rfl ?_)
      first | refine AO.op rfl (AOp.lenDs (n := l.length) rfl rfl (ltb rfl) rfl el56 (by decide) (by simp) ?_) | refine AO.op rfl (AOp.lenOwn (n := l.length) rfl rfl (ltb rfl) rfl el56 rfl (by decide) (by simp) ?_)
      refine AO.op rfl (AOp.move rfl rfl (ltb rfl) rfl ?_)
      refine AO.nil ?_
      change AC _ _ _ _
      refine AC.block ?_
      refine AC.loopV (G := Nat) [1, 2, 11, 12, 13, 21, 22] [23] 0 (fun j => [(23, .d (dint (j : Nat)))]) (fun _ => _) (fun j => j ≤ l.length ∧ (l.take j).all (okF m) = true) (fun j => l.length - j) (0) rfl rfl rfl rfl ⟨by omega, rfl⟩ ?_
      rintro j ⟨hj1, hj2⟩
      refine AC.seq ?_
      refine AC.region ?_
      refine AO.op rfl (AOp.ilss rfl rfl (ltb rfl) rfl rfl ?_)
      refine AO.nil ?_
      change AC _ _ _ _
      refine AC.seq ?_
      refine AC.cond rfl (fun h3 => ?_) (fun h3 => ?_)
      · have hj : j < l.length := by simpa using h3
        obtain ⟨x, hx0⟩ : ∃ x, x = l.getD j 0 := ⟨_, rfl⟩
        refine AC.skip ?_
        change AC _ _ _ _
        refine AC.seq ?_
        refine AC.block ?_
        refine AC.seq ?_
        refine AC.region ?_
        first | refine AO.op rfl (AOp.indexDs rfl rfl (ltb rfl) rfl rfl el56 (by decide) (by omega) (by simp; omega) ?_) | refine AO.op rfl (AOp.indexSl rfl rfl (ltb rfl) rfl rfl el56 (by omega) (by simp; omega) ?_)
        refine AO.op rfl (AOp.loadEp rfl rfl (ltb rfl) rfl agg22 (y := dfl x) (by rw [hx0]; exact map_at dfl l j 0 hj) ?_)
        refine AO.op rfl (AOp.assign rfl rfl (ltb rfl) rfl ?_)
        refine AO.nil ?_
        change AC _ _ _ _
        refine AC.seq ?_
        refine AC.region ?_
        refine AO.op rfl (AOp.move rfl rfl (ltb rfl) rfl ?_)
        refine AO.op rfl (AOp.move rfl rfl (ltb rfl) rfl ?_)
        first | refine AO.op rfl (AOp.fneg rfl rfl (ltb rfl) rfl ?_) | refine AO.op rfl (AOp.ineg rfl rfl (ltb rfl) rfl rfl (by first | decide | (simp only [lo]; omega)) (by first | decide | (simp only [hi]; omega)) ?_)
        refine AO.op rfl (AOp.fgeq rfl rfl (ltb rfl) rfl rfl ?_)
        refine AO.op rfl (AOp.move rfl rfl (ltb rfl) rfl ?_)
        refine AO.guard rfl rfl rfl (ltb rfl) rfl (fun h4 => ?_) (fun h4 => ?_)
        · refine AOp.move rfl rfl (ltb rfl) rfl ?_
          refine AO.guardY rfl rfl rfl h4 (AOp.move rfl rfl (ltb rfl) rfl ?_)
          refine AO.guardY rfl rfl rfl h4 (AOp.fleq rfl rfl (ltb rfl) rfl rfl ?_)
          refine AO.op rfl (AOp.pick rfl rfl (ltb rfl) rfl h4 rfl ?_)
          refine AO.op rfl (AOp.bnot rfl rfl (ltb rfl) rfl ?_)
          refine AO.op rfl (AOp.move rfl rfl (ltb rfl) rfl ?_)
          refine AO.guard rfl rfl rfl (ltb rfl) rfl (fun h5 => ?_) (fun h5 => ?_)
          · refine AOp.move rfl rfl (ltb rfl) rfl ?_
            refine AO.guardY rfl rfl rfl h5 (AOp.move rfl rfl (ltb rfl) rfl ?_)
            refine AO.guardY rfl rfl rfl h5 (AOp.callD rfl rfl (ltb rfl) rfl (trunc _ (inR_nn m _ (by simpa using h5))) ?_)
            rintro _ rfl
            refine AO.guardY rfl rfl rfl h5 (AOp.fneq rfl rfl (ltb rfl) rfl rfl ?_)
            refine AO.op rfl (AOp.pickN rfl rfl (ltb rfl) rfl h5 rfl ?_)
            refine AO.nil ?_
            change AC _ _ _ _
            refine AC.cond rfl (fun h6 => ?_) (fun h6 => ?_)
            · refine AC.seq ?_
              refine AC.region ?_
              refine AO.op rfl (AOp.assign rfl rfl (ltb rfl) rfl ?_)
              refine AO.nil ?_
              change AC _ _ _ _
              refine AC.ret ?_
              change RetQ _ _ _ .ret _
              refine retq rfl ?_
              exact grid_no hl0 hlt (row_no hx0 hj (by simp_all [okF, inR]))
            · refine AC.skip ?_
              change AC _ _ _ _
              refine AC.region ?_
              refine AO.op rfl (AOp.iadd rfl rfl (ltb rfl) rfl rfl rfl (by simp only [lo]; omega) (by simp only [hi]; omega) ?_)
              refine AO.op rfl (AOp.move rfl rfl (ltb rfl) rfl ?_)
              refine AO.nil ?_
              refine ⟨rfl, j + 1, rfl, rfl, rfl, ⟨by omega, by rw [all_take_succ (okF m) l j 0 hj, hj2, ← hx0]; simp_all [okF, inR]⟩, (by first | omega | (dsimp only; omega))⟩
          · refine AO.guardN rfl rfl rfl (ltb rfl) rfl h5 ?_
            refine AO.guardN rfl rfl rfl (ltb rfl) rfl h5 ?_
            refine AO.guardN rfl rfl rfl (ltb rfl) rfl h5 ?_
            refine AO.op rfl (AOp.pick rfl rfl (ltb rfl) rfl h5 rfl ?_)
            refine AO.nil ?_
            change AC _ _ _ _
            refine AC.condT rfl rfl ?_
            refine AC.seq ?_
            refine AC.region ?_
            refine AO.op rfl (AOp.assign rfl rfl (ltb rfl) rfl ?_)
            refine AO.nil ?_
            change AC _ _ _ _
            refine AC.ret ?_
            change RetQ _ _ _ .ret _
            refine retq rfl ?_
            exact grid_no hl0 hlt (row_no hx0 hj (by simp_all [okF, inR]))
        · refine AO.guardN rfl rfl rfl (ltb rfl) rfl h4 ?_
          refine AO.guardN rfl rfl rfl (ltb rfl) rfl h4 ?_
          refine AO.op rfl (AOp.pickN rfl rfl (ltb rfl) rfl h4 rfl ?_)
          refine AO.op rfl (AOp.bnot rfl rfl (ltb rfl) rfl ?_)
          refine AO.op rfl (AOp.move rfl rfl (ltb rfl) rfl ?_)
          refine AO.guardN rfl rfl rfl (ltb rfl) rfl rfl ?_
          refine AO.guardN rfl rfl rfl (ltb rfl) rfl rfl ?_
          refine AO.guardN rfl rfl rfl (ltb rfl) rfl rfl ?_
          refine AO.guardN rfl rfl rfl (ltb rfl) rfl rfl ?_
          refine AO.op rfl (AOp.pick rfl rfl (ltb rfl) rfl rfl rfl ?_)
          refine AO.nil ?_
          change AC _ _ _ _
          refine AC.condT rfl rfl ?_
          refine AC.seq ?_
          refine AC.region ?_
          refine AO.op rfl (AOp.assign rfl rfl (ltb rfl) rfl ?_)
          refine AO.nil ?_
          change AC _ _ _ _
          refine AC.ret ?_
          change RetQ _ _ _ .ret _
          refine retq rfl ?_
          exact grid_no hl0 hlt (row_no hx0 hj (by simp_all [okF, inR]))
      · refine AC.exit ?_
        change AC _ _ _ _
        refine AC.region ?_
        refine AO.op rfl (AOp.iadd rfl rfl (ltb rfl) rfl rfl rfl (by simp only [lo]; omega) (by simp only [hi]; omega) ?_)
        refine AO.op rfl (AOp.move rfl rfl (ltb rfl) rfl ?_)
        refine AO.nil ?_
        have h2q : l.length = n := by simp at h2; omega
        refine ⟨rfl, k + 1, rfl, rfl, rfl, ⟨by omega, by rw [all_take_succ (rowB n m) ls k [] hlt, hk2, ← hl0]; unfold rowB; rw [← List.take_of_length_le (l := l) (i := j) (by simp at h3; omega), hj2]; simp [List.take_of_length_le (l := l) (i := j) (by simp at h3; omega), h2q]⟩, (by first | omega | (dsimp only; omega))⟩
  · refine AC.exit ?_
    change AC _ _ _ _
    refine AC.seq ?_
    refine AC.region ?_
    refine AO.op rfl (AOp.move rfl rfl (ltb rfl) rfl ?_)
    refine AO.op rfl (AOp.igtr rfl rfl (ltb rfl) rfl rfl ?_)
    refine AO.op rfl (AOp.assign rfl rfl (ltb rfl) rfl ?_)
    refine AO.nil ?_
    change AC _ _ _ _
    refine AC.ret ?_
    change RetQ _ _ _ .ret _
    refine retq rfl ?_
    rw [← List.take_of_length_le (l := ls) (i := k) (by simp at h1; omega)]
    simp [gridB, hk2]

def pts3 (pts : List (Nat × Nat × Nat)) : D := .ds 3 (pts.flatMap fun p => [dfl p.1, dfl p.2.1, dfl p.2.2])
theorem len3 (pts : List (Nat × Nat × Nat)) : (pts.flatMap fun p => [dfl p.1, dfl p.2.1, dfl p.2.2]).length = pts.length * 3 := by
  induction pts with
  | nil => rfl
  | cons p r ih => simp [ih]; omega
theorem flat3 (pts : List (Nat × Nat × Nat)) : ∀ (k : Nat), k < pts.length → ((pts.flatMap fun p => [dfl p.1, dfl p.2.1, dfl p.2.2]).drop ((k : Int).toNat * 3)).take 3 = [dfl (pts.getD k (0, 0, 0)).1, dfl (pts.getD k (0, 0, 0)).2.1, dfl (pts.getD k (0, 0, 0)).2.2] := by
  induction pts with
  | nil => intro k h; simp at h
  | cons p r ih =>
    intro k h
    cases k with
    | zero => rfl
    | succ k =>
      have := ih k (by simpa using h)
      have e : (((k + 1 : Nat) : Int).toNat) * 3 = ((k : Int).toNat * 3) + 1 + 1 + 1 := by omega
      rw [e]
      simpa using this

set_option maxRecDepth 100000 in
/-- pub-orthodrome/laws.off3 -/
theorem off3 (x y z : Nat) : FnD Try.prog 25 [.ag [dfl x, dfl y, dfl z]] (fun r => r = .ds 1 [dfl x, dfl y, dfl z]) := by
  refine FnD.of (by kernel_rfl) Try.func25 rfl Try.ntmps25 rfl (leb rfl) fun W ok => ?_
  refine AC.seq ?_
  refine AC.region ?_
  refine AO.op rfl (AOp.box rfl rfl (ltb rfl) rfl rfl ?_)
  refine AO.op rfl (AOp.assign rfl rfl (ltb rfl) rfl ?_)
  refine AO.nil ?_
  change AC _ _ _ _
  refine AC.seq ?_
  refine AC.region ?_
  first | refine AO.op rfl (AOp.fieldAddr rfl rfl (ltb rfl) rfl fo29_0 ?_) | refine AO.op rfl (AOp.fieldAddrPt rfl rfl (ltb rfl) rfl fo29_0 ?_) | refine AO.op rfl (AOp.fieldAddrEp rfl rfl (ltb rfl) rfl fo29_0 ?_)
  first | refine AO.op rfl (AOp.load1 rfl rfl (ltb rfl) rfl agg22 rfl rfl ?_) | refine AO.op rfl (AOp.loadEp rfl rfl (ltb rfl) rfl agg22 rfl ?_)
  first | refine AO.op rfl (AOp.fieldAddr rfl rfl (ltb rfl) rfl fo29_1 ?_) | refine AO.op rfl (AOp.fieldAddrPt rfl rfl (ltb rfl) rfl fo29_1 ?_) | refine AO.op rfl (AOp.fieldAddrEp rfl rfl (ltb rfl) rfl fo29_1 ?_)
  first | refine AO.op rfl (AOp.load1 rfl rfl (ltb rfl) rfl agg22 rfl rfl ?_) | refine AO.op rfl (AOp.loadEp rfl rfl (ltb rfl) rfl agg22 rfl ?_)
  first | refine AO.op rfl (AOp.fieldAddr rfl rfl (ltb rfl) rfl fo29_2 ?_) | refine AO.op rfl (AOp.fieldAddrPt rfl rfl (ltb rfl) rfl fo29_2 ?_) | refine AO.op rfl (AOp.fieldAddrEp rfl rfl (ltb rfl) rfl fo29_2 ?_)
  first | refine AO.op rfl (AOp.load1 rfl rfl (ltb rfl) rfl agg22 rfl rfl ?_) | refine AO.op rfl (AOp.loadEp rfl rfl (ltb rfl) rfl agg22 rfl ?_)
  refine AO.op rfl (AOp.buildSlice rfl rfl (ltb rfl) el56 zero22 rfl (leb rfl) rfl rfl rfl ?_)
  refine AO.op rfl (AOp.assign rfl rfl (ltb rfl) rfl ?_)
  refine AO.nil ?_
  change AC _ _ _ _
  refine AC.ret ?_
  change RetQ _ _ _ .ret _
  refine retq rfl ?_
  exact rfl

set_option maxRecDepth 100000 in
/-- pub-orthodrome/laws.whole3 -/
theorem whole3 (pts : List (Nat × Nat × Nat)) (hpl : pts.length < 1000000) : FnD Try.prog 12 [pts3 pts] (fun r => r = dbool (pts.all fun p => rowB 3 K20 [p.1, p.2.1, p.2.2])) := by
  refine FnD.of (by kernel_rfl) Try.func12 rfl Try.ntmps12 rfl (leb rfl) fun W ok => ?_
  refine AC.seq ?_
  refine AC.region ?_
  refine AO.op rfl (AOp.assign rfl rfl (ltb rfl) rfl ?_)
  refine AO.nil ?_
  change AC _ _ _ _
  refine AC.seq ?_
  refine AC.seq ?_
  refine AC.region ?_
  refine AO.op rfl (AOp.move rfl rfl (ltb rfl) rfl ?_)
  first | refine AO.op rfl (AOp.lenDs (n := pts.length) rfl rfl (ltb rfl) rfl el71 (by decide) (len3 pts) ?_) | refine AO.op rfl (AOp.lenOwn (n := pts.length) rfl rfl (ltb rfl) rfl el71 rfl (by decide) (len3 pts) ?_)
  refine AO.op rfl (AOp.move rfl rfl (ltb rfl) rfl ?_)
  refine AO.nil ?_
  change AC _ _ _ _
  refine AC.block ?_
  refine AC.loopV (G := Nat) [5, 6] [7] 0 (fun k => [(7, .d (dint (k : Nat)))]) (fun _ => _) (fun k => k ≤ pts.length ∧ (pts.take k).all (fun p => rowB 3 K20 [p.1, p.2.1, p.2.2]) = true) (fun k => pts.length - k) (0) rfl rfl rfl rfl ⟨by omega, rfl⟩ ?_
  rintro k ⟨hk, hk2⟩
  refine AC.seq ?_
  refine AC.region ?_
  refine AO.op rfl (AOp.ilss rfl rfl (ltb rfl) rfl rfl ?_)
  refine AO.nil ?_
  change AC _ _ _ _
  refine AC.seq ?_
  refine AC.cond rfl (fun h1 => ?_) (fun h1 => ?_)
  · have hlt : k < pts.length := by simpa using h1
    obtain ⟨p, hp0⟩ : ∃ p, p = pts.getD k (0, 0, 0) := ⟨_, rfl⟩
    refine AC.skip ?_
    change AC _ _ _ _
    refine AC.seq ?_
    refine AC.block ?_
    refine AC.seq ?_
    refine AC.region ?_
    first | refine AO.op rfl (AOp.indexDs rfl rfl (ltb rfl) rfl rfl el71 (by decide) (by omega) (by rw [len3]; omega) ?_) | refine AO.op rfl (AOp.indexSl rfl rfl (ltb rfl) rfl rfl el71 (by omega) (by rw [len3]; omega) ?_)
    refine AO.op rfl (AOp.loadEpN rfl rfl (ltb rfl) rfl agg29 size29 (ys := [dfl p.1, dfl p.2.1, dfl p.2.2]) (by rw [len3]; omega) (by rw [hp0]; exact flat3 pts k hlt) ?_)
    refine AO.op rfl (AOp.alloc rfl rfl (ltb rfl) zero29 rfl ?_)
    refine AO.op rfl (AOp.store rfl rfl rfl rfl size29 rfl rfl rfl (leb rfl) ?_)
    refine AO.nil ?_
    change AC _ _ _ _
    refine AC.seq ?_
    refine AC.region ?_
    first | refine AO.op rfl (AOp.loadN rfl rfl (ltb rfl) rfl agg29 size29 rfl (leb rfl) rfl ?_) | refine AO.op rfl (AOp.loadEpN rfl rfl (ltb rfl) rfl agg29 size29 (leb rfl) rfl ?_)
    refine AO.op rfl (AOp.callD rfl rfl (ltb rfl) rfl (off3 _ _ _) ?_)
    rintro _ rfl
    refine AO.op rfl (AOp.buildSlice rfl rfl (ltb rfl) el58 zero56 rfl (leb rfl) rfl rfl rfl ?_)
    refine AO.op rfl (AOp.callV rfl rfl (ltb rfl) rfl rfl (grid [[p.1, p.2.1, p.2.2]] 3 K20 (by simp) (by simp)) (by rintro _ rfl; rfl) ?_)
    rintro _ rfl
    refine AO.op rfl (AOp.bnot rfl rfl (ltb rfl) rfl ?_)
    refine AO.nil ?_
    change AC _ _ _ _
    refine AC.cond rfl (fun h2 => ?_) (fun h2 => ?_)
    · refine AC.seq ?_
      refine AC.region ?_
      refine AO.op rfl (AOp.assign rfl rfl (ltb rfl) rfl ?_)
      refine AO.nil ?_
      change AC _ _ _ _
      refine AC.ret ?_
      change RetQ _ _ _ .ret _
      refine retq rfl ?_
      rw [all_false_at _ pts k (0, 0, 0) hlt (by rw [← hp0]; simpa [gridB] using h2)]
    · refine AC.skip ?_
      change AC _ _ _ _
      refine AC.region ?_
      refine AO.op rfl (AOp.iadd rfl rfl (ltb rfl) rfl rfl rfl (by simp only [lo]; omega) (by simp only [hi]; omega) ?_)
      refine AO.op rfl (AOp.move rfl rfl (ltb rfl) rfl ?_)
      refine AO.nil ?_
      refine ⟨rfl, k + 1, rfl, rfl, rfl, ⟨by omega, by rw [all_take_succ _ pts k (0, 0, 0) hlt, hk2, ← hp0]; simp [gridB] at h2; simp [h2]⟩, (by first | omega | (dsimp only; omega))⟩
  · refine AC.exit ?_
    change AC _ _ _ _
    refine AC.seq ?_
    refine AC.region ?_
    refine AO.op rfl (AOp.assign rfl rfl (ltb rfl) rfl ?_)
    refine AO.nil ?_
    change AC _ _ _ _
    refine AC.ret ?_
    change RetQ _ _ _ .ret _
    refine retq rfl ?_
    rw [← List.take_of_length_le (l := pts) (i := k) (by simp at h1; omega), hk2]

theorem callAMin (x y : Nat) (w : World) : (callFunc 77 #[.float .f64 x, .float .f64 y]).run Try.prog w = .ok (.value (.float .f64 (Flt.amin x y))) w := by
  rw [run_callFunc_extern Try.func77 (by kernel_rfl) (by kernel_rfl) (by kernel_rfl) (e := Extern.MathDim.pick "math.archMin" true .lt) (by kernel_rfl), Flt.run_archMin Try.prog x y]
  rfl

set_option maxRecDepth 100000 in
/-- math.Min -/
theorem mathMin (x y : Nat) : FnD Try.prog 57 [dfl x, dfl y] (fun r => r = dfl (Flt.amin x y)) := by
  refine FnD.of (by kernel_rfl) Try.func57 rfl Try.ntmps57 rfl (leb rfl) fun W ok => ?_
  refine AC.seq ?_
  refine AC.region ?_
  refine AO.op rfl (AOp.assign rfl rfl (ltb rfl) rfl ?_)
  refine AO.nil ?_
  change AC _ _ _ _
  refine AC.seq ?_
  refine AC.condT rfl rfl ?_
  refine AC.seq ?_
  refine AC.region ?_
  refine AO.op rfl (AOp.move rfl rfl (ltb rfl) rfl ?_)
  refine AO.op rfl (AOp.move rfl rfl (ltb rfl) rfl ?_)
  refine AO.op rfl (AOp.callX [.float .f64 x, .float .f64 y] rfl rfl (ltb rfl) rfl (callAMin x y) ?_)
  refine AO.op rfl (AOp.assign rfl rfl (ltb rfl) rfl ?_)
  refine AO.nil ?_
  change AC _ _ _ _
  refine AC.ret ?_
  change RetQ _ _ _ .ret _
  refine retq rfl ?_
  exact rfl

theorem callAMax (x y : Nat) (w : World) : (callFunc 79 #[.float .f64 x, .float .f64 y]).run Try.prog w = .ok (.value (.float .f64 (Flt.amax x y))) w := by
  rw [run_callFunc_extern Try.func79 (by kernel_rfl) (by kernel_rfl) (by kernel_rfl) (e := Extern.MathDim.pick "math.archMax" false .gt) (by kernel_rfl), Flt.run_archMax Try.prog x y]
  rfl

set_option maxRecDepth 100000 in
/-- math.Max -/
theorem mathMax (x y : Nat) : FnD Try.prog 58 [dfl x, dfl y] (fun r => r = dfl (Flt.amax x y)) := by
  refine FnD.of (by kernel_rfl) Try.func58 rfl Try.ntmps58 rfl (leb rfl) fun W ok => ?_
  refine AC.seq ?_
  refine AC.region ?_
  refine AO.op rfl (AOp.assign rfl rfl (ltb rfl) rfl ?_)
  refine AO.nil ?_
  change AC _ _ _ _
  refine AC.seq ?_
  refine AC.condT rfl rfl ?_
  refine AC.seq ?_
  refine AC.region ?_
  refine AO.op rfl (AOp.move rfl rfl (ltb rfl) rfl ?_)
  refine AO.op rfl (AOp.move rfl rfl (ltb rfl) rfl ?_)
  refine AO.op rfl (AOp.callX [.float .f64 x, .float .f64 y] rfl rfl (ltb rfl) rfl (callAMax x y) ?_)
  refine AO.op rfl (AOp.assign rfl rfl (ltb rfl) rfl ?_)
  refine AO.nil ?_
  change AC _ _ _ _
  refine AC.ret ?_
  change RetQ _ _ _ .ret _
  refine retq rfl ?_
  exact rfl

set_option maxRecDepth 100000 in
/-- pub-orthodrome/impl.vec3 -/
theorem vec3 (x y z : Nat) : FnD Try.prog 37 [.ag [dfl x, dfl y, dfl z]] (fun r => r = .ag [dfl x, dfl y, dfl z]) := by
  refine FnD.of (by kernel_rfl) Try.func37 rfl Try.ntmps37 rfl (leb rfl) fun W ok => ?_
  refine AC.seq ?_
  refine AC.region ?_
  refine AO.op rfl (AOp.box rfl rfl (ltb rfl) rfl rfl ?_)
  refine AO.op rfl (AOp.alloc rfl rfl (ltb rfl) zero73 rfl ?_)
  refine AO.nil ?_
  change AC _ _ _ _
  refine AC.seq ?_
  refine AC.region ?_
  first | refine AO.op rfl (AOp.fieldAddr rfl rfl (ltb rfl) rfl fo29_0 ?_) | refine AO.op rfl (AOp.fieldAddrPt rfl rfl (ltb rfl) rfl fo29_0 ?_) | refine AO.op rfl (AOp.fieldAddrEp rfl rfl (ltb rfl) rfl fo29_0 ?_)
  first | refine AO.op rfl (AOp.load1 rfl rfl (ltb rfl) rfl agg22 rfl rfl ?_) | refine AO.op rfl (AOp.loadEp rfl rfl (ltb rfl) rfl agg22 rfl ?_)
  first | refine AO.op rfl (AOp.fieldAddr rfl rfl (ltb rfl) rfl fo29_1 ?_) | refine AO.op rfl (AOp.fieldAddrPt rfl rfl (ltb rfl) rfl fo29_1 ?_) | refine AO.op rfl (AOp.fieldAddrEp rfl rfl (ltb rfl) rfl fo29_1 ?_)
  first | refine AO.op rfl (AOp.load1 rfl rfl (ltb rfl) rfl agg22 rfl rfl ?_) | refine AO.op rfl (AOp.loadEp rfl rfl (ltb rfl) rfl agg22 rfl ?_)
  first | refine AO.op rfl (AOp.fieldAddr rfl rfl (ltb rfl) rfl fo29_2 ?_) | refine AO.op rfl (AOp.fieldAddrPt rfl rfl (ltb rfl) rfl fo29_2 ?_) | refine AO.op rfl (AOp.fieldAddrEp rfl rfl (ltb rfl) rfl fo29_2 ?_)
  first | refine AO.op rfl (AOp.load1 rfl rfl (ltb rfl) rfl agg22 rfl rfl ?_) | refine AO.op rfl (AOp.loadEp rfl rfl (ltb rfl) rfl agg22 rfl ?_)
  refine AO.op rfl (AOp.build rfl rfl (ltb rfl) zero73 rfl places73 rfl rfl ?_)
  refine AO.op rfl (AOp.store rfl rfl rfl rfl size73 rfl rfl rfl (leb rfl) ?_)
  refine AO.nil ?_
  change AC _ _ _ _
  refine AC.ret ?_
  change RetQ _ _ _ .ret _
  refine retq rfl ?_
  exact rfl

set_option maxRecDepth 100000 in
/-- pub-orthodrome/impl.plainP3 -/
theorem plainP3 (x y z : Nat) : FnD Try.prog 35 [.ag [dfl x, dfl y, dfl z]] (fun r => r = .ag [dfl x, dfl y, dfl z]) := by
  refine FnD.of (by kernel_rfl) Try.func35 rfl Try.ntmps35 rfl (leb rfl) fun W ok => ?_
  refine AC.seq ?_
  refine AC.region ?_
  refine AO.op rfl (AOp.box rfl rfl (ltb rfl) rfl rfl ?_)
  refine AO.op rfl (AOp.alloc rfl rfl (ltb rfl) zero29 rfl ?_)
  refine AO.nil ?_
  change AC _ _ _ _
  refine AC.seq ?_
  refine AC.region ?_
  first | refine AO.op rfl (AOp.fieldAddr rfl rfl (ltb rfl) rfl fo73_0 ?_) | refine AO.op rfl (AOp.fieldAddrPt rfl rfl (ltb rfl) rfl fo73_0 ?_) | refine AO.op rfl (AOp.fieldAddrEp rfl rfl (ltb rfl) rfl fo73_0 ?_)
  first | refine AO.op rfl (AOp.load1 rfl rfl (ltb rfl) rfl agg22 rfl rfl ?_) | refine AO.op rfl (AOp.loadEp rfl rfl (ltb rfl) rfl agg22 rfl ?_)
  first | refine AO.op rfl (AOp.fieldAddr rfl rfl (ltb rfl) rfl fo73_1 ?_) | refine AO.op rfl (AOp.fieldAddrPt rfl rfl (ltb rfl) rfl fo73_1 ?_) | refine AO.op rfl (AOp.fieldAddrEp rfl rfl (ltb rfl) rfl fo73_1 ?_)
  first | refine AO.op rfl (AOp.load1 rfl rfl (ltb rfl) rfl agg22 rfl rfl ?_) | refine AO.op rfl (AOp.loadEp rfl rfl (ltb rfl) rfl agg22 rfl ?_)
  first | refine AO.op rfl (AOp.fieldAddr rfl rfl (ltb rfl) rfl fo73_2 ?_) | refine AO.op rfl (AOp.fieldAddrPt rfl rfl (ltb rfl) rfl fo73_2 ?_) | refine AO.op rfl (AOp.fieldAddrEp rfl rfl (ltb rfl) rfl fo73_2 ?_)
  first | refine AO.op rfl (AOp.load1 rfl rfl (ltb rfl) rfl agg22 rfl rfl ?_) | refine AO.op rfl (AOp.loadEp rfl rfl (ltb rfl) rfl agg22 rfl ?_)
  refine AO.op rfl (AOp.build rfl rfl (ltb rfl) zero29 rfl places29 rfl rfl ?_)
  refine AO.op rfl (AOp.store rfl rfl rfl rfl size29 rfl rfl rfl (leb rfl) ?_)
  refine AO.nil ?_
  change AC _ _ _ _
  refine AC.ret ?_
  change RetQ _ _ _ .ret _
  refine retq rfl ?_
  exact rfl

theorem feq_amin {x y : Nat} {p q : Rat} (hx : Flt.V x = some p) (hy : Flt.V y = some q) : feq (Flt.amin x y) (bmin x y) = true := by
  rw [Flt.feq_val (Flt.amin_V hx hy) (Flt.bmin_V hx hy)]; simp
theorem feq_amax {x y : Nat} {p q : Rat} (hx : Flt.V x = some p) (hy : Flt.V y = some q) : feq (Flt.amax x y) (bmax x y) = true := by
  rw [Flt.feq_val (Flt.amax_V hx hy) (Flt.bmax_V hx hy)]; simp

set_option maxRecDepth 100000 in
/-- pub-orthodrome/pub/gonum/spatial/r3.minElem -/
theorem minElem3 (ax ay az cx cy cz : Nat) : FnD Try.prog 72 [.ag [dfl ax, dfl ay, dfl az], .ag [dfl cx, dfl cy, dfl cz]] (fun r => r = .ag [dfl (Flt.amin ax cx), dfl (Flt.amin ay cy), dfl (Flt.amin az cz)]) := by
  refine FnD.of (by kernel_rfl) Try.func72 rfl Try.ntmps72 rfl (leb rfl) fun W ok => ?_
  refine AC.seq ?_
  refine AC.region ?_
  refine AO.op rfl (AOp.box rfl rfl (ltb rfl) rfl rfl ?_)
  refine AO.op rfl (AOp.box rfl rfl (ltb rfl) rfl rfl ?_)
  refine AO.op rfl (AOp.alloc rfl rfl (ltb rfl) zero73 rfl ?_)
  refine AO.nil ?_
  change AC _ _ _ _
  refine AC.seq ?_
  refine AC.draw 16 mixed (by kernel_rfl) ?_
  first | refine AD.op [2] rfl (by kernel_rfl) rfl rfl (fun _ _ h => AOp.fieldAddr rfl rfl (ltb rfl) rfl fo73_0 h) ?_ | refine AD.op [2] rfl (by kernel_rfl) rfl rfl (fun _ _ h => AOp.fieldAddrPt rfl rfl (ltb rfl) rfl fo73_0 h) ?_ | refine AD.op [2] rfl (by kernel_rfl) rfl rfl (fun _ _ h => AOp.fieldAddrEp rfl rfl (ltb rfl) rfl fo73_0 h) ?_
  first | refine AD.op [5] rfl (by kernel_rfl) rfl rfl (fun _ _ h => AOp.load1 rfl rfl (ltb rfl) rfl agg22 rfl rfl h) ?_ | refine AD.op [5] rfl (by kernel_rfl) rfl rfl (fun _ _ h => AOp.loadEp rfl rfl (ltb rfl) rfl agg22 rfl h) ?_
  first | refine AD.op [3] rfl (by kernel_rfl) rfl rfl (fun _ _ h => AOp.fieldAddr rfl rfl (ltb rfl) rfl fo73_0 h) ?_ | refine AD.op [3] rfl (by kernel_rfl) rfl rfl (fun _ _ h => AOp.fieldAddrPt rfl rfl (ltb rfl) rfl fo73_0 h) ?_ | refine AD.op [3] rfl (by kernel_rfl) rfl rfl (fun _ _ h => AOp.fieldAddrEp rfl rfl (ltb rfl) rfl fo73_0 h) ?_
  first | refine AD.op [7] rfl (by kernel_rfl) rfl rfl (fun _ _ h => AOp.load1 rfl rfl (ltb rfl) rfl agg22 rfl rfl h) ?_ | refine AD.op [7] rfl (by kernel_rfl) rfl rfl (fun _ _ h => AOp.loadEp rfl rfl (ltb rfl) rfl agg22 rfl h) ?_
  refine AD.op [6, 8] rfl (by kernel_rfl) rfl rfl (fun _ _ h => AOp.callD rfl rfl (ltb rfl) rfl (mathMin _ _) (by rintro _ rfl; exact h)) ?_
  first | refine AD.op [2] rfl (by kernel_rfl) rfl rfl (fun _ _ h => AOp.fieldAddr rfl rfl (ltb rfl) rfl fo73_1 h) ?_ | refine AD.op [2] rfl (by kernel_rfl) rfl rfl (fun _ _ h => AOp.fieldAddrPt rfl rfl (ltb rfl) rfl fo73_1 h) ?_ | refine AD.op [2] rfl (by kernel_rfl) rfl rfl (fun _ _ h => AOp.fieldAddrEp rfl rfl (ltb rfl) rfl fo73_1 h) ?_
  first | refine AD.op [10] rfl (by kernel_rfl) rfl rfl (fun _ _ h => AOp.load1 rfl rfl (ltb rfl) rfl agg22 rfl rfl h) ?_ | refine AD.op [10] rfl (by kernel_rfl) rfl rfl (fun _ _ h => AOp.loadEp rfl rfl (ltb rfl) rfl agg22 rfl h) ?_
  first | refine AD.op [3] rfl (by kernel_rfl) rfl rfl (fun _ _ h => AOp.fieldAddr rfl rfl (ltb rfl) rfl fo73_1 h) ?_ | refine AD.op [3] rfl (by kernel_rfl) rfl rfl (fun _ _ h => AOp.fieldAddrPt rfl rfl (ltb rfl) rfl fo73_1 h) ?_ | refine AD.op [3] rfl (by kernel_rfl) rfl rfl (fun _ _ h => AOp.fieldAddrEp rfl rfl (ltb rfl) rfl fo73_1 h) ?_
  first | refine AD.op [12] rfl (by kernel_rfl) rfl rfl (fun _ _ h => AOp.load1 rfl rfl (ltb rfl) rfl agg22 rfl rfl h) ?_ | refine AD.op [12] rfl (by kernel_rfl) rfl rfl (fun _ _ h => AOp.loadEp rfl rfl (ltb rfl) rfl agg22 rfl h) ?_
  refine AD.op [11, 13] rfl (by kernel_rfl) rfl rfl (fun _ _ h => AOp.callD rfl rfl (ltb rfl) rfl (mathMin _ _) (by rintro _ rfl; exact h)) ?_
  first | refine AD.op [2] rfl (by kernel_rfl) rfl rfl (fun _ _ h => AOp.fieldAddr rfl rfl (ltb rfl) rfl fo73_2 h) ?_ | refine AD.op [2] rfl (by kernel_rfl) rfl rfl (fun _ _ h => AOp.fieldAddrPt rfl rfl (ltb rfl) rfl fo73_2 h) ?_ | refine AD.op [2] rfl (by kernel_rfl) rfl rfl (fun _ _ h => AOp.fieldAddrEp rfl rfl (ltb rfl) rfl fo73_2 h) ?_
  first | refine AD.op [15] rfl (by kernel_rfl) rfl rfl (fun _ _ h => AOp.load1 rfl rfl (ltb rfl) rfl agg22 rfl rfl h) ?_ | refine AD.op [15] rfl (by kernel_rfl) rfl rfl (fun _ _ h => AOp.loadEp rfl rfl (ltb rfl) rfl agg22 rfl h) ?_
  first | refine AD.op [3] rfl (by kernel_rfl) rfl rfl (fun _ _ h => AOp.fieldAddr rfl rfl (ltb rfl) rfl fo73_2 h) ?_ | refine AD.op [3] rfl (by kernel_rfl) rfl rfl (fun _ _ h => AOp.fieldAddrPt rfl rfl (ltb rfl) rfl fo73_2 h) ?_ | refine AD.op [3] rfl (by kernel_rfl) rfl rfl (fun _ _ h => AOp.fieldAddrEp rfl rfl (ltb rfl) rfl fo73_2 h) ?_
  first | refine AD.op [17] rfl (by kernel_rfl) rfl rfl (fun _ _ h => AOp.load1 rfl rfl (ltb rfl) rfl agg22 rfl rfl h) ?_ | refine AD.op [17] rfl (by kernel_rfl) rfl rfl (fun _ _ h => AOp.loadEp rfl rfl (ltb rfl) rfl agg22 rfl h) ?_
  refine AD.op [16, 18] rfl (by kernel_rfl) rfl rfl (fun _ _ h => AOp.callD rfl rfl (ltb rfl) rfl (mathMin _ _) (by rintro _ rfl; exact h)) ?_
  refine AD.op [9, 14, 19] rfl (by kernel_rfl) rfl rfl (fun _ _ h => AOp.build rfl rfl (ltb rfl) zero73 rfl places73 rfl rfl h) ?_
  refine AD.done ?_
  refine AO.op rfl (AOp.store rfl rfl rfl rfl size73 rfl rfl rfl (leb rfl) ?_)
  refine AO.nil ?_
  change AC _ _ _ _
  refine AC.ret ?_
  change RetQ _ _ _ .ret _
  refine retq rfl ?_
  exact rfl

set_option maxRecDepth 100000 in
/-- pub-orthodrome/pub/gonum/spatial/r3.maxElem -/
theorem maxElem3 (ax ay az cx cy cz : Nat) : FnD Try.prog 63 [.ag [dfl ax, dfl ay, dfl az], .ag [dfl cx, dfl cy, dfl cz]] (fun r => r = .ag [dfl (Flt.amax ax cx), dfl (Flt.amax ay cy), dfl (Flt.amax az cz)]) := by
  refine FnD.of (by kernel_rfl) Try.func63 rfl Try.ntmps63 rfl (leb rfl) fun W ok => ?_
  refine AC.seq ?_
  refine AC.region ?_
  refine AO.op rfl (AOp.box rfl rfl (ltb rfl) rfl rfl ?_)
  refine AO.op rfl (AOp.box rfl rfl (ltb rfl) rfl rfl ?_)
  refine AO.op rfl (AOp.alloc rfl rfl (ltb rfl) zero73 rfl ?_)
  refine AO.nil ?_
  change AC _ _ _ _
  refine AC.seq ?_
  refine AC.draw 16 mixed (by kernel_rfl) ?_
  first | refine AD.op [2] rfl (by kernel_rfl) rfl rfl (fun _ _ h => AOp.fieldAddr rfl rfl (ltb rfl) rfl fo73_0 h) ?_ | refine AD.op [2] rfl (by kernel_rfl) rfl rfl (fun _ _ h => AOp.fieldAddrPt rfl rfl (ltb rfl) rfl fo73_0 h) ?_ | refine AD.op [2] rfl (by kernel_rfl) rfl rfl (fun _ _ h => AOp.fieldAddrEp rfl rfl (ltb rfl) rfl fo73_0 h) ?_
  first | refine AD.op [5] rfl (by kernel_rfl) rfl rfl (fun _ _ h => AOp.load1 rfl rfl (ltb rfl) rfl agg22 rfl rfl h) ?_ | refine AD.op [5] rfl (by kernel_rfl) rfl rfl (fun _ _ h => AOp.loadEp rfl rfl (ltb rfl) rfl agg22 rfl h) ?_
  first | refine AD.op [3] rfl (by kernel_rfl) rfl rfl (fun _ _ h => AOp.fieldAddr rfl rfl (ltb rfl) rfl fo73_0 h) ?_ | refine AD.op [3] rfl (by kernel_rfl) rfl rfl (fun _ _ h => AOp.fieldAddrPt rfl rfl (ltb rfl) rfl fo73_0 h) ?_ | refine AD.op [3] rfl (by kernel_rfl) rfl rfl (fun _ _ h => AOp.fieldAddrEp rfl rfl (ltb rfl) rfl fo73_0 h) ?_
  first | refine AD.op [7] rfl (by kernel_rfl) rfl rfl (fun _ _ h => AOp.load1 rfl rfl (ltb rfl) rfl agg22 rfl rfl h) ?_ | refine AD.op [7] rfl (by kernel_rfl) rfl rfl (fun _ _ h => AOp.loadEp rfl rfl (ltb rfl) rfl agg22 rfl h) ?_
  refine AD.op [6, 8] rfl (by kernel_rfl) rfl rfl (fun _ _ h => AOp.callD rfl rfl (ltb rfl) rfl (mathMax _ _) (by rintro _ rfl; exact h)) ?_
  first | refine AD.op [2] rfl (by kernel_rfl) rfl rfl (fun _ _ h => AOp.fieldAddr rfl rfl (ltb rfl) rfl fo73_1 h) ?_ | refine AD.op [2] rfl (by kernel_rfl) rfl rfl (fun _ _ h => AOp.fieldAddrPt rfl rfl (ltb rfl) rfl fo73_1 h) ?_ | refine AD.op [2] rfl (by kernel_rfl) rfl rfl (fun _ _ h => AOp.fieldAddrEp rfl rfl (ltb rfl) rfl fo73_1 h) ?_
  first | refine AD.op [10] rfl (by kernel_rfl) rfl rfl (fun _ _ h => AOp.load1 rfl rfl (ltb rfl) rfl agg22 rfl rfl h) ?_ | refine AD.op [10] rfl (by kernel_rfl) rfl rfl (fun _ _ h => AOp.loadEp rfl rfl (ltb rfl) rfl agg22 rfl h) ?_
  first | refine AD.op [3] rfl (by kernel_rfl) rfl rfl (fun _ _ h => AOp.fieldAddr rfl rfl (ltb rfl) rfl fo73_1 h) ?_ | refine AD.op [3] rfl (by kernel_rfl) rfl rfl (fun _ _ h => AOp.fieldAddrPt rfl rfl (ltb rfl) rfl fo73_1 h) ?_ | refine AD.op [3] rfl (by kernel_rfl) rfl rfl (fun _ _ h => AOp.fieldAddrEp rfl rfl (ltb rfl) rfl fo73_1 h) ?_
  first | refine AD.op [12] rfl (by kernel_rfl) rfl rfl (fun _ _ h => AOp.load1 rfl rfl (ltb rfl) rfl agg22 rfl rfl h) ?_ | refine AD.op [12] rfl (by kernel_rfl) rfl rfl (fun _ _ h => AOp.loadEp rfl rfl (ltb rfl) rfl agg22 rfl h) ?_
  refine AD.op [11, 13] rfl (by kernel_rfl) rfl rfl (fun _ _ h => AOp.callD rfl rfl (ltb rfl) rfl (mathMax _ _) (by rintro _ rfl; exact h)) ?_
  first | refine AD.op [2] rfl (by kernel_rfl) rfl rfl (fun _ _ h => AOp.fieldAddr rfl rfl (ltb rfl) rfl fo73_2 h) ?_ | refine AD.op [2] rfl (by kernel_rfl) rfl rfl (fun _ _ h => AOp.fieldAddrPt rfl rfl (ltb rfl) rfl fo73_2 h) ?_ | refine AD.op [2] rfl (by kernel_rfl) rfl rfl (fun _ _ h => AOp.fieldAddrEp rfl rfl (ltb rfl) rfl fo73_2 h) ?_
  first | refine AD.op [15] rfl (by kernel_rfl) rfl rfl (fun _ _ h => AOp.load1 rfl rfl (ltb rfl) rfl agg22 rfl rfl h) ?_ | refine AD.op [15] rfl (by kernel_rfl) rfl rfl (fun _ _ h => AOp.loadEp rfl rfl (ltb rfl) rfl agg22 rfl h) ?_
  first | refine AD.op [3] rfl (by kernel_rfl) rfl rfl (fun _ _ h => AOp.fieldAddr rfl rfl (ltb rfl) rfl fo73_2 h) ?_ | refine AD.op [3] rfl (by kernel_rfl) rfl rfl (fun _ _ h => AOp.fieldAddrPt rfl rfl (ltb rfl) rfl fo73_2 h) ?_ | refine AD.op [3] rfl (by kernel_rfl) rfl rfl (fun _ _ h => AOp.fieldAddrEp rfl rfl (ltb rfl) rfl fo73_2 h) ?_
  first | refine AD.op [17] rfl (by kernel_rfl) rfl rfl (fun _ _ h => AOp.load1 rfl rfl (ltb rfl) rfl agg22 rfl rfl h) ?_ | refine AD.op [17] rfl (by kernel_rfl) rfl rfl (fun _ _ h => AOp.loadEp rfl rfl (ltb rfl) rfl agg22 rfl h) ?_
  refine AD.op [16, 18] rfl (by kernel_rfl) rfl rfl (fun _ _ h => AOp.callD rfl rfl (ltb rfl) rfl (mathMax _ _) (by rintro _ rfl; exact h)) ?_
  refine AD.op [9, 14, 19] rfl (by kernel_rfl) rfl rfl (fun _ _ h => AOp.build rfl rfl (ltb rfl) zero73 rfl places73 rfl rfl h) ?_
  refine AD.done ?_
  refine AO.op rfl (AOp.store rfl rfl rfl rfl size73 rfl rfl rfl (leb rfl) ?_)
  refine AO.nil ?_
  change AC _ _ _ _
  refine AC.ret ?_
  change RetQ _ _ _ .ret _
  refine retq rfl ?_
  exact rfl

set_option maxRecDepth 100000 in
/-- pub-orthodrome/pub/gonum/spatial/r3.NewBox -/
theorem newBox3 (ax ay az cx cy cz : Nat) : FnD Try.prog 50 [dfl ax, dfl ay, dfl az, dfl cx, dfl cy, dfl cz] (fun r => r = .ag [dfl (Flt.amin ax cx), dfl (Flt.amin ay cy), dfl (Flt.amin az cz), dfl (Flt.amax ax cx), dfl (Flt.amax ay cy), dfl (Flt.amax az cz)]) := by
  refine FnD.of (by kernel_rfl) Try.func50 rfl Try.ntmps50 rfl (leb rfl) fun W ok => ?_
  refine AC.seq ?_
  refine AC.region ?_
  refine AO.op rfl (AOp.alloc rfl rfl (ltb rfl) zero87 rfl ?_)
  refine AO.nil ?_
  change AC _ _ _ _
  refine AC.seq ?_
  refine AC.region ?_
  refine AO.op rfl (AOp.move rfl rfl (ltb rfl) rfl ?_)
  refine AO.op rfl (AOp.move rfl rfl (ltb rfl) rfl ?_)
  refine AO.op rfl (AOp.callD rfl rfl (ltb rfl) rfl (mathMin _ _) ?_)
  rintro _ rfl
  refine AO.op rfl (AOp.move rfl rfl (ltb rfl) rfl ?_)
  refine AO.op rfl (AOp.move rfl rfl (ltb rfl) rfl ?_)
  refine AO.op rfl (AOp.callD rfl rfl (ltb rfl) rfl (mathMin _ _) ?_)
  rintro _ rfl
  refine AO.op rfl (AOp.move rfl rfl (ltb rfl) rfl ?_)
  refine AO.op rfl (AOp.move rfl rfl (ltb rfl) rfl ?_)
  refine AO.op rfl (AOp.callD rfl rfl (ltb rfl) rfl (mathMin _ _) ?_)
  rintro _ rfl
  refine AO.op rfl (AOp.build rfl rfl (ltb rfl) zero73 rfl places73 rfl rfl ?_)
  refine AO.op rfl (AOp.move rfl rfl (ltb rfl) rfl ?_)
  refine AO.op rfl (AOp.move rfl rfl (ltb rfl) rfl ?_)
  refine AO.op rfl (AOp.callD rfl rfl (ltb rfl) rfl (mathMax _ _) ?_)
  rintro _ rfl
  refine AO.op rfl (AOp.move rfl rfl (ltb rfl) rfl ?_)
  refine AO.op rfl (AOp.move rfl rfl (ltb rfl) rfl ?_)
  refine AO.op rfl (AOp.callD rfl rfl (ltb rfl) rfl (mathMax _ _) ?_)
  rintro _ rfl
  refine AO.op rfl (AOp.move rfl rfl (ltb rfl) rfl ?_)
  refine AO.op rfl (AOp.move rfl rfl (ltb rfl) rfl ?_)
  refine AO.op rfl (AOp.callD rfl rfl (ltb rfl) rfl (mathMax _ _) ?_)
  rintro _ rfl
  refine AO.op rfl (AOp.build rfl rfl (ltb rfl) zero73 rfl places73 rfl rfl ?_)
  refine AO.op rfl (AOp.build rfl rfl (ltb rfl) zero87 rfl places87 rfl rfl ?_)
  refine AO.op rfl (AOp.store rfl rfl rfl rfl size87 rfl rfl rfl (leb rfl) ?_)
  refine AO.nil ?_
  change AC _ _ _ _
  refine AC.ret ?_
  change RetQ _ _ _ .ret _
  refine retq rfl ?_
  exact rfl

set_option maxRecDepth 100000 in
/-- (pub-orthodrome/pub/gonum/spatial/r3.Box).Canon -/
theorem canonR3 (ax ay az cx cy cz : Nat) : FnD Try.prog 51 [.ag [dfl ax, dfl ay, dfl az, dfl cx, dfl cy, dfl cz]] (fun r => r = .ag [dfl (Flt.amin ax cx), dfl (Flt.amin ay cy), dfl (Flt.amin az cz), dfl (Flt.amax ax cx), dfl (Flt.amax ay cy), dfl (Flt.amax az cz)]) := by
  refine FnD.of (by kernel_rfl) Try.func51 rfl Try.ntmps51 rfl (leb rfl) fun W ok => ?_
  refine AC.seq ?_
  refine AC.region ?_
  refine AO.op rfl (AOp.box rfl rfl (ltb rfl) rfl rfl ?_)
  refine AO.op rfl (AOp.alloc rfl rfl (ltb rfl) zero87 rfl ?_)
  refine AO.nil ?_
  change AC _ _ _ _
  refine AC.seq ?_
  refine AC.draw 11 mixed (by kernel_rfl) ?_
  first | refine AD.op [1] rfl (by kernel_rfl) rfl rfl (fun _ _ h => AOp.fieldAddr rfl rfl (ltb rfl) rfl fo87_0 h) ?_ | refine AD.op [1] rfl (by kernel_rfl) rfl rfl (fun _ _ h => AOp.fieldAddrPt rfl rfl (ltb rfl) rfl fo87_0 h) ?_ | refine AD.op [1] rfl (by kernel_rfl) rfl rfl (fun _ _ h => AOp.fieldAddrEp rfl rfl (ltb rfl) rfl fo87_0 h) ?_
  first | refine AD.op [3] rfl (by kernel_rfl) rfl rfl (fun _ _ h => AOp.loadN rfl rfl (ltb rfl) rfl agg73 size73 rfl (leb rfl) rfl h) ?_ | refine AD.op [3] rfl (by kernel_rfl) rfl rfl (fun _ _ h => AOp.loadEpN rfl rfl (ltb rfl) rfl agg73 size73 (leb rfl) rfl h) ?_
  first | refine AD.op [1] rfl (by kernel_rfl) rfl rfl (fun _ _ h => AOp.fieldAddr rfl rfl (ltb rfl) rfl fo87_1 h) ?_ | refine AD.op [1] rfl (by kernel_rfl) rfl rfl (fun _ _ h => AOp.fieldAddrPt rfl rfl (ltb rfl) rfl fo87_1 h) ?_ | refine AD.op [1] rfl (by kernel_rfl) rfl rfl (fun _ _ h => AOp.fieldAddrEp rfl rfl (ltb rfl) rfl fo87_1 h) ?_
  first | refine AD.op [5] rfl (by kernel_rfl) rfl rfl (fun _ _ h => AOp.loadN rfl rfl (ltb rfl) rfl agg73 size73 rfl (leb rfl) rfl h) ?_ | refine AD.op [5] rfl (by kernel_rfl) rfl rfl (fun _ _ h => AOp.loadEpN rfl rfl (ltb rfl) rfl agg73 size73 (leb rfl) rfl h) ?_
  refine AD.op [4, 6] rfl (by kernel_rfl) rfl rfl (fun _ _ h => AOp.callD rfl rfl (ltb rfl) rfl (minElem3 _ _ _ _ _ _) (by rintro _ rfl; exact h)) ?_
  first | refine AD.op [1] rfl (by kernel_rfl) rfl rfl (fun _ _ h => AOp.fieldAddr rfl rfl (ltb rfl) rfl fo87_0 h) ?_ | refine AD.op [1] rfl (by kernel_rfl) rfl rfl (fun _ _ h => AOp.fieldAddrPt rfl rfl (ltb rfl) rfl fo87_0 h) ?_ | refine AD.op [1] rfl (by kernel_rfl) rfl rfl (fun _ _ h => AOp.fieldAddrEp rfl rfl (ltb rfl) rfl fo87_0 h) ?_
  first | refine AD.op [8] rfl (by kernel_rfl) rfl rfl (fun _ _ h => AOp.loadN rfl rfl (ltb rfl) rfl agg73 size73 rfl (leb rfl) rfl h) ?_ | refine AD.op [8] rfl (by kernel_rfl) rfl rfl (fun _ _ h => AOp.loadEpN rfl rfl (ltb rfl) rfl agg73 size73 (leb rfl) rfl h) ?_
  first | refine AD.op [1] rfl (by kernel_rfl) rfl rfl (fun _ _ h => AOp.fieldAddr rfl rfl (ltb rfl) rfl fo87_1 h) ?_ | refine AD.op [1] rfl (by kernel_rfl) rfl rfl (fun _ _ h => AOp.fieldAddrPt rfl rfl (ltb rfl) rfl fo87_1 h) ?_ | refine AD.op [1] rfl (by kernel_rfl) rfl rfl (fun _ _ h => AOp.fieldAddrEp rfl rfl (ltb rfl) rfl fo87_1 h) ?_
  first | refine AD.op [10] rfl (by kernel_rfl) rfl rfl (fun _ _ h => AOp.loadN rfl rfl (ltb rfl) rfl agg73 size73 rfl (leb rfl) rfl h) ?_ | refine AD.op [10] rfl (by kernel_rfl) rfl rfl (fun _ _ h => AOp.loadEpN rfl rfl (ltb rfl) rfl agg73 size73 (leb rfl) rfl h) ?_
  refine AD.op [9, 11] rfl (by kernel_rfl) rfl rfl (fun _ _ h => AOp.callD rfl rfl (ltb rfl) rfl (maxElem3 _ _ _ _ _ _) (by rintro _ rfl; exact h)) ?_
  refine AD.op [7, 12] rfl (by kernel_rfl) rfl rfl (fun _ _ h => AOp.build rfl rfl (ltb rfl) zero87 rfl places87 rfl rfl h) ?_
  refine AD.done ?_
  refine AO.op rfl (AOp.store rfl rfl rfl rfl size87 rfl rfl rfl (leb rfl) ?_)
  refine AO.nil ?_
  change AC _ _ _ _
  refine AC.ret ?_
  change RetQ _ _ _ .ret _
  refine retq rfl ?_
  exact rfl

set_option maxRecDepth 100000 in
/-- pub-orthodrome/impl.plainBox3 -/
theorem plainBox3 (ax ay az cx cy cz : Nat) : FnD Try.prog 47 [.ag [dfl ax, dfl ay, dfl az, dfl cx, dfl cy, dfl cz]] (fun r => r = .ag [dfl ax, dfl ay, dfl az, dfl cx, dfl cy, dfl cz]) := by
  refine FnD.of (by kernel_rfl) Try.func47 rfl Try.ntmps47 rfl (leb rfl) fun W ok => ?_
  refine AC.seq ?_
  refine AC.region ?_
  refine AO.op rfl (AOp.box rfl rfl (ltb rfl) rfl rfl ?_)
  refine AO.op rfl (AOp.alloc rfl rfl (ltb rfl) zero53 rfl ?_)
  refine AO.nil ?_
  change AC _ _ _ _
  refine AC.seq ?_
  refine AC.draw 7 mixed (by kernel_rfl) ?_
  first | refine AD.op [1] rfl (by kernel_rfl) rfl rfl (fun _ _ h => AOp.fieldAddr rfl rfl (ltb rfl) rfl fo87_0 h) ?_ | refine AD.op [1] rfl (by kernel_rfl) rfl rfl (fun _ _ h => AOp.fieldAddrPt rfl rfl (ltb rfl) rfl fo87_0 h) ?_ | refine AD.op [1] rfl (by kernel_rfl) rfl rfl (fun _ _ h => AOp.fieldAddrEp rfl rfl (ltb rfl) rfl fo87_0 h) ?_
  first | refine AD.op [3] rfl (by kernel_rfl) rfl rfl (fun _ _ h => AOp.loadN rfl rfl (ltb rfl) rfl agg73 size73 rfl (leb rfl) rfl h) ?_ | refine AD.op [3] rfl (by kernel_rfl) rfl rfl (fun _ _ h => AOp.loadEpN rfl rfl (ltb rfl) rfl agg73 size73 (leb rfl) rfl h) ?_
  refine AD.op [4] rfl (by kernel_rfl) rfl rfl (fun _ _ h => AOp.callD rfl rfl (ltb rfl) rfl (plainP3 _ _ _) (by rintro _ rfl; exact h)) ?_
  first | refine AD.op [1] rfl (by kernel_rfl) rfl rfl (fun _ _ h => AOp.fieldAddr rfl rfl (ltb rfl) rfl fo87_1 h) ?_ | refine AD.op [1] rfl (by kernel_rfl) rfl rfl (fun _ _ h => AOp.fieldAddrPt rfl rfl (ltb rfl) rfl fo87_1 h) ?_ | refine AD.op [1] rfl (by kernel_rfl) rfl rfl (fun _ _ h => AOp.fieldAddrEp rfl rfl (ltb rfl) rfl fo87_1 h) ?_
  first | refine AD.op [6] rfl (by kernel_rfl) rfl rfl (fun _ _ h => AOp.loadN rfl rfl (ltb rfl) rfl agg73 size73 rfl (leb rfl) rfl h) ?_ | refine AD.op [6] rfl (by kernel_rfl) rfl rfl (fun _ _ h => AOp.loadEpN rfl rfl (ltb rfl) rfl agg73 size73 (leb rfl) rfl h) ?_
  refine AD.op [7] rfl (by kernel_rfl) rfl rfl (fun _ _ h => AOp.callD rfl rfl (ltb rfl) rfl (plainP3 _ _ _) (by rintro _ rfl; exact h)) ?_
  refine AD.op [5, 8] rfl (by kernel_rfl) rfl rfl (fun _ _ h => AOp.build rfl rfl (ltb rfl) zero53 rfl places53 rfl rfl h) ?_
  refine AD.done ?_
  refine AO.op rfl (AOp.store rfl rfl rfl rfl size53 rfl rfl rfl (leb rfl) ?_)
  refine AO.nil ?_
  change AC _ _ _ _
  refine AC.ret ?_
  change RetQ _ _ _ .ret _
  refine retq rfl ?_
  exact rfl

set_option maxRecDepth 100000 in
/-- pub-orthodrome/impl.NewBox3 -/
theorem implNewBox3 (ax ay az cx cy cz : Nat) : FnD Try.prog 29 [dfl ax, dfl ay, dfl az, dfl cx, dfl cy, dfl cz] (fun r => r = .ag [dfl (Flt.amin ax cx), dfl (Flt.amin ay cy), dfl (Flt.amin az cz), dfl (Flt.amax ax cx), dfl (Flt.amax ay cy), dfl (Flt.amax az cz)]) := by
  refine FnD.of (by kernel_rfl) Try.func29 rfl Try.ntmps29 rfl (leb rfl) fun W ok => ?_
  refine AC.seq ?_
  refine AC.region ?_
  refine AO.op rfl (AOp.alloc rfl rfl (ltb rfl) zero53 rfl ?_)
  refine AO.nil ?_
  change AC _ _ _ _
  refine AC.seq ?_
  refine AC.region ?_
  refine AO.op rfl (AOp.move rfl rfl (ltb rfl) rfl ?_)
  refine AO.op rfl (AOp.move rfl rfl (ltb rfl) rfl ?_)
  refine AO.op rfl (AOp.move rfl rfl (ltb rfl) rfl ?_)
  refine AO.op rfl (AOp.move rfl rfl (ltb rfl) rfl ?_)
  refine AO.op rfl (AOp.move rfl rfl (ltb rfl) rfl ?_)
  refine AO.op rfl (AOp.move rfl rfl (ltb rfl) rfl ?_)
  refine AO.op rfl (AOp.callD rfl rfl (ltb rfl) rfl (newBox3 _ _ _ _ _ _) ?_)
  rintro _ rfl
  refine AO.op rfl (AOp.callD rfl rfl (ltb rfl) rfl (plainBox3 _ _ _ _ _ _) ?_)
  rintro _ rfl
  refine AO.op rfl (AOp.store rfl rfl rfl rfl size53 rfl rfl rfl (leb rfl) ?_)
  refine AO.nil ?_
  change AC _ _ _ _
  refine AC.ret ?_
  change RetQ _ _ _ .ret _
  refine retq rfl ?_
  exact rfl

set_option maxRecDepth 100000 in
/-- pub-orthodrome/impl.Canon3 -/
theorem implCanon3 (ax ay az cx cy cz : Nat) : FnD Try.prog 30 [.ag [dfl ax, dfl ay, dfl az, dfl cx, dfl cy, dfl cz]] (fun r => r = .ag [dfl (Flt.amin ax cx), dfl (Flt.amin ay cy), dfl (Flt.amin az cz), dfl (Flt.amax ax cx), dfl (Flt.amax ay cy), dfl (Flt.amax az cz)]) := by
  refine FnD.of (by kernel_rfl) Try.func30 rfl Try.ntmps30 rfl (leb rfl) fun W ok => ?_
  refine AC.seq ?_
  refine AC.region ?_
  refine AO.op rfl (AOp.box rfl rfl (ltb rfl) rfl rfl ?_)
  refine AO.op rfl (AOp.alloc rfl rfl (ltb rfl) zero53 rfl ?_)
  refine AO.nil ?_
  change AC _ _ _ _
  refine AC.seq ?_
  refine AC.draw 9 mixed (by kernel_rfl) ?_
  first | refine AD.op [1] rfl (by kernel_rfl) rfl rfl (fun _ _ h => AOp.fieldAddr rfl rfl (ltb rfl) rfl fo53_0 h) ?_ | refine AD.op [1] rfl (by kernel_rfl) rfl rfl (fun _ _ h => AOp.fieldAddrPt rfl rfl (ltb rfl) rfl fo53_0 h) ?_ | refine AD.op [1] rfl (by kernel_rfl) rfl rfl (fun _ _ h => AOp.fieldAddrEp rfl rfl (ltb rfl) rfl fo53_0 h) ?_
  first | refine AD.op [3] rfl (by kernel_rfl) rfl rfl (fun _ _ h => AOp.loadN rfl rfl (ltb rfl) rfl agg29 size29 rfl (leb rfl) rfl h) ?_ | refine AD.op [3] rfl (by kernel_rfl) rfl rfl (fun _ _ h => AOp.loadEpN rfl rfl (ltb rfl) rfl agg29 size29 (leb rfl) rfl h) ?_
  refine AD.op [4] rfl (by kernel_rfl) rfl rfl (fun _ _ h => AOp.callD rfl rfl (ltb rfl) rfl (vec3 _ _ _) (by rintro _ rfl; exact h)) ?_
  first | refine AD.op [1] rfl (by kernel_rfl) rfl rfl (fun _ _ h => AOp.fieldAddr rfl rfl (ltb rfl) rfl fo53_1 h) ?_ | refine AD.op [1] rfl (by kernel_rfl) rfl rfl (fun _ _ h => AOp.fieldAddrPt rfl rfl (ltb rfl) rfl fo53_1 h) ?_ | refine AD.op [1] rfl (by kernel_rfl) rfl rfl (fun _ _ h => AOp.fieldAddrEp rfl rfl (ltb rfl) rfl fo53_1 h) ?_
  first | refine AD.op [6] rfl (by kernel_rfl) rfl rfl (fun _ _ h => AOp.loadN rfl rfl (ltb rfl) rfl agg29 size29 rfl (leb rfl) rfl h) ?_ | refine AD.op [6] rfl (by kernel_rfl) rfl rfl (fun _ _ h => AOp.loadEpN rfl rfl (ltb rfl) rfl agg29 size29 (leb rfl) rfl h) ?_
  refine AD.op [7] rfl (by kernel_rfl) rfl rfl (fun _ _ h => AOp.callD rfl rfl (ltb rfl) rfl (vec3 _ _ _) (by rintro _ rfl; exact h)) ?_
  refine AD.op [5, 8] rfl (by kernel_rfl) rfl rfl (fun _ _ h => AOp.build rfl rfl (ltb rfl) zero87 rfl places87 rfl rfl h) ?_
  refine AD.op [9] rfl (by kernel_rfl) rfl rfl (fun _ _ h => AOp.callD rfl rfl (ltb rfl) rfl (canonR3 _ _ _ _ _ _) (by rintro _ rfl; exact h)) ?_
  refine AD.op [10] rfl (by kernel_rfl) rfl rfl (fun _ _ h => AOp.callD rfl rfl (ltb rfl) rfl (plainBox3 _ _ _ _ _ _) (by rintro _ rfl; exact h)) ?_
  refine AD.done ?_
  refine AO.op rfl (AOp.store rfl rfl rfl rfl size53 rfl rfl rfl (leb rfl) ?_)
  refine AO.nil ?_
  change AC _ _ _ _
  refine AC.ret ?_
  change RetQ _ _ _ .ret _
  refine retq rfl ?_
  exact rfl

set_option maxRecDepth 100000 in
/-- pub-orthodrome/laws.canon3 -/
theorem canonL3 (ax ay az cx cy cz : Nat) (hx : (FloatKind.f64.format.order ax cx).isSome = true) (hy : (FloatKind.f64.format.order ay cy).isSome = true) (hz : (FloatKind.f64.format.order az cz).isSome = true) : FnD Try.prog 23 [.ag [dfl ax, dfl ay, dfl az], .ag [dfl cx, dfl cy, dfl cz]] (fun r => r = .ag [dfl (bmin ax cx), dfl (bmin ay cy), dfl (bmin az cz), dfl (bmax ax cx), dfl (bmax ay cy), dfl (bmax az cz)]) := by
  refine FnD.of (by kernel_rfl) Try.func23 rfl Try.ntmps23 rfl (leb rfl) fun W ok => ?_
  refine AC.seq ?_
  refine AC.region ?_
  refine AO.op rfl (AOp.box rfl rfl (ltb rfl) rfl rfl ?_)
  refine AO.op rfl (AOp.box rfl rfl (ltb rfl) rfl rfl ?_)
  refine AO.op rfl (AOp.alloc rfl rfl (ltb rfl) zero53 rfl ?_)
  refine AO.nil ?_
  change AC _ _ _ _
  refine AC.seq ?_
  refine AC.region ?_
  first | refine AO.op rfl (AOp.fieldAddr rfl rfl (ltb rfl) rfl fo29_0 ?_) | refine AO.op rfl (AOp.fieldAddrPt rfl rfl (ltb rfl) rfl fo29_0 ?_) | refine AO.op rfl (AOp.fieldAddrEp rfl rfl (ltb rfl) rfl fo29_0 ?_)
  first | refine AO.op rfl (AOp.load1 rfl rfl (ltb rfl) rfl agg22 rfl rfl ?_) | refine AO.op rfl (AOp.loadEp rfl rfl (ltb rfl) rfl agg22 rfl ?_)
  first | refine AO.op rfl (AOp.fieldAddr rfl rfl (ltb rfl) rfl fo29_0 ?_) | refine AO.op rfl (AOp.fieldAddrPt rfl rfl (ltb rfl) rfl fo29_0 ?_) | refine AO.op rfl (AOp.fieldAddrEp rfl rfl (ltb rfl) rfl fo29_0 ?_)
  first | refine AO.op rfl (AOp.load1 rfl rfl (ltb rfl) rfl agg22 rfl rfl ?_) | refine AO.op rfl (AOp.loadEp rfl rfl (ltb rfl) rfl agg22 rfl ?_)
  refine AO.op rfl (AOp.fmin rfl rfl (ltb rfl) rfl rfl (by assumption) ?_)
  first | refine AO.op rfl (AOp.fieldAddr rfl rfl (ltb rfl) rfl fo29_1 ?_) | refine AO.op rfl (AOp.fieldAddrPt rfl rfl (ltb rfl) rfl fo29_1 ?_) | refine AO.op rfl (AOp.fieldAddrEp rfl rfl (ltb rfl) rfl fo29_1 ?_)
  first | refine AO.op rfl (AOp.load1 rfl rfl (ltb rfl) rfl agg22 rfl rfl ?_) | refine AO.op rfl (AOp.loadEp rfl rfl (ltb rfl) rfl agg22 rfl ?_)
  first | refine AO.op rfl (AOp.fieldAddr rfl rfl (ltb rfl) rfl fo29_1 ?_) | refine AO.op rfl (AOp.fieldAddrPt rfl rfl (ltb rfl) rfl fo29_1 ?_) | refine AO.op rfl (AOp.fieldAddrEp rfl rfl (ltb rfl) rfl fo29_1 ?_)
  first | refine AO.op rfl (AOp.load1 rfl rfl (ltb rfl) rfl agg22 rfl rfl ?_) | refine AO.op rfl (AOp.loadEp rfl rfl (ltb rfl) rfl agg22 rfl ?_)
  refine AO.op rfl (AOp.fmin rfl rfl (ltb rfl) rfl rfl (by assumption) ?_)
  first | refine AO.op rfl (AOp.fieldAddr rfl rfl (ltb rfl) rfl fo29_2 ?_) | refine AO.op rfl (AOp.fieldAddrPt rfl rfl (ltb rfl) rfl fo29_2 ?_) | refine AO.op rfl (AOp.fieldAddrEp rfl rfl (ltb rfl) rfl fo29_2 ?_)
  first | refine AO.op rfl (AOp.load1 rfl rfl (ltb rfl) rfl agg22 rfl rfl ?_) | refine AO.op rfl (AOp.loadEp rfl rfl (ltb rfl) rfl agg22 rfl ?_)
  first | refine AO.op rfl (AOp.fieldAddr rfl rfl (ltb rfl) rfl fo29_2 ?_) | refine AO.op rfl (AOp.fieldAddrPt rfl rfl (ltb rfl) rfl fo29_2 ?_) | refine AO.op rfl (AOp.fieldAddrEp rfl rfl (ltb rfl) rfl fo29_2 ?_)
  first | refine AO.op rfl (AOp.load1 rfl rfl (ltb rfl) rfl agg22 rfl rfl ?_) | refine AO.op rfl (AOp.loadEp rfl rfl (ltb rfl) rfl agg22 rfl ?_)
  refine AO.op rfl (AOp.fmin rfl rfl (ltb rfl) rfl rfl (by assumption) ?_)
  refine AO.op rfl (AOp.build rfl rfl (ltb rfl) zero29 rfl places29 rfl rfl ?_)
  first | refine AO.op rfl (AOp.fieldAddr rfl rfl (ltb rfl) rfl fo29_0 ?_) | refine AO.op rfl (AOp.fieldAddrPt rfl rfl (ltb rfl) rfl fo29_0 ?_) | refine AO.op rfl (AOp.fieldAddrEp rfl rfl (ltb rfl) rfl fo29_0 ?_)
  first | refine AO.op rfl (AOp.load1 rfl rfl (ltb rfl) rfl agg22 rfl rfl ?_) | refine AO.op rfl (AOp.loadEp rfl rfl (ltb rfl) rfl agg22 rfl ?_)
  first | refine AO.op rfl (AOp.fieldAddr rfl rfl (ltb rfl) rfl fo29_0 ?_) | refine AO.op rfl (AOp.fieldAddrPt rfl rfl (ltb rfl) rfl fo29_0 ?_) | refine AO.op rfl (AOp.fieldAddrEp rfl rfl (ltb rfl) rfl fo29_0 ?_)
  first | refine AO.op rfl (AOp.load1 rfl rfl (ltb rfl) rfl agg22 rfl rfl ?_) | refine AO.op rfl (AOp.loadEp rfl rfl (ltb rfl) rfl agg22 rfl ?_)
  refine AO.op rfl (AOp.fmax rfl rfl (ltb rfl) rfl rfl (by assumption) ?_)
  first | refine AO.op rfl (AOp.fieldAddr rfl rfl (ltb rfl) rfl fo29_1 ?_) | refine AO.op rfl (AOp.fieldAddrPt rfl rfl (ltb rfl) rfl fo29_1 ?_) | refine AO.op rfl (AOp.fieldAddrEp rfl rfl (ltb rfl) rfl fo29_1 ?_)
  first | refine AO.op rfl (AOp.load1 rfl rfl (ltb rfl) rfl agg22 rfl rfl ?_) | refine AO.op rfl (AOp.loadEp rfl rfl (ltb rfl) rfl agg22 rfl ?_)
  first | refine AO.op rfl (AOp.fieldAddr rfl rfl (ltb rfl) rfl fo29_1 ?_) | refine AO.op rfl (AOp.fieldAddrPt rfl rfl (ltb rfl) rfl fo29_1 ?_) | refine AO.op rfl (AOp.fieldAddrEp rfl rfl (ltb rfl) rfl fo29_1 ?_)
  first | refine AO.op rfl (AOp.load1 rfl rfl (ltb rfl) rfl agg22 rfl rfl ?_) | refine AO.op rfl (AOp.loadEp rfl rfl (ltb rfl) rfl agg22 rfl ?_)
  refine AO.op rfl (AOp.fmax rfl rfl (ltb rfl) rfl rfl (by assumption) ?_)
  first | refine AO.op rfl (AOp.fieldAddr rfl rfl (ltb rfl) rfl fo29_2 ?_) | refine AO.op rfl (AOp.fieldAddrPt rfl rfl (ltb rfl) rfl fo29_2 ?_) | refine AO.op rfl (AOp.fieldAddrEp rfl rfl (ltb rfl) rfl fo29_2 ?_)
  first | refine AO.op rfl (AOp.load1 rfl rfl (ltb rfl) rfl agg22 rfl rfl ?_) | refine AO.op rfl (AOp.loadEp rfl rfl (ltb rfl) rfl agg22 rfl ?_)
  first | refine AO.op rfl (AOp.fieldAddr rfl rfl (ltb rfl) rfl fo29_2 ?_) | refine AO.op rfl (AOp.fieldAddrPt rfl rfl (ltb rfl) rfl fo29_2 ?_) | refine AO.op rfl (AOp.fieldAddrEp rfl rfl (ltb rfl) rfl fo29_2 ?_)
  first | refine AO.op rfl (AOp.load1 rfl rfl (ltb rfl) rfl agg22 rfl rfl ?_) | refine AO.op rfl (AOp.loadEp rfl rfl (ltb rfl) rfl agg22 rfl ?_)
  refine AO.op rfl (AOp.fmax rfl rfl (ltb rfl) rfl rfl (by assumption) ?_)
  refine AO.op rfl (AOp.build rfl rfl (ltb rfl) zero29 rfl places29 rfl rfl ?_)
  refine AO.op rfl (AOp.build rfl rfl (ltb rfl) zero53 rfl places53 rfl rfl ?_)
  refine AO.op rfl (AOp.store rfl rfl rfl rfl size53 rfl rfl rfl (leb rfl) ?_)
  refine AO.nil ?_
  change AC _ _ _ _
  refine AC.ret ?_
  change RetQ _ _ _ .ret _
  refine retq rfl ?_
  exact rfl

set_option maxRecDepth 100000 in
/-- pub-orthodrome/laws.box3 -/
theorem boxL3 (ax ay az cx cy cz : Nat) : FnD Try.prog 31 [.ag [dfl ax, dfl ay, dfl az], .ag [dfl cx, dfl cy, dfl cz]] (fun r => r = .ag [dfl ax, dfl ay, dfl az, dfl cx, dfl cy, dfl cz]) := by
  refine FnD.of (by kernel_rfl) Try.func31 rfl Try.ntmps31 rfl (leb rfl) fun W ok => ?_
  refine AC.seq ?_
  refine AC.region ?_
  refine AO.op rfl (AOp.box rfl rfl (ltb rfl) rfl rfl ?_)
  refine AO.op rfl (AOp.box rfl rfl (ltb rfl) rfl rfl ?_)
  refine AO.op rfl (AOp.alloc rfl rfl (ltb rfl) zero53 rfl ?_)
  refine AO.nil ?_
  change AC _ _ _ _
  refine AC.seq ?_
  refine AC.region ?_
  first | refine AO.op rfl (AOp.loadN rfl rfl (ltb rfl) rfl agg29 size29 rfl (leb rfl) rfl ?_) | refine AO.op rfl (AOp.loadEpN rfl rfl (ltb rfl) rfl agg29 size29 (leb rfl) rfl ?_)
  first | refine AO.op rfl (AOp.loadN rfl rfl (ltb rfl) rfl agg29 size29 rfl (leb rfl) rfl ?_) | refine AO.op rfl (AOp.loadEpN rfl rfl (ltb rfl) rfl agg29 size29 (leb rfl) rfl ?_)
  refine AO.op rfl (AOp.build rfl rfl (ltb rfl) zero53 rfl places53 rfl rfl ?_)
  refine AO.op rfl (AOp.store rfl rfl rfl rfl size53 rfl rfl rfl (leb rfl) ?_)
  refine AO.nil ?_
  change AC _ _ _ _
  refine AC.ret ?_
  change RetQ _ _ _ .ret _
  refine retq rfl ?_
  exact rfl

set_option maxRecDepth 100000 in
/-- pub-orthodrome/pub/gonum/spatial/r3.Scale -/
theorem scale3 (f x y z a b c : Nat) (ha : floatBits .mul .f64 f x = some a) (hb : floatBits .mul .f64 f y = some b) (hc : floatBits .mul .f64 f z = some c) : FnD Try.prog 42 [dfl f, .ag [dfl x, dfl y, dfl z]] (fun r => r = .ag [dfl a, dfl b, dfl c]) := by
  refine FnD.of (by kernel_rfl) Try.func42 rfl Try.ntmps42 rfl (leb rfl) fun W ok => ?_
  refine AC.seq ?_
  refine AC.region ?_
  refine AO.op rfl (AOp.box rfl rfl (ltb rfl) rfl rfl ?_)
  refine AO.op rfl (AOp.alloc rfl rfl (ltb rfl) zero73 rfl ?_)
  refine AO.nil ?_
  change AC _ _ _ _
  refine AC.seq ?_
  refine AC.region ?_
  refine AO.op rfl (AOp.move rfl rfl (ltb rfl) rfl ?_)
  first | refine AO.op rfl (AOp.fieldAddr rfl rfl (ltb rfl) rfl fo73_0 ?_) | refine AO.op rfl (AOp.fieldAddrPt rfl rfl (ltb rfl) rfl fo73_0 ?_) | refine AO.op rfl (AOp.fieldAddrEp rfl rfl (ltb rfl) rfl fo73_0 ?_)
  first | refine AO.op rfl (AOp.load1 rfl rfl (ltb rfl) rfl agg22 rfl rfl ?_) | refine AO.op rfl (AOp.loadEp rfl rfl (ltb rfl) rfl agg22 rfl ?_)
  refine AO.op rfl (AOp.farith rfl rfl (ltb rfl) rfl rfl (by assumption) ?_)
  refine AO.op rfl (AOp.move rfl rfl (ltb rfl) rfl ?_)
  first | refine AO.op rfl (AOp.fieldAddr rfl rfl (ltb rfl) rfl fo73_1 ?_) | refine AO.op rfl (AOp.fieldAddrPt rfl rfl (ltb rfl) rfl fo73_1 ?_) | refine AO.op rfl (AOp.fieldAddrEp rfl rfl (ltb rfl) rfl fo73_1 ?_)
  first | refine AO.op rfl (AOp.load1 rfl rfl (ltb rfl) rfl agg22 rfl rfl ?_) | refine AO.op rfl (AOp.loadEp rfl rfl (ltb rfl) rfl agg22 rfl ?_)
  refine AO.op rfl (AOp.farith rfl rfl (ltb rfl) rfl rfl (by assumption) ?_)
  refine AO.op rfl (AOp.move rfl rfl (ltb rfl) rfl ?_)
  first | refine AO.op rfl (AOp.fieldAddr rfl rfl (ltb rfl) rfl fo73_2 ?_) | refine AO.op rfl (AOp.fieldAddrPt rfl rfl (ltb rfl) rfl fo73_2 ?_) | refine AO.op rfl (AOp.fieldAddrEp rfl rfl (ltb rfl) rfl fo73_2 ?_)
  first | refine AO.op rfl (AOp.load1 rfl rfl (ltb rfl) rfl agg22 rfl rfl ?_) | refine AO.op rfl (AOp.loadEp rfl rfl (ltb rfl) rfl agg22 rfl ?_)
  refine AO.op rfl (AOp.farith rfl rfl (ltb rfl) rfl rfl (by assumption) ?_)
  refine AO.op rfl (AOp.build rfl rfl (ltb rfl) zero73 rfl places73 rfl rfl ?_)
  refine AO.op rfl (AOp.store rfl rfl rfl rfl size73 rfl rfl rfl (leb rfl) ?_)
  refine AO.nil ?_
  change AC _ _ _ _
  refine AC.ret ?_
  change RetQ _ _ _ .ret _
  refine retq rfl ?_
  exact rfl

set_option maxRecDepth 100000 in
/-- pub-orthodrome/impl.Scale3 -/
theorem implScale3 (f x y z a b c : Nat) (ha : floatBits .mul .f64 f x = some a) (hb : floatBits .mul .f64 f y = some b) (hc : floatBits .mul .f64 f z = some c) : FnD Try.prog 18 [dfl f, .ag [dfl x, dfl y, dfl z]] (fun r => r = .ag [dfl a, dfl b, dfl c]) := by
  refine FnD.of (by kernel_rfl) Try.func18 rfl Try.ntmps18 rfl (leb rfl) fun W ok => ?_
  refine AC.seq ?_
  refine AC.region ?_
  refine AO.op rfl (AOp.box rfl rfl (ltb rfl) rfl rfl ?_)
  refine AO.op rfl (AOp.alloc rfl rfl (ltb rfl) zero29 rfl ?_)
  refine AO.nil ?_
  change AC _ _ _ _
  refine AC.seq ?_
  refine AC.region ?_
  refine AO.op rfl (AOp.move rfl rfl (ltb rfl) rfl ?_)
  first | refine AO.op rfl (AOp.loadN rfl rfl (ltb rfl) rfl agg29 size29 rfl (leb rfl) rfl ?_) | refine AO.op rfl (AOp.loadEpN rfl rfl (ltb rfl) rfl agg29 size29 (leb rfl) rfl ?_)
  refine AO.op rfl (AOp.callV rfl rfl (ltb rfl) rfl rfl (vec3 _ _ _) (by rintro _ rfl; rfl) ?_)
  rintro _ rfl
  refine AO.op rfl (AOp.callD rfl rfl (ltb rfl) rfl (scale3 _ _ _ _ _ _ _ ha hb hc) ?_)
  rintro _ rfl
  refine AO.op rfl (AOp.callD rfl rfl (ltb rfl) rfl (plainP3 _ _ _) ?_)
  rintro _ rfl
  refine AO.op rfl (AOp.store rfl rfl rfl rfl size29 rfl rfl rfl (leb rfl) ?_)
  refine AO.nil ?_
  change AC _ _ _ _
  refine AC.ret ?_
  change RetQ _ _ _ .ret _
  refine retq rfl ?_
  exact rfl

set_option maxRecDepth 100000 in
/-- pub-orthodrome/pub/gonum/spatial/r3.Add -/
theorem vAdd3 (ax ay az cx cy cz rx ry rz : Nat) (hx : floatBits .add .f64 ax cx = some rx) (hy : floatBits .add .f64 ay cy = some ry) (hz : floatBits .add .f64 az cz = some rz) : FnD Try.prog 85 [.ag [dfl ax, dfl ay, dfl az], .ag [dfl cx, dfl cy, dfl cz]] (fun r => r = .ag [dfl rx, dfl ry, dfl rz]) := by
  refine FnD.of (by kernel_rfl) Try.func85 rfl Try.ntmps85 rfl (leb rfl) fun W ok => ?_
  refine AC.seq ?_
  refine AC.region ?_
  refine AO.op rfl (AOp.box rfl rfl (ltb rfl) rfl rfl ?_)
  refine AO.op rfl (AOp.box rfl rfl (ltb rfl) rfl rfl ?_)
  refine AO.op rfl (AOp.alloc rfl rfl (ltb rfl) zero73 rfl ?_)
  refine AO.nil ?_
  change AC _ _ _ _
  refine AC.seq ?_
  refine AC.region ?_
  first | refine AO.op rfl (AOp.fieldAddr rfl rfl (ltb rfl) rfl fo73_0 ?_) | refine AO.op rfl (AOp.fieldAddrPt rfl rfl (ltb rfl) rfl fo73_0 ?_) | refine AO.op rfl (AOp.fieldAddrEp rfl rfl (ltb rfl) rfl fo73_0 ?_)
  first | refine AO.op rfl (AOp.load1 rfl rfl (ltb rfl) rfl agg22 rfl rfl ?_) | refine AO.op rfl (AOp.loadEp rfl rfl (ltb rfl) rfl agg22 rfl ?_)
  first | refine AO.op rfl (AOp.fieldAddr rfl rfl (ltb rfl) rfl fo73_0 ?_) | refine AO.op rfl (AOp.fieldAddrPt rfl rfl (ltb rfl) rfl fo73_0 ?_) | refine AO.op rfl (AOp.fieldAddrEp rfl rfl (ltb rfl) rfl fo73_0 ?_)
  first | refine AO.op rfl (AOp.load1 rfl rfl (ltb rfl) rfl agg22 rfl rfl ?_) | refine AO.op rfl (AOp.loadEp rfl rfl (ltb rfl) rfl agg22 rfl ?_)
  refine AO.op rfl (AOp.farith rfl rfl (ltb rfl) rfl rfl (by assumption) ?_)
  first | refine AO.op rfl (AOp.fieldAddr rfl rfl (ltb rfl) rfl fo73_1 ?_) | refine AO.op rfl (AOp.fieldAddrPt rfl rfl (ltb rfl) rfl fo73_1 ?_) | refine AO.op rfl (AOp.fieldAddrEp rfl rfl (ltb rfl) rfl fo73_1 ?_)
  first | refine AO.op rfl (AOp.load1 rfl rfl (ltb rfl) rfl agg22 rfl rfl ?_) | refine AO.op rfl (AOp.loadEp rfl rfl (ltb rfl) rfl agg22 rfl ?_)
  first | refine AO.op rfl (AOp.fieldAddr rfl rfl (ltb rfl) rfl fo73_1 ?_) | refine AO.op rfl (AOp.fieldAddrPt rfl rfl (ltb rfl) rfl fo73_1 ?_) | refine AO.op rfl (AOp.fieldAddrEp rfl rfl (ltb rfl) rfl fo73_1 ?_)
  first | refine AO.op rfl (AOp.load1 rfl rfl (ltb rfl) rfl agg22 rfl rfl ?_) | refine AO.op rfl (AOp.loadEp rfl rfl (ltb rfl) rfl agg22 rfl ?_)
  refine AO.op rfl (AOp.farith rfl rfl (ltb rfl) rfl rfl (by assumption) ?_)
  first | refine AO.op rfl (AOp.fieldAddr rfl rfl (ltb rfl) rfl fo73_2 ?_) | refine AO.op rfl (AOp.fieldAddrPt rfl rfl (ltb rfl) rfl fo73_2 ?_) | refine AO.op rfl (AOp.fieldAddrEp rfl rfl (ltb rfl) rfl fo73_2 ?_)
  first | refine AO.op rfl (AOp.load1 rfl rfl (ltb rfl) rfl agg22 rfl rfl ?_) | refine AO.op rfl (AOp.loadEp rfl rfl (ltb rfl) rfl agg22 rfl ?_)
  first | refine AO.op rfl (AOp.fieldAddr rfl rfl (ltb rfl) rfl fo73_2 ?_) | refine AO.op rfl (AOp.fieldAddrPt rfl rfl (ltb rfl) rfl fo73_2 ?_) | refine AO.op rfl (AOp.fieldAddrEp rfl rfl (ltb rfl) rfl fo73_2 ?_)
  first | refine AO.op rfl (AOp.load1 rfl rfl (ltb rfl) rfl agg22 rfl rfl ?_) | refine AO.op rfl (AOp.loadEp rfl rfl (ltb rfl) rfl agg22 rfl ?_)
  refine AO.op rfl (AOp.farith rfl rfl (ltb rfl) rfl rfl (by assumption) ?_)
  refine AO.op rfl (AOp.build rfl rfl (ltb rfl) zero73 rfl places73 rfl rfl ?_)
  refine AO.op rfl (AOp.store rfl rfl rfl rfl size73 rfl rfl rfl (leb rfl) ?_)
  refine AO.nil ?_
  change AC _ _ _ _
  refine AC.ret ?_
  change RetQ _ _ _ .ret _
  refine retq rfl ?_
  exact rfl

set_option maxRecDepth 100000 in
/-- pub-orthodrome/pub/gonum/spatial/r3.Sub -/
theorem vSub3 (ax ay az cx cy cz rx ry rz : Nat) (hx : floatBits .sub .f64 ax cx = some rx) (hy : floatBits .sub .f64 ay cy = some ry) (hz : floatBits .sub .f64 az cz = some rz) : FnD Try.prog 84 [.ag [dfl ax, dfl ay, dfl az], .ag [dfl cx, dfl cy, dfl cz]] (fun r => r = .ag [dfl rx, dfl ry, dfl rz]) := by
  refine FnD.of (by kernel_rfl) Try.func84 rfl Try.ntmps84 rfl (leb rfl) fun W ok => ?_
  refine AC.seq ?_
  refine AC.region ?_
  refine AO.op rfl (AOp.box rfl rfl (ltb rfl) rfl rfl ?_)
  refine AO.op rfl (AOp.box rfl rfl (ltb rfl) rfl rfl ?_)
  refine AO.op rfl (AOp.alloc rfl rfl (ltb rfl) zero73 rfl ?_)
  refine AO.nil ?_
  change AC _ _ _ _
  refine AC.seq ?_
  refine AC.region ?_
  first | refine AO.op rfl (AOp.fieldAddr rfl rfl (ltb rfl) rfl fo73_0 ?_) | refine AO.op rfl (AOp.fieldAddrPt rfl rfl (ltb rfl) rfl fo73_0 ?_) | refine AO.op rfl (AOp.fieldAddrEp rfl rfl (ltb rfl) rfl fo73_0 ?_)
  first | refine AO.op rfl (AOp.load1 rfl rfl (ltb rfl) rfl agg22 rfl rfl ?_) | refine AO.op rfl (AOp.loadEp rfl rfl (ltb rfl) rfl agg22 rfl ?_)
  first | refine AO.op rfl (AOp.fieldAddr rfl rfl (ltb rfl) rfl fo73_0 ?_) | refine AO.op rfl (AOp.fieldAddrPt rfl rfl (ltb rfl) rfl fo73_0 ?_) | refine AO.op rfl (AOp.fieldAddrEp rfl rfl (ltb rfl) rfl fo73_0 ?_)
  first | refine AO.op rfl (AOp.load1 rfl rfl (ltb rfl) rfl agg22 rfl rfl ?_) | refine AO.op rfl (AOp.loadEp rfl rfl (ltb rfl) rfl agg22 rfl ?_)
  refine AO.op rfl (AOp.farith rfl rfl (ltb rfl) rfl rfl (by assumption) ?_)
  first | refine AO.op rfl (AOp.fieldAddr rfl rfl (ltb rfl) rfl fo73_1 ?_) | refine AO.op rfl (AOp.fieldAddrPt rfl rfl (ltb rfl) rfl fo73_1 ?_) | refine AO.op rfl (AOp.fieldAddrEp rfl rfl (ltb rfl) rfl fo73_1 ?_)
  first | refine AO.op rfl (AOp.load1 rfl rfl (ltb rfl) rfl agg22 rfl rfl ?_) | refine AO.op rfl (AOp.loadEp rfl rfl (ltb rfl) rfl agg22 rfl ?_)
  first | refine AO.op rfl (AOp.fieldAddr rfl rfl (ltb rfl) rfl fo73_1 ?_) | refine AO.op rfl (AOp.fieldAddrPt rfl rfl (ltb rfl) rfl fo73_1 ?_) | refine AO.op rfl (AOp.fieldAddrEp rfl rfl (ltb rfl) rfl fo73_1 ?_)
  first | refine AO.op rfl (AOp.load1 rfl rfl (ltb rfl) rfl agg22 rfl rfl ?_) | refine AO.op rfl (AOp.loadEp rfl rfl (ltb rfl) rfl agg22 rfl ?_)
  refine AO.op rfl (AOp.farith rfl rfl (ltb rfl) rfl rfl (by assumption) ?_)
  first | refine AO.op rfl (AOp.fieldAddr rfl rfl (ltb rfl) rfl fo73_2 ?_) | refine AO.op rfl (AOp.fieldAddrPt rfl rfl (ltb rfl) rfl fo73_2 ?_) | refine AO.op rfl (AOp.fieldAddrEp rfl rfl (ltb rfl) rfl fo73_2 ?_)
  first | refine AO.op rfl (AOp.load1 rfl rfl (ltb rfl) rfl agg22 rfl rfl ?_) | refine AO.op rfl (AOp.loadEp rfl rfl (ltb rfl) rfl agg22 rfl ?_)
  first | refine AO.op rfl (AOp.fieldAddr rfl rfl (ltb rfl) rfl fo73_2 ?_) | refine AO.op rfl (AOp.fieldAddrPt rfl rfl (ltb rfl) rfl fo73_2 ?_) | refine AO.op rfl (AOp.fieldAddrEp rfl rfl (ltb rfl) rfl fo73_2 ?_)
  first | refine AO.op rfl (AOp.load1 rfl rfl (ltb rfl) rfl agg22 rfl rfl ?_) | refine AO.op rfl (AOp.loadEp rfl rfl (ltb rfl) rfl agg22 rfl ?_)
  refine AO.op rfl (AOp.farith rfl rfl (ltb rfl) rfl rfl (by assumption) ?_)
  refine AO.op rfl (AOp.build rfl rfl (ltb rfl) zero73 rfl places73 rfl rfl ?_)
  refine AO.op rfl (AOp.store rfl rfl rfl rfl size73 rfl rfl rfl (leb rfl) ?_)
  refine AO.nil ?_
  change AC _ _ _ _
  refine AC.ret ?_
  change RetQ _ _ _ .ret _
  refine retq rfl ?_
  exact rfl

set_option maxRecDepth 100000 in
/-- pub-orthodrome/pub/gonum/spatial/r3.mulElem -/
theorem vMul3 (ax ay az cx cy cz rx ry rz : Nat) (hx : floatBits .mul .f64 ax cx = some rx) (hy : floatBits .mul .f64 ay cy = some ry) (hz : floatBits .mul .f64 az cz = some rz) : FnD Try.prog 66 [.ag [dfl ax, dfl ay, dfl az], .ag [dfl cx, dfl cy, dfl cz]] (fun r => r = .ag [dfl rx, dfl ry, dfl rz]) := by
  refine FnD.of (by kernel_rfl) Try.func66 rfl Try.ntmps66 rfl (leb rfl) fun W ok => ?_
  refine AC.seq ?_
  refine AC.region ?_
  refine AO.op rfl (AOp.box rfl rfl (ltb rfl) rfl rfl ?_)
  refine AO.op rfl (AOp.box rfl rfl (ltb rfl) rfl rfl ?_)
  refine AO.op rfl (AOp.alloc rfl rfl (ltb rfl) zero73 rfl ?_)
  refine AO.nil ?_
  change AC _ _ _ _
  refine AC.seq ?_
  refine AC.region ?_
  first | refine AO.op rfl (AOp.fieldAddr rfl rfl (ltb rfl) rfl fo73_0 ?_) | refine AO.op rfl (AOp.fieldAddrPt rfl rfl (ltb rfl) rfl fo73_0 ?_) | refine AO.op rfl (AOp.fieldAddrEp rfl rfl (ltb rfl) rfl fo73_0 ?_)
  first | refine AO.op rfl (AOp.load1 rfl rfl (ltb rfl) rfl agg22 rfl rfl ?_) | refine AO.op rfl (AOp.loadEp rfl rfl (ltb rfl) rfl agg22 rfl ?_)
  first | refine AO.op rfl (AOp.fieldAddr rfl rfl (ltb rfl) rfl fo73_0 ?_) | refine AO.op rfl (AOp.fieldAddrPt rfl rfl (ltb rfl) rfl fo73_0 ?_) | refine AO.op rfl (AOp.fieldAddrEp rfl rfl (ltb rfl) rfl fo73_0 ?_)
  first | refine AO.op rfl (AOp.load1 rfl rfl (ltb rfl) rfl agg22 rfl rfl ?_) | refine AO.op rfl (AOp.loadEp rfl rfl (ltb rfl) rfl agg22 rfl ?_)
  refine AO.op rfl (AOp.farith rfl rfl (ltb rfl) rfl rfl (by assumption) ?_)
  first | refine AO.op rfl (AOp.fieldAddr rfl rfl (ltb rfl) rfl fo73_1 ?_) | refine AO.op rfl (AOp.fieldAddrPt rfl rfl (ltb rfl) rfl fo73_1 ?_) | refine AO.op rfl (AOp.fieldAddrEp rfl rfl (ltb rfl) rfl fo73_1 ?_)
  first | refine AO.op rfl (AOp.load1 rfl rfl (ltb rfl) rfl agg22 rfl rfl ?_) | refine AO.op rfl (AOp.loadEp rfl rfl (ltb rfl) rfl agg22 rfl ?_)
  first | refine AO.op rfl (AOp.fieldAddr rfl rfl (ltb rfl) rfl fo73_1 ?_) | refine AO.op rfl (AOp.fieldAddrPt rfl rfl (ltb rfl) rfl fo73_1 ?_) | refine AO.op rfl (AOp.fieldAddrEp rfl rfl (ltb rfl) rfl fo73_1 ?_)
  first | refine AO.op rfl (AOp.load1 rfl rfl (ltb rfl) rfl agg22 rfl rfl ?_) | refine AO.op rfl (AOp.loadEp rfl rfl (ltb rfl) rfl agg22 rfl ?_)
  refine AO.op rfl (AOp.farith rfl rfl (ltb rfl) rfl rfl (by assumption) ?_)
  first | refine AO.op rfl (AOp.fieldAddr rfl rfl (ltb rfl) rfl fo73_2 ?_) | refine AO.op rfl (AOp.fieldAddrPt rfl rfl (ltb rfl) rfl fo73_2 ?_) | refine AO.op rfl (AOp.fieldAddrEp rfl rfl (ltb rfl) rfl fo73_2 ?_)
  first | refine AO.op rfl (AOp.load1 rfl rfl (ltb rfl) rfl agg22 rfl rfl ?_) | refine AO.op rfl (AOp.loadEp rfl rfl (ltb rfl) rfl agg22 rfl ?_)
  first | refine AO.op rfl (AOp.fieldAddr rfl rfl (ltb rfl) rfl fo73_2 ?_) | refine AO.op rfl (AOp.fieldAddrPt rfl rfl (ltb rfl) rfl fo73_2 ?_) | refine AO.op rfl (AOp.fieldAddrEp rfl rfl (ltb rfl) rfl fo73_2 ?_)
  first | refine AO.op rfl (AOp.load1 rfl rfl (ltb rfl) rfl agg22 rfl rfl ?_) | refine AO.op rfl (AOp.loadEp rfl rfl (ltb rfl) rfl agg22 rfl ?_)
  refine AO.op rfl (AOp.farith rfl rfl (ltb rfl) rfl rfl (by assumption) ?_)
  refine AO.op rfl (AOp.build rfl rfl (ltb rfl) zero73 rfl places73 rfl rfl ?_)
  refine AO.op rfl (AOp.store rfl rfl rfl rfl size73 rfl rfl rfl (leb rfl) ?_)
  refine AO.nil ?_
  change AC _ _ _ _
  refine AC.ret ?_
  change RetQ _ _ _ .ret _
  refine retq rfl ?_
  exact rfl

set_option maxRecDepth 100000 in
/-- (pub-orthodrome/pub/gonum/spatial/r3.Box).Center -/
theorem bCenter3 (mnx mny mnz mxx mxy mxz fx fy fz c0x c0y c0z ccx ccy ccz s0x s0y s0z sx sy sz hx hy hz lox loy loz hix hiy hiz : Nat) (Kx : Flt.Ch3 mnx mxx fx c0x ccx s0x sx hx lox hix) (Ky : Flt.Ch3 mny mxy fy c0y ccy s0y sy hy loy hiy) (Kz : Flt.Ch3 mnz mxz fz c0z ccz s0z sz hz loz hiz) : FnD Try.prog 65 [.ag [dfl mnx, dfl mny, dfl mnz, dfl mxx, dfl mxy, dfl mxz]] (fun r => r = .ag [dfl ccx, dfl ccy, dfl ccz]) := by
  refine FnD.of (by kernel_rfl) Try.func65 rfl Try.ntmps65 rfl (leb rfl) fun W ok => ?_
  refine AC.seq ?_
  refine AC.region ?_
  refine AO.op rfl (AOp.box rfl rfl (ltb rfl) rfl rfl ?_)
  refine AO.op rfl (AOp.alloc rfl rfl (ltb rfl) zero73 rfl ?_)
  refine AO.nil ?_
  change AC _ _ _ _
  refine AC.seq ?_
  refine AC.region ?_
  first | refine AO.op rfl (AOp.fieldAddr rfl rfl (ltb rfl) rfl fo87_0 ?_) | refine AO.op rfl (AOp.fieldAddrPt rfl rfl (ltb rfl) rfl fo87_0 ?_) | refine AO.op rfl (AOp.fieldAddrEp rfl rfl (ltb rfl) rfl fo87_0 ?_)
  first | refine AO.op rfl (AOp.loadN rfl rfl (ltb rfl) rfl agg73 size73 rfl (leb rfl) rfl ?_) | refine AO.op rfl (AOp.loadEpN rfl rfl (ltb rfl) rfl agg73 size73 (leb rfl) rfl ?_)
  first | refine AO.op rfl (AOp.fieldAddr rfl rfl (ltb rfl) rfl fo87_1 ?_) | refine AO.op rfl (AOp.fieldAddrPt rfl rfl (ltb rfl) rfl fo87_1 ?_) | refine AO.op rfl (AOp.fieldAddrEp rfl rfl (ltb rfl) rfl fo87_1 ?_)
  first | refine AO.op rfl (AOp.loadN rfl rfl (ltb rfl) rfl agg73 size73 rfl (leb rfl) rfl ?_) | refine AO.op rfl (AOp.loadEpN rfl rfl (ltb rfl) rfl agg73 size73 (leb rfl) rfl ?_)
  refine AO.op rfl (AOp.callD rfl rfl (ltb rfl) rfl (vAdd3 _ _ _ _ _ _ _ _ _ Kx.e1 Ky.e1 Kz.e1) ?_)
  rintro _ rfl
  refine AO.op rfl (AOp.callD rfl rfl (ltb rfl) rfl (scale3 _ _ _ _ _ _ _ Kx.e2 Ky.e2 Kz.e2) ?_)
  rintro _ rfl
  refine AO.op rfl (AOp.store rfl rfl rfl rfl size73 rfl rfl rfl (leb rfl) ?_)
  refine AO.nil ?_
  change AC _ _ _ _
  refine AC.ret ?_
  change RetQ _ _ _ .ret _
  refine retq rfl ?_
  exact rfl

set_option maxRecDepth 100000 in
/-- (pub-orthodrome/pub/gonum/spatial/r3.Box).Size -/
theorem bSize3 (mnx mny mnz mxx mxy mxz fx fy fz c0x c0y c0z ccx ccy ccz s0x s0y s0z sx sy sz hx hy hz lox loy loz hix hiy hiz : Nat) (Kx : Flt.Ch3 mnx mxx fx c0x ccx s0x sx hx lox hix) (Ky : Flt.Ch3 mny mxy fy c0y ccy s0y sy hy loy hiy) (Kz : Flt.Ch3 mnz mxz fz c0z ccz s0z sz hz loz hiz) : FnD Try.prog 67 [.ag [dfl mnx, dfl mny, dfl mnz, dfl mxx, dfl mxy, dfl mxz]] (fun r => r = .ag [dfl s0x, dfl s0y, dfl s0z]) := by
  refine FnD.of (by kernel_rfl) Try.func67 rfl Try.ntmps67 rfl (leb rfl) fun W ok => ?_
  refine AC.seq ?_
  refine AC.region ?_
  refine AO.op rfl (AOp.box rfl rfl (ltb rfl) rfl rfl ?_)
  refine AO.op rfl (AOp.alloc rfl rfl (ltb rfl) zero73 rfl ?_)
  refine AO.nil ?_
  change AC _ _ _ _
  refine AC.seq ?_
  refine AC.region ?_
  first | refine AO.op rfl (AOp.fieldAddr rfl rfl (ltb rfl) rfl fo87_1 ?_) | refine AO.op rfl (AOp.fieldAddrPt rfl rfl (ltb rfl) rfl fo87_1 ?_) | refine AO.op rfl (AOp.fieldAddrEp rfl rfl (ltb rfl) rfl fo87_1 ?_)
  first | refine AO.op rfl (AOp.loadN rfl rfl (ltb rfl) rfl agg73 size73 rfl (leb rfl) rfl ?_) | refine AO.op rfl (AOp.loadEpN rfl rfl (ltb rfl) rfl agg73 size73 (leb rfl) rfl ?_)
  first | refine AO.op rfl (AOp.fieldAddr rfl rfl (ltb rfl) rfl fo87_0 ?_) | refine AO.op rfl (AOp.fieldAddrPt rfl rfl (ltb rfl) rfl fo87_0 ?_) | refine AO.op rfl (AOp.fieldAddrEp rfl rfl (ltb rfl) rfl fo87_0 ?_)
  first | refine AO.op rfl (AOp.loadN rfl rfl (ltb rfl) rfl agg73 size73 rfl (leb rfl) rfl ?_) | refine AO.op rfl (AOp.loadEpN rfl rfl (ltb rfl) rfl agg73 size73 (leb rfl) rfl ?_)
  refine AO.op rfl (AOp.callD rfl rfl (ltb rfl) rfl (vSub3 _ _ _ _ _ _ _ _ _ Kx.e3 Ky.e3 Kz.e3) ?_)
  rintro _ rfl
  refine AO.op rfl (AOp.store rfl rfl rfl rfl size73 rfl rfl rfl (leb rfl) ?_)
  refine AO.nil ?_
  change AC _ _ _ _
  refine AC.ret ?_
  change RetQ _ _ _ .ret _
  refine retq rfl ?_
  exact rfl

set_option maxRecDepth 100000 in
/-- pub-orthodrome/pub/gonum/spatial/r3.centeredBox -/
theorem bCentered3 (mnx mny mnz mxx mxy mxz fx fy fz c0x c0y c0z ccx ccy ccz s0x s0y s0z sx sy sz hx hy hz lox loy loz hix hiy hiz : Nat) (Kx : Flt.Ch3 mnx mxx fx c0x ccx s0x sx hx lox hix) (Ky : Flt.Ch3 mny mxy fy c0y ccy s0y sy hy loy hiy) (Kz : Flt.Ch3 mnz mxz fz c0z ccz s0z sz hz loz hiz) : FnD Try.prog 64 [.ag [dfl ccx, dfl ccy, dfl ccz], .ag [dfl sx, dfl sy, dfl sz]] (fun r => r = .ag [dfl lox, dfl loy, dfl loz, dfl hix, dfl hiy, dfl hiz]) := by
  refine FnD.of (by kernel_rfl) Try.func64 rfl Try.ntmps64 rfl (leb rfl) fun W ok => ?_
  refine AC.seq ?_
  refine AC.region ?_
  refine AO.op rfl (AOp.box rfl rfl (ltb rfl) rfl rfl ?_)
  refine AO.op rfl (AOp.box rfl rfl (ltb rfl) rfl rfl ?_)
  refine AO.op rfl (AOp.alloc rfl rfl (ltb rfl) zero87 rfl ?_)
  refine AO.nil ?_
  change AC _ _ _ _
  refine AC.seq ?_
  refine AC.region ?_
  first | refine AO.op rfl (AOp.loadN rfl rfl (ltb rfl) rfl agg73 size73 rfl (leb rfl) rfl ?_) | refine AO.op rfl (AOp.loadEpN rfl rfl (ltb rfl) rfl agg73 size73 (leb rfl) rfl ?_)
  refine AO.op rfl (AOp.build rfl rfl (ltb rfl) zero73 rfl places73 rfl rfl ?_)
  refine AO.op rfl (AOp.callD rfl rfl (ltb rfl) rfl (maxElem3 _ _ _ _ _ _) ?_)
  rintro _ rfl
  refine AO.op rfl (AOp.store rfl rfl rfl rfl size73 rfl rfl rfl (leb rfl) ?_)
  refine AO.nil ?_
  change AC _ _ _ _
  refine AC.seq ?_
  refine AC.region ?_
  first | refine AO.op rfl (AOp.loadN rfl rfl (ltb rfl) rfl agg73 size73 rfl (leb rfl) rfl ?_) | refine AO.op rfl (AOp.loadEpN rfl rfl (ltb rfl) rfl agg73 size73 (leb rfl) rfl ?_)
  refine AO.op rfl (AOp.callD rfl rfl (ltb rfl) rfl (scale3 _ _ _ _ _ _ _ Kx.e5 Ky.e5 Kz.e5) ?_)
  rintro _ rfl
  refine AO.op rfl (AOp.alloc rfl rfl (ltb rfl) zero73 rfl ?_)
  refine AO.op rfl (AOp.store rfl rfl rfl rfl size73 rfl rfl rfl (leb rfl) ?_)
  refine AO.nil ?_
  change AC _ _ _ _
  refine AC.seq ?_
  refine AC.draw 7 mixed (by kernel_rfl) ?_
  first | refine AD.op [2] rfl (by kernel_rfl) rfl rfl (fun _ _ h => AOp.loadN rfl rfl (ltb rfl) rfl agg73 size73 rfl (leb rfl) rfl h) ?_ | refine AD.op [2] rfl (by kernel_rfl) rfl rfl (fun _ _ h => AOp.loadEpN rfl rfl (ltb rfl) rfl agg73 size73 (leb rfl) rfl h) ?_
  first | refine AD.op [5] rfl (by kernel_rfl) rfl rfl (fun _ _ h => AOp.loadN rfl rfl (ltb rfl) rfl agg73 size73 rfl (leb rfl) rfl h) ?_ | refine AD.op [5] rfl (by kernel_rfl) rfl rfl (fun _ _ h => AOp.loadEpN rfl rfl (ltb rfl) rfl agg73 size73 (leb rfl) rfl h) ?_
  refine AD.op [11, 12] rfl (by kernel_rfl) rfl rfl (fun _ _ h => AOp.callD rfl rfl (ltb rfl) rfl (vSub3 _ _ _ _ _ _ _ _ _ Kx.e6 Ky.e6 Kz.e6) (by rintro _ rfl; exact h)) ?_
  first | refine AD.op [2] rfl (by kernel_rfl) rfl rfl (fun _ _ h => AOp.loadN rfl rfl (ltb rfl) rfl agg73 size73 rfl (leb rfl) rfl h) ?_ | refine AD.op [2] rfl (by kernel_rfl) rfl rfl (fun _ _ h => AOp.loadEpN rfl rfl (ltb rfl) rfl agg73 size73 (leb rfl) rfl h) ?_
  first | refine AD.op [5] rfl (by kernel_rfl) rfl rfl (fun _ _ h => AOp.loadN rfl rfl (ltb rfl) rfl agg73 size73 rfl (leb rfl) rfl h) ?_ | refine AD.op [5] rfl (by kernel_rfl) rfl rfl (fun _ _ h => AOp.loadEpN rfl rfl (ltb rfl) rfl agg73 size73 (leb rfl) rfl h) ?_
  refine AD.op [14, 15] rfl (by kernel_rfl) rfl rfl (fun _ _ h => AOp.callD rfl rfl (ltb rfl) rfl (vAdd3 _ _ _ _ _ _ _ _ _ Kx.e7 Ky.e7 Kz.e7) (by rintro _ rfl; exact h)) ?_
  refine AD.op [13, 16] rfl (by kernel_rfl) rfl rfl (fun _ _ h => AOp.build rfl rfl (ltb rfl) zero87 rfl places87 rfl rfl h) ?_
  refine AD.done ?_
  refine AO.op rfl (AOp.store rfl rfl rfl rfl size87 rfl rfl rfl (leb rfl) ?_)
  refine AO.nil ?_
  change AC _ _ _ _
  refine AC.ret ?_
  change RetQ _ _ _ .ret _
  refine retq rfl ?_
  exact rfl

set_option maxRecDepth 100000 in
/-- (pub-orthodrome/pub/gonum/spatial/r3.Box).Scale -/
theorem bScale3 (mnx mny mnz mxx mxy mxz fx fy fz c0x c0y c0z ccx ccy ccz s0x s0y s0z sx sy sz hx hy hz lox loy loz hix hiy hiz : Nat) (Kx : Flt.Ch3 mnx mxx fx c0x ccx s0x sx hx lox hix) (Ky : Flt.Ch3 mny mxy fy c0y ccy s0y sy hy loy hiy) (Kz : Flt.Ch3 mnz mxz fz c0z ccz s0z sz hz loz hiz) : FnD Try.prog 48 [.ag [dfl mnx, dfl mny, dfl mnz, dfl mxx, dfl mxy, dfl mxz], .ag [dfl fx, dfl fy, dfl fz]] (fun r => r = .ag [dfl lox, dfl loy, dfl loz, dfl hix, dfl hiy, dfl hiz]) := by
  refine FnD.of (by kernel_rfl) Try.func48 rfl Try.ntmps48 rfl (leb rfl) fun W ok => ?_
  refine AC.seq ?_
  refine AC.region ?_
  refine AO.op rfl (AOp.box rfl rfl (ltb rfl) rfl rfl ?_)
  refine AO.op rfl (AOp.box rfl rfl (ltb rfl) rfl rfl ?_)
  refine AO.op rfl (AOp.alloc rfl rfl (ltb rfl) zero87 rfl ?_)
  refine AO.nil ?_
  change AC _ _ _ _
  refine AC.seq ?_
  refine AC.region ?_
  first | refine AO.op rfl (AOp.loadN rfl rfl (ltb rfl) rfl agg73 size73 rfl (leb rfl) rfl ?_) | refine AO.op rfl (AOp.loadEpN rfl rfl (ltb rfl) rfl agg73 size73 (leb rfl) rfl ?_)
  refine AO.op rfl (AOp.build rfl rfl (ltb rfl) zero73 rfl places73 rfl rfl ?_)
  refine AO.op rfl (AOp.callD rfl rfl (ltb rfl) rfl (maxElem3 _ _ _ _ _ _) ?_)
  rintro _ rfl
  refine AO.op rfl (AOp.store rfl rfl rfl rfl size73 rfl rfl rfl (leb rfl) ?_)
  refine AO.nil ?_
  change AC _ _ _ _
  refine AC.seq ?_
  refine AC.draw 7 mixed (by kernel_rfl) ?_
  first | refine AD.op [2] rfl (by kernel_rfl) rfl rfl (fun _ _ h => AOp.loadN rfl rfl (ltb rfl) rfl agg87 size87 rfl (leb rfl) rfl h) ?_ | refine AD.op [2] rfl (by kernel_rfl) rfl rfl (fun _ _ h => AOp.loadEpN rfl rfl (ltb rfl) rfl agg87 size87 (leb rfl) rfl h) ?_
  refine AD.op [8] rfl (by kernel_rfl) rfl rfl (fun _ _ h => AOp.callD rfl rfl (ltb rfl) rfl (bCenter3 _ _ _ _ _ _ _ _ _ _ _ _ _ _ _ _ _ _ _ _ _ _ _ _ _ _ _ _ _ _ Kx Ky Kz) (by rintro _ rfl; exact h)) ?_
  first | refine AD.op [3] rfl (by kernel_rfl) rfl rfl (fun _ _ h => AOp.loadN rfl rfl (ltb rfl) rfl agg73 size73 rfl (leb rfl) rfl h) ?_ | refine AD.op [3] rfl (by kernel_rfl) rfl rfl (fun _ _ h => AOp.loadEpN rfl rfl (ltb rfl) rfl agg73 size73 (leb rfl) rfl h) ?_
  first | refine AD.op [2] rfl (by kernel_rfl) rfl rfl (fun _ _ h => AOp.loadN rfl rfl (ltb rfl) rfl agg87 size87 rfl (leb rfl) rfl h) ?_ | refine AD.op [2] rfl (by kernel_rfl) rfl rfl (fun _ _ h => AOp.loadEpN rfl rfl (ltb rfl) rfl agg87 size87 (leb rfl) rfl h) ?_
  refine AD.op [11] rfl (by kernel_rfl) rfl rfl (fun _ _ h => AOp.callD rfl rfl (ltb rfl) rfl (bSize3 _ _ _ _ _ _ _ _ _ _ _ _ _ _ _ _ _ _ _ _ _ _ _ _ _ _ _ _ _ _ Kx Ky Kz) (by rintro _ rfl; exact h)) ?_
  refine AD.op [10, 12] rfl (by kernel_rfl) rfl rfl (fun _ _ h => AOp.callD rfl rfl (ltb rfl) rfl (vMul3 _ _ _ _ _ _ _ _ _ Kx.e4 Ky.e4 Kz.e4) (by rintro _ rfl; exact h)) ?_
  refine AD.op [9, 13] rfl (by kernel_rfl) rfl rfl (fun _ _ h => AOp.callD rfl rfl (ltb rfl) rfl (bCentered3 _ _ _ _ _ _ _ _ _ _ _ _ _ _ _ _ _ _ _ _ _ _ _ _ _ _ _ _ _ _ Kx Ky Kz) (by rintro _ rfl; exact h)) ?_
  refine AD.done ?_
  refine AO.op rfl (AOp.store rfl rfl rfl rfl size87 rfl rfl rfl (leb rfl) ?_)
  refine AO.nil ?_
  change AC _ _ _ _
  refine AC.ret ?_
  change RetQ _ _ _ .ret _
  refine retq rfl ?_
  exact rfl

set_option maxRecDepth 100000 in
/-- pub-orthodrome/impl.ScaleBox3 -/
theorem implScaleBox3 (mnx mny mnz mxx mxy mxz fx fy fz c0x c0y c0z ccx ccy ccz s0x s0y s0z sx sy sz hx hy hz lox loy loz hix hiy hiz : Nat) (Kx : Flt.Ch3 mnx mxx fx c0x ccx s0x sx hx lox hix) (Ky : Flt.Ch3 mny mxy fy c0y ccy s0y sy hy loy hiy) (Kz : Flt.Ch3 mnz mxz fz c0z ccz s0z sz hz loz hiz) : FnD Try.prog 26 [.ag [dfl mnx, dfl mny, dfl mnz, dfl mxx, dfl mxy, dfl mxz], .ag [dfl fx, dfl fy, dfl fz]] (fun r => r = .ag [dfl lox, dfl loy, dfl loz, dfl hix, dfl hiy, dfl hiz]) := by
  refine FnD.of (by kernel_rfl) Try.func26 rfl Try.ntmps26 rfl (leb rfl) fun W ok => ?_
  refine AC.seq ?_
  refine AC.region ?_
  refine AO.op rfl (AOp.box rfl rfl (ltb rfl) rfl rfl ?_)
  refine AO.op rfl (AOp.box rfl rfl (ltb rfl) rfl rfl ?_)
  refine AO.op rfl (AOp.alloc rfl rfl (ltb rfl) zero53 rfl ?_)
  refine AO.nil ?_
  change AC _ _ _ _
  refine AC.seq ?_
  refine AC.draw 11 mixed (by kernel_rfl) ?_
  first | refine AD.op [2] rfl (by kernel_rfl) rfl rfl (fun _ _ h => AOp.fieldAddr rfl rfl (ltb rfl) rfl fo53_0 h) ?_ | refine AD.op [2] rfl (by kernel_rfl) rfl rfl (fun _ _ h => AOp.fieldAddrPt rfl rfl (ltb rfl) rfl fo53_0 h) ?_ | refine AD.op [2] rfl (by kernel_rfl) rfl rfl (fun _ _ h => AOp.fieldAddrEp rfl rfl (ltb rfl) rfl fo53_0 h) ?_
  first | refine AD.op [5] rfl (by kernel_rfl) rfl rfl (fun _ _ h => AOp.loadN rfl rfl (ltb rfl) rfl agg29 size29 rfl (leb rfl) rfl h) ?_ | refine AD.op [5] rfl (by kernel_rfl) rfl rfl (fun _ _ h => AOp.loadEpN rfl rfl (ltb rfl) rfl agg29 size29 (leb rfl) rfl h) ?_
  refine AD.op [6] rfl (by kernel_rfl) rfl rfl (fun _ _ h => AOp.callD rfl rfl (ltb rfl) rfl (vec3 _ _ _) (by rintro _ rfl; exact h)) ?_
  first | refine AD.op [2] rfl (by kernel_rfl) rfl rfl (fun _ _ h => AOp.fieldAddr rfl rfl (ltb rfl) rfl fo53_1 h) ?_ | refine AD.op [2] rfl (by kernel_rfl) rfl rfl (fun _ _ h => AOp.fieldAddrPt rfl rfl (ltb rfl) rfl fo53_1 h) ?_ | refine AD.op [2] rfl (by kernel_rfl) rfl rfl (fun _ _ h => AOp.fieldAddrEp rfl rfl (ltb rfl) rfl fo53_1 h) ?_
  first | refine AD.op [8] rfl (by kernel_rfl) rfl rfl (fun _ _ h => AOp.loadN rfl rfl (ltb rfl) rfl agg29 size29 rfl (leb rfl) rfl h) ?_ | refine AD.op [8] rfl (by kernel_rfl) rfl rfl (fun _ _ h => AOp.loadEpN rfl rfl (ltb rfl) rfl agg29 size29 (leb rfl) rfl h) ?_
  refine AD.op [9] rfl (by kernel_rfl) rfl rfl (fun _ _ h => AOp.callD rfl rfl (ltb rfl) rfl (vec3 _ _ _) (by rintro _ rfl; exact h)) ?_
  refine AD.op [7, 10] rfl (by kernel_rfl) rfl rfl (fun _ _ h => AOp.build rfl rfl (ltb rfl) zero87 rfl places87 rfl rfl h) ?_
  first | refine AD.op [3] rfl (by kernel_rfl) rfl rfl (fun _ _ h => AOp.loadN rfl rfl (ltb rfl) rfl agg29 size29 rfl (leb rfl) rfl h) ?_ | refine AD.op [3] rfl (by kernel_rfl) rfl rfl (fun _ _ h => AOp.loadEpN rfl rfl (ltb rfl) rfl agg29 size29 (leb rfl) rfl h) ?_
  refine AD.op [12] rfl (by kernel_rfl) rfl rfl (fun _ _ h => AOp.callD rfl rfl (ltb rfl) rfl (vec3 _ _ _) (by rintro _ rfl; exact h)) ?_
  refine AD.op [11, 13] rfl (by kernel_rfl) rfl rfl (fun _ _ h => AOp.callD rfl rfl (ltb rfl) rfl (bScale3 _ _ _ _ _ _ _ _ _ _ _ _ _ _ _ _ _ _ _ _ _ _ _ _ _ _ _ _ _ _ Kx Ky Kz) (by rintro _ rfl; exact h)) ?_
  refine AD.op [14] rfl (by kernel_rfl) rfl rfl (fun _ _ h => AOp.callD rfl rfl (ltb rfl) rfl (plainBox3 _ _ _ _ _ _) (by rintro _ rfl; exact h)) ?_
  refine AD.done ?_
  refine AO.op rfl (AOp.store rfl rfl rfl rfl size53 rfl rfl rfl (leb rfl) ?_)
  refine AO.nil ?_
  change AC _ _ _ _
  refine AC.ret ?_
  change RetQ _ _ _ .ret _
  refine retq rfl ?_
  exact rfl

set_option maxRecDepth 100000 in
/-- pub-orthodrome/laws.canon3 -/
theorem canonA3 (ax ay az cx cy cz : Nat) : FnD Try.prog 23 [.ag [dfl ax, dfl ay, dfl az], .ag [dfl cx, dfl cy, dfl cz]] (fun r => ∃ mx my mz Mx My Mz : Nat, r = .ag [dfl mx, dfl my, dfl mz, dfl Mx, dfl My, dfl Mz] ∧ ((FloatKind.f64.format.order ax cx).isSome = true → mx = bmin ax cx ∧ Mx = bmax ax cx) ∧ ((FloatKind.f64.format.order ay cy).isSome = true → my = bmin ay cy ∧ My = bmax ay cy) ∧ ((FloatKind.f64.format.order az cz).isSome = true → mz = bmin az cz ∧ Mz = bmax az cz)) := by
  refine FnD.of (by kernel_rfl) Try.func23 rfl Try.ntmps23 rfl (leb rfl) fun W ok => ?_
  refine AC.seq ?_
  refine AC.region ?_
  refine AO.op rfl (AOp.box rfl rfl (ltb rfl) rfl rfl ?_)
  refine AO.op rfl (AOp.box rfl rfl (ltb rfl) rfl rfl ?_)
  refine AO.op rfl (AOp.alloc rfl rfl (ltb rfl) zero53 rfl ?_)
  refine AO.nil ?_
  change AC _ _ _ _
  refine AC.seq ?_
  refine AC.region ?_
  first | refine AO.op rfl (AOp.fieldAddr rfl rfl (ltb rfl) rfl fo29_0 ?_) | refine AO.op rfl (AOp.fieldAddrPt rfl rfl (ltb rfl) rfl fo29_0 ?_) | refine AO.op rfl (AOp.fieldAddrEp rfl rfl (ltb rfl) rfl fo29_0 ?_)
  first | refine AO.op rfl (AOp.load1 rfl rfl (ltb rfl) rfl agg22 rfl rfl ?_) | refine AO.op rfl (AOp.loadEp rfl rfl (ltb rfl) rfl agg22 rfl ?_)
  first | refine AO.op rfl (AOp.fieldAddr rfl rfl (ltb rfl) rfl fo29_0 ?_) | refine AO.op rfl (AOp.fieldAddrPt rfl rfl (ltb rfl) rfl fo29_0 ?_) | refine AO.op rfl (AOp.fieldAddrEp rfl rfl (ltb rfl) rfl fo29_0 ?_)
  first | refine AO.op rfl (AOp.load1 rfl rfl (ltb rfl) rfl agg22 rfl rfl ?_) | refine AO.op rfl (AOp.loadEp rfl rfl (ltb rfl) rfl agg22 rfl ?_)
  refine AO.op rfl (AOp.fminA rfl rfl (ltb rfl) rfl rfl ?_)
  rintro m1_4 hm1_4
  first | refine AO.op rfl (AOp.fieldAddr rfl rfl (ltb rfl) rfl fo29_1 ?_) | refine AO.op rfl (AOp.fieldAddrPt rfl rfl (ltb rfl) rfl fo29_1 ?_) | refine AO.op rfl (AOp.fieldAddrEp rfl rfl (ltb rfl) rfl fo29_1 ?_)
  first | refine AO.op rfl (AOp.load1 rfl rfl (ltb rfl) rfl agg22 rfl rfl ?_) | refine AO.op rfl (AOp.loadEp rfl rfl (ltb rfl) rfl agg22 rfl ?_)
  first | refine AO.op rfl (AOp.fieldAddr rfl rfl (ltb rfl) rfl fo29_1 ?_) | refine AO.op rfl (AOp.fieldAddrPt rfl rfl (ltb rfl) rfl fo29_1 ?_) | refine AO.op rfl (AOp.fieldAddrEp rfl rfl (ltb rfl) rfl fo29_1 ?_)
  first | refine AO.op rfl (AOp.load1 rfl rfl (ltb rfl) rfl agg22 rfl rfl ?_) | refine AO.op rfl (AOp.loadEp rfl rfl (ltb rfl) rfl agg22 rfl ?_)
  refine AO.op rfl (AOp.fminA rfl rfl (ltb rfl) rfl rfl ?_)
  rintro m1_9 hm1_9
  first | refine AO.op rfl (AOp.fieldAddr rfl rfl (ltb rfl) rfl fo29_2 ?_) | refine AO.op rfl (AOp.fieldAddrPt rfl rfl (ltb rfl) rfl fo29_2 ?_) | refine AO.op rfl (AOp.fieldAddrEp rfl rfl (ltb rfl) rfl fo29_2 ?_)
  first | refine AO.op rfl (AOp.load1 rfl rfl (ltb rfl) rfl agg22 rfl rfl ?_) | refine AO.op rfl (AOp.loadEp rfl rfl (ltb rfl) rfl agg22 rfl ?_)
  first | refine AO.op rfl (AOp.fieldAddr rfl rfl (ltb rfl) rfl fo29_2 ?_) | refine AO.op rfl (AOp.fieldAddrPt rfl rfl (ltb rfl) rfl fo29_2 ?_) | refine AO.op rfl (AOp.fieldAddrEp rfl rfl (ltb rfl) rfl fo29_2 ?_)
  first | refine AO.op rfl (AOp.load1 rfl rfl (ltb rfl) rfl agg22 rfl rfl ?_) | refine AO.op rfl (AOp.loadEp rfl rfl (ltb rfl) rfl agg22 rfl ?_)
  refine AO.op rfl (AOp.fminA rfl rfl (ltb rfl) rfl rfl ?_)
  rintro m1_14 hm1_14
  refine AO.op rfl (AOp.build rfl rfl (ltb rfl) zero29 rfl places29 rfl rfl ?_)
  first | refine AO.op rfl (AOp.fieldAddr rfl rfl (ltb rfl) rfl fo29_0 ?_) | refine AO.op rfl (AOp.fieldAddrPt rfl rfl (ltb rfl) rfl fo29_0 ?_) | refine AO.op rfl (AOp.fieldAddrEp rfl rfl (ltb rfl) rfl fo29_0 ?_)
  first | refine AO.op rfl (AOp.load1 rfl rfl (ltb rfl) rfl agg22 rfl rfl ?_) | refine AO.op rfl (AOp.loadEp rfl rfl (ltb rfl) rfl agg22 rfl ?_)
  first | refine AO.op rfl (AOp.fieldAddr rfl rfl (ltb rfl) rfl fo29_0 ?_) | refine AO.op rfl (AOp.fieldAddrPt rfl rfl (ltb rfl) rfl fo29_0 ?_) | refine AO.op rfl (AOp.fieldAddrEp rfl rfl (ltb rfl) rfl fo29_0 ?_)
  first | refine AO.op rfl (AOp.load1 rfl rfl (ltb rfl) rfl agg22 rfl rfl ?_) | refine AO.op rfl (AOp.loadEp rfl rfl (ltb rfl) rfl agg22 rfl ?_)
  refine AO.op rfl (AOp.fmaxA rfl rfl (ltb rfl) rfl rfl ?_)
  rintro m1_20 hm1_20
  first | refine AO.op rfl (AOp.fieldAddr rfl rfl (ltb rfl) rfl fo29_1 ?_) | refine AO.op rfl (AOp.fieldAddrPt rfl rfl (ltb rfl) rfl fo29_1 ?_) | refine AO.op rfl (AOp.fieldAddrEp rfl rfl (ltb rfl) rfl fo29_1 ?_)
  first | refine AO.op rfl (AOp.load1 rfl rfl (ltb rfl) rfl agg22 rfl rfl ?_) | refine AO.op rfl (AOp.loadEp rfl rfl (ltb rfl) rfl agg22 rfl ?_)
  first | refine AO.op rfl (AOp.fieldAddr rfl rfl (ltb rfl) rfl fo29_1 ?_) | refine AO.op rfl (AOp.fieldAddrPt rfl rfl (ltb rfl) rfl fo29_1 ?_) | refine AO.op rfl (AOp.fieldAddrEp rfl rfl (ltb rfl) rfl fo29_1 ?_)
  first | refine AO.op rfl (AOp.load1 rfl rfl (ltb rfl) rfl agg22 rfl rfl ?_) | refine AO.op rfl (AOp.loadEp rfl rfl (ltb rfl) rfl agg22 rfl ?_)
  refine AO.op rfl (AOp.fmaxA rfl rfl (ltb rfl) rfl rfl ?_)
  rintro m1_25 hm1_25
  first | refine AO.op rfl (AOp.fieldAddr rfl rfl (ltb rfl) rfl fo29_2 ?_) | refine AO.op rfl (AOp.fieldAddrPt rfl rfl (ltb rfl) rfl fo29_2 ?_) | refine AO.op rfl (AOp.fieldAddrEp rfl rfl (ltb rfl) rfl fo29_2 ?_)
  first | refine AO.op rfl (AOp.load1 rfl rfl (ltb rfl) rfl agg22 rfl rfl ?_) | refine AO.op rfl (AOp.loadEp rfl rfl (ltb rfl) rfl agg22 rfl ?_)
  first | refine AO.op rfl (AOp.fieldAddr rfl rfl (ltb rfl) rfl fo29_2 ?_) | refine AO.op rfl (AOp.fieldAddrPt rfl rfl (ltb rfl) rfl fo29_2 ?_) | refine AO.op rfl (AOp.fieldAddrEp rfl rfl (ltb rfl) rfl fo29_2 ?_)
  first | refine AO.op rfl (AOp.load1 rfl rfl (ltb rfl) rfl agg22 rfl rfl ?_) | refine AO.op rfl (AOp.loadEp rfl rfl (ltb rfl) rfl agg22 rfl ?_)
  refine AO.op rfl (AOp.fmaxA rfl rfl (ltb rfl) rfl rfl ?_)
  rintro m1_30 hm1_30
  refine AO.op rfl (AOp.build rfl rfl (ltb rfl) zero29 rfl places29 rfl rfl ?_)
  refine AO.op rfl (AOp.build rfl rfl (ltb rfl) zero53 rfl places53 rfl rfl ?_)
  refine AO.op rfl (AOp.store rfl rfl rfl rfl size53 rfl rfl rfl (leb rfl) ?_)
  refine AO.nil ?_
  change AC _ _ _ _
  refine AC.ret ?_
  change RetQ _ _ _ .ret _
  refine retq rfl ?_
  refine ⟨_, _, _, _, _, _, rfl, fun q => ⟨hm1_4 q, hm1_20 q⟩, fun q => ⟨hm1_9 q, hm1_25 q⟩, fun q => ⟨hm1_14 q, hm1_30 q⟩⟩

set_option maxRecDepth 100000 in
/-- pub-orthodrome/laws.FnBoxScaled3 -/
theorem lawBoxScaled3 (ax ay az cx cy cz fx fy fz : Nat) : FnD Try.prog 7 [.ag [dfl ax, dfl ay, dfl az], .ag [dfl cx, dfl cy, dfl cz], .ag [dfl fx, dfl fy, dfl fz]] (fun r => r = dbool true) := by
  refine FnD.of (by kernel_rfl) Try.func7 rfl Try.ntmps7 rfl (leb rfl) fun W ok => ?_
  refine AC.seq ?_
  refine AC.region ?_
  refine AO.op rfl (AOp.box rfl rfl (ltb rfl) rfl rfl ?_)
  refine AO.op rfl (AOp.box rfl rfl (ltb rfl) rfl rfl ?_)
  refine AO.op rfl (AOp.box rfl rfl (ltb rfl) rfl rfl ?_)
  refine AO.op rfl (AOp.assign rfl rfl (ltb rfl) rfl ?_)
  refine AO.nil ?_
  change AC _ _ _ _
  refine AC.seq ?_
  refine AC.region ?_
  first | refine AO.op rfl (AOp.loadN rfl rfl (ltb rfl) rfl agg29 size29 rfl (leb rfl) rfl ?_) | refine AO.op rfl (AOp.loadEpN rfl rfl (ltb rfl) rfl agg29 size29 (leb rfl) rfl ?_)
  first | refine AO.op rfl (AOp.loadN rfl rfl (ltb rfl) rfl agg29 size29 rfl (leb rfl) rfl ?_) | refine AO.op rfl (AOp.loadEpN rfl rfl (ltb rfl) rfl agg29 size29 (leb rfl) rfl ?_)
  refine AO.op rfl (AOp.callD rfl rfl (ltb rfl) rfl (canonA3 _ _ _ _ _ _) ?_)
  rintro _ ⟨mx, my, mz, Mx, My, Mz, rfl, Hx, Hy, Hz⟩
  refine AO.op rfl (AOp.alloc rfl rfl (ltb rfl) zero53 rfl ?_)
  refine AO.op rfl (AOp.store rfl rfl rfl rfl size53 rfl rfl rfl (leb rfl) ?_)
  refine AO.nil ?_
  change AC _ _ _ _
  refine AC.seq ?_
  refine AC.seq ?_
  refine AC.draw 17 mixed (by kernel_rfl) ?_
  first | refine AD.op [3] rfl (by kernel_rfl) rfl rfl (fun _ _ h => AOp.loadN rfl rfl (ltb rfl) rfl agg29 size29 rfl (leb rfl) rfl h) ?_ | refine AD.op [3] rfl (by kernel_rfl) rfl rfl (fun _ _ h => AOp.loadEpN rfl rfl (ltb rfl) rfl agg29 size29 (leb rfl) rfl h) ?_
  first | refine AD.op [4] rfl (by kernel_rfl) rfl rfl (fun _ _ h => AOp.loadN rfl rfl (ltb rfl) rfl agg29 size29 rfl (leb rfl) rfl h) ?_ | refine AD.op [4] rfl (by kernel_rfl) rfl rfl (fun _ _ h => AOp.loadEpN rfl rfl (ltb rfl) rfl agg29 size29 (leb rfl) rfl h) ?_
  first | refine AD.op [5] rfl (by kernel_rfl) rfl rfl (fun _ _ h => AOp.loadN rfl rfl (ltb rfl) rfl agg29 size29 rfl (leb rfl) rfl h) ?_ | refine AD.op [5] rfl (by kernel_rfl) rfl rfl (fun _ _ h => AOp.loadEpN rfl rfl (ltb rfl) rfl agg29 size29 (leb rfl) rfl h) ?_
  refine AD.op [12, 13, 14] rfl (by kernel_rfl) rfl rfl (fun _ _ h => AOp.buildSliceD rfl rfl (ltb rfl) el71 zero29 rfl (leb rfl) rfl rfl rfl rfl h) ?_
  refine AD.op [15] rfl (by kernel_rfl) rfl rfl (fun _ _ h => AOp.callV rfl rfl (ltb rfl) rfl rfl (whole3 [(ax, ay, az), (cx, cy, cz), (fx, fy, fz)] (by simp)) (by rintro _ rfl; rfl) (by rintro _ rfl; exact h)) ?_
  refine AD.op [16] rfl (by kernel_rfl) rfl rfl (fun _ _ h => AOp.bnot rfl rfl (ltb rfl) rfl h) ?_
  refine AD.op [17] rfl (by kernel_rfl) rfl rfl (fun _ _ h => AOp.move rfl rfl (ltb rfl) rfl h) ?_
  refine AD.split 18 false rfl (fun h1 => ?_) (fun h1 => ?_)
  · first | refine AD.opY [3, 18] rfl rfl rfl h1 (by kernel_rfl) rfl rfl (fun _ _ h => AOp.loadN rfl rfl (ltb rfl) rfl agg29 size29 rfl (leb rfl) rfl h) ?_ | refine AD.opY [3, 18] rfl rfl rfl h1 (by kernel_rfl) rfl rfl (fun _ _ h => AOp.loadEpN rfl rfl (ltb rfl) rfl agg29 size29 (leb rfl) rfl h) ?_
    refine AD.opY [18, 19] rfl rfl rfl h1 (by kernel_rfl) rfl rfl (fun _ _ h => AOp.callD rfl rfl (ltb rfl) rfl (off3 _ _ _) (by rintro _ rfl; exact h)) ?_
    first | refine AD.opY [4, 18] rfl rfl rfl h1 (by kernel_rfl) rfl rfl (fun _ _ h => AOp.loadN rfl rfl (ltb rfl) rfl agg29 size29 rfl (leb rfl) rfl h) ?_ | refine AD.opY [4, 18] rfl rfl rfl h1 (by kernel_rfl) rfl rfl (fun _ _ h => AOp.loadEpN rfl rfl (ltb rfl) rfl agg29 size29 (leb rfl) rfl h) ?_
    refine AD.opY [18, 21] rfl rfl rfl h1 (by kernel_rfl) rfl rfl (fun _ _ h => AOp.callD rfl rfl (ltb rfl) rfl (off3 _ _ _) (by rintro _ rfl; exact h)) ?_
    first | refine AD.opY [5, 18] rfl rfl rfl h1 (by kernel_rfl) rfl rfl (fun _ _ h => AOp.loadN rfl rfl (ltb rfl) rfl agg29 size29 rfl (leb rfl) rfl h) ?_ | refine AD.opY [5, 18] rfl rfl rfl h1 (by kernel_rfl) rfl rfl (fun _ _ h => AOp.loadEpN rfl rfl (ltb rfl) rfl agg29 size29 (leb rfl) rfl h) ?_
    refine AD.opY [18, 23] rfl rfl rfl h1 (by kernel_rfl) rfl rfl (fun _ _ h => AOp.callD rfl rfl (ltb rfl) rfl (off3 _ _ _) (by rintro _ rfl; exact h)) ?_
    refine AD.opY [18, 20, 22, 24] rfl rfl rfl h1 (by kernel_rfl) rfl rfl (fun _ _ h => AOp.buildSliceD rfl rfl (ltb rfl) el58 zero56 rfl (leb rfl) rfl rfl rfl rfl h) ?_
    refine AD.opY [18, 25] rfl rfl rfl h1 (by kernel_rfl) rfl rfl (fun _ _ h => AOp.callV rfl rfl (ltb rfl) rfl rfl (grid [[ax, ay, az], [cx, cy, cz], [fx, fy, fz]] 3 Flt.K10 (by simp) (by simp)) (by rintro _ rfl; rfl) (by rintro _ rfl; exact h)) ?_
    refine AD.opY [18, 26] rfl rfl rfl h1 (by kernel_rfl) rfl rfl (fun _ _ h => AOp.bnot rfl rfl (ltb rfl) rfl h) ?_
    refine AD.op [18, 27] rfl (by kernel_rfl) rfl rfl (fun _ _ h => AOp.pickN rfl rfl (ltb rfl) rfl h1 rfl h) ?_
    refine AD.done ?_
    refine AO.nil ?_
    change AC _ _ _ _
    refine AC.cond rfl (fun h2 => ?_) (fun h2 => ?_)
    · refine AC.seq ?_
      refine AC.region ?_
      refine AO.op rfl (AOp.assign rfl rfl (ltb rfl) rfl ?_)
      refine AO.nil ?_
      change AC _ _ _ _
      refine AC.ret ?_
      change RetQ _ _ _ .ret _
      refine retq rfl ?_
      first | rfl | (simp_all; done)
    · refine AC.skip ?_
      change AC _ _ _ _
      refine AC.seq ?_
      refine AC.region ?_
      have hw : gridB [[ax, ay, az], [cx, cy, cz], [fx, fy, fz]] 3 Flt.K10 = true := by simpa using h2
      obtain ⟨oax, oay, oaz, ocx, ocy, ocz, ofx, ofy, ofz⟩ : Flt.okF Flt.K10 ax = true ∧ Flt.okF Flt.K10 ay = true ∧ Flt.okF Flt.K10 az = true ∧ Flt.okF Flt.K10 cx = true ∧ Flt.okF Flt.K10 cy = true ∧ Flt.okF Flt.K10 cz = true ∧ Flt.okF Flt.K10 fx = true ∧ Flt.okF Flt.K10 fy = true ∧ Flt.okF Flt.K10 fz = true := by simpa [gridB, rowB, and_assoc] using hw
      obtain ⟨nax, iax, lax, uax⟩ := Flt.okF_K10 oax
      obtain ⟨nay, iay, lay, uay⟩ := Flt.okF_K10 oay
      obtain ⟨naz, iaz, laz, uaz⟩ := Flt.okF_K10 oaz
      obtain ⟨ncx, icx, lcx, ucx⟩ := Flt.okF_K10 ocx
      obtain ⟨ncy, icy, lcy, ucy⟩ := Flt.okF_K10 ocy
      obtain ⟨ncz, icz, lcz, ucz⟩ := Flt.okF_K10 ocz
      obtain ⟨nfx, ifx, lfx, ufx⟩ := Flt.okF_K10 ofx
      obtain ⟨nfy, ify, lfy, ufy⟩ := Flt.okF_K10 ofy
      obtain ⟨nfz, ifz, lfz, ufz⟩ := Flt.okF_K10 ofz
      obtain ⟨Hmx, HMx⟩ := Hx (Flt.ord_some iax icx)
      have jmx : Flt.I mx (Flt.imin nax ncx) := by rw [Hmx]; exact (Flt.bmin_dy iax.J icx.J).I
      have jMx : Flt.I Mx (Flt.imax nax ncx) := by rw [HMx]; exact (Flt.bmax_dy iax.J icx.J).I
      have lmx : Flt.imin nax ncx ≤ Flt.imax nax ncx ∧ -1024 ≤ Flt.imin nax ncx ∧ Flt.imax nax ncx ≤ 1024 := by unfold Flt.imin Flt.imax; split <;> omega
      obtain ⟨c0x, ccx, s0x, sx, hx, lox, hix, d1x, d2x, e1x, e2x, e3x, Kx, q1x, q2x, q3x, q4x, q5x, q6x, q7x, q8x⟩ := Flt.chain3 jmx jMx ifx lmx.1 lmx.2.1 lmx.2.2 ufx
      obtain ⟨Hmy, HMy⟩ := Hy (Flt.ord_some iay icy)
      have jmy : Flt.I my (Flt.imin nay ncy) := by rw [Hmy]; exact (Flt.bmin_dy iay.J icy.J).I
      have jMy : Flt.I My (Flt.imax nay ncy) := by rw [HMy]; exact (Flt.bmax_dy iay.J icy.J).I
      have lmy : Flt.imin nay ncy ≤ Flt.imax nay ncy ∧ -1024 ≤ Flt.imin nay ncy ∧ Flt.imax nay ncy ≤ 1024 := by unfold Flt.imin Flt.imax; split <;> omega
      obtain ⟨c0y, ccy, s0y, sy, hy, loy, hiy, d1y, d2y, e1y, e2y, e3y, Ky, q1y, q2y, q3y, q4y, q5y, q6y, q7y, q8y⟩ := Flt.chain3 jmy jMy ify lmy.1 lmy.2.1 lmy.2.2 ufy
      obtain ⟨Hmz, HMz⟩ := Hz (Flt.ord_some iaz icz)
      have jmz : Flt.I mz (Flt.imin naz ncz) := by rw [Hmz]; exact (Flt.bmin_dy iaz.J icz.J).I
      have jMz : Flt.I Mz (Flt.imax naz ncz) := by rw [HMz]; exact (Flt.bmax_dy iaz.J icz.J).I
      have lmz : Flt.imin naz ncz ≤ Flt.imax naz ncz ∧ -1024 ≤ Flt.imin naz ncz ∧ Flt.imax naz ncz ≤ 1024 := by unfold Flt.imin Flt.imax; split <;> omega
      obtain ⟨c0z, ccz, s0z, sz, hz, loz, hiz, d1z, d2z, e1z, e2z, e3z, Kz, q1z, q2z, q3z, q4z, q5z, q6z, q7z, q8z⟩ := Flt.chain3 jmz jMz ifz lmz.1 lmz.2.1 lmz.2.2 ufz
      first | refine AO.op rfl (AOp.loadN rfl rfl (ltb rfl) rfl agg53 size53 rfl (leb rfl) rfl ?_) | refine AO.op rfl (AOp.loadEpN rfl rfl (ltb rfl) rfl agg53 size53 (leb rfl) rfl ?_)
      first | refine AO.op rfl (AOp.loadN rfl rfl (ltb rfl) rfl agg29 size29 rfl (leb rfl) rfl ?_) | refine AO.op rfl (AOp.loadEpN rfl rfl (ltb rfl) rfl agg29 size29 (leb rfl) rfl ?_)
      refine AO.op rfl (AOp.callD rfl rfl (ltb rfl) rfl (implScaleBox3 _ _ _ _ _ _ _ _ _ _ _ _ _ _ _ _ _ _ _ _ _ _ _ _ _ _ _ _ _ _ Kx Ky Kz) ?_)
      rintro _ rfl
      refine AO.op rfl (AOp.alloc rfl rfl (ltb rfl) zero53 rfl ?_)
      refine AO.op rfl (AOp.store rfl rfl rfl rfl size53 rfl rfl rfl (leb rfl) ?_)
      refine AO.nil ?_
      change AC _ _ _ _
      refine AC.seq ?_
      refine AC.region ?_
      first | refine AO.op rfl (AOp.fieldAddr rfl rfl (ltb rfl) rfl fo53_1 ?_) | refine AO.op rfl (AOp.fieldAddrPt rfl rfl (ltb rfl) rfl fo53_1 ?_) | refine AO.op rfl (AOp.fieldAddrEp rfl rfl (ltb rfl) rfl fo53_1 ?_)
      first | refine AO.op rfl (AOp.fieldAddr rfl rfl (ltb rfl) rfl fo29_0 ?_) | refine AO.op rfl (AOp.fieldAddrPt rfl rfl (ltb rfl) rfl fo29_0 ?_) | refine AO.op rfl (AOp.fieldAddrEp rfl rfl (ltb rfl) rfl fo29_0 ?_)
      first | refine AO.op rfl (AOp.load1 rfl rfl (ltb rfl) rfl agg22 rfl rfl ?_) | refine AO.op rfl (AOp.loadEp rfl rfl (ltb rfl) rfl agg22 rfl ?_)
      first | refine AO.op rfl (AOp.fieldAddr rfl rfl (ltb rfl) rfl fo53_0 ?_) | refine AO.op rfl (AOp.fieldAddrPt rfl rfl (ltb rfl) rfl fo53_0 ?_) | refine AO.op rfl (AOp.fieldAddrEp rfl rfl (ltb rfl) rfl fo53_0 ?_)
      first | refine AO.op rfl (AOp.fieldAddr rfl rfl (ltb rfl) rfl fo29_0 ?_) | refine AO.op rfl (AOp.fieldAddrPt rfl rfl (ltb rfl) rfl fo29_0 ?_) | refine AO.op rfl (AOp.fieldAddrEp rfl rfl (ltb rfl) rfl fo29_0 ?_)
      first | refine AO.op rfl (AOp.load1 rfl rfl (ltb rfl) rfl agg22 rfl rfl ?_) | refine AO.op rfl (AOp.loadEp rfl rfl (ltb rfl) rfl agg22 rfl ?_)
      refine AO.op rfl (AOp.farith rfl rfl (ltb rfl) rfl rfl (by assumption) ?_)
      first | refine AO.op rfl (AOp.fieldAddr rfl rfl (ltb rfl) rfl fo29_0 ?_) | refine AO.op rfl (AOp.fieldAddrPt rfl rfl (ltb rfl) rfl fo29_0 ?_) | refine AO.op rfl (AOp.fieldAddrEp rfl rfl (ltb rfl) rfl fo29_0 ?_)
      first | refine AO.op rfl (AOp.load1 rfl rfl (ltb rfl) rfl agg22 rfl rfl ?_) | refine AO.op rfl (AOp.loadEp rfl rfl (ltb rfl) rfl agg22 rfl ?_)
      refine AO.op rfl (AOp.fmax rfl rfl (ltb rfl) rfl rfl (by assumption) ?_)
      first | refine AO.op rfl (AOp.fieldAddr rfl rfl (ltb rfl) rfl fo53_1 ?_) | refine AO.op rfl (AOp.fieldAddrPt rfl rfl (ltb rfl) rfl fo53_1 ?_) | refine AO.op rfl (AOp.fieldAddrEp rfl rfl (ltb rfl) rfl fo53_1 ?_)
      first | refine AO.op rfl (AOp.fieldAddr rfl rfl (ltb rfl) rfl fo29_0 ?_) | refine AO.op rfl (AOp.fieldAddrPt rfl rfl (ltb rfl) rfl fo29_0 ?_) | refine AO.op rfl (AOp.fieldAddrEp rfl rfl (ltb rfl) rfl fo29_0 ?_)
      first | refine AO.op rfl (AOp.load1 rfl rfl (ltb rfl) rfl agg22 rfl rfl ?_) | refine AO.op rfl (AOp.loadEp rfl rfl (ltb rfl) rfl agg22 rfl ?_)
      first | refine AO.op rfl (AOp.fieldAddr rfl rfl (ltb rfl) rfl fo53_0 ?_) | refine AO.op rfl (AOp.fieldAddrPt rfl rfl (ltb rfl) rfl fo53_0 ?_) | refine AO.op rfl (AOp.fieldAddrEp rfl rfl (ltb rfl) rfl fo53_0 ?_)
      first | refine AO.op rfl (AOp.fieldAddr rfl rfl (ltb rfl) rfl fo29_0 ?_) | refine AO.op rfl (AOp.fieldAddrPt rfl rfl (ltb rfl) rfl fo29_0 ?_) | refine AO.op rfl (AOp.fieldAddrEp rfl rfl (ltb rfl) rfl fo29_0 ?_)
      first | refine AO.op rfl (AOp.load1 rfl rfl (ltb rfl) rfl agg22 rfl rfl ?_) | refine AO.op rfl (AOp.loadEp rfl rfl (ltb rfl) rfl agg22 rfl ?_)
      refine AO.op rfl (AOp.farith rfl rfl (ltb rfl) rfl rfl (by assumption) ?_)
      refine AO.op rfl (AOp.farith rfl rfl (ltb rfl) rfl rfl (by assumption) ?_)
      refine AO.op rfl (AOp.feql rfl rfl (ltb rfl) rfl rfl ?_)
      refine AO.op rfl (AOp.move rfl rfl (ltb rfl) rfl ?_)
      refine AO.guard rfl rfl rfl (ltb rfl) rfl (fun h3 => ?_) (fun h3 => ?_)
      · first | refine AOp.fieldAddr rfl rfl (ltb rfl) rfl fo53_1 ?_ | refine AOp.fieldAddrPt rfl rfl (ltb rfl) rfl fo53_1 ?_ | refine AOp.fieldAddrEp rfl rfl (ltb rfl) rfl fo53_1 ?_
        first | refine AO.guardY rfl rfl rfl h3 (AOp.fieldAddr rfl rfl (ltb rfl) rfl fo29_0 ?_) | refine AO.guardY rfl rfl rfl h3 (AOp.fieldAddrPt rfl rfl (ltb rfl) rfl fo29_0 ?_) | refine AO.guardY rfl rfl rfl h3 (AOp.fieldAddrEp rfl rfl (ltb rfl) rfl fo29_0 ?_)
        first | refine AO.guardY rfl rfl rfl h3 (AOp.load1 rfl rfl (ltb rfl) rfl agg22 rfl rfl ?_) | refine AO.guardY rfl rfl rfl h3 (AOp.loadEp rfl rfl (ltb rfl) rfl agg22 rfl ?_)
        first | refine AO.guardY rfl rfl rfl h3 (AOp.fieldAddr rfl rfl (ltb rfl) rfl fo53_0 ?_) | refine AO.guardY rfl rfl rfl h3 (AOp.fieldAddrPt rfl rfl (ltb rfl) rfl fo53_0 ?_) | refine AO.guardY rfl rfl rfl h3 (AOp.fieldAddrEp rfl rfl (ltb rfl) rfl fo53_0 ?_)
        first | refine AO.guardY rfl rfl rfl h3 (AOp.fieldAddr rfl rfl (ltb rfl) rfl fo29_0 ?_) | refine AO.guardY rfl rfl rfl h3 (AOp.fieldAddrPt rfl rfl (ltb rfl) rfl fo29_0 ?_) | refine AO.guardY rfl rfl rfl h3 (AOp.fieldAddrEp rfl rfl (ltb rfl) rfl fo29_0 ?_)
        first | refine AO.guardY rfl rfl rfl h3 (AOp.load1 rfl rfl (ltb rfl) rfl agg22 rfl rfl ?_) | refine AO.guardY rfl rfl rfl h3 (AOp.loadEp rfl rfl (ltb rfl) rfl agg22 rfl ?_)
        refine AO.guardY rfl rfl rfl h3 (AOp.farith rfl rfl (ltb rfl) rfl rfl (by assumption) ?_)
        first | refine AO.guardY rfl rfl rfl h3 (AOp.fieldAddr rfl rfl (ltb rfl) rfl fo53_1 ?_) | refine AO.guardY rfl rfl rfl h3 (AOp.fieldAddrPt rfl rfl (ltb rfl) rfl fo53_1 ?_) | refine AO.guardY rfl rfl rfl h3 (AOp.fieldAddrEp rfl rfl (ltb rfl) rfl fo53_1 ?_)
        first | refine AO.guardY rfl rfl rfl h3 (AOp.fieldAddr rfl rfl (ltb rfl) rfl fo29_0 ?_) | refine AO.guardY rfl rfl rfl h3 (AOp.fieldAddrPt rfl rfl (ltb rfl) rfl fo29_0 ?_) | refine AO.guardY rfl rfl rfl h3 (AOp.fieldAddrEp rfl rfl (ltb rfl) rfl fo29_0 ?_)
        first | refine AO.guardY rfl rfl rfl h3 (AOp.load1 rfl rfl (ltb rfl) rfl agg22 rfl rfl ?_) | refine AO.guardY rfl rfl rfl h3 (AOp.loadEp rfl rfl (ltb rfl) rfl agg22 rfl ?_)
        first | refine AO.guardY rfl rfl rfl h3 (AOp.fieldAddr rfl rfl (ltb rfl) rfl fo53_0 ?_) | refine AO.guardY rfl rfl rfl h3 (AOp.fieldAddrPt rfl rfl (ltb rfl) rfl fo53_0 ?_) | refine AO.guardY rfl rfl rfl h3 (AOp.fieldAddrEp rfl rfl (ltb rfl) rfl fo53_0 ?_)
        first | refine AO.guardY rfl rfl rfl h3 (AOp.fieldAddr rfl rfl (ltb rfl) rfl fo29_0 ?_) | refine AO.guardY rfl rfl rfl h3 (AOp.fieldAddrPt rfl rfl (ltb rfl) rfl fo29_0 ?_) | refine AO.guardY rfl rfl rfl h3 (AOp.fieldAddrEp rfl rfl (ltb rfl) rfl fo29_0 ?_)
        first | refine AO.guardY rfl rfl rfl h3 (AOp.load1 rfl rfl (ltb rfl) rfl agg22 rfl rfl ?_) | refine AO.guardY rfl rfl rfl h3 (AOp.loadEp rfl rfl (ltb rfl) rfl agg22 rfl ?_)
        refine AO.guardY rfl rfl rfl h3 (AOp.farith rfl rfl (ltb rfl) rfl rfl (by assumption) ?_)
        refine AO.guardY rfl rfl rfl h3 (AOp.feql rfl rfl (ltb rfl) rfl rfl ?_)
        refine AO.op rfl (AOp.pick rfl rfl (ltb rfl) rfl h3 rfl ?_)
        refine AO.op rfl (AOp.move rfl rfl (ltb rfl) rfl ?_)
        refine AO.guard rfl rfl rfl (ltb rfl) rfl (fun h4 => ?_) (fun h4 => ?_)
        · first | refine AOp.fieldAddr rfl rfl (ltb rfl) rfl fo53_1 ?_ | refine AOp.fieldAddrPt rfl rfl (ltb rfl) rfl fo53_1 ?_ | refine AOp.fieldAddrEp rfl rfl (ltb rfl) rfl fo53_1 ?_
          first | refine AO.guardY rfl rfl rfl h4 (AOp.fieldAddr rfl rfl (ltb rfl) rfl fo29_1 ?_) | refine AO.guardY rfl rfl rfl h4 (AOp.fieldAddrPt rfl rfl (ltb rfl) rfl fo29_1 ?_) | refine AO.guardY rfl rfl rfl h4 (AOp.fieldAddrEp rfl rfl (ltb rfl) rfl fo29_1 ?_)
          first | refine AO.guardY rfl rfl rfl h4 (AOp.load1 rfl rfl (ltb rfl) rfl agg22 rfl rfl ?_) | refine AO.guardY rfl rfl rfl h4 (AOp.loadEp rfl rfl (ltb rfl) rfl agg22 rfl ?_)
          first | refine AO.guardY rfl rfl rfl h4 (AOp.fieldAddr rfl rfl (ltb rfl) rfl fo53_0 ?_) | refine AO.guardY rfl rfl rfl h4 (AOp.fieldAddrPt rfl rfl (ltb rfl) rfl fo53_0 ?_) | refine AO.guardY rfl rfl rfl h4 (AOp.fieldAddrEp rfl rfl (ltb rfl) rfl fo53_0 ?_)
          first | refine AO.guardY rfl rfl rfl h4 (AOp.fieldAddr rfl rfl (ltb rfl) rfl fo29_1 ?_) | refine AO.guardY rfl rfl rfl h4 (AOp.fieldAddrPt rfl rfl (ltb rfl) rfl fo29_1 ?_) | refine AO.guardY rfl rfl rfl h4 (AOp.fieldAddrEp rfl rfl (ltb rfl) rfl fo29_1 ?_)
          first | refine AO.guardY rfl rfl rfl h4 (AOp.load1 rfl rfl (ltb rfl) rfl agg22 rfl rfl ?_) | refine AO.guardY rfl rfl rfl h4 (AOp.loadEp rfl rfl (ltb rfl) rfl agg22 rfl ?_)
          refine AO.guardY rfl rfl rfl h4 (AOp.farith rfl rfl (ltb rfl) rfl rfl (by assumption) ?_)
          first | refine AO.guardY rfl rfl rfl h4 (AOp.fieldAddr rfl rfl (ltb rfl) rfl fo29_1 ?_) | refine AO.guardY rfl rfl rfl h4 (AOp.fieldAddrPt rfl rfl (ltb rfl) rfl fo29_1 ?_) | refine AO.guardY rfl rfl rfl h4 (AOp.fieldAddrEp rfl rfl (ltb rfl) rfl fo29_1 ?_)
          first | refine AO.guardY rfl rfl rfl h4 (AOp.load1 rfl rfl (ltb rfl) rfl agg22 rfl rfl ?_) | refine AO.guardY rfl rfl rfl h4 (AOp.loadEp rfl rfl (ltb rfl) rfl agg22 rfl ?_)
          refine AO.guardY rfl rfl rfl h4 (AOp.fmax rfl rfl (ltb rfl) rfl rfl (by assumption) ?_)
          first | refine AO.guardY rfl rfl rfl h4 (AOp.fieldAddr rfl rfl (ltb rfl) rfl fo53_1 ?_) | refine AO.guardY rfl rfl rfl h4 (AOp.fieldAddrPt rfl rfl (ltb rfl) rfl fo53_1 ?_) | refine AO.guardY rfl rfl rfl h4 (AOp.fieldAddrEp rfl rfl (ltb rfl) rfl fo53_1 ?_)
          first | refine AO.guardY rfl rfl rfl h4 (AOp.fieldAddr rfl rfl (ltb rfl) rfl fo29_1 ?_) | refine AO.guardY rfl rfl rfl h4 (AOp.fieldAddrPt rfl rfl (ltb rfl) rfl fo29_1 ?_) | refine AO.guardY rfl rfl rfl h4 (AOp.fieldAddrEp rfl rfl (ltb rfl) rfl fo29_1 ?_)
          first | refine AO.guardY rfl rfl rfl h4 (AOp.load1 rfl rfl (ltb rfl) rfl agg22 rfl rfl ?_) | refine AO.guardY rfl rfl rfl h4 (AOp.loadEp rfl rfl (ltb rfl) rfl agg22 rfl ?_)
          first | refine AO.guardY rfl rfl rfl h4 (AOp.fieldAddr rfl rfl (ltb rfl) rfl fo53_0 ?_) | refine AO.guardY rfl rfl rfl h4 (AOp.fieldAddrPt rfl rfl (ltb rfl) rfl fo53_0 ?_) | refine AO.guardY rfl rfl rfl h4 (AOp.fieldAddrEp rfl rfl (ltb rfl) rfl fo53_0 ?_)
          first | refine AO.guardY rfl rfl rfl h4 (AOp.fieldAddr rfl rfl (ltb rfl) rfl fo29_1 ?_) | refine AO.guardY rfl rfl rfl h4 (AOp.fieldAddrPt rfl rfl (ltb rfl) rfl fo29_1 ?_) | refine AO.guardY rfl rfl rfl h4 (AOp.fieldAddrEp rfl rfl (ltb rfl) rfl fo29_1 ?_)
          first | refine AO.guardY rfl rfl rfl h4 (AOp.load1 rfl rfl (ltb rfl) rfl agg22 rfl rfl ?_) | refine AO.guardY rfl rfl rfl h4 (AOp.loadEp rfl rfl (ltb rfl) rfl agg22 rfl ?_)
          refine AO.guardY rfl rfl rfl h4 (AOp.farith rfl rfl (ltb rfl) rfl rfl (by assumption) ?_)
          refine AO.guardY rfl rfl rfl h4 (AOp.farith rfl rfl (ltb rfl) rfl rfl (by assumption) ?_)
          refine AO.guardY rfl rfl rfl h4 (AOp.feql rfl rfl (ltb rfl) rfl rfl ?_)
          refine AO.op rfl (AOp.pick rfl rfl (ltb rfl) rfl h4 rfl ?_)
          refine AO.op rfl (AOp.move rfl rfl (ltb rfl) rfl ?_)
          refine AO.guard rfl rfl rfl (ltb rfl) rfl (fun h5 => ?_) (fun h5 => ?_)
          · first | refine AOp.fieldAddr rfl rfl (ltb rfl) rfl fo53_1 ?_ | refine AOp.fieldAddrPt rfl rfl (ltb rfl) rfl fo53_1 ?_ | refine AOp.fieldAddrEp rfl rfl (ltb rfl) rfl fo53_1 ?_
            first | refine AO.guardY rfl rfl rfl h5 (AOp.fieldAddr rfl rfl (ltb rfl) rfl fo29_1 ?_) | refine AO.guardY rfl rfl rfl h5 (AOp.fieldAddrPt rfl rfl (ltb rfl) rfl fo29_1 ?_) | refine AO.guardY rfl rfl rfl h5 (AOp.fieldAddrEp rfl rfl (ltb rfl) rfl fo29_1 ?_)
            first | refine AO.guardY rfl rfl rfl h5 (AOp.load1 rfl rfl (ltb rfl) rfl agg22 rfl rfl ?_) | refine AO.guardY rfl rfl rfl h5 (AOp.loadEp rfl rfl (ltb rfl) rfl agg22 rfl ?_)
            first | refine AO.guardY rfl rfl rfl h5 (AOp.fieldAddr rfl rfl (ltb rfl) rfl fo53_0 ?_) | refine AO.guardY rfl rfl rfl h5 (AOp.fieldAddrPt rfl rfl (ltb rfl) rfl fo53_0 ?_) | refine AO.guardY rfl rfl rfl h5 (AOp.fieldAddrEp rfl rfl (ltb rfl) rfl fo53_0 ?_)
            first | refine AO.guardY rfl rfl rfl h5 (AOp.fieldAddr rfl rfl (ltb rfl) rfl fo29_1 ?_) | refine AO.guardY rfl rfl rfl h5 (AOp.fieldAddrPt rfl rfl (ltb rfl) rfl fo29_1 ?_) | refine AO.guardY rfl rfl rfl h5 (AOp.fieldAddrEp rfl rfl (ltb rfl) rfl fo29_1 ?_)
            first | refine AO.guardY rfl rfl rfl h5 (AOp.load1 rfl rfl (ltb rfl) rfl agg22 rfl rfl ?_) | refine AO.guardY rfl rfl rfl h5 (AOp.loadEp rfl rfl (ltb rfl) rfl agg22 rfl ?_)
            refine AO.guardY rfl rfl rfl h5 (AOp.farith rfl rfl (ltb rfl) rfl rfl (by assumption) ?_)
            first | refine AO.guardY rfl rfl rfl h5 (AOp.fieldAddr rfl rfl (ltb rfl) rfl fo53_1 ?_) | refine AO.guardY rfl rfl rfl h5 (AOp.fieldAddrPt rfl rfl (ltb rfl) rfl fo53_1 ?_) | refine AO.guardY rfl rfl rfl h5 (AOp.fieldAddrEp rfl rfl (ltb rfl) rfl fo53_1 ?_)
            first | refine AO.guardY rfl rfl rfl h5 (AOp.fieldAddr rfl rfl (ltb rfl) rfl fo29_1 ?_) | refine AO.guardY rfl rfl rfl h5 (AOp.fieldAddrPt rfl rfl (ltb rfl) rfl fo29_1 ?_) | refine AO.guardY rfl rfl rfl h5 (AOp.fieldAddrEp rfl rfl (ltb rfl) rfl fo29_1 ?_)
            first | refine AO.guardY rfl rfl rfl h5 (AOp.load1 rfl rfl (ltb rfl) rfl agg22 rfl rfl ?_) | refine AO.guardY rfl rfl rfl h5 (AOp.loadEp rfl rfl (ltb rfl) rfl agg22 rfl ?_)
            first | refine AO.guardY rfl rfl rfl h5 (AOp.fieldAddr rfl rfl (ltb rfl) rfl fo53_0 ?_) | refine AO.guardY rfl rfl rfl h5 (AOp.fieldAddrPt rfl rfl (ltb rfl) rfl fo53_0 ?_) | refine AO.guardY rfl rfl rfl h5 (AOp.fieldAddrEp rfl rfl (ltb rfl) rfl fo53_0 ?_)
            first | refine AO.guardY rfl rfl rfl h5 (AOp.fieldAddr rfl rfl (ltb rfl) rfl fo29_1 ?_) | refine AO.guardY rfl rfl rfl h5 (AOp.fieldAddrPt rfl rfl (ltb rfl) rfl fo29_1 ?_) | refine AO.guardY rfl rfl rfl h5 (AOp.fieldAddrEp rfl rfl (ltb rfl) rfl fo29_1 ?_)
            first | refine AO.guardY rfl rfl rfl h5 (AOp.load1 rfl rfl (ltb rfl) rfl agg22 rfl rfl ?_) | refine AO.guardY rfl rfl rfl h5 (AOp.loadEp rfl rfl (ltb rfl) rfl agg22 rfl ?_)
            refine AO.guardY rfl rfl rfl h5 (AOp.farith rfl rfl (ltb rfl) rfl rfl (by assumption) ?_)
            refine AO.guardY rfl rfl rfl h5 (AOp.feql rfl rfl (ltb rfl) rfl rfl ?_)
            refine AO.op rfl (AOp.pick rfl rfl (ltb rfl) rfl h5 rfl ?_)
            refine AO.op rfl (AOp.move rfl rfl (ltb rfl) rfl ?_)
            refine AO.guard rfl rfl rfl (ltb rfl) rfl (fun h6 => ?_) (fun h6 => ?_)
            · first | refine AOp.fieldAddr rfl rfl (ltb rfl) rfl fo53_1 ?_ | refine AOp.fieldAddrPt rfl rfl (ltb rfl) rfl fo53_1 ?_ | refine AOp.fieldAddrEp rfl rfl (ltb rfl) rfl fo53_1 ?_
              first | refine AO.guardY rfl rfl rfl h6 (AOp.fieldAddr rfl rfl (ltb rfl) rfl fo29_2 ?_) | refine AO.guardY rfl rfl rfl h6 (AOp.fieldAddrPt rfl rfl (ltb rfl) rfl fo29_2 ?_) | refine AO.guardY rfl rfl rfl h6 (AOp.fieldAddrEp rfl rfl (ltb rfl) rfl fo29_2 ?_)
              first | refine AO.guardY rfl rfl rfl h6 (AOp.load1 rfl rfl (ltb rfl) rfl agg22 rfl rfl ?_) | refine AO.guardY rfl rfl rfl h6 (AOp.loadEp rfl rfl (ltb rfl) rfl agg22 rfl ?_)
              first | refine AO.guardY rfl rfl rfl h6 (AOp.fieldAddr rfl rfl (ltb rfl) rfl fo53_0 ?_) | refine AO.guardY rfl rfl rfl h6 (AOp.fieldAddrPt rfl rfl (ltb rfl) rfl fo53_0 ?_) | refine AO.guardY rfl rfl rfl h6 (AOp.fieldAddrEp rfl rfl (ltb rfl) rfl fo53_0 ?_)
              first | refine AO.guardY rfl rfl rfl h6 (AOp.fieldAddr rfl rfl (ltb rfl) rfl fo29_2 ?_) | refine AO.guardY rfl rfl rfl h6 (AOp.fieldAddrPt rfl rfl (ltb rfl) rfl fo29_2 ?_) | refine AO.guardY rfl rfl rfl h6 (AOp.fieldAddrEp rfl rfl (ltb rfl) rfl fo29_2 ?_)
              first | refine AO.guardY rfl rfl rfl h6 (AOp.load1 rfl rfl (ltb rfl) rfl agg22 rfl rfl ?_) | refine AO.guardY rfl rfl rfl h6 (AOp.loadEp rfl rfl (ltb rfl) rfl agg22 rfl ?_)
              refine AO.guardY rfl rfl rfl h6 (AOp.farith rfl rfl (ltb rfl) rfl rfl (by assumption) ?_)
              first | refine AO.guardY rfl rfl rfl h6 (AOp.fieldAddr rfl rfl (ltb rfl) rfl fo29_2 ?_) | refine AO.guardY rfl rfl rfl h6 (AOp.fieldAddrPt rfl rfl (ltb rfl) rfl fo29_2 ?_) | refine AO.guardY rfl rfl rfl h6 (AOp.fieldAddrEp rfl rfl (ltb rfl) rfl fo29_2 ?_)
              first | refine AO.guardY rfl rfl rfl h6 (AOp.load1 rfl rfl (ltb rfl) rfl agg22 rfl rfl ?_) | refine AO.guardY rfl rfl rfl h6 (AOp.loadEp rfl rfl (ltb rfl) rfl agg22 rfl ?_)
              refine AO.guardY rfl rfl rfl h6 (AOp.fmax rfl rfl (ltb rfl) rfl rfl (by assumption) ?_)
              first | refine AO.guardY rfl rfl rfl h6 (AOp.fieldAddr rfl rfl (ltb rfl) rfl fo53_1 ?_) | refine AO.guardY rfl rfl rfl h6 (AOp.fieldAddrPt rfl rfl (ltb rfl) rfl fo53_1 ?_) | refine AO.guardY rfl rfl rfl h6 (AOp.fieldAddrEp rfl rfl (ltb rfl) rfl fo53_1 ?_)
              first | refine AO.guardY rfl rfl rfl h6 (AOp.fieldAddr rfl rfl (ltb rfl) rfl fo29_2 ?_) | refine AO.guardY rfl rfl rfl h6 (AOp.fieldAddrPt rfl rfl (ltb rfl) rfl fo29_2 ?_) | refine AO.guardY rfl rfl rfl h6 (AOp.fieldAddrEp rfl rfl (ltb rfl) rfl fo29_2 ?_)
              first | refine AO.guardY rfl rfl rfl h6 (AOp.load1 rfl rfl (ltb rfl) rfl agg22 rfl rfl ?_) | refine AO.guardY rfl rfl rfl h6 (AOp.loadEp rfl rfl (ltb rfl) rfl agg22 rfl ?_)
              first | refine AO.guardY rfl rfl rfl h6 (AOp.fieldAddr rfl rfl (ltb rfl) rfl fo53_0 ?_) | refine AO.guardY rfl rfl rfl h6 (AOp.fieldAddrPt rfl rfl (ltb rfl) rfl fo53_0 ?_) | refine AO.guardY rfl rfl rfl h6 (AOp.fieldAddrEp rfl rfl (ltb rfl) rfl fo53_0 ?_)
              first | refine AO.guardY rfl rfl rfl h6 (AOp.fieldAddr rfl rfl (ltb rfl) rfl fo29_2 ?_) | refine AO.guardY rfl rfl rfl h6 (AOp.fieldAddrPt rfl rfl (ltb rfl) rfl fo29_2 ?_) | refine AO.guardY rfl rfl rfl h6 (AOp.fieldAddrEp rfl rfl (ltb rfl) rfl fo29_2 ?_)
              first | refine AO.guardY rfl rfl rfl h6 (AOp.load1 rfl rfl (ltb rfl) rfl agg22 rfl rfl ?_) | refine AO.guardY rfl rfl rfl h6 (AOp.loadEp rfl rfl (ltb rfl) rfl agg22 rfl ?_)
              refine AO.guardY rfl rfl rfl h6 (AOp.farith rfl rfl (ltb rfl) rfl rfl (by assumption) ?_)
              refine AO.guardY rfl rfl rfl h6 (AOp.farith rfl rfl (ltb rfl) rfl rfl (by assumption) ?_)
              refine AO.guardY rfl rfl rfl h6 (AOp.feql rfl rfl (ltb rfl) rfl rfl ?_)
              refine AO.op rfl (AOp.pick rfl rfl (ltb rfl) rfl h6 rfl ?_)
              refine AO.op rfl (AOp.move rfl rfl (ltb rfl) rfl ?_)
              refine AO.guard rfl rfl rfl (ltb rfl) rfl (fun h7 => ?_) (fun h7 => ?_)
              · first | refine AOp.fieldAddr rfl rfl (ltb rfl) rfl fo53_1 ?_ | refine AOp.fieldAddrPt rfl rfl (ltb rfl) rfl fo53_1 ?_ | refine AOp.fieldAddrEp rfl rfl (ltb rfl) rfl fo53_1 ?_
                first | refine AO.guardY rfl rfl rfl h7 (AOp.fieldAddr rfl rfl (ltb rfl) rfl fo29_2 ?_) | refine AO.guardY rfl rfl rfl h7 (AOp.fieldAddrPt rfl rfl (ltb rfl) rfl fo29_2 ?_) | refine AO.guardY rfl rfl rfl h7 (AOp.fieldAddrEp rfl rfl (ltb rfl) rfl fo29_2 ?_)
                first | refine AO.guardY rfl rfl rfl h7 (AOp.load1 rfl rfl (ltb rfl) rfl agg22 rfl rfl ?_) | refine AO.guardY rfl rfl rfl h7 (AOp.loadEp rfl rfl (ltb rfl) rfl agg22 rfl ?_)
                first | refine AO.guardY rfl rfl rfl h7 (AOp.fieldAddr rfl rfl (ltb rfl) rfl fo53_0 ?_) | refine AO.guardY rfl rfl rfl h7 (AOp.fieldAddrPt rfl rfl (ltb rfl) rfl fo53_0 ?_) | refine AO.guardY rfl rfl rfl h7 (AOp.fieldAddrEp rfl rfl (ltb rfl) rfl fo53_0 ?_)
                first | refine AO.guardY rfl rfl rfl h7 (AOp.fieldAddr rfl rfl (ltb rfl) rfl fo29_2 ?_) | refine AO.guardY rfl rfl rfl h7 (AOp.fieldAddrPt rfl rfl (ltb rfl) rfl fo29_2 ?_) | refine AO.guardY rfl rfl rfl h7 (AOp.fieldAddrEp rfl rfl (ltb rfl) rfl fo29_2 ?_)
                first | refine AO.guardY rfl rfl rfl h7 (AOp.load1 rfl rfl (ltb rfl) rfl agg22 rfl rfl ?_) | refine AO.guardY rfl rfl rfl h7 (AOp.loadEp rfl rfl (ltb rfl) rfl agg22 rfl ?_)
                refine AO.guardY rfl rfl rfl h7 (AOp.farith rfl rfl (ltb rfl) rfl rfl (by assumption) ?_)
                first | refine AO.guardY rfl rfl rfl h7 (AOp.fieldAddr rfl rfl (ltb rfl) rfl fo53_1 ?_) | refine AO.guardY rfl rfl rfl h7 (AOp.fieldAddrPt rfl rfl (ltb rfl) rfl fo53_1 ?_) | refine AO.guardY rfl rfl rfl h7 (AOp.fieldAddrEp rfl rfl (ltb rfl) rfl fo53_1 ?_)
                first | refine AO.guardY rfl rfl rfl h7 (AOp.fieldAddr rfl rfl (ltb rfl) rfl fo29_2 ?_) | refine AO.guardY rfl rfl rfl h7 (AOp.fieldAddrPt rfl rfl (ltb rfl) rfl fo29_2 ?_) | refine AO.guardY rfl rfl rfl h7 (AOp.fieldAddrEp rfl rfl (ltb rfl) rfl fo29_2 ?_)
                first | refine AO.guardY rfl rfl rfl h7 (AOp.load1 rfl rfl (ltb rfl) rfl agg22 rfl rfl ?_) | refine AO.guardY rfl rfl rfl h7 (AOp.loadEp rfl rfl (ltb rfl) rfl agg22 rfl ?_)
                first | refine AO.guardY rfl rfl rfl h7 (AOp.fieldAddr rfl rfl (ltb rfl) rfl fo53_0 ?_) | refine AO.guardY rfl rfl rfl h7 (AOp.fieldAddrPt rfl rfl (ltb rfl) rfl fo53_0 ?_) | refine AO.guardY rfl rfl rfl h7 (AOp.fieldAddrEp rfl rfl (ltb rfl) rfl fo53_0 ?_)
                first | refine AO.guardY rfl rfl rfl h7 (AOp.fieldAddr rfl rfl (ltb rfl) rfl fo29_2 ?_) | refine AO.guardY rfl rfl rfl h7 (AOp.fieldAddrPt rfl rfl (ltb rfl) rfl fo29_2 ?_) | refine AO.guardY rfl rfl rfl h7 (AOp.fieldAddrEp rfl rfl (ltb rfl) rfl fo29_2 ?_)
                first | refine AO.guardY rfl rfl rfl h7 (AOp.load1 rfl rfl (ltb rfl) rfl agg22 rfl rfl ?_) | refine AO.guardY rfl rfl rfl h7 (AOp.loadEp rfl rfl (ltb rfl) rfl agg22 rfl ?_)
                refine AO.guardY rfl rfl rfl h7 (AOp.farith rfl rfl (ltb rfl) rfl rfl (by assumption) ?_)
                refine AO.guardY rfl rfl rfl h7 (AOp.feql rfl rfl (ltb rfl) rfl rfl ?_)
                refine AO.op rfl (AOp.pick rfl rfl (ltb rfl) rfl h7 rfl ?_)
                refine AO.op rfl (AOp.assign rfl rfl (ltb rfl) rfl ?_)
                refine AO.nil ?_
                change AC _ _ _ _
                refine AC.ret ?_
                change RetQ _ _ _ .ret _
                refine retq rfl ?_
                first | rfl | (simp_all; done)
              · refine AO.guardN rfl rfl rfl (ltb rfl) rfl h7 ?_
                refine AO.guardN rfl rfl rfl (ltb rfl) rfl h7 ?_
                refine AO.guardN rfl rfl rfl (ltb rfl) rfl h7 ?_
                refine AO.guardN rfl rfl rfl (ltb rfl) rfl h7 ?_
                refine AO.guardN rfl rfl rfl (ltb rfl) rfl h7 ?_
                refine AO.guardN rfl rfl rfl (ltb rfl) rfl h7 ?_
                refine AO.guardN rfl rfl rfl (ltb rfl) rfl h7 ?_
                refine AO.guardN rfl rfl rfl (ltb rfl) rfl h7 ?_
                refine AO.guardN rfl rfl rfl (ltb rfl) rfl h7 ?_
                refine AO.guardN rfl rfl rfl (ltb rfl) rfl h7 ?_
                refine AO.guardN rfl rfl rfl (ltb rfl) rfl h7 ?_
                refine AO.guardN rfl rfl rfl (ltb rfl) rfl h7 ?_
                refine AO.guardN rfl rfl rfl (ltb rfl) rfl h7 ?_
                refine AO.guardN rfl rfl rfl (ltb rfl) rfl h7 ?_
                refine AO.op rfl (AOp.pickN rfl rfl (ltb rfl) rfl h7 rfl ?_)
                refine AO.op rfl (AOp.assign rfl rfl (ltb rfl) rfl ?_)
                refine AO.nil ?_
                change AC _ _ _ _
                refine AC.ret ?_
                change RetQ _ _ _ .ret _
                refine retq rfl ?_
                first | rfl | (simp_all; done)
            · refine AO.guardN rfl rfl rfl (ltb rfl) rfl h6 ?_
              refine AO.guardN rfl rfl rfl (ltb rfl) rfl h6 ?_
              refine AO.guardN rfl rfl rfl (ltb rfl) rfl h6 ?_
              refine AO.guardN rfl rfl rfl (ltb rfl) rfl h6 ?_
              refine AO.guardN rfl rfl rfl (ltb rfl) rfl h6 ?_
              refine AO.guardN rfl rfl rfl (ltb rfl) rfl h6 ?_
              refine AO.guardN rfl rfl rfl (ltb rfl) rfl h6 ?_
              refine AO.guardN rfl rfl rfl (ltb rfl) rfl h6 ?_
              refine AO.guardN rfl rfl rfl (ltb rfl) rfl h6 ?_
              refine AO.guardN rfl rfl rfl (ltb rfl) rfl h6 ?_
              refine AO.guardN rfl rfl rfl (ltb rfl) rfl h6 ?_
              refine AO.guardN rfl rfl rfl (ltb rfl) rfl h6 ?_
              refine AO.guardN rfl rfl rfl (ltb rfl) rfl h6 ?_
              refine AO.guardN rfl rfl rfl (ltb rfl) rfl h6 ?_
              refine AO.guardN rfl rfl rfl (ltb rfl) rfl h6 ?_
              refine AO.guardN rfl rfl rfl (ltb rfl) rfl h6 ?_
              refine AO.guardN rfl rfl rfl (ltb rfl) rfl h6 ?_
              refine AO.guardN rfl rfl rfl (ltb rfl) rfl h6 ?_
              refine AO.op rfl (AOp.pickN rfl rfl (ltb rfl) rfl h6 rfl ?_)
              refine AO.op rfl (AOp.move rfl rfl (ltb rfl) rfl ?_)
              refine AO.guardN rfl rfl rfl (ltb rfl) rfl rfl ?_
              refine AO.guardN rfl rfl rfl (ltb rfl) rfl rfl ?_
              refine AO.guardN rfl rfl rfl (ltb rfl) rfl rfl ?_
              refine AO.guardN rfl rfl rfl (ltb rfl) rfl rfl ?_
              refine AO.guardN rfl rfl rfl (ltb rfl) rfl rfl ?_
              refine AO.guardN rfl rfl rfl (ltb rfl) rfl rfl ?_
              refine AO.guardN rfl rfl rfl (ltb rfl) rfl rfl ?_
              refine AO.guardN rfl rfl rfl (ltb rfl) rfl rfl ?_
              refine AO.guardN rfl rfl rfl (ltb rfl) rfl rfl ?_
              refine AO.guardN rfl rfl rfl (ltb rfl) rfl rfl ?_
              refine AO.guardN rfl rfl rfl (ltb rfl) rfl rfl ?_
              refine AO.guardN rfl rfl rfl (ltb rfl) rfl rfl ?_
              refine AO.guardN rfl rfl rfl (ltb rfl) rfl rfl ?_
              refine AO.guardN rfl rfl rfl (ltb rfl) rfl rfl ?_
              refine AO.guardN rfl rfl rfl (ltb rfl) rfl rfl ?_
              refine AO.op rfl (AOp.pickN rfl rfl (ltb rfl) rfl rfl rfl ?_)
              refine AO.op rfl (AOp.assign rfl rfl (ltb rfl) rfl ?_)
              refine AO.nil ?_
              change AC _ _ _ _
              refine AC.ret ?_
              change RetQ _ _ _ .ret _
              refine retq rfl ?_
              first | rfl | (simp_all; done)
          · refine AO.guardN rfl rfl rfl (ltb rfl) rfl h5 ?_
            refine AO.guardN rfl rfl rfl (ltb rfl) rfl h5 ?_
            refine AO.guardN rfl rfl rfl (ltb rfl) rfl h5 ?_
            refine AO.guardN rfl rfl rfl (ltb rfl) rfl h5 ?_
            refine AO.guardN rfl rfl rfl (ltb rfl) rfl h5 ?_
            refine AO.guardN rfl rfl rfl (ltb rfl) rfl h5 ?_
            refine AO.guardN rfl rfl rfl (ltb rfl) rfl h5 ?_
            refine AO.guardN rfl rfl rfl (ltb rfl) rfl h5 ?_
            refine AO.guardN rfl rfl rfl (ltb rfl) rfl h5 ?_
            refine AO.guardN rfl rfl rfl (ltb rfl) rfl h5 ?_
            refine AO.guardN rfl rfl rfl (ltb rfl) rfl h5 ?_
            refine AO.guardN rfl rfl rfl (ltb rfl) rfl h5 ?_
            refine AO.guardN rfl rfl rfl (ltb rfl) rfl h5 ?_
            refine AO.guardN rfl rfl rfl (ltb rfl) rfl h5 ?_
            refine AO.op rfl (AOp.pickN rfl rfl (ltb rfl) rfl h5 rfl ?_)
            refine AO.op rfl (AOp.move rfl rfl (ltb rfl) rfl ?_)
            refine AO.guardN rfl rfl rfl (ltb rfl) rfl rfl ?_
            refine AO.guardN rfl rfl rfl (ltb rfl) rfl rfl ?_
            refine AO.guardN rfl rfl rfl (ltb rfl) rfl rfl ?_
            refine AO.guardN rfl rfl rfl (ltb rfl) rfl rfl ?_
            refine AO.guardN rfl rfl rfl (ltb rfl) rfl rfl ?_
            refine AO.guardN rfl rfl rfl (ltb rfl) rfl rfl ?_
            refine AO.guardN rfl rfl rfl (ltb rfl) rfl rfl ?_
            refine AO.guardN rfl rfl rfl (ltb rfl) rfl rfl ?_
            refine AO.guardN rfl rfl rfl (ltb rfl) rfl rfl ?_
            refine AO.guardN rfl rfl rfl (ltb rfl) rfl rfl ?_
            refine AO.guardN rfl rfl rfl (ltb rfl) rfl rfl ?_
            refine AO.guardN rfl rfl rfl (ltb rfl) rfl rfl ?_
            refine AO.guardN rfl rfl rfl (ltb rfl) rfl rfl ?_
            refine AO.guardN rfl rfl rfl (ltb rfl) rfl rfl ?_
            refine AO.guardN rfl rfl rfl (ltb rfl) rfl rfl ?_
            refine AO.guardN rfl rfl rfl (ltb rfl) rfl rfl ?_
            refine AO.guardN rfl rfl rfl (ltb rfl) rfl rfl ?_
            refine AO.guardN rfl rfl rfl (ltb rfl) rfl rfl ?_
            refine AO.guardN rfl rfl rfl (ltb rfl) rfl rfl ?_
            refine AO.op rfl (AOp.pickN rfl rfl (ltb rfl) rfl rfl rfl ?_)
            refine AO.op rfl (AOp.move rfl rfl (ltb rfl) rfl ?_)
            refine AO.guardN rfl rfl rfl (ltb rfl) rfl rfl ?_
            refine AO.guardN rfl rfl rfl (ltb rfl) rfl rfl ?_
            refine AO.guardN rfl rfl rfl (ltb rfl) rfl rfl ?_
            refine AO.guardN rfl rfl rfl (ltb rfl) rfl rfl ?_
            refine AO.guardN rfl rfl rfl (ltb rfl) rfl rfl ?_
            refine AO.guardN rfl rfl rfl (ltb rfl) rfl rfl ?_
            refine AO.guardN rfl rfl rfl (ltb rfl) rfl rfl ?_
            refine AO.guardN rfl rfl rfl (ltb rfl) rfl rfl ?_
            refine AO.guardN rfl rfl rfl (ltb rfl) rfl rfl ?_
            refine AO.guardN rfl rfl rfl (ltb rfl) rfl rfl ?_
            refine AO.guardN rfl rfl rfl (ltb rfl) rfl rfl ?_
            refine AO.guardN rfl rfl rfl (ltb rfl) rfl rfl ?_
            refine AO.guardN rfl rfl rfl (ltb rfl) rfl rfl ?_
            refine AO.guardN rfl rfl rfl (ltb rfl) rfl rfl ?_
            refine AO.guardN rfl rfl rfl (ltb rfl) rfl rfl ?_
            refine AO.op rfl (AOp.pickN rfl rfl (ltb rfl) rfl rfl rfl ?_)
            refine AO.op rfl (AOp.assign rfl rfl (ltb rfl) rfl ?_)
            refine AO.nil ?_
            change AC _ _ _ _
            refine AC.ret ?_
            change RetQ _ _ _ .ret _
            refine retq rfl ?_
            first | rfl | (simp_all; done)
        · refine AO.guardN rfl rfl rfl (ltb rfl) rfl h4 ?_
          refine AO.guardN rfl rfl rfl (ltb rfl) rfl h4 ?_
          refine AO.guardN rfl rfl rfl (ltb rfl) rfl h4 ?_
          refine AO.guardN rfl rfl rfl (ltb rfl) rfl h4 ?_
          refine AO.guardN rfl rfl rfl (ltb rfl) rfl h4 ?_
          refine AO.guardN rfl rfl rfl (ltb rfl) rfl h4 ?_
          refine AO.guardN rfl rfl rfl (ltb rfl) rfl h4 ?_
          refine AO.guardN rfl rfl rfl (ltb rfl) rfl h4 ?_
          refine AO.guardN rfl rfl rfl (ltb rfl) rfl h4 ?_
          refine AO.guardN rfl rfl rfl (ltb rfl) rfl h4 ?_
          refine AO.guardN rfl rfl rfl (ltb rfl) rfl h4 ?_
          refine AO.guardN rfl rfl rfl (ltb rfl) rfl h4 ?_
          refine AO.guardN rfl rfl rfl (ltb rfl) rfl h4 ?_
          refine AO.guardN rfl rfl rfl (ltb rfl) rfl h4 ?_
          refine AO.guardN rfl rfl rfl (ltb rfl) rfl h4 ?_
          refine AO.guardN rfl rfl rfl (ltb rfl) rfl h4 ?_
          refine AO.guardN rfl rfl rfl (ltb rfl) rfl h4 ?_
          refine AO.guardN rfl rfl rfl (ltb rfl) rfl h4 ?_
          refine AO.op rfl (AOp.pickN rfl rfl (ltb rfl) rfl h4 rfl ?_)
          refine AO.op rfl (AOp.move rfl rfl (ltb rfl) rfl ?_)
          refine AO.guardN rfl rfl rfl (ltb rfl) rfl rfl ?_
          refine AO.guardN rfl rfl rfl (ltb rfl) rfl rfl ?_
          refine AO.guardN rfl rfl rfl (ltb rfl) rfl rfl ?_
          refine AO.guardN rfl rfl rfl (ltb rfl) rfl rfl ?_
          refine AO.guardN rfl rfl rfl (ltb rfl) rfl rfl ?_
          refine AO.guardN rfl rfl rfl (ltb rfl) rfl rfl ?_
          refine AO.guardN rfl rfl rfl (ltb rfl) rfl rfl ?_
          refine AO.guardN rfl rfl rfl (ltb rfl) rfl rfl ?_
          refine AO.guardN rfl rfl rfl (ltb rfl) rfl rfl ?_
          refine AO.guardN rfl rfl rfl (ltb rfl) rfl rfl ?_
          refine AO.guardN rfl rfl rfl (ltb rfl) rfl rfl ?_
          refine AO.guardN rfl rfl rfl (ltb rfl) rfl rfl ?_
          refine AO.guardN rfl rfl rfl (ltb rfl) rfl rfl ?_
          refine AO.guardN rfl rfl rfl (ltb rfl) rfl rfl ?_
          refine AO.guardN rfl rfl rfl (ltb rfl) rfl rfl ?_
          refine AO.op rfl (AOp.pickN rfl rfl (ltb rfl) rfl rfl rfl ?_)
          refine AO.op rfl (AOp.move rfl rfl (ltb rfl) rfl ?_)
          refine AO.guardN rfl rfl rfl (ltb rfl) rfl rfl ?_
          refine AO.guardN rfl rfl rfl (ltb rfl) rfl rfl ?_
          refine AO.guardN rfl rfl rfl (ltb rfl) rfl rfl ?_
          refine AO.guardN rfl rfl rfl (ltb rfl) rfl rfl ?_
          refine AO.guardN rfl rfl rfl (ltb rfl) rfl rfl ?_
          refine AO.guardN rfl rfl rfl (ltb rfl) rfl rfl ?_
          refine AO.guardN rfl rfl rfl (ltb rfl) rfl rfl ?_
          refine AO.guardN rfl rfl rfl (ltb rfl) rfl rfl ?_
          refine AO.guardN rfl rfl rfl (ltb rfl) rfl rfl ?_
          refine AO.guardN rfl rfl rfl (ltb rfl) rfl rfl ?_
          refine AO.guardN rfl rfl rfl (ltb rfl) rfl rfl ?_
          refine AO.guardN rfl rfl rfl (ltb rfl) rfl rfl ?_
          refine AO.guardN rfl rfl rfl (ltb rfl) rfl rfl ?_
          refine AO.guardN rfl rfl rfl (ltb rfl) rfl rfl ?_
          refine AO.guardN rfl rfl rfl (ltb rfl) rfl rfl ?_
          refine AO.guardN rfl rfl rfl (ltb rfl) rfl rfl ?_
          refine AO.guardN rfl rfl rfl (ltb rfl) rfl rfl ?_
          refine AO.guardN rfl rfl rfl (ltb rfl) rfl rfl ?_
          refine AO.guardN rfl rfl rfl (ltb rfl) rfl rfl ?_
          refine AO.op rfl (AOp.pickN rfl rfl (ltb rfl) rfl rfl rfl ?_)
          refine AO.op rfl (AOp.move rfl rfl (ltb rfl) rfl ?_)
          refine AO.guardN rfl rfl rfl (ltb rfl) rfl rfl ?_
          refine AO.guardN rfl rfl rfl (ltb rfl) rfl rfl ?_
          refine AO.guardN rfl rfl rfl (ltb rfl) rfl rfl ?_
          refine AO.guardN rfl rfl rfl (ltb rfl) rfl rfl ?_
          refine AO.guardN rfl rfl rfl (ltb rfl) rfl rfl ?_
          refine AO.guardN rfl rfl rfl (ltb rfl) rfl rfl ?_
          refine AO.guardN rfl rfl rfl (ltb rfl) rfl rfl ?_
          refine AO.guardN rfl rfl rfl (ltb rfl) rfl rfl ?_
          refine AO.guardN rfl rfl rfl (ltb rfl) rfl rfl ?_
          refine AO.guardN rfl rfl rfl (ltb rfl) rfl rfl ?_
          refine AO.guardN rfl rfl rfl (ltb rfl) rfl rfl ?_
          refine AO.guardN rfl rfl rfl (ltb rfl) rfl rfl ?_
          refine AO.guardN rfl rfl rfl (ltb rfl) rfl rfl ?_
          refine AO.guardN rfl rfl rfl (ltb rfl) rfl rfl ?_
          refine AO.guardN rfl rfl rfl (ltb rfl) rfl rfl ?_
          refine AO.op rfl (AOp.pickN rfl rfl (ltb rfl) rfl rfl rfl ?_)
          refine AO.op rfl (AOp.assign rfl rfl (ltb rfl) rfl ?_)
          refine AO.nil ?_
          change AC _ _ _ _
          refine AC.ret ?_
          change RetQ _ _ _ .ret _
          refine retq rfl ?_
          first | rfl | (simp_all; done)
      · refine AO.guardN rfl rfl rfl (ltb rfl) rfl h3 ?_
        refine AO.guardN rfl rfl rfl (ltb rfl) rfl h3 ?_
        refine AO.guardN rfl rfl rfl (ltb rfl) rfl h3 ?_
        refine AO.guardN rfl rfl rfl (ltb rfl) rfl h3 ?_
        refine AO.guardN rfl rfl rfl (ltb rfl) rfl h3 ?_
        refine AO.guardN rfl rfl rfl (ltb rfl) rfl h3 ?_
        refine AO.guardN rfl rfl rfl (ltb rfl) rfl h3 ?_
        refine AO.guardN rfl rfl rfl (ltb rfl) rfl h3 ?_
        refine AO.guardN rfl rfl rfl (ltb rfl) rfl h3 ?_
        refine AO.guardN rfl rfl rfl (ltb rfl) rfl h3 ?_
        refine AO.guardN rfl rfl rfl (ltb rfl) rfl h3 ?_
        refine AO.guardN rfl rfl rfl (ltb rfl) rfl h3 ?_
        refine AO.guardN rfl rfl rfl (ltb rfl) rfl h3 ?_
        refine AO.guardN rfl rfl rfl (ltb rfl) rfl h3 ?_
        refine AO.op rfl (AOp.pickN rfl rfl (ltb rfl) rfl h3 rfl ?_)
        refine AO.op rfl (AOp.move rfl rfl (ltb rfl) rfl ?_)
        refine AO.guardN rfl rfl rfl (ltb rfl) rfl rfl ?_
        refine AO.guardN rfl rfl rfl (ltb rfl) rfl rfl ?_
        refine AO.guardN rfl rfl rfl (ltb rfl) rfl rfl ?_
        refine AO.guardN rfl rfl rfl (ltb rfl) rfl rfl ?_
        refine AO.guardN rfl rfl rfl (ltb rfl) rfl rfl ?_
        refine AO.guardN rfl rfl rfl (ltb rfl) rfl rfl ?_
        refine AO.guardN rfl rfl rfl (ltb rfl) rfl rfl ?_
        refine AO.guardN rfl rfl rfl (ltb rfl) rfl rfl ?_
        refine AO.guardN rfl rfl rfl (ltb rfl) rfl rfl ?_
        refine AO.guardN rfl rfl rfl (ltb rfl) rfl rfl ?_
        refine AO.guardN rfl rfl rfl (ltb rfl) rfl rfl ?_
        refine AO.guardN rfl rfl rfl (ltb rfl) rfl rfl ?_
        refine AO.guardN rfl rfl rfl (ltb rfl) rfl rfl ?_
        refine AO.guardN rfl rfl rfl (ltb rfl) rfl rfl ?_
        refine AO.guardN rfl rfl rfl (ltb rfl) rfl rfl ?_
        refine AO.guardN rfl rfl rfl (ltb rfl) rfl rfl ?_
        refine AO.guardN rfl rfl rfl (ltb rfl) rfl rfl ?_
        refine AO.guardN rfl rfl rfl (ltb rfl) rfl rfl ?_
        refine AO.guardN rfl rfl rfl (ltb rfl) rfl rfl ?_
        refine AO.op rfl (AOp.pickN rfl rfl (ltb rfl) rfl rfl rfl ?_)
        refine AO.op rfl (AOp.move rfl rfl (ltb rfl) rfl ?_)
        refine AO.guardN rfl rfl rfl (ltb rfl) rfl rfl ?_
        refine AO.guardN rfl rfl rfl (ltb rfl) rfl rfl ?_
        refine AO.guardN rfl rfl rfl (ltb rfl) rfl rfl ?_
        refine AO.guardN rfl rfl rfl (ltb rfl) rfl rfl ?_
        refine AO.guardN rfl rfl rfl (ltb rfl) rfl rfl ?_
        refine AO.guardN rfl rfl rfl (ltb rfl) rfl rfl ?_
        refine AO.guardN rfl rfl rfl (ltb rfl) rfl rfl ?_
        refine AO.guardN rfl rfl rfl (ltb rfl) rfl rfl ?_
        refine AO.guardN rfl rfl rfl (ltb rfl) rfl rfl ?_
        refine AO.guardN rfl rfl rfl (ltb rfl) rfl rfl ?_
        refine AO.guardN rfl rfl rfl (ltb rfl) rfl rfl ?_
        refine AO.guardN rfl rfl rfl (ltb rfl) rfl rfl ?_
        refine AO.guardN rfl rfl rfl (ltb rfl) rfl rfl ?_
        refine AO.guardN rfl rfl rfl (ltb rfl) rfl rfl ?_
        refine AO.guardN rfl rfl rfl (ltb rfl) rfl rfl ?_
        refine AO.op rfl (AOp.pickN rfl rfl (ltb rfl) rfl rfl rfl ?_)
        refine AO.op rfl (AOp.move rfl rfl (ltb rfl) rfl ?_)
        refine AO.guardN rfl rfl rfl (ltb rfl) rfl rfl ?_
        refine AO.guardN rfl rfl rfl (ltb rfl) rfl rfl ?_
        refine AO.guardN rfl rfl rfl (ltb rfl) rfl rfl ?_
        refine AO.guardN rfl rfl rfl (ltb rfl) rfl rfl ?_
        refine AO.guardN rfl rfl rfl (ltb rfl) rfl rfl ?_
        refine AO.guardN rfl rfl rfl (ltb rfl) rfl rfl ?_
        refine AO.guardN rfl rfl rfl (ltb rfl) rfl rfl ?_
        refine AO.guardN rfl rfl rfl (ltb rfl) rfl rfl ?_
        refine AO.guardN rfl rfl rfl (ltb rfl) rfl rfl ?_
        refine AO.guardN rfl rfl rfl (ltb rfl) rfl rfl ?_
        refine AO.guardN rfl rfl rfl (ltb rfl) rfl rfl ?_
        refine AO.guardN rfl rfl rfl (ltb rfl) rfl rfl ?_
        refine AO.guardN rfl rfl rfl (ltb rfl) rfl rfl ?_
        refine AO.guardN rfl rfl rfl (ltb rfl) rfl rfl ?_
        refine AO.guardN rfl rfl rfl (ltb rfl) rfl rfl ?_
        refine AO.guardN rfl rfl rfl (ltb rfl) rfl rfl ?_
        refine AO.guardN rfl rfl rfl (ltb rfl) rfl rfl ?_
        refine AO.guardN rfl rfl rfl (ltb rfl) rfl rfl ?_
        refine AO.guardN rfl rfl rfl (ltb rfl) rfl rfl ?_
        refine AO.op rfl (AOp.pickN rfl rfl (ltb rfl) rfl rfl rfl ?_)
        refine AO.op rfl (AOp.move rfl rfl (ltb rfl) rfl ?_)
        refine AO.guardN rfl rfl rfl (ltb rfl) rfl rfl ?_
        refine AO.guardN rfl rfl rfl (ltb rfl) rfl rfl ?_
        refine AO.guardN rfl rfl rfl (ltb rfl) rfl rfl ?_
        refine AO.guardN rfl rfl rfl (ltb rfl) rfl rfl ?_
        refine AO.guardN rfl rfl rfl (ltb rfl) rfl rfl ?_
        refine AO.guardN rfl rfl rfl (ltb rfl) rfl rfl ?_
        refine AO.guardN rfl rfl rfl (ltb rfl) rfl rfl ?_
        refine AO.guardN rfl rfl rfl (ltb rfl) rfl rfl ?_
        refine AO.guardN rfl rfl rfl (ltb rfl) rfl rfl ?_
        refine AO.guardN rfl rfl rfl (ltb rfl) rfl rfl ?_
        refine AO.guardN rfl rfl rfl (ltb rfl) rfl rfl ?_
        refine AO.guardN rfl rfl rfl (ltb rfl) rfl rfl ?_
        refine AO.guardN rfl rfl rfl (ltb rfl) rfl rfl ?_
        refine AO.guardN rfl rfl rfl (ltb rfl) rfl rfl ?_
        refine AO.guardN rfl rfl rfl (ltb rfl) rfl rfl ?_
        refine AO.op rfl (AOp.pickN rfl rfl (ltb rfl) rfl rfl rfl ?_)
        refine AO.op rfl (AOp.assign rfl rfl (ltb rfl) rfl ?_)
        refine AO.nil ?_
        change AC _ _ _ _
        refine AC.ret ?_
        change RetQ _ _ _ .ret _
        refine retq rfl ?_
        first | rfl | (simp_all; done)
  · refine AD.opN rfl rfl rfl (ltb rfl) rfl h1 ?_
    refine AD.opN rfl rfl rfl (ltb rfl) rfl h1 ?_
    refine AD.opN rfl rfl rfl (ltb rfl) rfl h1 ?_
    refine AD.opN rfl rfl rfl (ltb rfl) rfl h1 ?_
    refine AD.opN rfl rfl rfl (ltb rfl) rfl h1 ?_
    refine AD.opN rfl rfl rfl (ltb rfl) rfl h1 ?_
    refine AD.opN rfl rfl rfl (ltb rfl) rfl h1 ?_
    refine AD.opN rfl rfl rfl (ltb rfl) rfl h1 ?_
    refine AD.opN rfl rfl rfl (ltb rfl) rfl h1 ?_
    refine AD.op [18, 27] rfl (by kernel_rfl) rfl rfl (fun _ _ h => AOp.pick rfl rfl (ltb rfl) rfl h1 rfl h) ?_
    refine AD.done ?_
    refine AO.nil ?_
    change AC _ _ _ _
    refine AC.condT rfl rfl ?_
    refine AC.seq ?_
    refine AC.region ?_
    refine AO.op rfl (AOp.assign rfl rfl (ltb rfl) rfl ?_)
    refine AO.nil ?_
    change AC _ _ _ _
    refine AC.ret ?_
    change RetQ _ _ _ .ret _
    refine retq rfl ?_
    first | rfl | (simp_all; done)

end Go.Proofs.Ytljfehlajemhaaa.Wk
