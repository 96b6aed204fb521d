/- Proved: what functions of this seat answer, as contracts over the memory view; no conditions beyond those that each theorem names. -/
import Derived.Test.YtljfehlajemhaaaFltOk
import Derived.Test.YtljfehlajemhaaaProg
namespace Go.Proofs.Ytljfehlajemhaaa.Wk
open Go.Vm
set_option linter.unusedVariables false
set_option linter.unusedSimpArgs false
theorem agg22 : aggT Try.prog 22 = some false := by kernel_rfl
theorem agg29 : aggT Try.prog 29 = some true := by kernel_rfl
theorem agg56 : aggT Try.prog 56 = some false := by kernel_rfl
theorem el56 : elemT Try.prog 56 = some (22, 1) := by kernel_rfl
theorem el58 : elemT Try.prog 58 = some (56, 1) := by kernel_rfl
theorem el71 : elemT Try.prog 71 = some (29, 3) := by kernel_rfl
theorem fo29_0 : fieldOff Try.prog 29 0 = some 0 := by kernel_rfl
theorem fo29_1 : fieldOff Try.prog 29 1 = some 1 := by kernel_rfl
theorem fo29_2 : fieldOff Try.prog 29 2 = some 2 := by kernel_rfl
theorem fo73_0 : fieldOff Try.prog 73 0 = some 0 := by kernel_rfl
theorem fo73_1 : fieldOff Try.prog 73 1 = some 1 := by kernel_rfl
theorem fo73_2 : fieldOff Try.prog 73 2 = some 2 := by kernel_rfl
def pl29 : Nat → Option (Nat × Nat) := fun i => ([(0, 1), (1, 1), (2, 1)] : List (Nat × Nat))[i]?
theorem places29 : placesT Try.prog 29 = some pl29 := by kernel_rfl
def pl73 : Nat → Option (Nat × Nat) := fun i => ([(0, 1), (1, 1), (2, 1)] : List (Nat × Nat))[i]?
theorem places73 : placesT Try.prog 73 = some pl73 := by kernel_rfl
theorem size29 : sizeT Try.prog 29 = some 3 := by kernel_rfl
theorem size73 : sizeT Try.prog 73 = some 3 := by kernel_rfl
theorem zero22 : (Try.prog.info? 22).map (·.zero) = some (some (.float .f64 0)) := by kernel_rfl
theorem zero29 : (Try.prog.info? 29).map (·.zero) = some (some (.agg #[.float .f64 0, .float .f64 0, .float .f64 0])) := by kernel_rfl
theorem zero56 : (Try.prog.info? 56).map (·.zero) = some (some (.slice none 0 0)) := by kernel_rfl
theorem zero73 : (Try.prog.info? 73).map (·.zero) = some (some (.agg #[.float .f64 0, .float .f64 0, .float .f64 0])) := by kernel_rfl
open Flt (truncD okF inR K20)
def notNan (x : Nat) : Prop := (FloatKind.f64.decode x).isNaN = false
def truncS (x : Nat) (d : Ieee.Datum) : Sem Value :=
  match d with
  | .nan s t =>
    if FloatKind.f64.format.quiet t = t then pure (.float .f64 x) else do
      let kept ← choose (.extern "math.Floor,Ceil,Trunc,RoundToEven.signallingNaN kept" 2)
      pure (.float .f64 (if kept == 1 then x else FloatKind.f64.encode (.nan s (FloatKind.f64.format.quiet t))))
  | d => pure (.float .f64 (FloatKind.f64.encode (d.integral .zero)))
theorem run_trunc (P : Program) (x : Nat) (h : notNan x) (w : World) : (Extern.MathFloor.toIntegral "math.archTrunc" .zero #[.float .f64 x]).run P w = .ok (.float .f64 (truncD x)) w := by
  unfold notNan at h
  have e : Extern.MathFloor.toIntegral "math.archTrunc" .zero #[.float .f64 x] = truncS x (FloatKind.f64.decode x) := rfl
  have e2 : ∀ d : Ieee.Datum, d.isNaN = false → truncS x d = pure (.float .f64 (FloatKind.f64.encode (d.integral .zero))) := by
    intro d hd
    cases d with
    | nan s t => cases hd
    | number s m e => rfl
    | infinity s => rfl
  rw [e, e2 _ h]
  rfl

theorem callTrunc (x : Nat) (h : notNan x) (w : World) : (callFunc 61 #[.float .f64 x]).run Try.prog w = .ok (.value (.float .f64 (truncD x))) w := by
  rw [run_callFunc_extern Try.func61 (by kernel_rfl) (by kernel_rfl) (by kernel_rfl) (e := Extern.MathFloor.toIntegral "math.archTrunc" .zero) (by kernel_rfl), run_trunc Try.prog x h]
  rfl

theorem inR_nn (m x : Nat) (h : fle x m = true) : notNan x := by
  unfold fle at h
  unfold notNan
  unfold Ieee.Format.order at h
  show (Ieee.double.read x).isNaN = false
  generalize Ieee.double.read x = d at *
  cases d with
  | nan s t => simp [Ieee.Datum.order] at h
  | number s m e => rfl
  | infinity s => rfl

set_option maxRecDepth 100000 in
/-- math.Trunc -/
theorem trunc (x : Nat) (h : notNan x) : FnD Try.prog 46 [dfl x] (fun r => r = dfl (truncD x)) := by
  refine FnD.of (by kernel_rfl) Try.func46 rfl Try.ntmps46 rfl (leb rfl) fun W ok => ?_
  refine AC.seq ?_
  refine AC.region ?_
  refine AO.op rfl (AOp.assign rfl rfl (ltb rfl) rfl ?_)
  refine AO.nil ?_
  change AC _ _ _ _
  refine AC.seq ?_
  refine AC.condT rfl rfl ?_
  refine AC.seq ?_
  refine AC.region ?_
  refine AO.op rfl (AOp.move rfl rfl (ltb rfl) rfl ?_)
  refine AO.op rfl (AOp.callX [.float .f64 x] rfl rfl (ltb rfl) rfl (callTrunc x h) ?_)
  refine AO.op rfl (AOp.assign rfl rfl (ltb rfl) rfl ?_)
  refine AO.nil ?_
  change AC _ _ _ _
  refine AC.ret ?_
  change RetQ _ _ _ .ret _
  refine retq rfl ?_
  exact rfl

def row (l : List Nat) : D := .ds 1 (l.map dfl)
def rows (ls : List (List Nat)) : D := .ds 1 (ls.map row)
theorem map_at {α β : Type} (f : α → β) (l : List α) (k : Nat) (d : α) (h : k < l.length) : (l.map f)[(k : Int).toNat * 1]? = some (f (l.getD k d)) := by
  simp [h]
theorem all_take_succ {α : Type} (p : α → Bool) (l : List α) (k : Nat) (d : α) (h : k < l.length) : (l.take (k + 1)).all p = ((l.take k).all p && p (l.getD k d)) := by
  rw [List.take_succ_eq_append_getElem h, List.all_append]
  simp [h]
theorem all_false_at {α : Type} (p : α → Bool) (l : List α) (j : Nat) (d : α) (h : j < l.length) (hf : p (l.getD j d) = false) : l.all p = false := by
  rw [List.all_eq_false]
  refine ⟨l.getD j d, ?_, by rw [hf]; decide⟩
  rw [List.getD_eq_getElem?_getD, List.getElem?_eq_getElem h]; simp

/-- what Grid tells -/
def rowB (n m : Nat) (l : List Nat) : Bool := decide (l.length = n) && l.all (okF m)
def gridB (ls : List (List Nat)) (n m : Nat) : Bool := ls.all (rowB n m) && decide (0 < n)
theorem grid_no {ls : List (List Nat)} {n m k : Nat} {l : List Nat} (hl0 : l = ls.getD k []) (hlt : k < ls.length) (h : rowB n m l = false) : dbool false = dbool (gridB ls n m) := by
  unfold gridB
  rw [all_false_at (rowB n m) ls k [] hlt (by rw [← hl0]; exact h)]; rfl
theorem row_no {n m j x : Nat} {l : List Nat} (hx0 : x = l.getD j 0) (hj : j < l.length) (h : okF m x = false) : rowB n m l = false := by
  unfold rowB
  rw [all_false_at (okF m) l j 0 hj (by rw [← hx0]; exact h), Bool.and_false]

set_option maxRecDepth 100000 in
/-- pub-orthodrome/spec.Grid -/
theorem grid (ls : List (List Nat)) (n m : Nat) (hls : ls.length < 4611686018427387904) (hl : ∀ l, l ∈ ls → l.length < 4611686018427387904) : FnD Try.prog 24 [rows ls, dint n, dfl m] (fun r => r = dbool (gridB ls n m)) := by
  refine FnD.of (by kernel_rfl) Try.func24 rfl Try.ntmps24 rfl (leb rfl) fun W ok => ?_
  refine AC.seq ?_
  refine AC.region ?_
  refine AO.op rfl (AOp.assign rfl rfl (ltb rfl) rfl ?_)
  refine AO.nil ?_
  change AC _ _ _ _
  refine AC.seq ?_
  refine AC.seq ?_
  refine AC.region ?_
  refine AO.op rfl (AOp.move rfl rfl (ltb rfl) rfl ?_)
  first | refine AO.op rfl (AOp.lenDs (n := ls.length) rfl rfl (ltb rfl) rfl el58 (by decide) (by simp) ?_) | refine AO.op rfl (AOp.lenOwn (n := ls.length) rfl rfl (ltb rfl) rfl el58 rfl (by decide) (by simp) ?_)
  refine AO.op rfl (AOp.move rfl rfl (ltb rfl) rfl ?_)
  refine AO.nil ?_
  change AC _ _ _ _
  refine AC.block ?_
  refine AC.loopV (G := Nat) [1, 2, 11, 12] [13] 0 (fun k => [(13, .d (dint (k : Nat)))]) (fun _ => _) (fun k => k ≤ ls.length ∧ (ls.take k).all (rowB n m) = true) (fun k => ls.length - k) (0) rfl rfl rfl rfl ⟨by omega, rfl⟩ ?_
  rintro k ⟨hk, hk2⟩
  refine AC.seq ?_
  refine AC.region ?_
  refine AO.op rfl (AOp.ilss rfl rfl (ltb rfl) rfl rfl ?_)
  refine AO.nil ?_
  change AC _ _ _ _
  refine AC.seq ?_
  refine AC.cond rfl (fun h1 => ?_) (fun h1 => ?_)
  · have hlt : k < ls.length := by simpa using h1
    obtain ⟨l, hl0⟩ : ∃ l, l = ls.getD k [] := ⟨_, rfl⟩
    have hll : l.length < 4611686018427387904 := hl l (by rw [hl0]; simp [hlt])
    refine AC.skip ?_
    change AC _ _ _ _
    refine AC.seq ?_
    refine AC.block ?_
    refine AC.seq ?_
    refine AC.region ?_
    first | refine AO.op rfl (AOp.indexDs rfl rfl (ltb rfl) rfl rfl el58 (by decide) (by omega) (by simp; omega) ?_) | refine AO.op rfl (AOp.indexSl rfl rfl (ltb rfl) rfl rfl el58 (by omega) (by simp; omega) ?_)
    refine AO.op rfl (AOp.loadEp rfl rfl (ltb rfl) rfl agg56 (y := row l) (by rw [hl0]; exact map_at row ls k [] hlt) ?_)
    refine AO.op rfl (AOp.assign rfl rfl (ltb rfl) rfl ?_)
    refine AO.nil ?_
    change AC _ _ _ _
    refine AC.seq ?_
    refine AC.seq ?_
    refine AC.region ?_
    refine AO.op rfl (AOp.move rfl rfl (ltb rfl) rfl ?_)
    first | refine AO.op rfl (AOp.lenDs (n := l.length) rfl rfl (ltb rfl) rfl el56 (by decide) (by simp) ?_) | refine AO.op rfl (AOp.lenOwn (n := l.length) rfl rfl (ltb rfl) rfl el56 rfl (by decide) (by simp) ?_)
    refine AO.op rfl (AOp.move rfl rfl (ltb rfl) rfl ?_)
    refine AO.op rfl (AOp.ineq rfl rfl (ltb rfl) rfl rfl ?_)
    refine AO.nil ?_
    change AC _ _ _ _
    refine AC.cond rfl (fun h2 => ?_) (fun h2 => ?_)
    · refine AC.seq ?_
      refine AC.region ?_
      refine AO.op rfl (AOp.assign rfl rfl (ltb rfl) rfl ?_)
      refine AO.nil ?_
      change AC _ _ _ _
      refine AC.ret ?_
      change RetQ _ _ _ .ret _
      refine retq rfl ?_
      exact grid_no hl0 hlt (by simp at h2; simp [rowB]; omega)
    · refine AC.skip ?_
      change AC _ _ _ _
      refine AC.seq ?_
      refine AC.region ?_
      refine AO.op rfl (AOp.move rfl rfl (ltb rfl) rfl ?_)
      first | refine AO.op rfl (AOp.lenDs (n := l.length) rfl rfl (ltb rfl) rfl el56 (by decide) (by simp) ?_) | refine AO.op rfl (AOp.lenOwn (n := l.length) rfl rfl (ltb rfl) rfl el56 rfl (by decide) (by simp) ?_)
      refine AO.op rfl (AOp.move rfl rfl (ltb rfl) rfl ?_)
      refine AO.nil ?_
      change AC _ _ _ _
      refine AC.block ?_
      refine AC.loopV (G := Nat) [1, 2, 11, 12, 13, 21, 22] [23] 0 (fun j => [(23, .d (dint (j : Nat)))]) (fun _ => _) (fun j => j ≤ l.length ∧ (l.take j).all (okF m) = true) (fun j => l.length - j) (0) rfl rfl rfl rfl ⟨by omega, rfl⟩ ?_
      rintro j ⟨hj1, hj2⟩
      refine AC.seq ?_
      refine AC.region ?_
      refine AO.op rfl (AOp.ilss rfl rfl (ltb rfl) rfl rfl ?_)
      refine AO.nil ?_
      change AC _ _ _ _
      refine AC.seq ?_
      refine AC.cond rfl (fun h3 => ?_) (fun h3 => ?_)
      · have hj : j < l.length := by simpa using h3
        obtain ⟨x, hx0⟩ : ∃ x, x = l.getD j 0 := ⟨_, rfl⟩
        refine AC.skip ?_
        change AC _ _ _ _
        refine AC.seq ?_
        refine AC.block ?_
        refine AC.seq ?_
        refine AC.region ?_
        first | refine AO.op rfl (AOp.indexDs rfl rfl (ltb rfl) rfl rfl el56 (by decide) (by omega) (by simp; omega) ?_) | refine AO.op rfl (AOp.indexSl rfl rfl (ltb rfl) rfl rfl el56 (by omega) (by simp; omega) ?_)
        refine AO.op rfl (AOp.loadEp rfl rfl (ltb rfl) rfl agg22 (y := dfl x) (by rw [hx0]; exact map_at dfl l j 0 hj) ?_)
        refine AO.op rfl (AOp.assign rfl rfl (ltb rfl) rfl ?_)
        refine AO.nil ?_
        change AC _ _ _ _
        refine AC.seq ?_
        refine AC.region ?_
        refine AO.op rfl (AOp.move rfl rfl (ltb rfl) rfl ?_)
        refine AO.op rfl (AOp.move rfl rfl (ltb rfl) rfl ?_)
        first | refine AO.op rfl (AOp.fneg rfl rfl (ltb rfl) rfl ?_) | refine AO.op rfl (AOp.ineg rfl rfl (ltb rfl) rfl rfl (by first | decide | (simp only [lo]; omega)) (by first | decide | (simp only [hi]; omega)) ?_)
        refine AO.op rfl (AOp.fgeq rfl rfl (ltb rfl) rfl rfl ?_)
        refine AO.op rfl (AOp.move rfl rfl (ltb rfl) rfl ?_)
        refine AO.guard rfl rfl rfl (ltb rfl) rfl (fun h4 => ?_) (fun h4 => ?_)
        · refine AOp.move rfl rfl (ltb rfl) rfl ?_
          refine AO.guardY rfl rfl rfl h4 (AOp.move rfl rfl (ltb rfl) rfl ?_)
          refine AO.guardY rfl rfl rfl h4 (AOp.fleq rfl rfl (ltb rfl) rfl rfl ?_)
          refine AO.op rfl (AOp.pick rfl rfl (ltb rfl) rfl h4 rfl ?_)
          refine AO.op rfl (AOp.bnot rfl rfl (ltb rfl) rfl ?_)
          refine AO.op rfl (AOp.move rfl rfl (ltb rfl) rfl ?_)
          refine AO.guard rfl rfl rfl (ltb rfl) rfl (fun h5 => ?_) (fun h5 => ?_)
          · refine AOp.move rfl rfl (ltb rfl) rfl ?_
            refine AO.guardY rfl rfl rfl h5 (AOp.move rfl rfl (ltb rfl) rfl ?_)
            refine AO.guardY rfl rfl rfl h5 (AOp.callD rfl rfl (ltb rfl) rfl (trunc _ (inR_nn m _ (by simpa using h5))) ?_)
            rintro _ rfl
            refine AO.guardY rfl rfl rfl h5 (AOp.fneq rfl rfl (ltb rfl) rfl rfl ?_)
            refine AO.op rfl (AOp.pickN rfl rfl (ltb rfl) rfl h5 rfl ?_)
            refine AO.nil ?_
            change AC _ _ _ _
            refine AC.cond rfl (fun h6 => ?_) (fun h6 => ?_)
            · refine AC.seq ?_
              refine AC.region ?_
              refine AO.op rfl (AOp.assign rfl rfl (ltb rfl) rfl ?_)
              refine AO.nil ?_
              change AC _ _ _ _
              refine AC.ret ?_
              change RetQ _ _ _ .ret _
              refine retq rfl ?_
              exact grid_no hl0 hlt (row_no hx0 hj (by simp_all [okF, inR]))
            · refine AC.skip ?_
              change AC _ _ _ _
              refine AC.region ?_
              refine AO.op rfl (AOp.iadd rfl rfl (ltb rfl) rfl rfl rfl (by simp only [lo]; omega) (by simp only [hi]; omega) ?_)
              refine AO.op rfl (AOp.move rfl rfl (ltb rfl) rfl ?_)
              refine AO.nil ?_
              refine ⟨rfl, j + 1, rfl, rfl, rfl, ⟨by omega, by rw [all_take_succ (okF m) l j 0 hj, hj2, ← hx0]; simp_all [okF, inR]⟩, (by first | omega | (dsimp only; omega))⟩
          · refine AO.guardN rfl rfl rfl (ltb rfl) rfl h5 ?_
            refine AO.guardN rfl rfl rfl (ltb rfl) rfl h5 ?_
            refine AO.guardN rfl rfl rfl (ltb rfl) rfl h5 ?_
            refine AO.op rfl (AOp.pick rfl rfl (ltb rfl) rfl h5 rfl ?_)
            refine AO.nil ?_
            change AC _ _ _ _
            refine AC.condT rfl rfl ?_
            refine AC.seq ?_
            refine AC.region ?_
            refine AO.op rfl (AOp.assign rfl rfl (ltb rfl) rfl ?_)
            refine AO.nil ?_
            change AC _ _ _ _
            refine AC.ret ?_
            change RetQ _ _ _ .ret _
            refine retq rfl ?_
            exact grid_no hl0 hlt (row_no hx0 hj (by simp_all [okF, inR]))
        · refine AO.guardN rfl rfl rfl (ltb rfl) rfl h4 ?_
          refine AO.guardN rfl rfl rfl (ltb rfl) rfl h4 ?_
          refine AO.op rfl (AOp.pickN rfl rfl (ltb rfl) rfl h4 rfl ?_)
          refine AO.op rfl (AOp.bnot rfl rfl (ltb rfl) rfl ?_)
          refine AO.op rfl (AOp.move rfl rfl (ltb rfl) rfl ?_)
          refine AO.guardN rfl rfl rfl (ltb rfl) rfl rfl ?_
          refine AO.guardN rfl rfl rfl (ltb rfl) rfl rfl ?_
          refine AO.guardN rfl rfl rfl (ltb rfl) rfl rfl ?_
          refine AO.guardN rfl rfl rfl (ltb rfl) rfl rfl ?_
          refine AO.op rfl (AOp.pick rfl rfl (ltb rfl) rfl rfl rfl ?_)
          refine AO.nil ?_
          change AC _ _ _ _
          refine AC.condT rfl rfl ?_
          refine AC.seq ?_
          refine AC.region ?_
          refine AO.op rfl (AOp.assign rfl rfl (ltb rfl) rfl ?_)
          refine AO.nil ?_
          change AC _ _ _ _
          refine AC.ret ?_
          change RetQ _ _ _ .ret _
          refine retq rfl ?_
          exact grid_no hl0 hlt (row_no hx0 hj (by simp_all [okF, inR]))
      · refine AC.exit ?_
        change AC _ _ _ _
        refine AC.region ?_
        refine AO.op rfl (AOp.iadd rfl rfl (ltb rfl) rfl rfl rfl (by simp only [lo]; omega) (by simp only [hi]; omega) ?_)
        refine AO.op rfl (AOp.move rfl rfl (ltb rfl) rfl ?_)
        refine AO.nil ?_
        have h2q : l.length = n := by simp at h2; omega
        refine ⟨rfl, k + 1, rfl, rfl, rfl, ⟨by omega, by rw [all_take_succ (rowB n m) ls k [] hlt, hk2, ← hl0]; unfold rowB; rw [← List.take_of_length_le (l := l) (i := j) (by simp at h3; omega), hj2]; simp [List.take_of_length_le (l := l) (i := j) (by simp at h3; omega), h2q]⟩, (by first | omega | (dsimp only; omega))⟩
  · refine AC.exit ?_
    change AC _ _ _ _
    refine AC.seq ?_
    refine AC.region ?_
    refine AO.op rfl (AOp.move rfl rfl (ltb rfl) rfl ?_)
    refine AO.op rfl (AOp.igtr rfl rfl (ltb rfl) rfl rfl ?_)
    refine AO.op rfl (AOp.assign rfl rfl (ltb rfl) rfl ?_)
    refine AO.nil ?_
    change AC _ _ _ _
    refine AC.ret ?_
    change RetQ _ _ _ .ret _
    refine retq rfl ?_
    rw [← List.take_of_length_le (l := ls) (i := k) (by simp at h1; omega)]
    simp [gridB, hk2]

def pts3 (pts : List (Nat × Nat × Nat)) : D := .ds 3 (pts.flatMap fun p => [dfl p.1, dfl p.2.1, dfl p.2.2])
theorem len3 (pts : List (Nat × Nat × Nat)) : (pts.flatMap fun p => [dfl p.1, dfl p.2.1, dfl p.2.2]).length = pts.length * 3 := by
  induction pts with
  | nil => rfl
  | cons p r ih => simp [ih]; omega
theorem flat3 (pts : List (Nat × Nat × Nat)) : ∀ (k : Nat), k < pts.length → ((pts.flatMap fun p => [dfl p.1, dfl p.2.1, dfl p.2.2]).drop ((k : Int).toNat * 3)).take 3 = [dfl (pts.getD k (0, 0, 0)).1, dfl (pts.getD k (0, 0, 0)).2.1, dfl (pts.getD k (0, 0, 0)).2.2] := by
  induction pts with
  | nil => intro k h; simp at h
  | cons p r ih =>
    intro k h
    cases k with
    | zero => rfl
    | succ k =>
      have := ih k (by simpa using h)
      have e : (((k + 1 : Nat) : Int).toNat) * 3 = ((k : Int).toNat * 3) + 1 + 1 + 1 := by omega
      rw [e]
      simpa using this

set_option maxRecDepth 100000 in
/-- pub-orthodrome/laws.off3 -/
theorem off3 (x y z : Nat) : FnD Try.prog 25 [.ag [dfl x, dfl y, dfl z]] (fun r => r = .ds 1 [dfl x, dfl y, dfl z]) := by
  refine FnD.of (by kernel_rfl) Try.func25 rfl Try.ntmps25 rfl (leb rfl) fun W ok => ?_
  refine AC.seq ?_
  refine AC.region ?_
  refine AO.op rfl (AOp.box rfl rfl (ltb rfl) rfl rfl ?_)
  refine AO.op rfl (AOp.assign rfl rfl (ltb rfl) rfl ?_)
  refine AO.nil ?_
  change AC _ _ _ _
  refine AC.seq ?_
  refine AC.region ?_
  first | refine AO.op rfl (AOp.fieldAddr rfl rfl (ltb rfl) rfl fo29_0 ?_) | refine AO.op rfl (AOp.fieldAddrPt rfl rfl (ltb rfl) rfl fo29_0 ?_) | refine AO.op rfl (AOp.fieldAddrEp rfl rfl (ltb rfl) rfl fo29_0 ?_)
  first | refine AO.op rfl (AOp.load1 rfl rfl (ltb rfl) rfl agg22 rfl rfl ?_) | refine AO.op rfl (AOp.loadEp rfl rfl (ltb rfl) rfl agg22 rfl ?_)
  first | refine AO.op rfl (AOp.fieldAddr rfl rfl (ltb rfl) rfl fo29_1 ?_) | refine AO.op rfl (AOp.fieldAddrPt rfl rfl (ltb rfl) rfl fo29_1 ?_) | refine AO.op rfl (AOp.fieldAddrEp rfl rfl (ltb rfl) rfl fo29_1 ?_)
  first | refine AO.op rfl (AOp.load1 rfl rfl (ltb rfl) rfl agg22 rfl rfl ?_) | refine AO.op rfl (AOp.loadEp rfl rfl (ltb rfl) rfl agg22 rfl ?_)
  first | refine AO.op rfl (AOp.fieldAddr rfl rfl (ltb rfl) rfl fo29_2 ?_) | refine AO.op rfl (AOp.fieldAddrPt rfl rfl (ltb rfl) rfl fo29_2 ?_) | refine AO.op rfl (AOp.fieldAddrEp rfl rfl (ltb rfl) rfl fo29_2 ?_)
  first | refine AO.op rfl (AOp.load1 rfl rfl (ltb rfl) rfl agg22 rfl rfl ?_) | refine AO.op rfl (AOp.loadEp rfl rfl (ltb rfl) rfl agg22 rfl ?_)
  refine AO.op rfl (AOp.buildSlice rfl rfl (ltb rfl) el56 zero22 rfl (leb rfl) rfl rfl rfl ?_)
  refine AO.op rfl (AOp.assign rfl rfl (ltb rfl) rfl ?_)
  refine AO.nil ?_
  change AC _ _ _ _
  refine AC.ret ?_
  change RetQ _ _ _ .ret _
  refine retq rfl ?_
  exact rfl

set_option maxRecDepth 100000 in
/-- pub-orthodrome/laws.whole3 -/
theorem whole3 (pts : List (Nat × Nat × Nat)) (hpl : pts.length < 1000000) : FnD Try.prog 12 [pts3 pts] (fun r => r = dbool (pts.all fun p => rowB 3 K20 [p.1, p.2.1, p.2.2])) := by
  refine FnD.of (by kernel_rfl) Try.func12 rfl Try.ntmps12 rfl (leb rfl) fun W ok => ?_
  refine AC.seq ?_
  refine AC.region ?_
  refine AO.op rfl (AOp.assign rfl rfl (ltb rfl) rfl ?_)
  refine AO.nil ?_
  change AC _ _ _ _
  refine AC.seq ?_
  refine AC.seq ?_
  refine AC.region ?_
  refine AO.op rfl (AOp.move rfl rfl (ltb rfl) rfl ?_)
  first | refine AO.op rfl (AOp.lenDs (n := pts.length) rfl rfl (ltb rfl) rfl el71 (by decide) (len3 pts) ?_) | refine AO.op rfl (AOp.lenOwn (n := pts.length) rfl rfl (ltb rfl) rfl el71 rfl (by decide) (len3 pts) ?_)
  refine AO.op rfl (AOp.move rfl rfl (ltb rfl) rfl ?_)
  refine AO.nil ?_
  change AC _ _ _ _
  refine AC.block ?_
  refine AC.loopV (G := Nat) [5, 6] [7] 0 (fun k => [(7, .d (dint (k : Nat)))]) (fun _ => _) (fun k => k ≤ pts.length ∧ (pts.take k).all (fun p => rowB 3 K20 [p.1, p.2.1, p.2.2]) = true) (fun k => pts.length - k) (0) rfl rfl rfl rfl ⟨by omega, rfl⟩ ?_
  rintro k ⟨hk, hk2⟩
  refine AC.seq ?_
  refine AC.region ?_
  refine AO.op rfl (AOp.ilss rfl rfl (ltb rfl) rfl rfl ?_)
  refine AO.nil ?_
  change AC _ _ _ _
  refine AC.seq ?_
  refine AC.cond rfl (fun h1 => ?_) (fun h1 => ?_)
  · have hlt : k < pts.length := by simpa using h1
    obtain ⟨p, hp0⟩ : ∃ p, p = pts.getD k (0, 0, 0) := ⟨_, rfl⟩
    refine AC.skip ?_
    change AC _ _ _ _
    refine AC.seq ?_
    refine AC.block ?_
    refine AC.seq ?_
    refine AC.region ?_
    first | refine AO.op rfl (AOp.indexDs rfl rfl (ltb rfl) rfl rfl el71 (by decide) (by omega) (by rw [len3]; omega) ?_) | refine AO.op rfl (AOp.indexSl rfl rfl (ltb rfl) rfl rfl el71 (by omega) (by rw [len3]; omega) ?_)
    refine AO.op rfl (AOp.loadEpN rfl rfl (ltb rfl) rfl agg29 size29 (ys := [dfl p.1, dfl p.2.1, dfl p.2.2]) (by rw [len3]; omega) (by rw [hp0]; exact flat3 pts k hlt) ?_)
    refine AO.op rfl (AOp.alloc rfl rfl (ltb rfl) zero29 rfl ?_)
    refine AO.op rfl (AOp.store rfl rfl rfl rfl size29 rfl rfl rfl (leb rfl) ?_)
    refine AO.nil ?_
    change AC _ _ _ _
    refine AC.seq ?_
    refine AC.region ?_
    first | refine AO.op rfl (AOp.loadN rfl rfl (ltb rfl) rfl agg29 size29 rfl (leb rfl) rfl ?_) | refine AO.op rfl (AOp.loadEpN rfl rfl (ltb rfl) rfl agg29 size29 (leb rfl) rfl ?_)
    refine AO.op rfl (AOp.callD rfl rfl (ltb rfl) rfl (off3 _ _ _) ?_)
    rintro _ rfl
    refine AO.op rfl (AOp.buildSlice rfl rfl (ltb rfl) el58 zero56 rfl (leb rfl) rfl rfl rfl ?_)
    refine AO.op rfl (AOp.callV rfl rfl (ltb rfl) rfl rfl (grid [[p.1, p.2.1, p.2.2]] 3 K20 (by simp) (by simp)) (by rintro _ rfl; rfl) ?_)
    rintro _ rfl
    refine AO.op rfl (AOp.bnot rfl rfl (ltb rfl) rfl ?_)
    refine AO.nil ?_
    change AC _ _ _ _
    refine AC.cond rfl (fun h2 => ?_) (fun h2 => ?_)
    · refine AC.seq ?_
      refine AC.region ?_
      refine AO.op rfl (AOp.assign rfl rfl (ltb rfl) rfl ?_)
      refine AO.nil ?_
      change AC _ _ _ _
      refine AC.ret ?_
      change RetQ _ _ _ .ret _
      refine retq rfl ?_
      rw [all_false_at _ pts k (0, 0, 0) hlt (by rw [← hp0]; simpa [gridB] using h2)]
    · refine AC.skip ?_
      change AC _ _ _ _
      refine AC.region ?_
      refine AO.op rfl (AOp.iadd rfl rfl (ltb rfl) rfl rfl rfl (by simp only [lo]; omega) (by simp only [hi]; omega) ?_)
      refine AO.op rfl (AOp.move rfl rfl (ltb rfl) rfl ?_)
      refine AO.nil ?_
      refine ⟨rfl, k + 1, rfl, rfl, rfl, ⟨by omega, by rw [all_take_succ _ pts k (0, 0, 0) hlt, hk2, ← hp0]; simp [gridB] at h2; simp [h2]⟩, (by first | omega | (dsimp only; omega))⟩
  · refine AC.exit ?_
    change AC _ _ _ _
    refine AC.seq ?_
    refine AC.region ?_
    refine AO.op rfl (AOp.assign rfl rfl (ltb rfl) rfl ?_)
    refine AO.nil ?_
    change AC _ _ _ _
    refine AC.ret ?_
    change RetQ _ _ _ .ret _
    refine retq rfl ?_
    rw [← List.take_of_length_le (l := pts) (i := k) (by simp at h1; omega), hk2]

set_option maxRecDepth 100000 in
/-- pub-orthodrome/impl.vec3 -/
theorem vec3 (x y z : Nat) : FnD Try.prog 37 [.ag [dfl x, dfl y, dfl z]] (fun r => r = .ag [dfl x, dfl y, dfl z]) := by
  refine FnD.of (by kernel_rfl) Try.func37 rfl Try.ntmps37 rfl (leb rfl) fun W ok => ?_
  refine AC.seq ?_
  refine AC.region ?_
  refine AO.op rfl (AOp.box rfl rfl (ltb rfl) rfl rfl ?_)
  refine AO.op rfl (AOp.alloc rfl rfl (ltb rfl) zero73 rfl ?_)
  refine AO.nil ?_
  change AC _ _ _ _
  refine AC.seq ?_
  refine AC.region ?_
  first | refine AO.op rfl (AOp.fieldAddr rfl rfl (ltb rfl) rfl fo29_0 ?_) | refine AO.op rfl (AOp.fieldAddrPt rfl rfl (ltb rfl) rfl fo29_0 ?_) | refine AO.op rfl (AOp.fieldAddrEp rfl rfl (ltb rfl) rfl fo29_0 ?_)
  first | refine AO.op rfl (AOp.load1 rfl rfl (ltb rfl) rfl agg22 rfl rfl ?_) | refine AO.op rfl (AOp.loadEp rfl rfl (ltb rfl) rfl agg22 rfl ?_)
  first | refine AO.op rfl (AOp.fieldAddr rfl rfl (ltb rfl) rfl fo29_1 ?_) | refine AO.op rfl (AOp.fieldAddrPt rfl rfl (ltb rfl) rfl fo29_1 ?_) | refine AO.op rfl (AOp.fieldAddrEp rfl rfl (ltb rfl) rfl fo29_1 ?_)
  first | refine AO.op rfl (AOp.load1 rfl rfl (ltb rfl) rfl agg22 rfl rfl ?_) | refine AO.op rfl (AOp.loadEp rfl rfl (ltb rfl) rfl agg22 rfl ?_)
  first | refine AO.op rfl (AOp.fieldAddr rfl rfl (ltb rfl) rfl fo29_2 ?_) | refine AO.op rfl (AOp.fieldAddrPt rfl rfl (ltb rfl) rfl fo29_2 ?_) | refine AO.op rfl (AOp.fieldAddrEp rfl rfl (ltb rfl) rfl fo29_2 ?_)
  first | refine AO.op rfl (AOp.load1 rfl rfl (ltb rfl) rfl agg22 rfl rfl ?_) | refine AO.op rfl (AOp.loadEp rfl rfl (ltb rfl) rfl agg22 rfl ?_)
  refine AO.op rfl (AOp.build rfl rfl (ltb rfl) zero73 rfl places73 rfl rfl ?_)
  refine AO.op rfl (AOp.store rfl rfl rfl rfl size73 rfl rfl rfl (leb rfl) ?_)
  refine AO.nil ?_
  change AC _ _ _ _
  refine AC.ret ?_
  change RetQ _ _ _ .ret _
  refine retq rfl ?_
  exact rfl

set_option maxRecDepth 100000 in
/-- pub-orthodrome/impl.plainP3 -/
theorem plainP3 (x y z : Nat) : FnD Try.prog 35 [.ag [dfl x, dfl y, dfl z]] (fun r => r = .ag [dfl x, dfl y, dfl z]) := by
  refine FnD.of (by kernel_rfl) Try.func35 rfl Try.ntmps35 rfl (leb rfl) fun W ok => ?_
  refine AC.seq ?_
  refine AC.region ?_
  refine AO.op rfl (AOp.box rfl rfl (ltb rfl) rfl rfl ?_)
  refine AO.op rfl (AOp.alloc rfl rfl (ltb rfl) zero29 rfl ?_)
  refine AO.nil ?_
  change AC _ _ _ _
  refine AC.seq ?_
  refine AC.region ?_
  first | refine AO.op rfl (AOp.fieldAddr rfl rfl (ltb rfl) rfl fo73_0 ?_) | refine AO.op rfl (AOp.fieldAddrPt rfl rfl (ltb rfl) rfl fo73_0 ?_) | refine AO.op rfl (AOp.fieldAddrEp rfl rfl (ltb rfl) rfl fo73_0 ?_)
  first | refine AO.op rfl (AOp.load1 rfl rfl (ltb rfl) rfl agg22 rfl rfl ?_) | refine AO.op rfl (AOp.loadEp rfl rfl (ltb rfl) rfl agg22 rfl ?_)
  first | refine AO.op rfl (AOp.fieldAddr rfl rfl (ltb rfl) rfl fo73_1 ?_) | refine AO.op rfl (AOp.fieldAddrPt rfl rfl (ltb rfl) rfl fo73_1 ?_) | refine AO.op rfl (AOp.fieldAddrEp rfl rfl (ltb rfl) rfl fo73_1 ?_)
  first | refine AO.op rfl (AOp.load1 rfl rfl (ltb rfl) rfl agg22 rfl rfl ?_) | refine AO.op rfl (AOp.loadEp rfl rfl (ltb rfl) rfl agg22 rfl ?_)
  first | refine AO.op rfl (AOp.fieldAddr rfl rfl (ltb rfl) rfl fo73_2 ?_) | refine AO.op rfl (AOp.fieldAddrPt rfl rfl (ltb rfl) rfl fo73_2 ?_) | refine AO.op rfl (AOp.fieldAddrEp rfl rfl (ltb rfl) rfl fo73_2 ?_)
  first | refine AO.op rfl (AOp.load1 rfl rfl (ltb rfl) rfl agg22 rfl rfl ?_) | refine AO.op rfl (AOp.loadEp rfl rfl (ltb rfl) rfl agg22 rfl ?_)
  refine AO.op rfl (AOp.build rfl rfl (ltb rfl) zero29 rfl places29 rfl rfl ?_)
  refine AO.op rfl (AOp.store rfl rfl rfl rfl size29 rfl rfl rfl (leb rfl) ?_)
  refine AO.nil ?_
  change AC _ _ _ _
  refine AC.ret ?_
  change RetQ _ _ _ .ret _
  refine retq rfl ?_
  exact rfl

set_option maxRecDepth 100000 in
/-- pub-orthodrome/pub/gonum/spatial/r3.Scale -/
theorem scale3 (f x y z a b c : Nat) (ha : floatBits .mul .f64 f x = some a) (hb : floatBits .mul .f64 f y = some b) (hc : floatBits .mul .f64 f z = some c) : FnD Try.prog 42 [dfl f, .ag [dfl x, dfl y, dfl z]] (fun r => r = .ag [dfl a, dfl b, dfl c]) := by
  refine FnD.of (by kernel_rfl) Try.func42 rfl Try.ntmps42 rfl (leb rfl) fun W ok => ?_
  refine AC.seq ?_
  refine AC.region ?_
  refine AO.op rfl (AOp.box rfl rfl (ltb rfl) rfl rfl ?_)
  refine AO.op rfl (AOp.alloc rfl rfl (ltb rfl) zero73 rfl ?_)
  refine AO.nil ?_
  change AC _ _ _ _
  refine AC.seq ?_
  refine AC.region ?_
  refine AO.op rfl (AOp.move rfl rfl (ltb rfl) rfl ?_)
  first | refine AO.op rfl (AOp.fieldAddr rfl rfl (ltb rfl) rfl fo73_0 ?_) | refine AO.op rfl (AOp.fieldAddrPt rfl rfl (ltb rfl) rfl fo73_0 ?_) | refine AO.op rfl (AOp.fieldAddrEp rfl rfl (ltb rfl) rfl fo73_0 ?_)
  first | refine AO.op rfl (AOp.load1 rfl rfl (ltb rfl) rfl agg22 rfl rfl ?_) | refine AO.op rfl (AOp.loadEp rfl rfl (ltb rfl) rfl agg22 rfl ?_)
  refine AO.op rfl (AOp.farith rfl rfl (ltb rfl) rfl rfl (by assumption) ?_)
  refine AO.op rfl (AOp.move rfl rfl (ltb rfl) rfl ?_)
  first | refine AO.op rfl (AOp.fieldAddr rfl rfl (ltb rfl) rfl fo73_1 ?_) | refine AO.op rfl (AOp.fieldAddrPt rfl rfl (ltb rfl) rfl fo73_1 ?_) | refine AO.op rfl (AOp.fieldAddrEp rfl rfl (ltb rfl) rfl fo73_1 ?_)
  first | refine AO.op rfl (AOp.load1 rfl rfl (ltb rfl) rfl agg22 rfl rfl ?_) | refine AO.op rfl (AOp.loadEp rfl rfl (ltb rfl) rfl agg22 rfl ?_)
  refine AO.op rfl (AOp.farith rfl rfl (ltb rfl) rfl rfl (by assumption) ?_)
  refine AO.op rfl (AOp.move rfl rfl (ltb rfl) rfl ?_)
  first | refine AO.op rfl (AOp.fieldAddr rfl rfl (ltb rfl) rfl fo73_2 ?_) | refine AO.op rfl (AOp.fieldAddrPt rfl rfl (ltb rfl) rfl fo73_2 ?_) | refine AO.op rfl (AOp.fieldAddrEp rfl rfl (ltb rfl) rfl fo73_2 ?_)
  first | refine AO.op rfl (AOp.load1 rfl rfl (ltb rfl) rfl agg22 rfl rfl ?_) | refine AO.op rfl (AOp.loadEp rfl rfl (ltb rfl) rfl agg22 rfl ?_)
  refine AO.op rfl (AOp.farith rfl rfl (ltb rfl) rfl rfl (by assumption) ?_)
  refine AO.op rfl (AOp.build rfl rfl (ltb rfl) zero73 rfl places73 rfl rfl ?_)
  refine AO.op rfl (AOp.store rfl rfl rfl rfl size73 rfl rfl rfl (leb rfl) ?_)
  refine AO.nil ?_
  change AC _ _ _ _
  refine AC.ret ?_
  change RetQ _ _ _ .ret _
  refine retq rfl ?_
  exact rfl

set_option maxRecDepth 100000 in
/-- pub-orthodrome/impl.Scale3 -/
theorem implScale3 (f x y z a b c : Nat) (ha : floatBits .mul .f64 f x = some a) (hb : floatBits .mul .f64 f y = some b) (hc : floatBits .mul .f64 f z = some c) : FnD Try.prog 18 [dfl f, .ag [dfl x, dfl y, dfl z]] (fun r => r = .ag [dfl a, dfl b, dfl c]) := by
  refine FnD.of (by kernel_rfl) Try.func18 rfl Try.ntmps18 rfl (leb rfl) fun W ok => ?_
  refine AC.seq ?_
  refine AC.region ?_
  refine AO.op rfl (AOp.box rfl rfl (ltb rfl) rfl rfl ?_)
  refine AO.op rfl (AOp.alloc rfl rfl (ltb rfl) zero29 rfl ?_)
  refine AO.nil ?_
  change AC _ _ _ _
  refine AC.seq ?_
  refine AC.region ?_
  refine AO.op rfl (AOp.move rfl rfl (ltb rfl) rfl ?_)
  first | refine AO.op rfl (AOp.loadN rfl rfl (ltb rfl) rfl agg29 size29 rfl (leb rfl) rfl ?_) | refine AO.op rfl (AOp.loadEpN rfl rfl (ltb rfl) rfl agg29 size29 (leb rfl) rfl ?_)
  refine AO.op rfl (AOp.callV rfl rfl (ltb rfl) rfl rfl (vec3 _ _ _) (by rintro _ rfl; rfl) ?_)
  rintro _ rfl
  refine AO.op rfl (AOp.callD rfl rfl (ltb rfl) rfl (scale3 _ _ _ _ _ _ _ ha hb hc) ?_)
  rintro _ rfl
  refine AO.op rfl (AOp.callD rfl rfl (ltb rfl) rfl (plainP3 _ _ _) ?_)
  rintro _ rfl
  refine AO.op rfl (AOp.store rfl rfl rfl rfl size29 rfl rfl rfl (leb rfl) ?_)
  refine AO.nil ?_
  change AC _ _ _ _
  refine AC.ret ?_
  change RetQ _ _ _ .ret _
  refine retq rfl ?_
  exact rfl

theorem mul_bound {f m : Int} (f1 : -1048576 ≤ f) (f2 : f ≤ 1048576) (m1 : -1048576 ≤ m) (m2 : m ≤ 1048576) : -1099511627776 ≤ f * m ∧ f * m ≤ 1099511627776 := by
  have h1 : (f + 1048576) * (m + 1048576) ≥ 0 := Int.mul_nonneg (by omega) (by omega)
  have h2 : (1048576 - f) * (1048576 - m) ≥ 0 := Int.mul_nonneg (by omega) (by omega)
  have h3 : (f + 1048576) * (1048576 - m) ≥ 0 := Int.mul_nonneg (by omega) (by omega)
  have h4 : (1048576 - f) * (m + 1048576) ≥ 0 := Int.mul_nonneg (by omega) (by omega)
  simp only [Int.add_mul, Int.mul_add, Int.sub_mul, Int.mul_sub] at h1 h2 h3 h4
  omega

set_option maxRecDepth 100000 in
/-- pub-orthodrome/laws.FnScale3 -/
theorem lawScale3 (f : Int) (hf1 : -9223372036854775808 ≤ f) (hf2 : f ≤ 9223372036854775807) (x y z : Nat) : FnD Try.prog 5 [dint f, .ag [dfl x, dfl y, dfl z]] (fun r => r = dbool true) := by
  refine FnD.of (by kernel_rfl) Try.func5 rfl Try.ntmps5 rfl (leb rfl) fun W ok => ?_
  refine AC.seq ?_
  refine AC.region ?_
  refine AO.op rfl (AOp.box rfl rfl (ltb rfl) rfl rfl ?_)
  refine AO.op rfl (AOp.assign rfl rfl (ltb rfl) rfl ?_)
  refine AO.nil ?_
  change AC _ _ _ _
  refine AC.seq ?_
  refine AC.seq ?_
  refine AC.region ?_
  first | refine AO.op rfl (AOp.loadN rfl rfl (ltb rfl) rfl agg29 size29 rfl (leb rfl) rfl ?_) | refine AO.op rfl (AOp.loadEpN rfl rfl (ltb rfl) rfl agg29 size29 (leb rfl) rfl ?_)
  refine AO.op rfl (AOp.buildSlice rfl rfl (ltb rfl) el71 zero29 rfl (leb rfl) rfl rfl rfl ?_)
  refine AO.op rfl (AOp.callV rfl rfl (ltb rfl) rfl rfl (whole3 [(x, y, z)] (by simp)) (by rintro _ rfl; rfl) ?_)
  rintro _ rfl
  refine AO.op rfl (AOp.bnot rfl rfl (ltb rfl) rfl ?_)
  refine AO.op rfl (AOp.move rfl rfl (ltb rfl) rfl ?_)
  refine AO.guard rfl rfl rfl (ltb rfl) rfl (fun h1 => ?_) (fun h1 => ?_)
  · refine AOp.move rfl rfl (ltb rfl) rfl ?_
    refine AO.guardY rfl rfl rfl h1 (AOp.ilss rfl rfl (ltb rfl) rfl rfl ?_)
    refine AO.op rfl (AOp.pickN rfl rfl (ltb rfl) rfl h1 rfl ?_)
    refine AO.op rfl (AOp.move rfl rfl (ltb rfl) rfl ?_)
    refine AO.guard rfl rfl rfl (ltb rfl) rfl (fun h2 => ?_) (fun h2 => ?_)
    · refine AOp.move rfl rfl (ltb rfl) rfl ?_
      refine AO.guardY rfl rfl rfl h2 (AOp.igtr rfl rfl (ltb rfl) rfl rfl ?_)
      refine AO.op rfl (AOp.pickN rfl rfl (ltb rfl) rfl h2 rfl ?_)
      refine AO.nil ?_
      change AC _ _ _ _
      refine AC.cond rfl (fun h3 => ?_) (fun h3 => ?_)
      · refine AC.seq ?_
        refine AC.region ?_
        refine AO.op rfl (AOp.assign rfl rfl (ltb rfl) rfl ?_)
        refine AO.nil ?_
        change AC _ _ _ _
        refine AC.ret ?_
        change RetQ _ _ _ .ret _
        refine retq rfl ?_
        first | rfl | (simp_all; done)
      · refine AC.skip ?_
        change AC _ _ _ _
        refine AC.seq ?_
        refine AC.region ?_
        have hw : rowB 3 K20 [x, y, z] = true := by simpa using h1
        obtain ⟨hx, hy, hz⟩ : Flt.okF K20 x = true ∧ Flt.okF K20 y = true ∧ Flt.okF K20 z = true := by simpa [rowB] using hw
        obtain ⟨m, im, m1, m2⟩ := Flt.okF_K20 hx
        obtain ⟨n, iN, n1, n2⟩ := Flt.okF_K20 hy
        obtain ⟨o, io, o1, o2⟩ := Flt.okF_K20 hz
        have f1 : -1048576 ≤ f := by simpa using h2
        have f2 : f ≤ 1048576 := by simpa using h3
        have bm := mul_bound f1 f2 m1 m2
        have bn := mul_bound f1 f2 n1 n2
        have bo := mul_bound f1 f2 o1 o2
        have iff := Flt.ofInt_int (n := f) (by omega)
        obtain ⟨a, ha, ia⟩ := Flt.mul_int iff im (by omega)
        obtain ⟨b, hb, ib⟩ := Flt.mul_int iff iN (by omega)
        obtain ⟨c, hc, ic⟩ := Flt.mul_int iff io (by omega)
        have cm := Flt.f2i_int im (by simp only [lo]; omega) (by simp only [hi]; omega)
        have cn := Flt.f2i_int iN (by simp only [lo]; omega) (by simp only [hi]; omega)
        have co := Flt.f2i_int io (by simp only [lo]; omega) (by simp only [hi]; omega)
        have ea := Flt.feq_int ia (Flt.ofInt_int (n := f * m) (by omega))
        have eb := Flt.feq_int ib (Flt.ofInt_int (n := f * n) (by omega))
        have ec := Flt.feq_int ic (Flt.ofInt_int (n := f * o) (by omega))
        refine AO.op rfl (AOp.move rfl rfl (ltb rfl) rfl ?_)
        refine AO.op rfl (AOp.i2f rfl rfl (ltb rfl) rfl Try.underlying3 Try.underlying22 ?_)
        first | refine AO.op rfl (AOp.loadN rfl rfl (ltb rfl) rfl agg29 size29 rfl (leb rfl) rfl ?_) | refine AO.op rfl (AOp.loadEpN rfl rfl (ltb rfl) rfl agg29 size29 (leb rfl) rfl ?_)
        refine AO.op rfl (AOp.callD rfl rfl (ltb rfl) rfl (implScale3 _ _ _ _ a b c ha hb hc) ?_)
        rintro _ rfl
        refine AO.op rfl (AOp.alloc rfl rfl (ltb rfl) zero29 rfl ?_)
        refine AO.op rfl (AOp.store rfl rfl rfl rfl size29 rfl rfl rfl (leb rfl) ?_)
        refine AO.nil ?_
        change AC _ _ _ _
        refine AC.seq ?_
        refine AC.region ?_
        first | refine AO.op rfl (AOp.fieldAddr rfl rfl (ltb rfl) rfl fo29_0 ?_) | refine AO.op rfl (AOp.fieldAddrPt rfl rfl (ltb rfl) rfl fo29_0 ?_) | refine AO.op rfl (AOp.fieldAddrEp rfl rfl (ltb rfl) rfl fo29_0 ?_)
        first | refine AO.op rfl (AOp.load1 rfl rfl (ltb rfl) rfl agg22 rfl rfl ?_) | refine AO.op rfl (AOp.loadEp rfl rfl (ltb rfl) rfl agg22 rfl ?_)
        refine AO.op rfl (AOp.move rfl rfl (ltb rfl) rfl ?_)
        first | refine AO.op rfl (AOp.fieldAddr rfl rfl (ltb rfl) rfl fo29_0 ?_) | refine AO.op rfl (AOp.fieldAddrPt rfl rfl (ltb rfl) rfl fo29_0 ?_) | refine AO.op rfl (AOp.fieldAddrEp rfl rfl (ltb rfl) rfl fo29_0 ?_)
        first | refine AO.op rfl (AOp.load1 rfl rfl (ltb rfl) rfl agg22 rfl rfl ?_) | refine AO.op rfl (AOp.loadEp rfl rfl (ltb rfl) rfl agg22 rfl ?_)
        refine AO.op rfl (AOp.f2i rfl rfl (ltb rfl) rfl Try.underlying22 Try.underlying3 (by assumption) ?_)
        refine AO.op rfl (AOp.imul rfl rfl (ltb rfl) rfl rfl rfl (by simp only [lo]; omega) (by simp only [hi]; omega) ?_)
        refine AO.op rfl (AOp.i2f rfl rfl (ltb rfl) rfl Try.underlying3 Try.underlying22 ?_)
        refine AO.op rfl (AOp.feql rfl rfl (ltb rfl) rfl rfl ?_)
        refine AO.op rfl (AOp.move rfl rfl (ltb rfl) rfl ?_)
        refine AO.guard rfl rfl rfl (ltb rfl) rfl (fun h4 => ?_) (fun h4 => ?_)
        · first | refine AOp.fieldAddr rfl rfl (ltb rfl) rfl fo29_1 ?_ | refine AOp.fieldAddrPt rfl rfl (ltb rfl) rfl fo29_1 ?_ | refine AOp.fieldAddrEp rfl rfl (ltb rfl) rfl fo29_1 ?_
          first | refine AO.guardY rfl rfl rfl h4 (AOp.load1 rfl rfl (ltb rfl) rfl agg22 rfl rfl ?_) | refine AO.guardY rfl rfl rfl h4 (AOp.loadEp rfl rfl (ltb rfl) rfl agg22 rfl ?_)
          refine AO.guardY rfl rfl rfl h4 (AOp.move rfl rfl (ltb rfl) rfl ?_)
          first | refine AO.guardY rfl rfl rfl h4 (AOp.fieldAddr rfl rfl (ltb rfl) rfl fo29_1 ?_) | refine AO.guardY rfl rfl rfl h4 (AOp.fieldAddrPt rfl rfl (ltb rfl) rfl fo29_1 ?_) | refine AO.guardY rfl rfl rfl h4 (AOp.fieldAddrEp rfl rfl (ltb rfl) rfl fo29_1 ?_)
          first | refine AO.guardY rfl rfl rfl h4 (AOp.load1 rfl rfl (ltb rfl) rfl agg22 rfl rfl ?_) | refine AO.guardY rfl rfl rfl h4 (AOp.loadEp rfl rfl (ltb rfl) rfl agg22 rfl ?_)
          refine AO.guardY rfl rfl rfl h4 (AOp.f2i rfl rfl (ltb rfl) rfl Try.underlying22 Try.underlying3 (by assumption) ?_)
          refine AO.guardY rfl rfl rfl h4 (AOp.imul rfl rfl (ltb rfl) rfl rfl rfl (by simp only [lo]; omega) (by simp only [hi]; omega) ?_)
          refine AO.guardY rfl rfl rfl h4 (AOp.i2f rfl rfl (ltb rfl) rfl Try.underlying3 Try.underlying22 ?_)
          refine AO.guardY rfl rfl rfl h4 (AOp.feql rfl rfl (ltb rfl) rfl rfl ?_)
          refine AO.op rfl (AOp.pick rfl rfl (ltb rfl) rfl h4 rfl ?_)
          refine AO.op rfl (AOp.move rfl rfl (ltb rfl) rfl ?_)
          refine AO.guard rfl rfl rfl (ltb rfl) rfl (fun h5 => ?_) (fun h5 => ?_)
          · first | refine AOp.fieldAddr rfl rfl (ltb rfl) rfl fo29_2 ?_ | refine AOp.fieldAddrPt rfl rfl (ltb rfl) rfl fo29_2 ?_ | refine AOp.fieldAddrEp rfl rfl (ltb rfl) rfl fo29_2 ?_
            first | refine AO.guardY rfl rfl rfl h5 (AOp.load1 rfl rfl (ltb rfl) rfl agg22 rfl rfl ?_) | refine AO.guardY rfl rfl rfl h5 (AOp.loadEp rfl rfl (ltb rfl) rfl agg22 rfl ?_)
            refine AO.guardY rfl rfl rfl h5 (AOp.move rfl rfl (ltb rfl) rfl ?_)
            first | refine AO.guardY rfl rfl rfl h5 (AOp.fieldAddr rfl rfl (ltb rfl) rfl fo29_2 ?_) | refine AO.guardY rfl rfl rfl h5 (AOp.fieldAddrPt rfl rfl (ltb rfl) rfl fo29_2 ?_) | refine AO.guardY rfl rfl rfl h5 (AOp.fieldAddrEp rfl rfl (ltb rfl) rfl fo29_2 ?_)
            first | refine AO.guardY rfl rfl rfl h5 (AOp.load1 rfl rfl (ltb rfl) rfl agg22 rfl rfl ?_) | refine AO.guardY rfl rfl rfl h5 (AOp.loadEp rfl rfl (ltb rfl) rfl agg22 rfl ?_)
            refine AO.guardY rfl rfl rfl h5 (AOp.f2i rfl rfl (ltb rfl) rfl Try.underlying22 Try.underlying3 (by assumption) ?_)
            refine AO.guardY rfl rfl rfl h5 (AOp.imul rfl rfl (ltb rfl) rfl rfl rfl (by simp only [lo]; omega) (by simp only [hi]; omega) ?_)
            refine AO.guardY rfl rfl rfl h5 (AOp.i2f rfl rfl (ltb rfl) rfl Try.underlying3 Try.underlying22 ?_)
            refine AO.guardY rfl rfl rfl h5 (AOp.feql rfl rfl (ltb rfl) rfl rfl ?_)
            refine AO.op rfl (AOp.pick rfl rfl (ltb rfl) rfl h5 rfl ?_)
            refine AO.op rfl (AOp.assign rfl rfl (ltb rfl) rfl ?_)
            refine AO.nil ?_
            change AC _ _ _ _
            refine AC.ret ?_
            change RetQ _ _ _ .ret _
            refine retq rfl ?_
            first | rfl | (simp_all; done)
          · refine AO.guardN rfl rfl rfl (ltb rfl) rfl h5 ?_
            refine AO.guardN rfl rfl rfl (ltb rfl) rfl h5 ?_
            refine AO.guardN rfl rfl rfl (ltb rfl) rfl h5 ?_
            refine AO.guardN rfl rfl rfl (ltb rfl) rfl h5 ?_
            refine AO.guardN rfl rfl rfl (ltb rfl) rfl h5 ?_
            refine AO.guardN rfl rfl rfl (ltb rfl) rfl h5 ?_
            refine AO.guardN rfl rfl rfl (ltb rfl) rfl h5 ?_
            refine AO.guardN rfl rfl rfl (ltb rfl) rfl h5 ?_
            refine AO.op rfl (AOp.pickN rfl rfl (ltb rfl) rfl h5 rfl ?_)
            refine AO.op rfl (AOp.assign rfl rfl (ltb rfl) rfl ?_)
            refine AO.nil ?_
            change AC _ _ _ _
            refine AC.ret ?_
            change RetQ _ _ _ .ret _
            refine retq rfl ?_
            first | rfl | (simp_all; done)
        · refine AO.guardN rfl rfl rfl (ltb rfl) rfl h4 ?_
          refine AO.guardN rfl rfl rfl (ltb rfl) rfl h4 ?_
          refine AO.guardN rfl rfl rfl (ltb rfl) rfl h4 ?_
          refine AO.guardN rfl rfl rfl (ltb rfl) rfl h4 ?_
          refine AO.guardN rfl rfl rfl (ltb rfl) rfl h4 ?_
          refine AO.guardN rfl rfl rfl (ltb rfl) rfl h4 ?_
          refine AO.guardN rfl rfl rfl (ltb rfl) rfl h4 ?_
          refine AO.guardN rfl rfl rfl (ltb rfl) rfl h4 ?_
          refine AO.op rfl (AOp.pickN rfl rfl (ltb rfl) rfl h4 rfl ?_)
          refine AO.op rfl (AOp.move rfl rfl (ltb rfl) rfl ?_)
          refine AO.guardN rfl rfl rfl (ltb rfl) rfl rfl ?_
          refine AO.guardN rfl rfl rfl (ltb rfl) rfl rfl ?_
          refine AO.guardN rfl rfl rfl (ltb rfl) rfl rfl ?_
          refine AO.guardN rfl rfl rfl (ltb rfl) rfl rfl ?_
          refine AO.guardN rfl rfl rfl (ltb rfl) rfl rfl ?_
          refine AO.guardN rfl rfl rfl (ltb rfl) rfl rfl ?_
          refine AO.guardN rfl rfl rfl (ltb rfl) rfl rfl ?_
          refine AO.guardN rfl rfl rfl (ltb rfl) rfl rfl ?_
          refine AO.guardN rfl rfl rfl (ltb rfl) rfl rfl ?_
          refine AO.op rfl (AOp.pickN rfl rfl (ltb rfl) rfl rfl rfl ?_)
          refine AO.op rfl (AOp.assign rfl rfl (ltb rfl) rfl ?_)
          refine AO.nil ?_
          change AC _ _ _ _
          refine AC.ret ?_
          change RetQ _ _ _ .ret _
          refine retq rfl ?_
          first | rfl | (simp_all; done)
    · refine AO.guardN rfl rfl rfl (ltb rfl) rfl h2 ?_
      refine AO.op rfl (AOp.pick rfl rfl (ltb rfl) rfl h2 rfl ?_)
      refine AO.nil ?_
      change AC _ _ _ _
      refine AC.condT rfl rfl ?_
      refine AC.seq ?_
      refine AC.region ?_
      refine AO.op rfl (AOp.assign rfl rfl (ltb rfl) rfl ?_)
      refine AO.nil ?_
      change AC _ _ _ _
      refine AC.ret ?_
      change RetQ _ _ _ .ret _
      refine retq rfl ?_
      first | rfl | (simp_all; done)
  · refine AO.guardN rfl rfl rfl (ltb rfl) rfl h1 ?_
    refine AO.op rfl (AOp.pick rfl rfl (ltb rfl) rfl h1 rfl ?_)
    refine AO.op rfl (AOp.move rfl rfl (ltb rfl) rfl ?_)
    refine AO.guardN rfl rfl rfl (ltb rfl) rfl rfl ?_
    refine AO.guardN rfl rfl rfl (ltb rfl) rfl rfl ?_
    refine AO.op rfl (AOp.pick rfl rfl (ltb rfl) rfl rfl rfl ?_)
    refine AO.nil ?_
    change AC _ _ _ _
    refine AC.condT rfl rfl ?_
    refine AC.seq ?_
    refine AC.region ?_
    refine AO.op rfl (AOp.assign rfl rfl (ltb rfl) rfl ?_)
    refine AO.nil ?_
    change AC _ _ _ _
    refine AC.ret ?_
    change RetQ _ _ _ .ret _
    refine retq rfl ?_
    first | rfl | (simp_all; done)

end Go.Proofs.Ytljfehlajemhaaa.Wk
