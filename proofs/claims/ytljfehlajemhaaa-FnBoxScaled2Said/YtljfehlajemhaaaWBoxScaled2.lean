/- Proved: what functions of this seat answer, as contracts over the memory view; no conditions beyond those that each theorem names. -/
import Derived.Test.YtljfehlajemhaaaScaled
import Derived.Test.YtljfehlajemhaaaProg
namespace Go.Proofs.Ytljfehlajemhaaa.Wk
open Go.Vm
set_option linter.unusedVariables false
set_option linter.unusedSimpArgs false
theorem agg22 : aggT Try.prog 22 = some false := by kernel_rfl
theorem agg24 : aggT Try.prog 24 = some true := by kernel_rfl
theorem agg47 : aggT Try.prog 47 = some true := by kernel_rfl
theorem agg56 : aggT Try.prog 56 = some false := by kernel_rfl
theorem agg68 : aggT Try.prog 68 = some true := by kernel_rfl
theorem agg81 : aggT Try.prog 81 = some true := by kernel_rfl
theorem el56 : elemT Try.prog 56 = some (22, 1) := by kernel_rfl
theorem el58 : elemT Try.prog 58 = some (56, 1) := by kernel_rfl
theorem el66 : elemT Try.prog 66 = some (24, 2) := by kernel_rfl
theorem fo24_0 : fieldOff Try.prog 24 0 = some 0 := by kernel_rfl
theorem fo24_1 : fieldOff Try.prog 24 1 = some 1 := by kernel_rfl
theorem fo47_0 : fieldOff Try.prog 47 0 = some 0 := by kernel_rfl
theorem fo47_1 : fieldOff Try.prog 47 1 = some 2 := by kernel_rfl
theorem fo68_0 : fieldOff Try.prog 68 0 = some 0 := by kernel_rfl
theorem fo68_1 : fieldOff Try.prog 68 1 = some 1 := by kernel_rfl
theorem fo81_0 : fieldOff Try.prog 81 0 = some 0 := by kernel_rfl
theorem fo81_1 : fieldOff Try.prog 81 1 = some 2 := by kernel_rfl
theorem mixed : Try.prog.follows .mixedOrders = true := by kernel_rfl
def pl24 : Nat → Option (Nat × Nat) := fun i => ([(0, 1), (1, 1)] : List (Nat × Nat))[i]?
theorem places24 : placesT Try.prog 24 = some pl24 := by kernel_rfl
def pl47 : Nat → Option (Nat × Nat) := fun i => ([(0, 2), (2, 2)] : List (Nat × Nat))[i]?
theorem places47 : placesT Try.prog 47 = some pl47 := by kernel_rfl
def pl68 : Nat → Option (Nat × Nat) := fun i => ([(0, 1), (1, 1)] : List (Nat × Nat))[i]?
theorem places68 : placesT Try.prog 68 = some pl68 := by kernel_rfl
def pl81 : Nat → Option (Nat × Nat) := fun i => ([(0, 2), (2, 2)] : List (Nat × Nat))[i]?
theorem places81 : placesT Try.prog 81 = some pl81 := by kernel_rfl
theorem size24 : sizeT Try.prog 24 = some 2 := by kernel_rfl
theorem size47 : sizeT Try.prog 47 = some 4 := by kernel_rfl
theorem size68 : sizeT Try.prog 68 = some 2 := by kernel_rfl
theorem size81 : sizeT Try.prog 81 = some 4 := by kernel_rfl
theorem zero22 : (Try.prog.info? 22).map (·.zero) = some (some (.float .f64 0)) := by kernel_rfl
theorem zero24 : (Try.prog.info? 24).map (·.zero) = some (some (.agg #[.float .f64 0, .float .f64 0])) := by kernel_rfl
theorem zero47 : (Try.prog.info? 47).map (·.zero) = some (some (.agg #[.float .f64 0, .float .f64 0, .float .f64 0, .float .f64 0])) := by kernel_rfl
theorem zero56 : (Try.prog.info? 56).map (·.zero) = some (some (.slice none 0 0)) := by kernel_rfl
theorem zero68 : (Try.prog.info? 68).map (·.zero) = some (some (.agg #[.float .f64 0, .float .f64 0])) := by kernel_rfl
theorem zero81 : (Try.prog.info? 81).map (·.zero) = some (some (.agg #[.float .f64 0, .float .f64 0, .float .f64 0, .float .f64 0])) := by kernel_rfl
open Flt (truncD okF inR K20)
def notNan (x : Nat) : Prop := (FloatKind.f64.decode x).isNaN = false
def truncS (x : Nat) (d : Ieee.Datum) : Sem Value :=
  match d with
  | .nan s t =>
    if FloatKind.f64.format.quiet t = t then pure (.float .f64 x) else do
      let kept ← choose (.extern "math.Floor,Ceil,Trunc,RoundToEven.signallingNaN kept" 2)
      pure (.float .f64 (if kept == 1 then x else FloatKind.f64.encode (.nan s (FloatKind.f64.format.quiet t))))
  | d => pure (.float .f64 (FloatKind.f64.encode (d.integral .zero)))
theorem run_trunc (P : Program) (x : Nat) (h : notNan x) (w : World) : (Extern.MathFloor.toIntegral "math.archTrunc" .zero #[.float .f64 x]).run P w = .ok (.float .f64 (truncD x)) w := by
  unfold notNan at h
  have e : Extern.MathFloor.toIntegral "math.archTrunc" .zero #[.float .f64 x] = truncS x (FloatKind.f64.decode x) := rfl
  have e2 : ∀ d : Ieee.Datum, d.isNaN = false → truncS x d = pure (.float .f64 (FloatKind.f64.encode (d.integral .zero))) := by
    intro d hd
    cases d with
    | nan s t => cases hd
    | number s m e => rfl
    | infinity s => rfl
  rw [e, e2 _ h]
  rfl

theorem callTrunc (x : Nat) (h : notNan x) (w : World) : (callFunc 61 #[.float .f64 x]).run Try.prog w = .ok (.value (.float .f64 (truncD x))) w := by
  rw [run_callFunc_extern Try.func61 (by kernel_rfl) (by kernel_rfl) (by kernel_rfl) (e := Extern.MathFloor.toIntegral "math.archTrunc" .zero) (by kernel_rfl), run_trunc Try.prog x h]
  rfl

theorem inR_nn (m x : Nat) (h : fle x m = true) : notNan x := by
  unfold fle at h
  unfold notNan
  unfold Ieee.Format.order at h
  show (Ieee.double.read x).isNaN = false
  generalize Ieee.double.read x = d at *
  cases d with
  | nan s t => simp [Ieee.Datum.order] at h
  | number s m e => rfl
  | infinity s => rfl

set_option maxRecDepth 100000 in
/-- math.Trunc -/
theorem trunc (x : Nat) (h : notNan x) : FnD Try.prog 46 [dfl x] (fun r => r = dfl (truncD x)) := by
  refine FnD.of (by kernel_rfl) Try.func46 rfl Try.ntmps46 rfl (leb rfl) fun W ok => ?_
  refine AC.seq ?_
  refine AC.region ?_
  refine AO.op rfl (AOp.assign rfl rfl (ltb rfl) rfl ?_)
  refine AO.nil ?_
  change AC _ _ _ _
  refine AC.seq ?_
  refine AC.condT rfl rfl ?_
  refine AC.seq ?_
  refine AC.region ?_
  refine AO.op rfl (AOp.move rfl rfl (ltb rfl) rfl ?_)
  refine AO.op rfl (AOp.callX [.float .f64 x] rfl rfl (ltb rfl) rfl (callTrunc x h) ?_)
  refine AO.op rfl (AOp.assign rfl rfl (ltb rfl) rfl ?_)
  refine AO.nil ?_
  change AC _ _ _ _
  refine AC.ret ?_
  change RetQ _ _ _ .ret _
  refine retq rfl ?_
  exact rfl

def row (l : List Nat) : D := .ds 1 (l.map dfl)
def rows (ls : List (List Nat)) : D := .ds 1 (ls.map row)
theorem map_at {α β : Type} (f : α → β) (l : List α) (k : Nat) (d : α) (h : k < l.length) : (l.map f)[(k : Int).toNat * 1]? = some (f (l.getD k d)) := by
  simp [h]
theorem all_take_succ {α : Type} (p : α → Bool) (l : List α) (k : Nat) (d : α) (h : k < l.length) : (l.take (k + 1)).all p = ((l.take k).all p && p (l.getD k d)) := by
  rw [List.take_succ_eq_append_getElem h, List.all_append]
  simp [h]
theorem all_false_at {α : Type} (p : α → Bool) (l : List α) (j : Nat) (d : α) (h : j < l.length) (hf : p (l.getD j d) = false) : l.all p = false := by
  rw [List.all_eq_false]
  refine ⟨l.getD j d, ?_, by rw [hf]; decide⟩
  rw [List.getD_eq_getElem?_getD, List.getElem?_eq_getElem h]; simp

/-- what Grid tells -/
def rowB (n m : Nat) (l : List Nat) : Bool := decide (l.length = n) && l.all (okF m)
def gridB (ls : List (List Nat)) (n m : Nat) : Bool := ls.all (rowB n m) && decide (0 < n)
theorem grid_no {ls : List (List Nat)} {n m k : Nat} {l : List Nat} (hl0 : l = ls.getD k []) (hlt : k < ls.length) (h : rowB n m l = false) : dbool false = dbool (gridB ls n m) := by
  unfold gridB
  rw [all_false_at (rowB n m) ls k [] hlt (by rw [← hl0]; exact h)]; rfl
theorem row_no {n m j x : Nat} {l : List Nat} (hx0 : x = l.getD j 0) (hj : j < l.length) (h : okF m x = false) : rowB n m l = false := by
  unfold rowB
  rw [all_false_at (okF m) l j 0 hj (by rw [← hx0]; exact h), Bool.and_false]

set_option maxRecDepth 100000 in
/-- pub-orthodrome/spec.Grid -/
theorem grid (ls : List (List Nat)) (n m : Nat) (hls : ls.length < 4611686018427387904) (hl : ∀ l, l ∈ ls → l.length < 4611686018427387904) : FnD Try.prog 24 [rows ls, dint n, dfl m] (fun r => r = dbool (gridB ls n m)) := by
  refine FnD.of (by kernel_rfl) Try.func24 rfl Try.ntmps24 rfl (leb rfl) fun W ok => ?_
  refine AC.seq ?_
  refine AC.region ?_
  refine AO.op rfl (AOp.assign rfl rfl (ltb rfl) rfl ?_)
  refine AO.nil ?_
  change AC _ _ _ _
  refine AC.seq ?_
  refine AC.seq ?_
  refine AC.region ?_
  refine AO.op rfl (AOp.move rfl rfl (ltb rfl) rfl ?_)
  first | refine AO.op rfl (AOp.lenDs (n := ls.length) rfl rfl (ltb rfl) rfl el58 (by decide) (by simp) ?_) | refine AO.op rfl (AOp.lenOwn (n := ls.length) rfl rfl (ltb rfl) rfl el58 rfl (by decide) (by simp) ?_)
  refine AO.op rfl (AOp.move rfl rfl (ltb rfl) rfl ?_)
  refine AO.nil ?_
  change AC _ _ _ _
  refine AC.block ?_
  refine AC.loopV (G := Nat) [1, 2, 11, 12] [13] 0 (fun k => [(13, .d (dint (k : Nat)))]) (fun _ => _) (fun k => k ≤ ls.length ∧ (ls.take k).all (rowB n m) = true) (fun k => ls.length - k) (0) rfl rfl rfl rfl ⟨by omega, rfl⟩ ?_
  rintro k ⟨hk, hk2⟩
  refine AC.seq ?_
  refine AC.region ?_
  refine AO.op rfl (AOp.ilss rfl rfl (ltb rfl) rfl rfl ?_)
  refine AO.nil ?_
  change AC _ _ _ _
  refine AC.seq ?_
  refine AC.cond rfl (fun h1 => ?_) (fun h1 => ?_)
  · have hlt : k < ls.length := by simpa using h1
    obtain ⟨l, hl0⟩ : ∃ l, l = ls.getD k [] := ⟨_, rfl⟩
    have hll : l.length < 4611686018427387904 := hl l (by rw [hl0]; simp [hlt])
    refine AC.skip ?_
    change AC _ _ _ _
    refine AC.seq ?_
    refine AC.block ?_
    refine AC.seq ?_
    refine AC.region ?_
    first | refine AO.op rfl (AOp.indexDs rfl rfl (ltb rfl) rfl rfl el58 (by decide) (by omega) (by simp; omega) ?_) | refine AO.op rfl (AOp.indexSl rfl rfl (ltb rfl) rfl rfl el58 (by omega) (by simp; omega) ?_)
    refine AO.op rfl (AOp.loadEp rfl rfl (ltb rfl) rfl agg56 (y := row l) (by rw [hl0]; exact map_at row ls k [] hlt) ?_)
    refine AO.op rfl (AOp.assign rfl rfl (ltb rfl) rfl ?_)
    refine AO.nil ?_
    change AC _ _ _ _
    refine AC.seq ?_
    refine AC.seq ?_
    refine AC.region ?_
    refine AO.op rfl (AOp.move rfl rfl (ltb rfl) rfl ?_)
    first | refine AO.op rfl (AOp.lenDs (n := l.length) rfl rfl (ltb rfl) rfl el56 (by decide) (by simp) ?_) | refine AO.op rfl (AOp.lenOwn (n := l.length) rfl rfl (ltb rfl) rfl el56 rfl (by decide) (by simp) ?_)
    refine AO.op rfl (AOp.move rfl rfl (ltb rfl) rfl ?_)
    refine AO.op rfl (AOp.ineq rfl rfl (ltb rfl) rfl rfl ?_)
    refine AO.nil ?_
    change AC _ _ _ _
    refine AC.cond rfl (fun h2 => ?_) (fun h2 => ?_)
    · refine AC.seq ?_
      refine AC.region ?_
      refine AO.op rfl (AOp.assign rfl rfl (ltb rfl) rfl ?_)
      refine AO.nil ?_
      change AC _ _ _ _
      refine AC.ret ?_
      change RetQ _ _ _ .ret _
      refine retq rfl ?_
      exact grid_no hl0 hlt (by simp at h2; simp [rowB]; omega)
    · refine AC.skip ?_
      change AC _ _ _ _
      refine AC.seq ?_
      refine AC.region ?_
      refine AO.op rfl (AOp.move rfl rfl (ltb rfl) rfl ?_)
      first | refine AO.op rfl (AOp.lenDs (n := l.length) rfl rfl (ltb rfl) rfl el56 (by decide) (by simp) ?_) | refine AO.op rfl (AOp.lenOwn (n := l.length) rfl rfl (ltb rfl) rfl el56 rfl (by decide) (by simp) ?_)
      refine AO.op rfl (AOp.move rfl rfl (ltb rfl) rfl ?_)
      refine AO.nil ?_
      change AC _ _ _ _
      refine AC.block ?_
      refine AC.loopV (G := Nat) [1, 2, 11, 12, 13, 21, 22] [23] 0 (fun j => [(23, .d (dint (j : Nat)))]) (fun _ => _) (fun j => j ≤ l.length ∧ (l.take j).all (okF m) = true) (fun j => l.length - j) (0) rfl rfl rfl rfl ⟨by omega, rfl⟩ ?_
      rintro j ⟨hj1, hj2⟩
      refine AC.seq ?_
      refine AC.region ?_
      refine AO.op rfl (AOp.ilss rfl rfl (ltb rfl) rfl rfl ?_)
      refine AO.nil ?_
      change AC _ _ _ _
      refine AC.seq ?_
      refine AC.cond rfl (fun h3 => ?_) (fun h3 => ?_)
      · have hj : j < l.length := by simpa using h3
        obtain ⟨x, hx0⟩ : ∃ x, x = l.getD j 0 := ⟨_, rfl⟩
        refine AC.skip ?_
        change AC _ _ _ _
        refine AC.seq ?_
        refine AC.block ?_
        refine AC.seq ?_
        refine AC.region ?_
        first | refine AO.op rfl (AOp.indexDs rfl rfl (ltb rfl) rfl rfl el56 (by decide) (by omega) (by simp; omega) ?_) | refine AO.op rfl (AOp.indexSl rfl rfl (ltb rfl) rfl rfl el56 (by omega) (by simp; omega) ?_)
        refine AO.op rfl (AOp.loadEp rfl rfl (ltb rfl) rfl agg22 (y := dfl x) (by rw [hx0]; exact map_at dfl l j 0 hj) ?_)
        refine AO.op rfl (AOp.assign rfl rfl (ltb rfl) rfl ?_)
        refine AO.nil ?_
        change AC _ _ _ _
        refine AC.seq ?_
        refine AC.region ?_
        refine AO.op rfl (AOp.move rfl rfl (ltb rfl) rfl ?_)
        refine AO.op rfl (AOp.move rfl rfl (ltb rfl) rfl ?_)
        first | refine AO.op rfl (AOp.fneg rfl rfl (ltb rfl) rfl ?_) | refine AO.op rfl (AOp.ineg rfl rfl (ltb rfl) rfl rfl (by first | decide | (simp only [lo]; omega)) (by first | decide | (simp only [hi]; omega)) ?_)
        refine AO.op rfl (AOp.fgeq rfl rfl (ltb rfl) rfl rfl ?_)
        refine AO.op rfl (AOp.move rfl rfl (ltb rfl) rfl ?_)
        refine AO.guard rfl rfl rfl (ltb rfl) rfl (fun h4 => ?_) (fun h4 => ?_)
        · refine AOp.move rfl rfl (ltb rfl) rfl ?_
          refine AO.guardY rfl rfl rfl h4 (AOp.move rfl rfl (ltb rfl) rfl ?_)
          refine AO.guardY rfl rfl rfl h4 (AOp.fleq rfl rfl (ltb rfl) rfl rfl ?_)
          refine AO.op rfl (AOp.pick rfl rfl (ltb rfl) rfl h4 rfl ?_)
          refine AO.op rfl (AOp.bnot rfl rfl (ltb rfl) rfl ?_)
          refine AO.op rfl (AOp.move rfl rfl (ltb rfl) rfl ?_)
          refine AO.guard rfl rfl rfl (ltb rfl) rfl (fun h5 => ?_) (fun h5 => ?_)
          · refine AOp.move rfl rfl (ltb rfl) rfl ?_
            refine AO.guardY rfl rfl rfl h5 (AOp.move rfl rfl (ltb rfl) rfl ?_)
            refine AO.guardY rfl rfl rfl h5 (AOp.callD rfl rfl (ltb rfl) rfl (trunc _ (inR_nn m _ (by simpa using h5))) ?_)
            rintro _ rfl
            refine AO.guardY rfl rfl rfl h5 (AOp.fneq rfl rfl (ltb rfl) rfl rfl ?_)
            refine AO.op rfl (AOp.pickN rfl rfl (ltb rfl) rfl h5 rfl ?_)
            refine AO.nil ?_
            change AC _ _ _ _
            refine AC.cond rfl (fun h6 => ?_) (fun h6 => ?_)
            · refine AC.seq ?_
              refine AC.region ?_
              refine AO.op rfl (AOp.assign rfl rfl (ltb rfl) rfl ?_)
              refine AO.nil ?_
              change AC _ _ _ _
              refine AC.ret ?_
              change RetQ _ _ _ .ret _
              refine retq rfl ?_
              exact grid_no hl0 hlt (row_no hx0 hj (by simp_all [okF, inR]))
            · refine AC.skip ?_
              change AC _ _ _ _
              refine AC.region ?_
              refine AO.op rfl (AOp.iadd rfl rfl (ltb rfl) rfl rfl rfl (by simp only [lo]; omega) (by simp only [hi]; omega) ?_)
              refine AO.op rfl (AOp.move rfl rfl (ltb rfl) rfl ?_)
              refine AO.nil ?_
              refine ⟨rfl, j + 1, rfl, rfl, rfl, ⟨by omega, by rw [all_take_succ (okF m) l j 0 hj, hj2, ← hx0]; simp_all [okF, inR]⟩, (by first | omega | (dsimp only; omega))⟩
          · refine AO.guardN rfl rfl rfl (ltb rfl) rfl h5 ?_
            refine AO.guardN rfl rfl rfl (ltb rfl) rfl h5 ?_
            refine AO.guardN rfl rfl rfl (ltb rfl) rfl h5 ?_
            refine AO.op rfl (AOp.pick rfl rfl (ltb rfl) rfl h5 rfl ?_)
            refine AO.nil ?_
            change AC _ _ _ _
            refine AC.condT rfl rfl ?_
            refine AC.seq ?_
            refine AC.region ?_
            refine AO.op rfl (AOp.assign rfl rfl (ltb rfl) rfl ?_)
            refine AO.nil ?_
            change AC _ _ _ _
            refine AC.ret ?_
            change RetQ _ _ _ .ret _
            refine retq rfl ?_
            exact grid_no hl0 hlt (row_no hx0 hj (by simp_all [okF, inR]))
        · refine AO.guardN rfl rfl rfl (ltb rfl) rfl h4 ?_
          refine AO.guardN rfl rfl rfl (ltb rfl) rfl h4 ?_
          refine AO.op rfl (AOp.pickN rfl rfl (ltb rfl) rfl h4 rfl ?_)
          refine AO.op rfl (AOp.bnot rfl rfl (ltb rfl) rfl ?_)
          refine AO.op rfl (AOp.move rfl rfl (ltb rfl) rfl ?_)
          refine AO.guardN rfl rfl rfl (ltb rfl) rfl rfl ?_
          refine AO.guardN rfl rfl rfl (ltb rfl) rfl rfl ?_
          refine AO.guardN rfl rfl rfl (ltb rfl) rfl rfl ?_
          refine AO.guardN rfl rfl rfl (ltb rfl) rfl rfl ?_
          refine AO.op rfl (AOp.pick rfl rfl (ltb rfl) rfl rfl rfl ?_)
          refine AO.nil ?_
          change AC _ _ _ _
          refine AC.condT rfl rfl ?_
          refine AC.seq ?_
          refine AC.region ?_
          refine AO.op rfl (AOp.assign rfl rfl (ltb rfl) rfl ?_)
          refine AO.nil ?_
          change AC _ _ _ _
          refine AC.ret ?_
          change RetQ _ _ _ .ret _
          refine retq rfl ?_
          exact grid_no hl0 hlt (row_no hx0 hj (by simp_all [okF, inR]))
      · refine AC.exit ?_
        change AC _ _ _ _
        refine AC.region ?_
        refine AO.op rfl (AOp.iadd rfl rfl (ltb rfl) rfl rfl rfl (by simp only [lo]; omega) (by simp only [hi]; omega) ?_)
        refine AO.op rfl (AOp.move rfl rfl (ltb rfl) rfl ?_)
        refine AO.nil ?_
        have h2q : l.length = n := by simp at h2; omega
        refine ⟨rfl, k + 1, rfl, rfl, rfl, ⟨by omega, by rw [all_take_succ (rowB n m) ls k [] hlt, hk2, ← hl0]; unfold rowB; rw [← List.take_of_length_le (l := l) (i := j) (by simp at h3; omega), hj2]; simp [List.take_of_length_le (l := l) (i := j) (by simp at h3; omega), h2q]⟩, (by first | omega | (dsimp only; omega))⟩
  · refine AC.exit ?_
    change AC _ _ _ _
    refine AC.seq ?_
    refine AC.region ?_
    refine AO.op rfl (AOp.move rfl rfl (ltb rfl) rfl ?_)
    refine AO.op rfl (AOp.igtr rfl rfl (ltb rfl) rfl rfl ?_)
    refine AO.op rfl (AOp.assign rfl rfl (ltb rfl) rfl ?_)
    refine AO.nil ?_
    change AC _ _ _ _
    refine AC.ret ?_
    change RetQ _ _ _ .ret _
    refine retq rfl ?_
    rw [← List.take_of_length_le (l := ls) (i := k) (by simp at h1; omega)]
    simp [gridB, hk2]

def pts2 (pts : List (Nat × Nat)) : D := .ds 2 (pts.flatMap fun p => [dfl p.1, dfl p.2])
theorem len2 (pts : List (Nat × Nat)) : (pts.flatMap fun p => [dfl p.1, dfl p.2]).length = pts.length * 2 := by
  induction pts with
  | nil => rfl
  | cons p r ih => simp [ih]; omega
theorem flat2 (pts : List (Nat × Nat)) : ∀ (k : Nat), k < pts.length → ((pts.flatMap fun p => [dfl p.1, dfl p.2]).drop ((k : Int).toNat * 2)).take 2 = [dfl (pts.getD k (0, 0)).1, dfl (pts.getD k (0, 0)).2] := by
  induction pts with
  | nil => intro k h; simp at h
  | cons p r ih =>
    intro k h
    cases k with
    | zero => rfl
    | succ k =>
      have := ih k (by simpa using h)
      have e : (((k + 1 : Nat) : Int).toNat) * 2 = ((k : Int).toNat * 2) + 1 + 1 := by omega
      rw [e]
      simpa using this

set_option maxRecDepth 100000 in
/-- pub-orthodrome/laws.off2 -/
theorem off2 (x y : Nat) : FnD Try.prog 27 [.ag [dfl x, dfl y]] (fun r => r = .ds 1 [dfl x, dfl y]) := by
  refine FnD.of (by kernel_rfl) Try.func27 rfl Try.ntmps27 rfl (leb rfl) fun W ok => ?_
  refine AC.seq ?_
  refine AC.region ?_
  refine AO.op rfl (AOp.box rfl rfl (ltb rfl) rfl rfl ?_)
  refine AO.op rfl (AOp.assign rfl rfl (ltb rfl) rfl ?_)
  refine AO.nil ?_
  change AC _ _ _ _
  refine AC.seq ?_
  refine AC.region ?_
  first | refine AO.op rfl (AOp.fieldAddr rfl rfl (ltb rfl) rfl fo24_0 ?_) | refine AO.op rfl (AOp.fieldAddrPt rfl rfl (ltb rfl) rfl fo24_0 ?_) | refine AO.op rfl (AOp.fieldAddrEp rfl rfl (ltb rfl) rfl fo24_0 ?_)
  first | refine AO.op rfl (AOp.load1 rfl rfl (ltb rfl) rfl agg22 rfl rfl ?_) | refine AO.op rfl (AOp.loadEp rfl rfl (ltb rfl) rfl agg22 rfl ?_)
  first | refine AO.op rfl (AOp.fieldAddr rfl rfl (ltb rfl) rfl fo24_1 ?_) | refine AO.op rfl (AOp.fieldAddrPt rfl rfl (ltb rfl) rfl fo24_1 ?_) | refine AO.op rfl (AOp.fieldAddrEp rfl rfl (ltb rfl) rfl fo24_1 ?_)
  first | refine AO.op rfl (AOp.load1 rfl rfl (ltb rfl) rfl agg22 rfl rfl ?_) | refine AO.op rfl (AOp.loadEp rfl rfl (ltb rfl) rfl agg22 rfl ?_)
  refine AO.op rfl (AOp.buildSlice rfl rfl (ltb rfl) el56 zero22 rfl (leb rfl) rfl rfl rfl ?_)
  refine AO.op rfl (AOp.assign rfl rfl (ltb rfl) rfl ?_)
  refine AO.nil ?_
  change AC _ _ _ _
  refine AC.ret ?_
  change RetQ _ _ _ .ret _
  refine retq rfl ?_
  exact rfl

set_option maxRecDepth 100000 in
/-- pub-orthodrome/laws.whole2 -/
theorem whole2 (pts : List (Nat × Nat)) (hpl : pts.length < 1000000) : FnD Try.prog 10 [pts2 pts] (fun r => r = dbool (pts.all fun p => rowB 2 K20 [p.1, p.2])) := by
  refine FnD.of (by kernel_rfl) Try.func10 rfl Try.ntmps10 rfl (leb rfl) fun W ok => ?_
  refine AC.seq ?_
  refine AC.region ?_
  refine AO.op rfl (AOp.assign rfl rfl (ltb rfl) rfl ?_)
  refine AO.nil ?_
  change AC _ _ _ _
  refine AC.seq ?_
  refine AC.seq ?_
  refine AC.region ?_
  refine AO.op rfl (AOp.move rfl rfl (ltb rfl) rfl ?_)
  first | refine AO.op rfl (AOp.lenDs (n := pts.length) rfl rfl (ltb rfl) rfl el66 (by decide) (len2 pts) ?_) | refine AO.op rfl (AOp.lenOwn (n := pts.length) rfl rfl (ltb rfl) rfl el66 rfl (by decide) (len2 pts) ?_)
  refine AO.op rfl (AOp.move rfl rfl (ltb rfl) rfl ?_)
  refine AO.nil ?_
  change AC _ _ _ _
  refine AC.block ?_
  refine AC.loopV (G := Nat) [5, 6] [7] 0 (fun k => [(7, .d (dint (k : Nat)))]) (fun _ => _) (fun k => k ≤ pts.length ∧ (pts.take k).all (fun p => rowB 2 K20 [p.1, p.2]) = true) (fun k => pts.length - k) (0) rfl rfl rfl rfl ⟨by omega, rfl⟩ ?_
  rintro k ⟨hk, hk2⟩
  refine AC.seq ?_
  refine AC.region ?_
  refine AO.op rfl (AOp.ilss rfl rfl (ltb rfl) rfl rfl ?_)
  refine AO.nil ?_
  change AC _ _ _ _
  refine AC.seq ?_
  refine AC.cond rfl (fun h1 => ?_) (fun h1 => ?_)
  · have hlt : k < pts.length := by simpa using h1
    obtain ⟨p, hp0⟩ : ∃ p, p = pts.getD k (0, 0) := ⟨_, rfl⟩
    refine AC.skip ?_
    change AC _ _ _ _
    refine AC.seq ?_
    refine AC.block ?_
    refine AC.seq ?_
    refine AC.region ?_
    first | refine AO.op rfl (AOp.indexDs rfl rfl (ltb rfl) rfl rfl el66 (by decide) (by omega) (by rw [len2]; omega) ?_) | refine AO.op rfl (AOp.indexSl rfl rfl (ltb rfl) rfl rfl el66 (by omega) (by rw [len2]; omega) ?_)
    refine AO.op rfl (AOp.loadEpN rfl rfl (ltb rfl) rfl agg24 size24 (ys := [dfl p.1, dfl p.2]) (by rw [len2]; omega) (by rw [hp0]; exact flat2 pts k hlt) ?_)
    refine AO.op rfl (AOp.alloc rfl rfl (ltb rfl) zero24 rfl ?_)
    refine AO.op rfl (AOp.store rfl rfl rfl rfl size24 rfl rfl rfl (leb rfl) ?_)
    refine AO.nil ?_
    change AC _ _ _ _
    refine AC.seq ?_
    refine AC.region ?_
    first | refine AO.op rfl (AOp.loadN rfl rfl (ltb rfl) rfl agg24 size24 rfl (leb rfl) rfl ?_) | refine AO.op rfl (AOp.loadEpN rfl rfl (ltb rfl) rfl agg24 size24 (leb rfl) rfl ?_)
    refine AO.op rfl (AOp.callD rfl rfl (ltb rfl) rfl (off2 _ _) ?_)
    rintro _ rfl
    refine AO.op rfl (AOp.buildSlice rfl rfl (ltb rfl) el58 zero56 rfl (leb rfl) rfl rfl rfl ?_)
    refine AO.op rfl (AOp.callV rfl rfl (ltb rfl) rfl rfl (grid [[p.1, p.2]] 2 K20 (by simp) (by simp)) (by rintro _ rfl; rfl) ?_)
    rintro _ rfl
    refine AO.op rfl (AOp.bnot rfl rfl (ltb rfl) rfl ?_)
    refine AO.nil ?_
    change AC _ _ _ _
    refine AC.cond rfl (fun h2 => ?_) (fun h2 => ?_)
    · refine AC.seq ?_
      refine AC.region ?_
      refine AO.op rfl (AOp.assign rfl rfl (ltb rfl) rfl ?_)
      refine AO.nil ?_
      change AC _ _ _ _
      refine AC.ret ?_
      change RetQ _ _ _ .ret _
      refine retq rfl ?_
      rw [all_false_at _ pts k (0, 0) hlt (by rw [← hp0]; simpa [gridB] using h2)]
    · refine AC.skip ?_
      change AC _ _ _ _
      refine AC.region ?_
      refine AO.op rfl (AOp.iadd rfl rfl (ltb rfl) rfl rfl rfl (by simp only [lo]; omega) (by simp only [hi]; omega) ?_)
      refine AO.op rfl (AOp.move rfl rfl (ltb rfl) rfl ?_)
      refine AO.nil ?_
      refine ⟨rfl, k + 1, rfl, rfl, rfl, ⟨by omega, by rw [all_take_succ _ pts k (0, 0) hlt, hk2, ← hp0]; simp [gridB] at h2; simp [h2]⟩, (by first | omega | (dsimp only; omega))⟩
  · refine AC.exit ?_
    change AC _ _ _ _
    refine AC.seq ?_
    refine AC.region ?_
    refine AO.op rfl (AOp.assign rfl rfl (ltb rfl) rfl ?_)
    refine AO.nil ?_
    change AC _ _ _ _
    refine AC.ret ?_
    change RetQ _ _ _ .ret _
    refine retq rfl ?_
    rw [← List.take_of_length_le (l := pts) (i := k) (by simp at h1; omega), hk2]

theorem callAMin (x y : Nat) (w : World) : (callFunc 77 #[.float .f64 x, .float .f64 y]).run Try.prog w = .ok (.value (.float .f64 (Flt.amin x y))) w := by
  rw [run_callFunc_extern Try.func77 (by kernel_rfl) (by kernel_rfl) (by kernel_rfl) (e := Extern.MathDim.pick "math.archMin" true .lt) (by kernel_rfl), Flt.run_archMin Try.prog x y]
  rfl

set_option maxRecDepth 100000 in
/-- math.Min -/
theorem mathMin (x y : Nat) : FnD Try.prog 57 [dfl x, dfl y] (fun r => r = dfl (Flt.amin x y)) := by
  refine FnD.of (by kernel_rfl) Try.func57 rfl Try.ntmps57 rfl (leb rfl) fun W ok => ?_
  refine AC.seq ?_
  refine AC.region ?_
  refine AO.op rfl (AOp.assign rfl rfl (ltb rfl) rfl ?_)
  refine AO.nil ?_
  change AC _ _ _ _
  refine AC.seq ?_
  refine AC.condT rfl rfl ?_
  refine AC.seq ?_
  refine AC.region ?_
  refine AO.op rfl (AOp.move rfl rfl (ltb rfl) rfl ?_)
  refine AO.op rfl (AOp.move rfl rfl (ltb rfl) rfl ?_)
  refine AO.op rfl (AOp.callX [.float .f64 x, .float .f64 y] rfl rfl (ltb rfl) rfl (callAMin x y) ?_)
  refine AO.op rfl (AOp.assign rfl rfl (ltb rfl) rfl ?_)
  refine AO.nil ?_
  change AC _ _ _ _
  refine AC.ret ?_
  change RetQ _ _ _ .ret _
  refine retq rfl ?_
  exact rfl

theorem callAMax (x y : Nat) (w : World) : (callFunc 79 #[.float .f64 x, .float .f64 y]).run Try.prog w = .ok (.value (.float .f64 (Flt.amax x y))) w := by
  rw [run_callFunc_extern Try.func79 (by kernel_rfl) (by kernel_rfl) (by kernel_rfl) (e := Extern.MathDim.pick "math.archMax" false .gt) (by kernel_rfl), Flt.run_archMax Try.prog x y]
  rfl

set_option maxRecDepth 100000 in
/-- math.Max -/
theorem mathMax (x y : Nat) : FnD Try.prog 58 [dfl x, dfl y] (fun r => r = dfl (Flt.amax x y)) := by
  refine FnD.of (by kernel_rfl) Try.func58 rfl Try.ntmps58 rfl (leb rfl) fun W ok => ?_
  refine AC.seq ?_
  refine AC.region ?_
  refine AO.op rfl (AOp.assign rfl rfl (ltb rfl) rfl ?_)
  refine AO.nil ?_
  change AC _ _ _ _
  refine AC.seq ?_
  refine AC.condT rfl rfl ?_
  refine AC.seq ?_
  refine AC.region ?_
  refine AO.op rfl (AOp.move rfl rfl (ltb rfl) rfl ?_)
  refine AO.op rfl (AOp.move rfl rfl (ltb rfl) rfl ?_)
  refine AO.op rfl (AOp.callX [.float .f64 x, .float .f64 y] rfl rfl (ltb rfl) rfl (callAMax x y) ?_)
  refine AO.op rfl (AOp.assign rfl rfl (ltb rfl) rfl ?_)
  refine AO.nil ?_
  change AC _ _ _ _
  refine AC.ret ?_
  change RetQ _ _ _ .ret _
  refine retq rfl ?_
  exact rfl

set_option maxRecDepth 100000 in
/-- pub-orthodrome/impl.vec2 -/
theorem vec2 (x y : Nat) : FnD Try.prog 34 [.ag [dfl x, dfl y]] (fun r => r = .ag [dfl x, dfl y]) := by
  refine FnD.of (by kernel_rfl) Try.func34 rfl Try.ntmps34 rfl (leb rfl) fun W ok => ?_
  refine AC.seq ?_
  refine AC.region ?_
  refine AO.op rfl (AOp.box rfl rfl (ltb rfl) rfl rfl ?_)
  refine AO.op rfl (AOp.alloc rfl rfl (ltb rfl) zero68 rfl ?_)
  refine AO.nil ?_
  change AC _ _ _ _
  refine AC.seq ?_
  refine AC.region ?_
  first | refine AO.op rfl (AOp.fieldAddr rfl rfl (ltb rfl) rfl fo24_0 ?_) | refine AO.op rfl (AOp.fieldAddrPt rfl rfl (ltb rfl) rfl fo24_0 ?_) | refine AO.op rfl (AOp.fieldAddrEp rfl rfl (ltb rfl) rfl fo24_0 ?_)
  first | refine AO.op rfl (AOp.load1 rfl rfl (ltb rfl) rfl agg22 rfl rfl ?_) | refine AO.op rfl (AOp.loadEp rfl rfl (ltb rfl) rfl agg22 rfl ?_)
  first | refine AO.op rfl (AOp.fieldAddr rfl rfl (ltb rfl) rfl fo24_1 ?_) | refine AO.op rfl (AOp.fieldAddrPt rfl rfl (ltb rfl) rfl fo24_1 ?_) | refine AO.op rfl (AOp.fieldAddrEp rfl rfl (ltb rfl) rfl fo24_1 ?_)
  first | refine AO.op rfl (AOp.load1 rfl rfl (ltb rfl) rfl agg22 rfl rfl ?_) | refine AO.op rfl (AOp.loadEp rfl rfl (ltb rfl) rfl agg22 rfl ?_)
  refine AO.op rfl (AOp.build rfl rfl (ltb rfl) zero68 rfl places68 rfl rfl ?_)
  refine AO.op rfl (AOp.store rfl rfl rfl rfl size68 rfl rfl rfl (leb rfl) ?_)
  refine AO.nil ?_
  change AC _ _ _ _
  refine AC.ret ?_
  change RetQ _ _ _ .ret _
  refine retq rfl ?_
  exact rfl

set_option maxRecDepth 100000 in
/-- pub-orthodrome/impl.plainP2 -/
theorem plainP2 (x y : Nat) : FnD Try.prog 32 [.ag [dfl x, dfl y]] (fun r => r = .ag [dfl x, dfl y]) := by
  refine FnD.of (by kernel_rfl) Try.func32 rfl Try.ntmps32 rfl (leb rfl) fun W ok => ?_
  refine AC.seq ?_
  refine AC.region ?_
  refine AO.op rfl (AOp.box rfl rfl (ltb rfl) rfl rfl ?_)
  refine AO.op rfl (AOp.alloc rfl rfl (ltb rfl) zero24 rfl ?_)
  refine AO.nil ?_
  change AC _ _ _ _
  refine AC.seq ?_
  refine AC.region ?_
  first | refine AO.op rfl (AOp.fieldAddr rfl rfl (ltb rfl) rfl fo68_0 ?_) | refine AO.op rfl (AOp.fieldAddrPt rfl rfl (ltb rfl) rfl fo68_0 ?_) | refine AO.op rfl (AOp.fieldAddrEp rfl rfl (ltb rfl) rfl fo68_0 ?_)
  first | refine AO.op rfl (AOp.load1 rfl rfl (ltb rfl) rfl agg22 rfl rfl ?_) | refine AO.op rfl (AOp.loadEp rfl rfl (ltb rfl) rfl agg22 rfl ?_)
  first | refine AO.op rfl (AOp.fieldAddr rfl rfl (ltb rfl) rfl fo68_1 ?_) | refine AO.op rfl (AOp.fieldAddrPt rfl rfl (ltb rfl) rfl fo68_1 ?_) | refine AO.op rfl (AOp.fieldAddrEp rfl rfl (ltb rfl) rfl fo68_1 ?_)
  first | refine AO.op rfl (AOp.load1 rfl rfl (ltb rfl) rfl agg22 rfl rfl ?_) | refine AO.op rfl (AOp.loadEp rfl rfl (ltb rfl) rfl agg22 rfl ?_)
  refine AO.op rfl (AOp.build rfl rfl (ltb rfl) zero24 rfl places24 rfl rfl ?_)
  refine AO.op rfl (AOp.store rfl rfl rfl rfl size24 rfl rfl rfl (leb rfl) ?_)
  refine AO.nil ?_
  change AC _ _ _ _
  refine AC.ret ?_
  change RetQ _ _ _ .ret _
  refine retq rfl ?_
  exact rfl

theorem feq_amin {x y : Nat} {p q : Rat} (hx : Flt.V x = some p) (hy : Flt.V y = some q) : feq (Flt.amin x y) (bmin x y) = true := by
  rw [Flt.feq_val (Flt.amin_V hx hy) (Flt.bmin_V hx hy)]; simp
theorem feq_amax {x y : Nat} {p q : Rat} (hx : Flt.V x = some p) (hy : Flt.V y = some q) : feq (Flt.amax x y) (bmax x y) = true := by
  rw [Flt.feq_val (Flt.amax_V hx hy) (Flt.bmax_V hx hy)]; simp

set_option maxRecDepth 100000 in
/-- pub-orthodrome/pub/gonum/spatial/r2.minElem -/
theorem minElem2 (ax ay cx cy : Nat) : FnD Try.prog 59 [.ag [dfl ax, dfl ay], .ag [dfl cx, dfl cy]] (fun r => r = .ag [dfl (Flt.amin ax cx), dfl (Flt.amin ay cy)]) := by
  refine FnD.of (by kernel_rfl) Try.func59 rfl Try.ntmps59 rfl (leb rfl) fun W ok => ?_
  refine AC.seq ?_
  refine AC.region ?_
  refine AO.op rfl (AOp.box rfl rfl (ltb rfl) rfl rfl ?_)
  refine AO.op rfl (AOp.box rfl rfl (ltb rfl) rfl rfl ?_)
  refine AO.op rfl (AOp.alloc rfl rfl (ltb rfl) zero68 rfl ?_)
  refine AO.nil ?_
  change AC _ _ _ _
  refine AC.seq ?_
  refine AC.draw 11 mixed (by kernel_rfl) ?_
  first | refine AD.op [2] rfl (by kernel_rfl) rfl rfl (fun _ _ h => AOp.fieldAddr rfl rfl (ltb rfl) rfl fo68_0 h) ?_ | refine AD.op [2] rfl (by kernel_rfl) rfl rfl (fun _ _ h => AOp.fieldAddrPt rfl rfl (ltb rfl) rfl fo68_0 h) ?_ | refine AD.op [2] rfl (by kernel_rfl) rfl rfl (fun _ _ h => AOp.fieldAddrEp rfl rfl (ltb rfl) rfl fo68_0 h) ?_
  first | refine AD.op [5] rfl (by kernel_rfl) rfl rfl (fun _ _ h => AOp.load1 rfl rfl (ltb rfl) rfl agg22 rfl rfl h) ?_ | refine AD.op [5] rfl (by kernel_rfl) rfl rfl (fun _ _ h => AOp.loadEp rfl rfl (ltb rfl) rfl agg22 rfl h) ?_
  first | refine AD.op [3] rfl (by kernel_rfl) rfl rfl (fun _ _ h => AOp.fieldAddr rfl rfl (ltb rfl) rfl fo68_0 h) ?_ | refine AD.op [3] rfl (by kernel_rfl) rfl rfl (fun _ _ h => AOp.fieldAddrPt rfl rfl (ltb rfl) rfl fo68_0 h) ?_ | refine AD.op [3] rfl (by kernel_rfl) rfl rfl (fun _ _ h => AOp.fieldAddrEp rfl rfl (ltb rfl) rfl fo68_0 h) ?_
  first | refine AD.op [7] rfl (by kernel_rfl) rfl rfl (fun _ _ h => AOp.load1 rfl rfl (ltb rfl) rfl agg22 rfl rfl h) ?_ | refine AD.op [7] rfl (by kernel_rfl) rfl rfl (fun _ _ h => AOp.loadEp rfl rfl (ltb rfl) rfl agg22 rfl h) ?_
  refine AD.op [6, 8] rfl (by kernel_rfl) rfl rfl (fun _ _ h => AOp.callD rfl rfl (ltb rfl) rfl (mathMin _ _) (by rintro _ rfl; exact h)) ?_
  first | refine AD.op [2] rfl (by kernel_rfl) rfl rfl (fun _ _ h => AOp.fieldAddr rfl rfl (ltb rfl) rfl fo68_1 h) ?_ | refine AD.op [2] rfl (by kernel_rfl) rfl rfl (fun _ _ h => AOp.fieldAddrPt rfl rfl (ltb rfl) rfl fo68_1 h) ?_ | refine AD.op [2] rfl (by kernel_rfl) rfl rfl (fun _ _ h => AOp.fieldAddrEp rfl rfl (ltb rfl) rfl fo68_1 h) ?_
  first | refine AD.op [10] rfl (by kernel_rfl) rfl rfl (fun _ _ h => AOp.load1 rfl rfl (ltb rfl) rfl agg22 rfl rfl h) ?_ | refine AD.op [10] rfl (by kernel_rfl) rfl rfl (fun _ _ h => AOp.loadEp rfl rfl (ltb rfl) rfl agg22 rfl h) ?_
  first | refine AD.op [3] rfl (by kernel_rfl) rfl rfl (fun _ _ h => AOp.fieldAddr rfl rfl (ltb rfl) rfl fo68_1 h) ?_ | refine AD.op [3] rfl (by kernel_rfl) rfl rfl (fun _ _ h => AOp.fieldAddrPt rfl rfl (ltb rfl) rfl fo68_1 h) ?_ | refine AD.op [3] rfl (by kernel_rfl) rfl rfl (fun _ _ h => AOp.fieldAddrEp rfl rfl (ltb rfl) rfl fo68_1 h) ?_
  first | refine AD.op [12] rfl (by kernel_rfl) rfl rfl (fun _ _ h => AOp.load1 rfl rfl (ltb rfl) rfl agg22 rfl rfl h) ?_ | refine AD.op [12] rfl (by kernel_rfl) rfl rfl (fun _ _ h => AOp.loadEp rfl rfl (ltb rfl) rfl agg22 rfl h) ?_
  refine AD.op [11, 13] rfl (by kernel_rfl) rfl rfl (fun _ _ h => AOp.callD rfl rfl (ltb rfl) rfl (mathMin _ _) (by rintro _ rfl; exact h)) ?_
  refine AD.op [9, 14] rfl (by kernel_rfl) rfl rfl (fun _ _ h => AOp.build rfl rfl (ltb rfl) zero68 rfl places68 rfl rfl h) ?_
  refine AD.done ?_
  refine AO.op rfl (AOp.store rfl rfl rfl rfl size68 rfl rfl rfl (leb rfl) ?_)
  refine AO.nil ?_
  change AC _ _ _ _
  refine AC.ret ?_
  change RetQ _ _ _ .ret _
  refine retq rfl ?_
  exact rfl

set_option maxRecDepth 100000 in
/-- pub-orthodrome/pub/gonum/spatial/r2.maxElem -/
theorem maxElem2 (ax ay cx cy : Nat) : FnD Try.prog 60 [.ag [dfl ax, dfl ay], .ag [dfl cx, dfl cy]] (fun r => r = .ag [dfl (Flt.amax ax cx), dfl (Flt.amax ay cy)]) := by
  refine FnD.of (by kernel_rfl) Try.func60 rfl Try.ntmps60 rfl (leb rfl) fun W ok => ?_
  refine AC.seq ?_
  refine AC.region ?_
  refine AO.op rfl (AOp.box rfl rfl (ltb rfl) rfl rfl ?_)
  refine AO.op rfl (AOp.box rfl rfl (ltb rfl) rfl rfl ?_)
  refine AO.op rfl (AOp.alloc rfl rfl (ltb rfl) zero68 rfl ?_)
  refine AO.nil ?_
  change AC _ _ _ _
  refine AC.seq ?_
  refine AC.draw 11 mixed (by kernel_rfl) ?_
  first | refine AD.op [2] rfl (by kernel_rfl) rfl rfl (fun _ _ h => AOp.fieldAddr rfl rfl (ltb rfl) rfl fo68_0 h) ?_ | refine AD.op [2] rfl (by kernel_rfl) rfl rfl (fun _ _ h => AOp.fieldAddrPt rfl rfl (ltb rfl) rfl fo68_0 h) ?_ | refine AD.op [2] rfl (by kernel_rfl) rfl rfl (fun _ _ h => AOp.fieldAddrEp rfl rfl (ltb rfl) rfl fo68_0 h) ?_
  first | refine AD.op [5] rfl (by kernel_rfl) rfl rfl (fun _ _ h => AOp.load1 rfl rfl (ltb rfl) rfl agg22 rfl rfl h) ?_ | refine AD.op [5] rfl (by kernel_rfl) rfl rfl (fun _ _ h => AOp.loadEp rfl rfl (ltb rfl) rfl agg22 rfl h) ?_
  first | refine AD.op [3] rfl (by kernel_rfl) rfl rfl (fun _ _ h => AOp.fieldAddr rfl rfl (ltb rfl) rfl fo68_0 h) ?_ | refine AD.op [3] rfl (by kernel_rfl) rfl rfl (fun _ _ h => AOp.fieldAddrPt rfl rfl (ltb rfl) rfl fo68_0 h) ?_ | refine AD.op [3] rfl (by kernel_rfl) rfl rfl (fun _ _ h => AOp.fieldAddrEp rfl rfl (ltb rfl) rfl fo68_0 h) ?_
  first | refine AD.op [7] rfl (by kernel_rfl) rfl rfl (fun _ _ h => AOp.load1 rfl rfl (ltb rfl) rfl agg22 rfl rfl h) ?_ | refine AD.op [7] rfl (by kernel_rfl) rfl rfl (fun _ _ h => AOp.loadEp rfl rfl (ltb rfl) rfl agg22 rfl h) ?_
  refine AD.op [6, 8] rfl (by kernel_rfl) rfl rfl (fun _ _ h => AOp.callD rfl rfl (ltb rfl) rfl (mathMax _ _) (by rintro _ rfl; exact h)) ?_
  first | refine AD.op [2] rfl (by kernel_rfl) rfl rfl (fun _ _ h => AOp.fieldAddr rfl rfl (ltb rfl) rfl fo68_1 h) ?_ | refine AD.op [2] rfl (by kernel_rfl) rfl rfl (fun _ _ h => AOp.fieldAddrPt rfl rfl (ltb rfl) rfl fo68_1 h) ?_ | refine AD.op [2] rfl (by kernel_rfl) rfl rfl (fun _ _ h => AOp.fieldAddrEp rfl rfl (ltb rfl) rfl fo68_1 h) ?_
  first | refine AD.op [10] rfl (by kernel_rfl) rfl rfl (fun _ _ h => AOp.load1 rfl rfl (ltb rfl) rfl agg22 rfl rfl h) ?_ | refine AD.op [10] rfl (by kernel_rfl) rfl rfl (fun _ _ h => AOp.loadEp rfl rfl (ltb rfl) rfl agg22 rfl h) ?_
  first | refine AD.op [3] rfl (by kernel_rfl) rfl rfl (fun _ _ h => AOp.fieldAddr rfl rfl (ltb rfl) rfl fo68_1 h) ?_ | refine AD.op [3] rfl (by kernel_rfl) rfl rfl (fun _ _ h => AOp.fieldAddrPt rfl rfl (ltb rfl) rfl fo68_1 h) ?_ | refine AD.op [3] rfl (by kernel_rfl) rfl rfl (fun _ _ h => AOp.fieldAddrEp rfl rfl (ltb rfl) rfl fo68_1 h) ?_
  first | refine AD.op [12] rfl (by kernel_rfl) rfl rfl (fun _ _ h => AOp.load1 rfl rfl (ltb rfl) rfl agg22 rfl rfl h) ?_ | refine AD.op [12] rfl (by kernel_rfl) rfl rfl (fun _ _ h => AOp.loadEp rfl rfl (ltb rfl) rfl agg22 rfl h) ?_
  refine AD.op [11, 13] rfl (by kernel_rfl) rfl rfl (fun _ _ h => AOp.callD rfl rfl (ltb rfl) rfl (mathMax _ _) (by rintro _ rfl; exact h)) ?_
  refine AD.op [9, 14] rfl (by kernel_rfl) rfl rfl (fun _ _ h => AOp.build rfl rfl (ltb rfl) zero68 rfl places68 rfl rfl h) ?_
  refine AD.done ?_
  refine AO.op rfl (AOp.store rfl rfl rfl rfl size68 rfl rfl rfl (leb rfl) ?_)
  refine AO.nil ?_
  change AC _ _ _ _
  refine AC.ret ?_
  change RetQ _ _ _ .ret _
  refine retq rfl ?_
  exact rfl

set_option maxRecDepth 100000 in
/-- pub-orthodrome/pub/gonum/spatial/r2.NewBox -/
theorem newBox2 (ax ay cx cy : Nat) : FnD Try.prog 44 [dfl ax, dfl ay, dfl cx, dfl cy] (fun r => r = .ag [dfl (Flt.amin ax cx), dfl (Flt.amin ay cy), dfl (Flt.amax ax cx), dfl (Flt.amax ay cy)]) := by
  refine FnD.of (by kernel_rfl) Try.func44 rfl Try.ntmps44 rfl (leb rfl) fun W ok => ?_
  refine AC.seq ?_
  refine AC.region ?_
  refine AO.op rfl (AOp.alloc rfl rfl (ltb rfl) zero81 rfl ?_)
  refine AO.nil ?_
  change AC _ _ _ _
  refine AC.seq ?_
  refine AC.region ?_
  refine AO.op rfl (AOp.move rfl rfl (ltb rfl) rfl ?_)
  refine AO.op rfl (AOp.move rfl rfl (ltb rfl) rfl ?_)
  refine AO.op rfl (AOp.callD rfl rfl (ltb rfl) rfl (mathMin _ _) ?_)
  rintro _ rfl
  refine AO.op rfl (AOp.move rfl rfl (ltb rfl) rfl ?_)
  refine AO.op rfl (AOp.move rfl rfl (ltb rfl) rfl ?_)
  refine AO.op rfl (AOp.callD rfl rfl (ltb rfl) rfl (mathMin _ _) ?_)
  rintro _ rfl
  refine AO.op rfl (AOp.build rfl rfl (ltb rfl) zero68 rfl places68 rfl rfl ?_)
  refine AO.op rfl (AOp.move rfl rfl (ltb rfl) rfl ?_)
  refine AO.op rfl (AOp.move rfl rfl (ltb rfl) rfl ?_)
  refine AO.op rfl (AOp.callD rfl rfl (ltb rfl) rfl (mathMax _ _) ?_)
  rintro _ rfl
  refine AO.op rfl (AOp.move rfl rfl (ltb rfl) rfl ?_)
  refine AO.op rfl (AOp.move rfl rfl (ltb rfl) rfl ?_)
  refine AO.op rfl (AOp.callD rfl rfl (ltb rfl) rfl (mathMax _ _) ?_)
  rintro _ rfl
  refine AO.op rfl (AOp.build rfl rfl (ltb rfl) zero68 rfl places68 rfl rfl ?_)
  refine AO.op rfl (AOp.build rfl rfl (ltb rfl) zero81 rfl places81 rfl rfl ?_)
  refine AO.op rfl (AOp.store rfl rfl rfl rfl size81 rfl rfl rfl (leb rfl) ?_)
  refine AO.nil ?_
  change AC _ _ _ _
  refine AC.ret ?_
  change RetQ _ _ _ .ret _
  refine retq rfl ?_
  exact rfl

set_option maxRecDepth 100000 in
/-- (pub-orthodrome/pub/gonum/spatial/r2.Box).Canon -/
theorem canonR2 (ax ay cx cy : Nat) : FnD Try.prog 45 [.ag [dfl ax, dfl ay, dfl cx, dfl cy]] (fun r => r = .ag [dfl (Flt.amin ax cx), dfl (Flt.amin ay cy), dfl (Flt.amax ax cx), dfl (Flt.amax ay cy)]) := by
  refine FnD.of (by kernel_rfl) Try.func45 rfl Try.ntmps45 rfl (leb rfl) fun W ok => ?_
  refine AC.seq ?_
  refine AC.region ?_
  refine AO.op rfl (AOp.box rfl rfl (ltb rfl) rfl rfl ?_)
  refine AO.op rfl (AOp.alloc rfl rfl (ltb rfl) zero81 rfl ?_)
  refine AO.nil ?_
  change AC _ _ _ _
  refine AC.seq ?_
  refine AC.draw 11 mixed (by kernel_rfl) ?_
  first | refine AD.op [1] rfl (by kernel_rfl) rfl rfl (fun _ _ h => AOp.fieldAddr rfl rfl (ltb rfl) rfl fo81_0 h) ?_ | refine AD.op [1] rfl (by kernel_rfl) rfl rfl (fun _ _ h => AOp.fieldAddrPt rfl rfl (ltb rfl) rfl fo81_0 h) ?_ | refine AD.op [1] rfl (by kernel_rfl) rfl rfl (fun _ _ h => AOp.fieldAddrEp rfl rfl (ltb rfl) rfl fo81_0 h) ?_
  first | refine AD.op [3] rfl (by kernel_rfl) rfl rfl (fun _ _ h => AOp.loadN rfl rfl (ltb rfl) rfl agg68 size68 rfl (leb rfl) rfl h) ?_ | refine AD.op [3] rfl (by kernel_rfl) rfl rfl (fun _ _ h => AOp.loadEpN rfl rfl (ltb rfl) rfl agg68 size68 (leb rfl) rfl h) ?_
  first | refine AD.op [1] rfl (by kernel_rfl) rfl rfl (fun _ _ h => AOp.fieldAddr rfl rfl (ltb rfl) rfl fo81_1 h) ?_ | refine AD.op [1] rfl (by kernel_rfl) rfl rfl (fun _ _ h => AOp.fieldAddrPt rfl rfl (ltb rfl) rfl fo81_1 h) ?_ | refine AD.op [1] rfl (by kernel_rfl) rfl rfl (fun _ _ h => AOp.fieldAddrEp rfl rfl (ltb rfl) rfl fo81_1 h) ?_
  first | refine AD.op [5] rfl (by kernel_rfl) rfl rfl (fun _ _ h => AOp.loadN rfl rfl (ltb rfl) rfl agg68 size68 rfl (leb rfl) rfl h) ?_ | refine AD.op [5] rfl (by kernel_rfl) rfl rfl (fun _ _ h => AOp.loadEpN rfl rfl (ltb rfl) rfl agg68 size68 (leb rfl) rfl h) ?_
  refine AD.op [4, 6] rfl (by kernel_rfl) rfl rfl (fun _ _ h => AOp.callD rfl rfl (ltb rfl) rfl (minElem2 _ _ _ _) (by rintro _ rfl; exact h)) ?_
  first | refine AD.op [1] rfl (by kernel_rfl) rfl rfl (fun _ _ h => AOp.fieldAddr rfl rfl (ltb rfl) rfl fo81_0 h) ?_ | refine AD.op [1] rfl (by kernel_rfl) rfl rfl (fun _ _ h => AOp.fieldAddrPt rfl rfl (ltb rfl) rfl fo81_0 h) ?_ | refine AD.op [1] rfl (by kernel_rfl) rfl rfl (fun _ _ h => AOp.fieldAddrEp rfl rfl (ltb rfl) rfl fo81_0 h) ?_
  first | refine AD.op [8] rfl (by kernel_rfl) rfl rfl (fun _ _ h => AOp.loadN rfl rfl (ltb rfl) rfl agg68 size68 rfl (leb rfl) rfl h) ?_ | refine AD.op [8] rfl (by kernel_rfl) rfl rfl (fun _ _ h => AOp.loadEpN rfl rfl (ltb rfl) rfl agg68 size68 (leb rfl) rfl h) ?_
  first | refine AD.op [1] rfl (by kernel_rfl) rfl rfl (fun _ _ h => AOp.fieldAddr rfl rfl (ltb rfl) rfl fo81_1 h) ?_ | refine AD.op [1] rfl (by kernel_rfl) rfl rfl (fun _ _ h => AOp.fieldAddrPt rfl rfl (ltb rfl) rfl fo81_1 h) ?_ | refine AD.op [1] rfl (by kernel_rfl) rfl rfl (fun _ _ h => AOp.fieldAddrEp rfl rfl (ltb rfl) rfl fo81_1 h) ?_
  first | refine AD.op [10] rfl (by kernel_rfl) rfl rfl (fun _ _ h => AOp.loadN rfl rfl (ltb rfl) rfl agg68 size68 rfl (leb rfl) rfl h) ?_ | refine AD.op [10] rfl (by kernel_rfl) rfl rfl (fun _ _ h => AOp.loadEpN rfl rfl (ltb rfl) rfl agg68 size68 (leb rfl) rfl h) ?_
  refine AD.op [9, 11] rfl (by kernel_rfl) rfl rfl (fun _ _ h => AOp.callD rfl rfl (ltb rfl) rfl (maxElem2 _ _ _ _) (by rintro _ rfl; exact h)) ?_
  refine AD.op [7, 12] rfl (by kernel_rfl) rfl rfl (fun _ _ h => AOp.build rfl rfl (ltb rfl) zero81 rfl places81 rfl rfl h) ?_
  refine AD.done ?_
  refine AO.op rfl (AOp.store rfl rfl rfl rfl size81 rfl rfl rfl (leb rfl) ?_)
  refine AO.nil ?_
  change AC _ _ _ _
  refine AC.ret ?_
  change RetQ _ _ _ .ret _
  refine retq rfl ?_
  exact rfl

set_option maxRecDepth 100000 in
/-- pub-orthodrome/impl.plainBox2 -/
theorem plainBox2 (ax ay cx cy : Nat) : FnD Try.prog 43 [.ag [dfl ax, dfl ay, dfl cx, dfl cy]] (fun r => r = .ag [dfl ax, dfl ay, dfl cx, dfl cy]) := by
  refine FnD.of (by kernel_rfl) Try.func43 rfl Try.ntmps43 rfl (leb rfl) fun W ok => ?_
  refine AC.seq ?_
  refine AC.region ?_
  refine AO.op rfl (AOp.box rfl rfl (ltb rfl) rfl rfl ?_)
  refine AO.op rfl (AOp.alloc rfl rfl (ltb rfl) zero47 rfl ?_)
  refine AO.nil ?_
  change AC _ _ _ _
  refine AC.seq ?_
  refine AC.draw 7 mixed (by kernel_rfl) ?_
  first | refine AD.op [1] rfl (by kernel_rfl) rfl rfl (fun _ _ h => AOp.fieldAddr rfl rfl (ltb rfl) rfl fo81_0 h) ?_ | refine AD.op [1] rfl (by kernel_rfl) rfl rfl (fun _ _ h => AOp.fieldAddrPt rfl rfl (ltb rfl) rfl fo81_0 h) ?_ | refine AD.op [1] rfl (by kernel_rfl) rfl rfl (fun _ _ h => AOp.fieldAddrEp rfl rfl (ltb rfl) rfl fo81_0 h) ?_
  first | refine AD.op [3] rfl (by kernel_rfl) rfl rfl (fun _ _ h => AOp.loadN rfl rfl (ltb rfl) rfl agg68 size68 rfl (leb rfl) rfl h) ?_ | refine AD.op [3] rfl (by kernel_rfl) rfl rfl (fun _ _ h => AOp.loadEpN rfl rfl (ltb rfl) rfl agg68 size68 (leb rfl) rfl h) ?_
  refine AD.op [4] rfl (by kernel_rfl) rfl rfl (fun _ _ h => AOp.callD rfl rfl (ltb rfl) rfl (plainP2 _ _) (by rintro _ rfl; exact h)) ?_
  first | refine AD.op [1] rfl (by kernel_rfl) rfl rfl (fun _ _ h => AOp.fieldAddr rfl rfl (ltb rfl) rfl fo81_1 h) ?_ | refine AD.op [1] rfl (by kernel_rfl) rfl rfl (fun _ _ h => AOp.fieldAddrPt rfl rfl (ltb rfl) rfl fo81_1 h) ?_ | refine AD.op [1] rfl (by kernel_rfl) rfl rfl (fun _ _ h => AOp.fieldAddrEp rfl rfl (ltb rfl) rfl fo81_1 h) ?_
  first | refine AD.op [6] rfl (by kernel_rfl) rfl rfl (fun _ _ h => AOp.loadN rfl rfl (ltb rfl) rfl agg68 size68 rfl (leb rfl) rfl h) ?_ | refine AD.op [6] rfl (by kernel_rfl) rfl rfl (fun _ _ h => AOp.loadEpN rfl rfl (ltb rfl) rfl agg68 size68 (leb rfl) rfl h) ?_
  refine AD.op [7] rfl (by kernel_rfl) rfl rfl (fun _ _ h => AOp.callD rfl rfl (ltb rfl) rfl (plainP2 _ _) (by rintro _ rfl; exact h)) ?_
  refine AD.op [5, 8] rfl (by kernel_rfl) rfl rfl (fun _ _ h => AOp.build rfl rfl (ltb rfl) zero47 rfl places47 rfl rfl h) ?_
  refine AD.done ?_
  refine AO.op rfl (AOp.store rfl rfl rfl rfl size47 rfl rfl rfl (leb rfl) ?_)
  refine AO.nil ?_
  change AC _ _ _ _
  refine AC.ret ?_
  change RetQ _ _ _ .ret _
  refine retq rfl ?_
  exact rfl

set_option maxRecDepth 100000 in
/-- pub-orthodrome/impl.NewBox2 -/
theorem implNewBox2 (ax ay cx cy : Nat) : FnD Try.prog 19 [dfl ax, dfl ay, dfl cx, dfl cy] (fun r => r = .ag [dfl (Flt.amin ax cx), dfl (Flt.amin ay cy), dfl (Flt.amax ax cx), dfl (Flt.amax ay cy)]) := by
  refine FnD.of (by kernel_rfl) Try.func19 rfl Try.ntmps19 rfl (leb rfl) fun W ok => ?_
  refine AC.seq ?_
  refine AC.region ?_
  refine AO.op rfl (AOp.alloc rfl rfl (ltb rfl) zero47 rfl ?_)
  refine AO.nil ?_
  change AC _ _ _ _
  refine AC.seq ?_
  refine AC.region ?_
  refine AO.op rfl (AOp.move rfl rfl (ltb rfl) rfl ?_)
  refine AO.op rfl (AOp.move rfl rfl (ltb rfl) rfl ?_)
  refine AO.op rfl (AOp.move rfl rfl (ltb rfl) rfl ?_)
  refine AO.op rfl (AOp.move rfl rfl (ltb rfl) rfl ?_)
  refine AO.op rfl (AOp.callD rfl rfl (ltb rfl) rfl (newBox2 _ _ _ _) ?_)
  rintro _ rfl
  refine AO.op rfl (AOp.callD rfl rfl (ltb rfl) rfl (plainBox2 _ _ _ _) ?_)
  rintro _ rfl
  refine AO.op rfl (AOp.store rfl rfl rfl rfl size47 rfl rfl rfl (leb rfl) ?_)
  refine AO.nil ?_
  change AC _ _ _ _
  refine AC.ret ?_
  change RetQ _ _ _ .ret _
  refine retq rfl ?_
  exact rfl

set_option maxRecDepth 100000 in
/-- pub-orthodrome/impl.Canon2 -/
theorem implCanon2 (ax ay cx cy : Nat) : FnD Try.prog 21 [.ag [dfl ax, dfl ay, dfl cx, dfl cy]] (fun r => r = .ag [dfl (Flt.amin ax cx), dfl (Flt.amin ay cy), dfl (Flt.amax ax cx), dfl (Flt.amax ay cy)]) := by
  refine FnD.of (by kernel_rfl) Try.func21 rfl Try.ntmps21 rfl (leb rfl) fun W ok => ?_
  refine AC.seq ?_
  refine AC.region ?_
  refine AO.op rfl (AOp.box rfl rfl (ltb rfl) rfl rfl ?_)
  refine AO.op rfl (AOp.alloc rfl rfl (ltb rfl) zero47 rfl ?_)
  refine AO.nil ?_
  change AC _ _ _ _
  refine AC.seq ?_
  refine AC.draw 9 mixed (by kernel_rfl) ?_
  first | refine AD.op [1] rfl (by kernel_rfl) rfl rfl (fun _ _ h => AOp.fieldAddr rfl rfl (ltb rfl) rfl fo47_0 h) ?_ | refine AD.op [1] rfl (by kernel_rfl) rfl rfl (fun _ _ h => AOp.fieldAddrPt rfl rfl (ltb rfl) rfl fo47_0 h) ?_ | refine AD.op [1] rfl (by kernel_rfl) rfl rfl (fun _ _ h => AOp.fieldAddrEp rfl rfl (ltb rfl) rfl fo47_0 h) ?_
  first | refine AD.op [3] rfl (by kernel_rfl) rfl rfl (fun _ _ h => AOp.loadN rfl rfl (ltb rfl) rfl agg24 size24 rfl (leb rfl) rfl h) ?_ | refine AD.op [3] rfl (by kernel_rfl) rfl rfl (fun _ _ h => AOp.loadEpN rfl rfl (ltb rfl) rfl agg24 size24 (leb rfl) rfl h) ?_
  refine AD.op [4] rfl (by kernel_rfl) rfl rfl (fun _ _ h => AOp.callD rfl rfl (ltb rfl) rfl (vec2 _ _) (by rintro _ rfl; exact h)) ?_
  first | refine AD.op [1] rfl (by kernel_rfl) rfl rfl (fun _ _ h => AOp.fieldAddr rfl rfl (ltb rfl) rfl fo47_1 h) ?_ | refine AD.op [1] rfl (by kernel_rfl) rfl rfl (fun _ _ h => AOp.fieldAddrPt rfl rfl (ltb rfl) rfl fo47_1 h) ?_ | refine AD.op [1] rfl (by kernel_rfl) rfl rfl (fun _ _ h => AOp.fieldAddrEp rfl rfl (ltb rfl) rfl fo47_1 h) ?_
  first | refine AD.op [6] rfl (by kernel_rfl) rfl rfl (fun _ _ h => AOp.loadN rfl rfl (ltb rfl) rfl agg24 size24 rfl (leb rfl) rfl h) ?_ | refine AD.op [6] rfl (by kernel_rfl) rfl rfl (fun _ _ h => AOp.loadEpN rfl rfl (ltb rfl) rfl agg24 size24 (leb rfl) rfl h) ?_
  refine AD.op [7] rfl (by kernel_rfl) rfl rfl (fun _ _ h => AOp.callD rfl rfl (ltb rfl) rfl (vec2 _ _) (by rintro _ rfl; exact h)) ?_
  refine AD.op [5, 8] rfl (by kernel_rfl) rfl rfl (fun _ _ h => AOp.build rfl rfl (ltb rfl) zero81 rfl places81 rfl rfl h) ?_
  refine AD.op [9] rfl (by kernel_rfl) rfl rfl (fun _ _ h => AOp.callD rfl rfl (ltb rfl) rfl (canonR2 _ _ _ _) (by rintro _ rfl; exact h)) ?_
  refine AD.op [10] rfl (by kernel_rfl) rfl rfl (fun _ _ h => AOp.callD rfl rfl (ltb rfl) rfl (plainBox2 _ _ _ _) (by rintro _ rfl; exact h)) ?_
  refine AD.done ?_
  refine AO.op rfl (AOp.store rfl rfl rfl rfl size47 rfl rfl rfl (leb rfl) ?_)
  refine AO.nil ?_
  change AC _ _ _ _
  refine AC.ret ?_
  change RetQ _ _ _ .ret _
  refine retq rfl ?_
  exact rfl

set_option maxRecDepth 100000 in
/-- pub-orthodrome/laws.canon2 -/
theorem canonL2 (ax ay cx cy : Nat) (hx : (FloatKind.f64.format.order ax cx).isSome = true) (hy : (FloatKind.f64.format.order ay cy).isSome = true) : FnD Try.prog 20 [.ag [dfl ax, dfl ay], .ag [dfl cx, dfl cy]] (fun r => r = .ag [dfl (bmin ax cx), dfl (bmin ay cy), dfl (bmax ax cx), dfl (bmax ay cy)]) := by
  refine FnD.of (by kernel_rfl) Try.func20 rfl Try.ntmps20 rfl (leb rfl) fun W ok => ?_
  refine AC.seq ?_
  refine AC.region ?_
  refine AO.op rfl (AOp.box rfl rfl (ltb rfl) rfl rfl ?_)
  refine AO.op rfl (AOp.box rfl rfl (ltb rfl) rfl rfl ?_)
  refine AO.op rfl (AOp.alloc rfl rfl (ltb rfl) zero47 rfl ?_)
  refine AO.nil ?_
  change AC _ _ _ _
  refine AC.seq ?_
  refine AC.region ?_
  first | refine AO.op rfl (AOp.fieldAddr rfl rfl (ltb rfl) rfl fo24_0 ?_) | refine AO.op rfl (AOp.fieldAddrPt rfl rfl (ltb rfl) rfl fo24_0 ?_) | refine AO.op rfl (AOp.fieldAddrEp rfl rfl (ltb rfl) rfl fo24_0 ?_)
  first | refine AO.op rfl (AOp.load1 rfl rfl (ltb rfl) rfl agg22 rfl rfl ?_) | refine AO.op rfl (AOp.loadEp rfl rfl (ltb rfl) rfl agg22 rfl ?_)
  first | refine AO.op rfl (AOp.fieldAddr rfl rfl (ltb rfl) rfl fo24_0 ?_) | refine AO.op rfl (AOp.fieldAddrPt rfl rfl (ltb rfl) rfl fo24_0 ?_) | refine AO.op rfl (AOp.fieldAddrEp rfl rfl (ltb rfl) rfl fo24_0 ?_)
  first | refine AO.op rfl (AOp.load1 rfl rfl (ltb rfl) rfl agg22 rfl rfl ?_) | refine AO.op rfl (AOp.loadEp rfl rfl (ltb rfl) rfl agg22 rfl ?_)
  refine AO.op rfl (AOp.fmin rfl rfl (ltb rfl) rfl rfl (by assumption) ?_)
  first | refine AO.op rfl (AOp.fieldAddr rfl rfl (ltb rfl) rfl fo24_1 ?_) | refine AO.op rfl (AOp.fieldAddrPt rfl rfl (ltb rfl) rfl fo24_1 ?_) | refine AO.op rfl (AOp.fieldAddrEp rfl rfl (ltb rfl) rfl fo24_1 ?_)
  first | refine AO.op rfl (AOp.load1 rfl rfl (ltb rfl) rfl agg22 rfl rfl ?_) | refine AO.op rfl (AOp.loadEp rfl rfl (ltb rfl) rfl agg22 rfl ?_)
  first | refine AO.op rfl (AOp.fieldAddr rfl rfl (ltb rfl) rfl fo24_1 ?_) | refine AO.op rfl (AOp.fieldAddrPt rfl rfl (ltb rfl) rfl fo24_1 ?_) | refine AO.op rfl (AOp.fieldAddrEp rfl rfl (ltb rfl) rfl fo24_1 ?_)
  first | refine AO.op rfl (AOp.load1 rfl rfl (ltb rfl) rfl agg22 rfl rfl ?_) | refine AO.op rfl (AOp.loadEp rfl rfl (ltb rfl) rfl agg22 rfl ?_)
  refine AO.op rfl (AOp.fmin rfl rfl (ltb rfl) rfl rfl (by assumption) ?_)
  refine AO.op rfl (AOp.build rfl rfl (ltb rfl) zero24 rfl places24 rfl rfl ?_)
  first | refine AO.op rfl (AOp.fieldAddr rfl rfl (ltb rfl) rfl fo24_0 ?_) | refine AO.op rfl (AOp.fieldAddrPt rfl rfl (ltb rfl) rfl fo24_0 ?_) | refine AO.op rfl (AOp.fieldAddrEp rfl rfl (ltb rfl) rfl fo24_0 ?_)
  first | refine AO.op rfl (AOp.load1 rfl rfl (ltb rfl) rfl agg22 rfl rfl ?_) | refine AO.op rfl (AOp.loadEp rfl rfl (ltb rfl) rfl agg22 rfl ?_)
  first | refine AO.op rfl (AOp.fieldAddr rfl rfl (ltb rfl) rfl fo24_0 ?_) | refine AO.op rfl (AOp.fieldAddrPt rfl rfl (ltb rfl) rfl fo24_0 ?_) | refine AO.op rfl (AOp.fieldAddrEp rfl rfl (ltb rfl) rfl fo24_0 ?_)
  first | refine AO.op rfl (AOp.load1 rfl rfl (ltb rfl) rfl agg22 rfl rfl ?_) | refine AO.op rfl (AOp.loadEp rfl rfl (ltb rfl) rfl agg22 rfl ?_)
  refine AO.op rfl (AOp.fmax rfl rfl (ltb rfl) rfl rfl (by assumption) ?_)
  first | refine AO.op rfl (AOp.fieldAddr rfl rfl (ltb rfl) rfl fo24_1 ?_) | refine AO.op rfl (AOp.fieldAddrPt rfl rfl (ltb rfl) rfl fo24_1 ?_) | refine AO.op rfl (AOp.fieldAddrEp rfl rfl (ltb rfl) rfl fo24_1 ?_)
  first | refine AO.op rfl (AOp.load1 rfl rfl (ltb rfl) rfl agg22 rfl rfl ?_) | refine AO.op rfl (AOp.loadEp rfl rfl (ltb rfl) rfl agg22 rfl ?_)
  first | refine AO.op rfl (AOp.fieldAddr rfl rfl (ltb rfl) rfl fo24_1 ?_) | refine AO.op rfl (AOp.fieldAddrPt rfl rfl (ltb rfl) rfl fo24_1 ?_) | refine AO.op rfl (AOp.fieldAddrEp rfl rfl (ltb rfl) rfl fo24_1 ?_)
  first | refine AO.op rfl (AOp.load1 rfl rfl (ltb rfl) rfl agg22 rfl rfl ?_) | refine AO.op rfl (AOp.loadEp rfl rfl (ltb rfl) rfl agg22 rfl ?_)
  refine AO.op rfl (AOp.fmax rfl rfl (ltb rfl) rfl rfl (by assumption) ?_)
  refine AO.op rfl (AOp.build rfl rfl (ltb rfl) zero24 rfl places24 rfl rfl ?_)
  refine AO.op rfl (AOp.build rfl rfl (ltb rfl) zero47 rfl places47 rfl rfl ?_)
  refine AO.op rfl (AOp.store rfl rfl rfl rfl size47 rfl rfl rfl (leb rfl) ?_)
  refine AO.nil ?_
  change AC _ _ _ _
  refine AC.ret ?_
  change RetQ _ _ _ .ret _
  refine retq rfl ?_
  exact rfl

set_option maxRecDepth 100000 in
/-- pub-orthodrome/laws.box2 -/
theorem boxL2 (ax ay cx cy : Nat) : FnD Try.prog 22 [.ag [dfl ax, dfl ay], .ag [dfl cx, dfl cy]] (fun r => r = .ag [dfl ax, dfl ay, dfl cx, dfl cy]) := by
  refine FnD.of (by kernel_rfl) Try.func22 rfl Try.ntmps22 rfl (leb rfl) fun W ok => ?_
  refine AC.seq ?_
  refine AC.region ?_
  refine AO.op rfl (AOp.box rfl rfl (ltb rfl) rfl rfl ?_)
  refine AO.op rfl (AOp.box rfl rfl (ltb rfl) rfl rfl ?_)
  refine AO.op rfl (AOp.alloc rfl rfl (ltb rfl) zero47 rfl ?_)
  refine AO.nil ?_
  change AC _ _ _ _
  refine AC.seq ?_
  refine AC.region ?_
  first | refine AO.op rfl (AOp.loadN rfl rfl (ltb rfl) rfl agg24 size24 rfl (leb rfl) rfl ?_) | refine AO.op rfl (AOp.loadEpN rfl rfl (ltb rfl) rfl agg24 size24 (leb rfl) rfl ?_)
  first | refine AO.op rfl (AOp.loadN rfl rfl (ltb rfl) rfl agg24 size24 rfl (leb rfl) rfl ?_) | refine AO.op rfl (AOp.loadEpN rfl rfl (ltb rfl) rfl agg24 size24 (leb rfl) rfl ?_)
  refine AO.op rfl (AOp.build rfl rfl (ltb rfl) zero47 rfl places47 rfl rfl ?_)
  refine AO.op rfl (AOp.store rfl rfl rfl rfl size47 rfl rfl rfl (leb rfl) ?_)
  refine AO.nil ?_
  change AC _ _ _ _
  refine AC.ret ?_
  change RetQ _ _ _ .ret _
  refine retq rfl ?_
  exact rfl

set_option maxRecDepth 100000 in
/-- pub-orthodrome/pub/gonum/spatial/r2.Scale -/
theorem scale2 (f x y a b : Nat) (ha : floatBits .mul .f64 f x = some a) (hb : floatBits .mul .f64 f y = some b) : FnD Try.prog 33 [dfl f, .ag [dfl x, dfl y]] (fun r => r = .ag [dfl a, dfl b]) := by
  refine FnD.of (by kernel_rfl) Try.func33 rfl Try.ntmps33 rfl (leb rfl) fun W ok => ?_
  refine AC.seq ?_
  refine AC.region ?_
  refine AO.op rfl (AOp.box rfl rfl (ltb rfl) rfl rfl ?_)
  refine AO.op rfl (AOp.alloc rfl rfl (ltb rfl) zero68 rfl ?_)
  refine AO.nil ?_
  change AC _ _ _ _
  refine AC.seq ?_
  refine AC.region ?_
  refine AO.op rfl (AOp.move rfl rfl (ltb rfl) rfl ?_)
  first | refine AO.op rfl (AOp.fieldAddr rfl rfl (ltb rfl) rfl fo68_0 ?_) | refine AO.op rfl (AOp.fieldAddrPt rfl rfl (ltb rfl) rfl fo68_0 ?_) | refine AO.op rfl (AOp.fieldAddrEp rfl rfl (ltb rfl) rfl fo68_0 ?_)
  first | refine AO.op rfl (AOp.load1 rfl rfl (ltb rfl) rfl agg22 rfl rfl ?_) | refine AO.op rfl (AOp.loadEp rfl rfl (ltb rfl) rfl agg22 rfl ?_)
  refine AO.op rfl (AOp.farith rfl rfl (ltb rfl) rfl rfl (by assumption) ?_)
  refine AO.op rfl (AOp.move rfl rfl (ltb rfl) rfl ?_)
  first | refine AO.op rfl (AOp.fieldAddr rfl rfl (ltb rfl) rfl fo68_1 ?_) | refine AO.op rfl (AOp.fieldAddrPt rfl rfl (ltb rfl) rfl fo68_1 ?_) | refine AO.op rfl (AOp.fieldAddrEp rfl rfl (ltb rfl) rfl fo68_1 ?_)
  first | refine AO.op rfl (AOp.load1 rfl rfl (ltb rfl) rfl agg22 rfl rfl ?_) | refine AO.op rfl (AOp.loadEp rfl rfl (ltb rfl) rfl agg22 rfl ?_)
  refine AO.op rfl (AOp.farith rfl rfl (ltb rfl) rfl rfl (by assumption) ?_)
  refine AO.op rfl (AOp.build rfl rfl (ltb rfl) zero68 rfl places68 rfl rfl ?_)
  refine AO.op rfl (AOp.store rfl rfl rfl rfl size68 rfl rfl rfl (leb rfl) ?_)
  refine AO.nil ?_
  change AC _ _ _ _
  refine AC.ret ?_
  change RetQ _ _ _ .ret _
  refine retq rfl ?_
  exact rfl

set_option maxRecDepth 100000 in
/-- pub-orthodrome/impl.Scale2 -/
theorem implScale2 (f x y a b : Nat) (ha : floatBits .mul .f64 f x = some a) (hb : floatBits .mul .f64 f y = some b) : FnD Try.prog 11 [dfl f, .ag [dfl x, dfl y]] (fun r => r = .ag [dfl a, dfl b]) := by
  refine FnD.of (by kernel_rfl) Try.func11 rfl Try.ntmps11 rfl (leb rfl) fun W ok => ?_
  refine AC.seq ?_
  refine AC.region ?_
  refine AO.op rfl (AOp.box rfl rfl (ltb rfl) rfl rfl ?_)
  refine AO.op rfl (AOp.alloc rfl rfl (ltb rfl) zero24 rfl ?_)
  refine AO.nil ?_
  change AC _ _ _ _
  refine AC.seq ?_
  refine AC.region ?_
  refine AO.op rfl (AOp.move rfl rfl (ltb rfl) rfl ?_)
  first | refine AO.op rfl (AOp.loadN rfl rfl (ltb rfl) rfl agg24 size24 rfl (leb rfl) rfl ?_) | refine AO.op rfl (AOp.loadEpN rfl rfl (ltb rfl) rfl agg24 size24 (leb rfl) rfl ?_)
  refine AO.op rfl (AOp.callV rfl rfl (ltb rfl) rfl rfl (vec2 _ _) (by rintro _ rfl; rfl) ?_)
  rintro _ rfl
  refine AO.op rfl (AOp.callD rfl rfl (ltb rfl) rfl (scale2 _ _ _ _ _ ha hb) ?_)
  rintro _ rfl
  refine AO.op rfl (AOp.callD rfl rfl (ltb rfl) rfl (plainP2 _ _) ?_)
  rintro _ rfl
  refine AO.op rfl (AOp.store rfl rfl rfl rfl size24 rfl rfl rfl (leb rfl) ?_)
  refine AO.nil ?_
  change AC _ _ _ _
  refine AC.ret ?_
  change RetQ _ _ _ .ret _
  refine retq rfl ?_
  exact rfl

theorem callBits (x : Nat) (w : World) : (callFunc 52 #[.float .f64 x]).run Try.prog w = .ok (.value (.int .u64 x)) w := by
  rw [run_callFunc_extern Try.func52 (by kernel_rfl) (by kernel_rfl) (by kernel_rfl) (e := Extern.MathFloatBits.float64bits) (by kernel_rfl), run_f64bits Try.prog x]
  rfl
theorem callFromBits (x : Nat) (w : World) : (callFunc 83 #[.int .u64 x]).run Try.prog w = .ok (.value (.float .f64 x)) w := by
  rw [run_callFunc_extern Try.func83 (by kernel_rfl) (by kernel_rfl) (by kernel_rfl) (e := Extern.MathFloatBits.float64frombits) (by kernel_rfl), run_f64frombits Try.prog x]
  rfl

set_option maxRecDepth 100000 in
/-- math.Abs -/
theorem mathAbs (x : Nat) : FnD Try.prog 81 [dfl x] (fun r => r = dfl (Flt.fabs x)) := by
  refine FnD.of (by kernel_rfl) Try.func81 rfl Try.ntmps81 rfl (leb rfl) fun W ok => ?_
  refine AC.seq ?_
  refine AC.region ?_
  refine AO.op rfl (AOp.assign rfl rfl (ltb rfl) rfl ?_)
  refine AO.nil ?_
  change AC _ _ _ _
  refine AC.seq ?_
  refine AC.region ?_
  refine AO.op rfl (AOp.move rfl rfl (ltb rfl) rfl ?_)
  refine AO.op rfl (AOp.callX [.float .f64 x] rfl rfl (ltb rfl) rfl (callBits x) ?_)
  refine AO.op rfl (AOp.ibits (by simp) rfl rfl (ltb rfl) rfl rfl (andNot_abs x) ?_)
  refine AO.op rfl (AOp.callX [.int .u64 ((Flt.fabs x : Nat) : Int)] rfl rfl (ltb rfl) rfl (callFromBits _) ?_)
  refine AO.op rfl (AOp.assign rfl rfl (ltb rfl) rfl ?_)
  refine AO.nil ?_
  change AC _ _ _ _
  refine AC.ret ?_
  change RetQ _ _ _ .ret _
  refine retq rfl ?_
  exact rfl

set_option maxRecDepth 100000 in
/-- pub-orthodrome/pub/gonum/spatial/r2.Add -/
theorem vAdd2 (ax ay cx cy rx ry : Nat) (hx : floatBits .add .f64 ax cx = some rx) (hy : floatBits .add .f64 ay cy = some ry) : FnD Try.prog 88 [.ag [dfl ax, dfl ay], .ag [dfl cx, dfl cy]] (fun r => r = .ag [dfl rx, dfl ry]) := by
  refine FnD.of (by kernel_rfl) Try.func88 rfl Try.ntmps88 rfl (leb rfl) fun W ok => ?_
  refine AC.seq ?_
  refine AC.region ?_
  refine AO.op rfl (AOp.box rfl rfl (ltb rfl) rfl rfl ?_)
  refine AO.op rfl (AOp.box rfl rfl (ltb rfl) rfl rfl ?_)
  refine AO.op rfl (AOp.alloc rfl rfl (ltb rfl) zero68 rfl ?_)
  refine AO.nil ?_
  change AC _ _ _ _
  refine AC.seq ?_
  refine AC.region ?_
  first | refine AO.op rfl (AOp.fieldAddr rfl rfl (ltb rfl) rfl fo68_0 ?_) | refine AO.op rfl (AOp.fieldAddrPt rfl rfl (ltb rfl) rfl fo68_0 ?_) | refine AO.op rfl (AOp.fieldAddrEp rfl rfl (ltb rfl) rfl fo68_0 ?_)
  first | refine AO.op rfl (AOp.load1 rfl rfl (ltb rfl) rfl agg22 rfl rfl ?_) | refine AO.op rfl (AOp.loadEp rfl rfl (ltb rfl) rfl agg22 rfl ?_)
  first | refine AO.op rfl (AOp.fieldAddr rfl rfl (ltb rfl) rfl fo68_0 ?_) | refine AO.op rfl (AOp.fieldAddrPt rfl rfl (ltb rfl) rfl fo68_0 ?_) | refine AO.op rfl (AOp.fieldAddrEp rfl rfl (ltb rfl) rfl fo68_0 ?_)
  first | refine AO.op rfl (AOp.load1 rfl rfl (ltb rfl) rfl agg22 rfl rfl ?_) | refine AO.op rfl (AOp.loadEp rfl rfl (ltb rfl) rfl agg22 rfl ?_)
  refine AO.op rfl (AOp.farith rfl rfl (ltb rfl) rfl rfl (by assumption) ?_)
  first | refine AO.op rfl (AOp.fieldAddr rfl rfl (ltb rfl) rfl fo68_1 ?_) | refine AO.op rfl (AOp.fieldAddrPt rfl rfl (ltb rfl) rfl fo68_1 ?_) | refine AO.op rfl (AOp.fieldAddrEp rfl rfl (ltb rfl) rfl fo68_1 ?_)
  first | refine AO.op rfl (AOp.load1 rfl rfl (ltb rfl) rfl agg22 rfl rfl ?_) | refine AO.op rfl (AOp.loadEp rfl rfl (ltb rfl) rfl agg22 rfl ?_)
  first | refine AO.op rfl (AOp.fieldAddr rfl rfl (ltb rfl) rfl fo68_1 ?_) | refine AO.op rfl (AOp.fieldAddrPt rfl rfl (ltb rfl) rfl fo68_1 ?_) | refine AO.op rfl (AOp.fieldAddrEp rfl rfl (ltb rfl) rfl fo68_1 ?_)
  first | refine AO.op rfl (AOp.load1 rfl rfl (ltb rfl) rfl agg22 rfl rfl ?_) | refine AO.op rfl (AOp.loadEp rfl rfl (ltb rfl) rfl agg22 rfl ?_)
  refine AO.op rfl (AOp.farith rfl rfl (ltb rfl) rfl rfl (by assumption) ?_)
  refine AO.op rfl (AOp.build rfl rfl (ltb rfl) zero68 rfl places68 rfl rfl ?_)
  refine AO.op rfl (AOp.store rfl rfl rfl rfl size68 rfl rfl rfl (leb rfl) ?_)
  refine AO.nil ?_
  change AC _ _ _ _
  refine AC.ret ?_
  change RetQ _ _ _ .ret _
  refine retq rfl ?_
  exact rfl

set_option maxRecDepth 100000 in
/-- pub-orthodrome/pub/gonum/spatial/r2.Sub -/
theorem vSub2 (ax ay cx cy rx ry : Nat) (hx : floatBits .sub .f64 ax cx = some rx) (hy : floatBits .sub .f64 ay cy = some ry) : FnD Try.prog 87 [.ag [dfl ax, dfl ay], .ag [dfl cx, dfl cy]] (fun r => r = .ag [dfl rx, dfl ry]) := by
  refine FnD.of (by kernel_rfl) Try.func87 rfl Try.ntmps87 rfl (leb rfl) fun W ok => ?_
  refine AC.seq ?_
  refine AC.region ?_
  refine AO.op rfl (AOp.box rfl rfl (ltb rfl) rfl rfl ?_)
  refine AO.op rfl (AOp.box rfl rfl (ltb rfl) rfl rfl ?_)
  refine AO.op rfl (AOp.alloc rfl rfl (ltb rfl) zero68 rfl ?_)
  refine AO.nil ?_
  change AC _ _ _ _
  refine AC.seq ?_
  refine AC.region ?_
  first | refine AO.op rfl (AOp.fieldAddr rfl rfl (ltb rfl) rfl fo68_0 ?_) | refine AO.op rfl (AOp.fieldAddrPt rfl rfl (ltb rfl) rfl fo68_0 ?_) | refine AO.op rfl (AOp.fieldAddrEp rfl rfl (ltb rfl) rfl fo68_0 ?_)
  first | refine AO.op rfl (AOp.load1 rfl rfl (ltb rfl) rfl agg22 rfl rfl ?_) | refine AO.op rfl (AOp.loadEp rfl rfl (ltb rfl) rfl agg22 rfl ?_)
  first | refine AO.op rfl (AOp.fieldAddr rfl rfl (ltb rfl) rfl fo68_0 ?_) | refine AO.op rfl (AOp.fieldAddrPt rfl rfl (ltb rfl) rfl fo68_0 ?_) | refine AO.op rfl (AOp.fieldAddrEp rfl rfl (ltb rfl) rfl fo68_0 ?_)
  first | refine AO.op rfl (AOp.load1 rfl rfl (ltb rfl) rfl agg22 rfl rfl ?_) | refine AO.op rfl (AOp.loadEp rfl rfl (ltb rfl) rfl agg22 rfl ?_)
  refine AO.op rfl (AOp.farith rfl rfl (ltb rfl) rfl rfl (by assumption) ?_)
  first | refine AO.op rfl (AOp.fieldAddr rfl rfl (ltb rfl) rfl fo68_1 ?_) | refine AO.op rfl (AOp.fieldAddrPt rfl rfl (ltb rfl) rfl fo68_1 ?_) | refine AO.op rfl (AOp.fieldAddrEp rfl rfl (ltb rfl) rfl fo68_1 ?_)
  first | refine AO.op rfl (AOp.load1 rfl rfl (ltb rfl) rfl agg22 rfl rfl ?_) | refine AO.op rfl (AOp.loadEp rfl rfl (ltb rfl) rfl agg22 rfl ?_)
  first | refine AO.op rfl (AOp.fieldAddr rfl rfl (ltb rfl) rfl fo68_1 ?_) | refine AO.op rfl (AOp.fieldAddrPt rfl rfl (ltb rfl) rfl fo68_1 ?_) | refine AO.op rfl (AOp.fieldAddrEp rfl rfl (ltb rfl) rfl fo68_1 ?_)
  first | refine AO.op rfl (AOp.load1 rfl rfl (ltb rfl) rfl agg22 rfl rfl ?_) | refine AO.op rfl (AOp.loadEp rfl rfl (ltb rfl) rfl agg22 rfl ?_)
  refine AO.op rfl (AOp.farith rfl rfl (ltb rfl) rfl rfl (by assumption) ?_)
  refine AO.op rfl (AOp.build rfl rfl (ltb rfl) zero68 rfl places68 rfl rfl ?_)
  refine AO.op rfl (AOp.store rfl rfl rfl rfl size68 rfl rfl rfl (leb rfl) ?_)
  refine AO.nil ?_
  change AC _ _ _ _
  refine AC.ret ?_
  change RetQ _ _ _ .ret _
  refine retq rfl ?_
  exact rfl

set_option maxRecDepth 100000 in
/-- pub-orthodrome/pub/gonum/spatial/r2.mulElem -/
theorem vMul2 (ax ay cx cy rx ry : Nat) (hx : floatBits .mul .f64 ax cx = some rx) (hy : floatBits .mul .f64 ay cy = some ry) : FnD Try.prog 70 [.ag [dfl ax, dfl ay], .ag [dfl cx, dfl cy]] (fun r => r = .ag [dfl rx, dfl ry]) := by
  refine FnD.of (by kernel_rfl) Try.func70 rfl Try.ntmps70 rfl (leb rfl) fun W ok => ?_
  refine AC.seq ?_
  refine AC.region ?_
  refine AO.op rfl (AOp.box rfl rfl (ltb rfl) rfl rfl ?_)
  refine AO.op rfl (AOp.box rfl rfl (ltb rfl) rfl rfl ?_)
  refine AO.op rfl (AOp.alloc rfl rfl (ltb rfl) zero68 rfl ?_)
  refine AO.nil ?_
  change AC _ _ _ _
  refine AC.seq ?_
  refine AC.region ?_
  first | refine AO.op rfl (AOp.fieldAddr rfl rfl (ltb rfl) rfl fo68_0 ?_) | refine AO.op rfl (AOp.fieldAddrPt rfl rfl (ltb rfl) rfl fo68_0 ?_) | refine AO.op rfl (AOp.fieldAddrEp rfl rfl (ltb rfl) rfl fo68_0 ?_)
  first | refine AO.op rfl (AOp.load1 rfl rfl (ltb rfl) rfl agg22 rfl rfl ?_) | refine AO.op rfl (AOp.loadEp rfl rfl (ltb rfl) rfl agg22 rfl ?_)
  first | refine AO.op rfl (AOp.fieldAddr rfl rfl (ltb rfl) rfl fo68_0 ?_) | refine AO.op rfl (AOp.fieldAddrPt rfl rfl (ltb rfl) rfl fo68_0 ?_) | refine AO.op rfl (AOp.fieldAddrEp rfl rfl (ltb rfl) rfl fo68_0 ?_)
  first | refine AO.op rfl (AOp.load1 rfl rfl (ltb rfl) rfl agg22 rfl rfl ?_) | refine AO.op rfl (AOp.loadEp rfl rfl (ltb rfl) rfl agg22 rfl ?_)
  refine AO.op rfl (AOp.farith rfl rfl (ltb rfl) rfl rfl (by assumption) ?_)
  first | refine AO.op rfl (AOp.fieldAddr rfl rfl (ltb rfl) rfl fo68_1 ?_) | refine AO.op rfl (AOp.fieldAddrPt rfl rfl (ltb rfl) rfl fo68_1 ?_) | refine AO.op rfl (AOp.fieldAddrEp rfl rfl (ltb rfl) rfl fo68_1 ?_)
  first | refine AO.op rfl (AOp.load1 rfl rfl (ltb rfl) rfl agg22 rfl rfl ?_) | refine AO.op rfl (AOp.loadEp rfl rfl (ltb rfl) rfl agg22 rfl ?_)
  first | refine AO.op rfl (AOp.fieldAddr rfl rfl (ltb rfl) rfl fo68_1 ?_) | refine AO.op rfl (AOp.fieldAddrPt rfl rfl (ltb rfl) rfl fo68_1 ?_) | refine AO.op rfl (AOp.fieldAddrEp rfl rfl (ltb rfl) rfl fo68_1 ?_)
  first | refine AO.op rfl (AOp.load1 rfl rfl (ltb rfl) rfl agg22 rfl rfl ?_) | refine AO.op rfl (AOp.loadEp rfl rfl (ltb rfl) rfl agg22 rfl ?_)
  refine AO.op rfl (AOp.farith rfl rfl (ltb rfl) rfl rfl (by assumption) ?_)
  refine AO.op rfl (AOp.build rfl rfl (ltb rfl) zero68 rfl places68 rfl rfl ?_)
  refine AO.op rfl (AOp.store rfl rfl rfl rfl size68 rfl rfl rfl (leb rfl) ?_)
  refine AO.nil ?_
  change AC _ _ _ _
  refine AC.ret ?_
  change RetQ _ _ _ .ret _
  refine retq rfl ?_
  exact rfl

set_option maxRecDepth 100000 in
/-- pub-orthodrome/pub/gonum/spatial/r2.absElem -/
theorem vAbs2 (ax ay : Nat) : FnD Try.prog 86 [.ag [dfl ax, dfl ay]] (fun r => r = .ag [dfl (Flt.fabs ax), dfl (Flt.fabs ay)]) := by
  refine FnD.of (by kernel_rfl) Try.func86 rfl Try.ntmps86 rfl (leb rfl) fun W ok => ?_
  refine AC.seq ?_
  refine AC.region ?_
  refine AO.op rfl (AOp.box rfl rfl (ltb rfl) rfl rfl ?_)
  refine AO.op rfl (AOp.alloc rfl rfl (ltb rfl) zero68 rfl ?_)
  refine AO.nil ?_
  change AC _ _ _ _
  refine AC.seq ?_
  refine AC.draw 7 mixed (by kernel_rfl) ?_
  first | refine AD.op [1] rfl (by kernel_rfl) rfl rfl (fun _ _ h => AOp.fieldAddr rfl rfl (ltb rfl) rfl fo68_0 h) ?_ | refine AD.op [1] rfl (by kernel_rfl) rfl rfl (fun _ _ h => AOp.fieldAddrPt rfl rfl (ltb rfl) rfl fo68_0 h) ?_ | refine AD.op [1] rfl (by kernel_rfl) rfl rfl (fun _ _ h => AOp.fieldAddrEp rfl rfl (ltb rfl) rfl fo68_0 h) ?_
  first | refine AD.op [3] rfl (by kernel_rfl) rfl rfl (fun _ _ h => AOp.load1 rfl rfl (ltb rfl) rfl agg22 rfl rfl h) ?_ | refine AD.op [3] rfl (by kernel_rfl) rfl rfl (fun _ _ h => AOp.loadEp rfl rfl (ltb rfl) rfl agg22 rfl h) ?_
  refine AD.op [4] rfl (by kernel_rfl) rfl rfl (fun _ _ h => AOp.callD rfl rfl (ltb rfl) rfl (mathAbs _) (by rintro _ rfl; exact h)) ?_
  first | refine AD.op [1] rfl (by kernel_rfl) rfl rfl (fun _ _ h => AOp.fieldAddr rfl rfl (ltb rfl) rfl fo68_1 h) ?_ | refine AD.op [1] rfl (by kernel_rfl) rfl rfl (fun _ _ h => AOp.fieldAddrPt rfl rfl (ltb rfl) rfl fo68_1 h) ?_ | refine AD.op [1] rfl (by kernel_rfl) rfl rfl (fun _ _ h => AOp.fieldAddrEp rfl rfl (ltb rfl) rfl fo68_1 h) ?_
  first | refine AD.op [6] rfl (by kernel_rfl) rfl rfl (fun _ _ h => AOp.load1 rfl rfl (ltb rfl) rfl agg22 rfl rfl h) ?_ | refine AD.op [6] rfl (by kernel_rfl) rfl rfl (fun _ _ h => AOp.loadEp rfl rfl (ltb rfl) rfl agg22 rfl h) ?_
  refine AD.op [7] rfl (by kernel_rfl) rfl rfl (fun _ _ h => AOp.callD rfl rfl (ltb rfl) rfl (mathAbs _) (by rintro _ rfl; exact h)) ?_
  refine AD.op [5, 8] rfl (by kernel_rfl) rfl rfl (fun _ _ h => AOp.build rfl rfl (ltb rfl) zero68 rfl places68 rfl rfl h) ?_
  refine AD.done ?_
  refine AO.op rfl (AOp.store rfl rfl rfl rfl size68 rfl rfl rfl (leb rfl) ?_)
  refine AO.nil ?_
  change AC _ _ _ _
  refine AC.ret ?_
  change RetQ _ _ _ .ret _
  refine retq rfl ?_
  exact rfl

set_option maxRecDepth 100000 in
/-- (pub-orthodrome/pub/gonum/spatial/r2.Box).Center -/
theorem bCenter2 (mnx mny mxx mxy fx fy c0x c0y ccx ccy s0x s0y sx sy hx hy lox loy hix hiy : Nat) (Kx : Flt.Ch mnx mxx fx c0x ccx s0x sx hx lox hix) (Ky : Flt.Ch mny mxy fy c0y ccy s0y sy hy loy hiy) : FnD Try.prog 69 [.ag [dfl mnx, dfl mny, dfl mxx, dfl mxy]] (fun r => r = .ag [dfl ccx, dfl ccy]) := by
  refine FnD.of (by kernel_rfl) Try.func69 rfl Try.ntmps69 rfl (leb rfl) fun W ok => ?_
  refine AC.seq ?_
  refine AC.region ?_
  refine AO.op rfl (AOp.box rfl rfl (ltb rfl) rfl rfl ?_)
  refine AO.op rfl (AOp.alloc rfl rfl (ltb rfl) zero68 rfl ?_)
  refine AO.nil ?_
  change AC _ _ _ _
  refine AC.seq ?_
  refine AC.region ?_
  first | refine AO.op rfl (AOp.fieldAddr rfl rfl (ltb rfl) rfl fo81_0 ?_) | refine AO.op rfl (AOp.fieldAddrPt rfl rfl (ltb rfl) rfl fo81_0 ?_) | refine AO.op rfl (AOp.fieldAddrEp rfl rfl (ltb rfl) rfl fo81_0 ?_)
  first | refine AO.op rfl (AOp.loadN rfl rfl (ltb rfl) rfl agg68 size68 rfl (leb rfl) rfl ?_) | refine AO.op rfl (AOp.loadEpN rfl rfl (ltb rfl) rfl agg68 size68 (leb rfl) rfl ?_)
  first | refine AO.op rfl (AOp.fieldAddr rfl rfl (ltb rfl) rfl fo81_1 ?_) | refine AO.op rfl (AOp.fieldAddrPt rfl rfl (ltb rfl) rfl fo81_1 ?_) | refine AO.op rfl (AOp.fieldAddrEp rfl rfl (ltb rfl) rfl fo81_1 ?_)
  first | refine AO.op rfl (AOp.loadN rfl rfl (ltb rfl) rfl agg68 size68 rfl (leb rfl) rfl ?_) | refine AO.op rfl (AOp.loadEpN rfl rfl (ltb rfl) rfl agg68 size68 (leb rfl) rfl ?_)
  refine AO.op rfl (AOp.callD rfl rfl (ltb rfl) rfl (vAdd2 _ _ _ _ _ _ Kx.e1 Ky.e1) ?_)
  rintro _ rfl
  refine AO.op rfl (AOp.callD rfl rfl (ltb rfl) rfl (scale2 _ _ _ _ _ Kx.e2 Ky.e2) ?_)
  rintro _ rfl
  refine AO.op rfl (AOp.store rfl rfl rfl rfl size68 rfl rfl rfl (leb rfl) ?_)
  refine AO.nil ?_
  change AC _ _ _ _
  refine AC.ret ?_
  change RetQ _ _ _ .ret _
  refine retq rfl ?_
  exact rfl

set_option maxRecDepth 100000 in
/-- (pub-orthodrome/pub/gonum/spatial/r2.Box).Size -/
theorem bSize2 (mnx mny mxx mxy fx fy c0x c0y ccx ccy s0x s0y sx sy hx hy lox loy hix hiy : Nat) (Kx : Flt.Ch mnx mxx fx c0x ccx s0x sx hx lox hix) (Ky : Flt.Ch mny mxy fy c0y ccy s0y sy hy loy hiy) : FnD Try.prog 71 [.ag [dfl mnx, dfl mny, dfl mxx, dfl mxy]] (fun r => r = .ag [dfl s0x, dfl s0y]) := by
  refine FnD.of (by kernel_rfl) Try.func71 rfl Try.ntmps71 rfl (leb rfl) fun W ok => ?_
  refine AC.seq ?_
  refine AC.region ?_
  refine AO.op rfl (AOp.box rfl rfl (ltb rfl) rfl rfl ?_)
  refine AO.op rfl (AOp.alloc rfl rfl (ltb rfl) zero68 rfl ?_)
  refine AO.nil ?_
  change AC _ _ _ _
  refine AC.seq ?_
  refine AC.region ?_
  first | refine AO.op rfl (AOp.fieldAddr rfl rfl (ltb rfl) rfl fo81_1 ?_) | refine AO.op rfl (AOp.fieldAddrPt rfl rfl (ltb rfl) rfl fo81_1 ?_) | refine AO.op rfl (AOp.fieldAddrEp rfl rfl (ltb rfl) rfl fo81_1 ?_)
  first | refine AO.op rfl (AOp.loadN rfl rfl (ltb rfl) rfl agg68 size68 rfl (leb rfl) rfl ?_) | refine AO.op rfl (AOp.loadEpN rfl rfl (ltb rfl) rfl agg68 size68 (leb rfl) rfl ?_)
  first | refine AO.op rfl (AOp.fieldAddr rfl rfl (ltb rfl) rfl fo81_0 ?_) | refine AO.op rfl (AOp.fieldAddrPt rfl rfl (ltb rfl) rfl fo81_0 ?_) | refine AO.op rfl (AOp.fieldAddrEp rfl rfl (ltb rfl) rfl fo81_0 ?_)
  first | refine AO.op rfl (AOp.loadN rfl rfl (ltb rfl) rfl agg68 size68 rfl (leb rfl) rfl ?_) | refine AO.op rfl (AOp.loadEpN rfl rfl (ltb rfl) rfl agg68 size68 (leb rfl) rfl ?_)
  refine AO.op rfl (AOp.callD rfl rfl (ltb rfl) rfl (vSub2 _ _ _ _ _ _ Kx.e3 Ky.e3) ?_)
  rintro _ rfl
  refine AO.op rfl (AOp.store rfl rfl rfl rfl size68 rfl rfl rfl (leb rfl) ?_)
  refine AO.nil ?_
  change AC _ _ _ _
  refine AC.ret ?_
  change RetQ _ _ _ .ret _
  refine retq rfl ?_
  exact rfl

set_option maxRecDepth 100000 in
/-- pub-orthodrome/pub/gonum/spatial/r2.centeredBox -/
theorem bCentered2 (mnx mny mxx mxy fx fy c0x c0y ccx ccy s0x s0y sx sy hx hy lox loy hix hiy : Nat) (Kx : Flt.Ch mnx mxx fx c0x ccx s0x sx hx lox hix) (Ky : Flt.Ch mny mxy fy c0y ccy s0y sy hy loy hiy) : FnD Try.prog 68 [.ag [dfl ccx, dfl ccy], .ag [dfl sx, dfl sy]] (fun r => r = .ag [dfl lox, dfl loy, dfl hix, dfl hiy]) := by
  refine FnD.of (by kernel_rfl) Try.func68 rfl Try.ntmps68 rfl (leb rfl) fun W ok => ?_
  refine AC.seq ?_
  refine AC.region ?_
  refine AO.op rfl (AOp.box rfl rfl (ltb rfl) rfl rfl ?_)
  refine AO.op rfl (AOp.box rfl rfl (ltb rfl) rfl rfl ?_)
  refine AO.op rfl (AOp.alloc rfl rfl (ltb rfl) zero81 rfl ?_)
  refine AO.nil ?_
  change AC _ _ _ _
  refine AC.seq ?_
  refine AC.region ?_
  first | refine AO.op rfl (AOp.loadN rfl rfl (ltb rfl) rfl agg68 size68 rfl (leb rfl) rfl ?_) | refine AO.op rfl (AOp.loadEpN rfl rfl (ltb rfl) rfl agg68 size68 (leb rfl) rfl ?_)
  refine AO.op rfl (AOp.build rfl rfl (ltb rfl) zero68 rfl places68 rfl rfl ?_)
  refine AO.op rfl (AOp.callD rfl rfl (ltb rfl) rfl (maxElem2 _ _ _ _) ?_)
  rintro _ rfl
  refine AO.op rfl (AOp.store rfl rfl rfl rfl size68 rfl rfl rfl (leb rfl) ?_)
  refine AO.nil ?_
  change AC _ _ _ _
  refine AC.seq ?_
  refine AC.region ?_
  first | refine AO.op rfl (AOp.loadN rfl rfl (ltb rfl) rfl agg68 size68 rfl (leb rfl) rfl ?_) | refine AO.op rfl (AOp.loadEpN rfl rfl (ltb rfl) rfl agg68 size68 (leb rfl) rfl ?_)
  refine AO.op rfl (AOp.callD rfl rfl (ltb rfl) rfl (vAbs2 _ _) ?_)
  rintro _ rfl
  refine AO.op rfl (AOp.callD rfl rfl (ltb rfl) rfl (scale2 _ _ _ _ _ Kx.e5 Ky.e5) ?_)
  rintro _ rfl
  refine AO.op rfl (AOp.alloc rfl rfl (ltb rfl) zero68 rfl ?_)
  refine AO.op rfl (AOp.store rfl rfl rfl rfl size68 rfl rfl rfl (leb rfl) ?_)
  refine AO.nil ?_
  change AC _ _ _ _
  refine AC.seq ?_
  refine AC.draw 7 mixed (by kernel_rfl) ?_
  first | refine AD.op [2] rfl (by kernel_rfl) rfl rfl (fun _ _ h => AOp.loadN rfl rfl (ltb rfl) rfl agg68 size68 rfl (leb rfl) rfl h) ?_ | refine AD.op [2] rfl (by kernel_rfl) rfl rfl (fun _ _ h => AOp.loadEpN rfl rfl (ltb rfl) rfl agg68 size68 (leb rfl) rfl h) ?_
  first | refine AD.op [5] rfl (by kernel_rfl) rfl rfl (fun _ _ h => AOp.loadN rfl rfl (ltb rfl) rfl agg68 size68 rfl (leb rfl) rfl h) ?_ | refine AD.op [5] rfl (by kernel_rfl) rfl rfl (fun _ _ h => AOp.loadEpN rfl rfl (ltb rfl) rfl agg68 size68 (leb rfl) rfl h) ?_
  refine AD.op [12, 13] rfl (by kernel_rfl) rfl rfl (fun _ _ h => AOp.callD rfl rfl (ltb rfl) rfl (vSub2 _ _ _ _ _ _ Kx.e6 Ky.e6) (by rintro _ rfl; exact h)) ?_
  first | refine AD.op [2] rfl (by kernel_rfl) rfl rfl (fun _ _ h => AOp.loadN rfl rfl (ltb rfl) rfl agg68 size68 rfl (leb rfl) rfl h) ?_ | refine AD.op [2] rfl (by kernel_rfl) rfl rfl (fun _ _ h => AOp.loadEpN rfl rfl (ltb rfl) rfl agg68 size68 (leb rfl) rfl h) ?_
  first | refine AD.op [5] rfl (by kernel_rfl) rfl rfl (fun _ _ h => AOp.loadN rfl rfl (ltb rfl) rfl agg68 size68 rfl (leb rfl) rfl h) ?_ | refine AD.op [5] rfl (by kernel_rfl) rfl rfl (fun _ _ h => AOp.loadEpN rfl rfl (ltb rfl) rfl agg68 size68 (leb rfl) rfl h) ?_
  refine AD.op [15, 16] rfl (by kernel_rfl) rfl rfl (fun _ _ h => AOp.callD rfl rfl (ltb rfl) rfl (vAdd2 _ _ _ _ _ _ Kx.e7 Ky.e7) (by rintro _ rfl; exact h)) ?_
  refine AD.op [14, 17] rfl (by kernel_rfl) rfl rfl (fun _ _ h => AOp.build rfl rfl (ltb rfl) zero81 rfl places81 rfl rfl h) ?_
  refine AD.done ?_
  refine AO.op rfl (AOp.store rfl rfl rfl rfl size81 rfl rfl rfl (leb rfl) ?_)
  refine AO.nil ?_
  change AC _ _ _ _
  refine AC.ret ?_
  change RetQ _ _ _ .ret _
  refine retq rfl ?_
  exact rfl

set_option maxRecDepth 100000 in
/-- (pub-orthodrome/pub/gonum/spatial/r2.Box).Scale -/
theorem bScale2 (mnx mny mxx mxy fx fy c0x c0y ccx ccy s0x s0y sx sy hx hy lox loy hix hiy : Nat) (Kx : Flt.Ch mnx mxx fx c0x ccx s0x sx hx lox hix) (Ky : Flt.Ch mny mxy fy c0y ccy s0y sy hy loy hiy) : FnD Try.prog 49 [.ag [dfl mnx, dfl mny, dfl mxx, dfl mxy], .ag [dfl fx, dfl fy]] (fun r => r = .ag [dfl lox, dfl loy, dfl hix, dfl hiy]) := by
  refine FnD.of (by kernel_rfl) Try.func49 rfl Try.ntmps49 rfl (leb rfl) fun W ok => ?_
  refine AC.seq ?_
  refine AC.region ?_
  refine AO.op rfl (AOp.box rfl rfl (ltb rfl) rfl rfl ?_)
  refine AO.op rfl (AOp.box rfl rfl (ltb rfl) rfl rfl ?_)
  refine AO.op rfl (AOp.alloc rfl rfl (ltb rfl) zero81 rfl ?_)
  refine AO.nil ?_
  change AC _ _ _ _
  refine AC.seq ?_
  refine AC.region ?_
  first | refine AO.op rfl (AOp.loadN rfl rfl (ltb rfl) rfl agg68 size68 rfl (leb rfl) rfl ?_) | refine AO.op rfl (AOp.loadEpN rfl rfl (ltb rfl) rfl agg68 size68 (leb rfl) rfl ?_)
  refine AO.op rfl (AOp.build rfl rfl (ltb rfl) zero68 rfl places68 rfl rfl ?_)
  refine AO.op rfl (AOp.callD rfl rfl (ltb rfl) rfl (maxElem2 _ _ _ _) ?_)
  rintro _ rfl
  refine AO.op rfl (AOp.store rfl rfl rfl rfl size68 rfl rfl rfl (leb rfl) ?_)
  refine AO.nil ?_
  change AC _ _ _ _
  refine AC.seq ?_
  refine AC.draw 7 mixed (by kernel_rfl) ?_
  first | refine AD.op [2] rfl (by kernel_rfl) rfl rfl (fun _ _ h => AOp.loadN rfl rfl (ltb rfl) rfl agg81 size81 rfl (leb rfl) rfl h) ?_ | refine AD.op [2] rfl (by kernel_rfl) rfl rfl (fun _ _ h => AOp.loadEpN rfl rfl (ltb rfl) rfl agg81 size81 (leb rfl) rfl h) ?_
  refine AD.op [8] rfl (by kernel_rfl) rfl rfl (fun _ _ h => AOp.callD rfl rfl (ltb rfl) rfl (bCenter2 _ _ _ _ _ _ _ _ _ _ _ _ _ _ _ _ _ _ _ _ Kx Ky) (by rintro _ rfl; exact h)) ?_
  first | refine AD.op [3] rfl (by kernel_rfl) rfl rfl (fun _ _ h => AOp.loadN rfl rfl (ltb rfl) rfl agg68 size68 rfl (leb rfl) rfl h) ?_ | refine AD.op [3] rfl (by kernel_rfl) rfl rfl (fun _ _ h => AOp.loadEpN rfl rfl (ltb rfl) rfl agg68 size68 (leb rfl) rfl h) ?_
  first | refine AD.op [2] rfl (by kernel_rfl) rfl rfl (fun _ _ h => AOp.loadN rfl rfl (ltb rfl) rfl agg81 size81 rfl (leb rfl) rfl h) ?_ | refine AD.op [2] rfl (by kernel_rfl) rfl rfl (fun _ _ h => AOp.loadEpN rfl rfl (ltb rfl) rfl agg81 size81 (leb rfl) rfl h) ?_
  refine AD.op [11] rfl (by kernel_rfl) rfl rfl (fun _ _ h => AOp.callD rfl rfl (ltb rfl) rfl (bSize2 _ _ _ _ _ _ _ _ _ _ _ _ _ _ _ _ _ _ _ _ Kx Ky) (by rintro _ rfl; exact h)) ?_
  refine AD.op [10, 12] rfl (by kernel_rfl) rfl rfl (fun _ _ h => AOp.callD rfl rfl (ltb rfl) rfl (vMul2 _ _ _ _ _ _ Kx.e4 Ky.e4) (by rintro _ rfl; exact h)) ?_
  refine AD.op [9, 13] rfl (by kernel_rfl) rfl rfl (fun _ _ h => AOp.callD rfl rfl (ltb rfl) rfl (bCentered2 _ _ _ _ _ _ _ _ _ _ _ _ _ _ _ _ _ _ _ _ Kx Ky) (by rintro _ rfl; exact h)) ?_
  refine AD.done ?_
  refine AO.op rfl (AOp.store rfl rfl rfl rfl size81 rfl rfl rfl (leb rfl) ?_)
  refine AO.nil ?_
  change AC _ _ _ _
  refine AC.ret ?_
  change RetQ _ _ _ .ret _
  refine retq rfl ?_
  exact rfl

set_option maxRecDepth 100000 in
/-- pub-orthodrome/impl.ScaleBox2 -/
theorem implScaleBox2 (mnx mny mxx mxy fx fy c0x c0y ccx ccy s0x s0y sx sy hx hy lox loy hix hiy : Nat) (Kx : Flt.Ch mnx mxx fx c0x ccx s0x sx hx lox hix) (Ky : Flt.Ch mny mxy fy c0y ccy s0y sy hy loy hiy) : FnD Try.prog 28 [.ag [dfl mnx, dfl mny, dfl mxx, dfl mxy], .ag [dfl fx, dfl fy]] (fun r => r = .ag [dfl lox, dfl loy, dfl hix, dfl hiy]) := by
  refine FnD.of (by kernel_rfl) Try.func28 rfl Try.ntmps28 rfl (leb rfl) fun W ok => ?_
  refine AC.seq ?_
  refine AC.region ?_
  refine AO.op rfl (AOp.box rfl rfl (ltb rfl) rfl rfl ?_)
  refine AO.op rfl (AOp.box rfl rfl (ltb rfl) rfl rfl ?_)
  refine AO.op rfl (AOp.alloc rfl rfl (ltb rfl) zero47 rfl ?_)
  refine AO.nil ?_
  change AC _ _ _ _
  refine AC.seq ?_
  refine AC.draw 11 mixed (by kernel_rfl) ?_
  first | refine AD.op [2] rfl (by kernel_rfl) rfl rfl (fun _ _ h => AOp.fieldAddr rfl rfl (ltb rfl) rfl fo47_0 h) ?_ | refine AD.op [2] rfl (by kernel_rfl) rfl rfl (fun _ _ h => AOp.fieldAddrPt rfl rfl (ltb rfl) rfl fo47_0 h) ?_ | refine AD.op [2] rfl (by kernel_rfl) rfl rfl (fun _ _ h => AOp.fieldAddrEp rfl rfl (ltb rfl) rfl fo47_0 h) ?_
  first | refine AD.op [5] rfl (by kernel_rfl) rfl rfl (fun _ _ h => AOp.loadN rfl rfl (ltb rfl) rfl agg24 size24 rfl (leb rfl) rfl h) ?_ | refine AD.op [5] rfl (by kernel_rfl) rfl rfl (fun _ _ h => AOp.loadEpN rfl rfl (ltb rfl) rfl agg24 size24 (leb rfl) rfl h) ?_
  refine AD.op [6] rfl (by kernel_rfl) rfl rfl (fun _ _ h => AOp.callD rfl rfl (ltb rfl) rfl (vec2 _ _) (by rintro _ rfl; exact h)) ?_
  first | refine AD.op [2] rfl (by kernel_rfl) rfl rfl (fun _ _ h => AOp.fieldAddr rfl rfl (ltb rfl) rfl fo47_1 h) ?_ | refine AD.op [2] rfl (by kernel_rfl) rfl rfl (fun _ _ h => AOp.fieldAddrPt rfl rfl (ltb rfl) rfl fo47_1 h) ?_ | refine AD.op [2] rfl (by kernel_rfl) rfl rfl (fun _ _ h => AOp.fieldAddrEp rfl rfl (ltb rfl) rfl fo47_1 h) ?_
  first | refine AD.op [8] rfl (by kernel_rfl) rfl rfl (fun _ _ h => AOp.loadN rfl rfl (ltb rfl) rfl agg24 size24 rfl (leb rfl) rfl h) ?_ | refine AD.op [8] rfl (by kernel_rfl) rfl rfl (fun _ _ h => AOp.loadEpN rfl rfl (ltb rfl) rfl agg24 size24 (leb rfl) rfl h) ?_
  refine AD.op [9] rfl (by kernel_rfl) rfl rfl (fun _ _ h => AOp.callD rfl rfl (ltb rfl) rfl (vec2 _ _) (by rintro _ rfl; exact h)) ?_
  refine AD.op [7, 10] rfl (by kernel_rfl) rfl rfl (fun _ _ h => AOp.build rfl rfl (ltb rfl) zero81 rfl places81 rfl rfl h) ?_
  first | refine AD.op [3] rfl (by kernel_rfl) rfl rfl (fun _ _ h => AOp.loadN rfl rfl (ltb rfl) rfl agg24 size24 rfl (leb rfl) rfl h) ?_ | refine AD.op [3] rfl (by kernel_rfl) rfl rfl (fun _ _ h => AOp.loadEpN rfl rfl (ltb rfl) rfl agg24 size24 (leb rfl) rfl h) ?_
  refine AD.op [12] rfl (by kernel_rfl) rfl rfl (fun _ _ h => AOp.callD rfl rfl (ltb rfl) rfl (vec2 _ _) (by rintro _ rfl; exact h)) ?_
  refine AD.op [11, 13] rfl (by kernel_rfl) rfl rfl (fun _ _ h => AOp.callD rfl rfl (ltb rfl) rfl (bScale2 _ _ _ _ _ _ _ _ _ _ _ _ _ _ _ _ _ _ _ _ Kx Ky) (by rintro _ rfl; exact h)) ?_
  refine AD.op [14] rfl (by kernel_rfl) rfl rfl (fun _ _ h => AOp.callD rfl rfl (ltb rfl) rfl (plainBox2 _ _ _ _) (by rintro _ rfl; exact h)) ?_
  refine AD.done ?_
  refine AO.op rfl (AOp.store rfl rfl rfl rfl size47 rfl rfl rfl (leb rfl) ?_)
  refine AO.nil ?_
  change AC _ _ _ _
  refine AC.ret ?_
  change RetQ _ _ _ .ret _
  refine retq rfl ?_
  exact rfl

set_option maxRecDepth 100000 in
/-- pub-orthodrome/laws.canon2 -/
theorem canonA2 (ax ay cx cy : Nat) : FnD Try.prog 20 [.ag [dfl ax, dfl ay], .ag [dfl cx, dfl cy]] (fun r => ∃ mx my Mx My : Nat, r = .ag [dfl mx, dfl my, dfl Mx, dfl My] ∧ ((FloatKind.f64.format.order ax cx).isSome = true → mx = bmin ax cx ∧ Mx = bmax ax cx) ∧ ((FloatKind.f64.format.order ay cy).isSome = true → my = bmin ay cy ∧ My = bmax ay cy)) := by
  refine FnD.of (by kernel_rfl) Try.func20 rfl Try.ntmps20 rfl (leb rfl) fun W ok => ?_
  refine AC.seq ?_
  refine AC.region ?_
  refine AO.op rfl (AOp.box rfl rfl (ltb rfl) rfl rfl ?_)
  refine AO.op rfl (AOp.box rfl rfl (ltb rfl) rfl rfl ?_)
  refine AO.op rfl (AOp.alloc rfl rfl (ltb rfl) zero47 rfl ?_)
  refine AO.nil ?_
  change AC _ _ _ _
  refine AC.seq ?_
  refine AC.region ?_
  first | refine AO.op rfl (AOp.fieldAddr rfl rfl (ltb rfl) rfl fo24_0 ?_) | refine AO.op rfl (AOp.fieldAddrPt rfl rfl (ltb rfl) rfl fo24_0 ?_) | refine AO.op rfl (AOp.fieldAddrEp rfl rfl (ltb rfl) rfl fo24_0 ?_)
  first | refine AO.op rfl (AOp.load1 rfl rfl (ltb rfl) rfl agg22 rfl rfl ?_) | refine AO.op rfl (AOp.loadEp rfl rfl (ltb rfl) rfl agg22 rfl ?_)
  first | refine AO.op rfl (AOp.fieldAddr rfl rfl (ltb rfl) rfl fo24_0 ?_) | refine AO.op rfl (AOp.fieldAddrPt rfl rfl (ltb rfl) rfl fo24_0 ?_) | refine AO.op rfl (AOp.fieldAddrEp rfl rfl (ltb rfl) rfl fo24_0 ?_)
  first | refine AO.op rfl (AOp.load1 rfl rfl (ltb rfl) rfl agg22 rfl rfl ?_) | refine AO.op rfl (AOp.loadEp rfl rfl (ltb rfl) rfl agg22 rfl ?_)
  refine AO.op rfl (AOp.fminA rfl rfl (ltb rfl) rfl rfl ?_)
  rintro m1_4 hm1_4
  first | refine AO.op rfl (AOp.fieldAddr rfl rfl (ltb rfl) rfl fo24_1 ?_) | refine AO.op rfl (AOp.fieldAddrPt rfl rfl (ltb rfl) rfl fo24_1 ?_) | refine AO.op rfl (AOp.fieldAddrEp rfl rfl (ltb rfl) rfl fo24_1 ?_)
  first | refine AO.op rfl (AOp.load1 rfl rfl (ltb rfl) rfl agg22 rfl rfl ?_) | refine AO.op rfl (AOp.loadEp rfl rfl (ltb rfl) rfl agg22 rfl ?_)
  first | refine AO.op rfl (AOp.fieldAddr rfl rfl (ltb rfl) rfl fo24_1 ?_) | refine AO.op rfl (AOp.fieldAddrPt rfl rfl (ltb rfl) rfl fo24_1 ?_) | refine AO.op rfl (AOp.fieldAddrEp rfl rfl (ltb rfl) rfl fo24_1 ?_)
  first | refine AO.op rfl (AOp.load1 rfl rfl (ltb rfl) rfl agg22 rfl rfl ?_) | refine AO.op rfl (AOp.loadEp rfl rfl (ltb rfl) rfl agg22 rfl ?_)
  refine AO.op rfl (AOp.fminA rfl rfl (ltb rfl) rfl rfl ?_)
  rintro m1_9 hm1_9
  refine AO.op rfl (AOp.build rfl rfl (ltb rfl) zero24 rfl places24 rfl rfl ?_)
  first | refine AO.op rfl (AOp.fieldAddr rfl rfl (ltb rfl) rfl fo24_0 ?_) | refine AO.op rfl (AOp.fieldAddrPt rfl rfl (ltb rfl) rfl fo24_0 ?_) | refine AO.op rfl (AOp.fieldAddrEp rfl rfl (ltb rfl) rfl fo24_0 ?_)
  first | refine AO.op rfl (AOp.load1 rfl rfl (ltb rfl) rfl agg22 rfl rfl ?_) | refine AO.op rfl (AOp.loadEp rfl rfl (ltb rfl) rfl agg22 rfl ?_)
  first | refine AO.op rfl (AOp.fieldAddr rfl rfl (ltb rfl) rfl fo24_0 ?_) | refine AO.op rfl (AOp.fieldAddrPt rfl rfl (ltb rfl) rfl fo24_0 ?_) | refine AO.op rfl (AOp.fieldAddrEp rfl rfl (ltb rfl) rfl fo24_0 ?_)
  first | refine AO.op rfl (AOp.load1 rfl rfl (ltb rfl) rfl agg22 rfl rfl ?_) | refine AO.op rfl (AOp.loadEp rfl rfl (ltb rfl) rfl agg22 rfl ?_)
  refine AO.op rfl (AOp.fmaxA rfl rfl (ltb rfl) rfl rfl ?_)
  rintro m1_15 hm1_15
  first | refine AO.op rfl (AOp.fieldAddr rfl rfl (ltb rfl) rfl fo24_1 ?_) | refine AO.op rfl (AOp.fieldAddrPt rfl rfl (ltb rfl) rfl fo24_1 ?_) | refine AO.op rfl (AOp.fieldAddrEp rfl rfl (ltb rfl) rfl fo24_1 ?_)
  first | refine AO.op rfl (AOp.load1 rfl rfl (ltb rfl) rfl agg22 rfl rfl ?_) | refine AO.op rfl (AOp.loadEp rfl rfl (ltb rfl) rfl agg22 rfl ?_)
  first | refine AO.op rfl (AOp.fieldAddr rfl rfl (ltb rfl) rfl fo24_1 ?_) | refine AO.op rfl (AOp.fieldAddrPt rfl rfl (ltb rfl) rfl fo24_1 ?_) | refine AO.op rfl (AOp.fieldAddrEp rfl rfl (ltb rfl) rfl fo24_1 ?_)
  first | refine AO.op rfl (AOp.load1 rfl rfl (ltb rfl) rfl agg22 rfl rfl ?_) | refine AO.op rfl (AOp.loadEp rfl rfl (ltb rfl) rfl agg22 rfl ?_)
  refine AO.op rfl (AOp.fmaxA rfl rfl (ltb rfl) rfl rfl ?_)
  rintro m1_20 hm1_20
  refine AO.op rfl (AOp.build rfl rfl (ltb rfl) zero24 rfl places24 rfl rfl ?_)
  refine AO.op rfl (AOp.build rfl rfl (ltb rfl) zero47 rfl places47 rfl rfl ?_)
  refine AO.op rfl (AOp.store rfl rfl rfl rfl size47 rfl rfl rfl (leb rfl) ?_)
  refine AO.nil ?_
  change AC _ _ _ _
  refine AC.ret ?_
  change RetQ _ _ _ .ret _
  refine retq rfl ?_
  refine ⟨_, _, _, _, rfl, fun q => ⟨hm1_4 q, hm1_15 q⟩, fun q => ⟨hm1_9 q, hm1_20 q⟩⟩

set_option maxRecDepth 100000 in
/-- pub-orthodrome/laws.FnBoxScaled2 -/
theorem lawBoxScaled2 (ax ay cx cy fx fy : Nat) : FnD Try.prog 8 [.ag [dfl ax, dfl ay], .ag [dfl cx, dfl cy], .ag [dfl fx, dfl fy]] (fun r => r = dbool true) := by
  refine FnD.of (by kernel_rfl) Try.func8 rfl Try.ntmps8 rfl (leb rfl) fun W ok => ?_
  refine AC.seq ?_
  refine AC.region ?_
  refine AO.op rfl (AOp.box rfl rfl (ltb rfl) rfl rfl ?_)
  refine AO.op rfl (AOp.box rfl rfl (ltb rfl) rfl rfl ?_)
  refine AO.op rfl (AOp.box rfl rfl (ltb rfl) rfl rfl ?_)
  refine AO.op rfl (AOp.assign rfl rfl (ltb rfl) rfl ?_)
  refine AO.nil ?_
  change AC _ _ _ _
  refine AC.seq ?_
  refine AC.region ?_
  first | refine AO.op rfl (AOp.loadN rfl rfl (ltb rfl) rfl agg24 size24 rfl (leb rfl) rfl ?_) | refine AO.op rfl (AOp.loadEpN rfl rfl (ltb rfl) rfl agg24 size24 (leb rfl) rfl ?_)
  first | refine AO.op rfl (AOp.loadN rfl rfl (ltb rfl) rfl agg24 size24 rfl (leb rfl) rfl ?_) | refine AO.op rfl (AOp.loadEpN rfl rfl (ltb rfl) rfl agg24 size24 (leb rfl) rfl ?_)
  refine AO.op rfl (AOp.callD rfl rfl (ltb rfl) rfl (canonA2 _ _ _ _) ?_)
  rintro _ ⟨mx, my, Mx, My, rfl, Hx, Hy⟩
  refine AO.op rfl (AOp.alloc rfl rfl (ltb rfl) zero47 rfl ?_)
  refine AO.op rfl (AOp.store rfl rfl rfl rfl size47 rfl rfl rfl (leb rfl) ?_)
  refine AO.nil ?_
  change AC _ _ _ _
  refine AC.seq ?_
  refine AC.seq ?_
  refine AC.draw 17 mixed (by kernel_rfl) ?_
  first | refine AD.op [3] rfl (by kernel_rfl) rfl rfl (fun _ _ h => AOp.loadN rfl rfl (ltb rfl) rfl agg24 size24 rfl (leb rfl) rfl h) ?_ | refine AD.op [3] rfl (by kernel_rfl) rfl rfl (fun _ _ h => AOp.loadEpN rfl rfl (ltb rfl) rfl agg24 size24 (leb rfl) rfl h) ?_
  first | refine AD.op [4] rfl (by kernel_rfl) rfl rfl (fun _ _ h => AOp.loadN rfl rfl (ltb rfl) rfl agg24 size24 rfl (leb rfl) rfl h) ?_ | refine AD.op [4] rfl (by kernel_rfl) rfl rfl (fun _ _ h => AOp.loadEpN rfl rfl (ltb rfl) rfl agg24 size24 (leb rfl) rfl h) ?_
  first | refine AD.op [5] rfl (by kernel_rfl) rfl rfl (fun _ _ h => AOp.loadN rfl rfl (ltb rfl) rfl agg24 size24 rfl (leb rfl) rfl h) ?_ | refine AD.op [5] rfl (by kernel_rfl) rfl rfl (fun _ _ h => AOp.loadEpN rfl rfl (ltb rfl) rfl agg24 size24 (leb rfl) rfl h) ?_
  refine AD.op [12, 13, 14] rfl (by kernel_rfl) rfl rfl (fun _ _ h => AOp.buildSliceD rfl rfl (ltb rfl) el66 zero24 rfl (leb rfl) rfl rfl rfl rfl h) ?_
  refine AD.op [15] rfl (by kernel_rfl) rfl rfl (fun _ _ h => AOp.callV rfl rfl (ltb rfl) rfl rfl (whole2 [(ax, ay), (cx, cy), (fx, fy)] (by simp)) (by rintro _ rfl; rfl) (by rintro _ rfl; exact h)) ?_
  refine AD.op [16] rfl (by kernel_rfl) rfl rfl (fun _ _ h => AOp.bnot rfl rfl (ltb rfl) rfl h) ?_
  refine AD.op [17] rfl (by kernel_rfl) rfl rfl (fun _ _ h => AOp.move rfl rfl (ltb rfl) rfl h) ?_
  refine AD.split 18 false rfl (fun h1 => ?_) (fun h1 => ?_)
  · first | refine AD.opY [3, 18] rfl rfl rfl h1 (by kernel_rfl) rfl rfl (fun _ _ h => AOp.loadN rfl rfl (ltb rfl) rfl agg24 size24 rfl (leb rfl) rfl h) ?_ | refine AD.opY [3, 18] rfl rfl rfl h1 (by kernel_rfl) rfl rfl (fun _ _ h => AOp.loadEpN rfl rfl (ltb rfl) rfl agg24 size24 (leb rfl) rfl h) ?_
    refine AD.opY [18, 19] rfl rfl rfl h1 (by kernel_rfl) rfl rfl (fun _ _ h => AOp.callD rfl rfl (ltb rfl) rfl (off2 _ _) (by rintro _ rfl; exact h)) ?_
    first | refine AD.opY [4, 18] rfl rfl rfl h1 (by kernel_rfl) rfl rfl (fun _ _ h => AOp.loadN rfl rfl (ltb rfl) rfl agg24 size24 rfl (leb rfl) rfl h) ?_ | refine AD.opY [4, 18] rfl rfl rfl h1 (by kernel_rfl) rfl rfl (fun _ _ h => AOp.loadEpN rfl rfl (ltb rfl) rfl agg24 size24 (leb rfl) rfl h) ?_
    refine AD.opY [18, 21] rfl rfl rfl h1 (by kernel_rfl) rfl rfl (fun _ _ h => AOp.callD rfl rfl (ltb rfl) rfl (off2 _ _) (by rintro _ rfl; exact h)) ?_
    first | refine AD.opY [5, 18] rfl rfl rfl h1 (by kernel_rfl) rfl rfl (fun _ _ h => AOp.loadN rfl rfl (ltb rfl) rfl agg24 size24 rfl (leb rfl) rfl h) ?_ | refine AD.opY [5, 18] rfl rfl rfl h1 (by kernel_rfl) rfl rfl (fun _ _ h => AOp.loadEpN rfl rfl (ltb rfl) rfl agg24 size24 (leb rfl) rfl h) ?_
    refine AD.opY [18, 23] rfl rfl rfl h1 (by kernel_rfl) rfl rfl (fun _ _ h => AOp.callD rfl rfl (ltb rfl) rfl (off2 _ _) (by rintro _ rfl; exact h)) ?_
    refine AD.opY [18, 20, 22, 24] rfl rfl rfl h1 (by kernel_rfl) rfl rfl (fun _ _ h => AOp.buildSliceD rfl rfl (ltb rfl) el58 zero56 rfl (leb rfl) rfl rfl rfl rfl h) ?_
    refine AD.opY [18, 25] rfl rfl rfl h1 (by kernel_rfl) rfl rfl (fun _ _ h => AOp.callV rfl rfl (ltb rfl) rfl rfl (grid [[ax, ay], [cx, cy], [fx, fy]] 2 Flt.K10 (by simp) (by simp)) (by rintro _ rfl; rfl) (by rintro _ rfl; exact h)) ?_
    refine AD.opY [18, 26] rfl rfl rfl h1 (by kernel_rfl) rfl rfl (fun _ _ h => AOp.bnot rfl rfl (ltb rfl) rfl h) ?_
    refine AD.op [18, 27] rfl (by kernel_rfl) rfl rfl (fun _ _ h => AOp.pickN rfl rfl (ltb rfl) rfl h1 rfl h) ?_
    refine AD.done ?_
    refine AO.nil ?_
    change AC _ _ _ _
    refine AC.cond rfl (fun h2 => ?_) (fun h2 => ?_)
    · refine AC.seq ?_
      refine AC.region ?_
      refine AO.op rfl (AOp.assign rfl rfl (ltb rfl) rfl ?_)
      refine AO.nil ?_
      change AC _ _ _ _
      refine AC.ret ?_
      change RetQ _ _ _ .ret _
      refine retq rfl ?_
      first | rfl | (simp_all; done)
    · refine AC.skip ?_
      change AC _ _ _ _
      refine AC.seq ?_
      refine AC.region ?_
      have hw : gridB [[ax, ay], [cx, cy], [fx, fy]] 2 Flt.K10 = true := by simpa using h2
      obtain ⟨oax, oay, ocx, ocy, ofx, ofy⟩ : Flt.okF Flt.K10 ax = true ∧ Flt.okF Flt.K10 ay = true ∧ Flt.okF Flt.K10 cx = true ∧ Flt.okF Flt.K10 cy = true ∧ Flt.okF Flt.K10 fx = true ∧ Flt.okF Flt.K10 fy = true := by simpa [gridB, rowB, and_assoc] using hw
      obtain ⟨nax, iax, lax, uax⟩ := Flt.okF_K10 oax
      obtain ⟨nay, iay, lay, uay⟩ := Flt.okF_K10 oay
      obtain ⟨ncx, icx, lcx, ucx⟩ := Flt.okF_K10 ocx
      obtain ⟨ncy, icy, lcy, ucy⟩ := Flt.okF_K10 ocy
      obtain ⟨nfx, ifx, lfx, ufx⟩ := Flt.okF_K10 ofx
      obtain ⟨nfy, ify, lfy, ufy⟩ := Flt.okF_K10 ofy
      obtain ⟨Hmx, HMx⟩ := Hx (Flt.ord_some iax icx)
      have jmx : Flt.I mx (Flt.imin nax ncx) := by rw [Hmx]; exact (Flt.bmin_dy iax.J icx.J).I
      have jMx : Flt.I Mx (Flt.imax nax ncx) := by rw [HMx]; exact (Flt.bmax_dy iax.J icx.J).I
      have lmx : Flt.imin nax ncx ≤ Flt.imax nax ncx ∧ -1024 ≤ Flt.imin nax ncx ∧ Flt.imax nax ncx ≤ 1024 := by unfold Flt.imin Flt.imax; split <;> omega
      obtain ⟨c0x, ccx, s0x, sx, hx, lox, hix, d1x, d2x, e1x, e2x, e3x, Kx, q1x, q2x, q3x, q4x, q5x, q6x, q7x, q8x⟩ := Flt.chain jmx jMx ifx lmx.1 lmx.2.1 lmx.2.2 ufx
      obtain ⟨Hmy, HMy⟩ := Hy (Flt.ord_some iay icy)
      have jmy : Flt.I my (Flt.imin nay ncy) := by rw [Hmy]; exact (Flt.bmin_dy iay.J icy.J).I
      have jMy : Flt.I My (Flt.imax nay ncy) := by rw [HMy]; exact (Flt.bmax_dy iay.J icy.J).I
      have lmy : Flt.imin nay ncy ≤ Flt.imax nay ncy ∧ -1024 ≤ Flt.imin nay ncy ∧ Flt.imax nay ncy ≤ 1024 := by unfold Flt.imin Flt.imax; split <;> omega
      obtain ⟨c0y, ccy, s0y, sy, hy, loy, hiy, d1y, d2y, e1y, e2y, e3y, Ky, q1y, q2y, q3y, q4y, q5y, q6y, q7y, q8y⟩ := Flt.chain jmy jMy ify lmy.1 lmy.2.1 lmy.2.2 ufy
      first | refine AO.op rfl (AOp.loadN rfl rfl (ltb rfl) rfl agg47 size47 rfl (leb rfl) rfl ?_) | refine AO.op rfl (AOp.loadEpN rfl rfl (ltb rfl) rfl agg47 size47 (leb rfl) rfl ?_)
      first | refine AO.op rfl (AOp.loadN rfl rfl (ltb rfl) rfl agg24 size24 rfl (leb rfl) rfl ?_) | refine AO.op rfl (AOp.loadEpN rfl rfl (ltb rfl) rfl agg24 size24 (leb rfl) rfl ?_)
      refine AO.op rfl (AOp.callD rfl rfl (ltb rfl) rfl (implScaleBox2 _ _ _ _ _ _ _ _ _ _ _ _ _ _ _ _ _ _ _ _ Kx Ky) ?_)
      rintro _ rfl
      refine AO.op rfl (AOp.alloc rfl rfl (ltb rfl) zero47 rfl ?_)
      refine AO.op rfl (AOp.store rfl rfl rfl rfl size47 rfl rfl rfl (leb rfl) ?_)
      refine AO.nil ?_
      change AC _ _ _ _
      refine AC.seq ?_
      refine AC.region ?_
      first | refine AO.op rfl (AOp.fieldAddr rfl rfl (ltb rfl) rfl fo47_1 ?_) | refine AO.op rfl (AOp.fieldAddrPt rfl rfl (ltb rfl) rfl fo47_1 ?_) | refine AO.op rfl (AOp.fieldAddrEp rfl rfl (ltb rfl) rfl fo47_1 ?_)
      first | refine AO.op rfl (AOp.fieldAddr rfl rfl (ltb rfl) rfl fo24_0 ?_) | refine AO.op rfl (AOp.fieldAddrPt rfl rfl (ltb rfl) rfl fo24_0 ?_) | refine AO.op rfl (AOp.fieldAddrEp rfl rfl (ltb rfl) rfl fo24_0 ?_)
      first | refine AO.op rfl (AOp.load1 rfl rfl (ltb rfl) rfl agg22 rfl rfl ?_) | refine AO.op rfl (AOp.loadEp rfl rfl (ltb rfl) rfl agg22 rfl ?_)
      first | refine AO.op rfl (AOp.fieldAddr rfl rfl (ltb rfl) rfl fo47_0 ?_) | refine AO.op rfl (AOp.fieldAddrPt rfl rfl (ltb rfl) rfl fo47_0 ?_) | refine AO.op rfl (AOp.fieldAddrEp rfl rfl (ltb rfl) rfl fo47_0 ?_)
      first | refine AO.op rfl (AOp.fieldAddr rfl rfl (ltb rfl) rfl fo24_0 ?_) | refine AO.op rfl (AOp.fieldAddrPt rfl rfl (ltb rfl) rfl fo24_0 ?_) | refine AO.op rfl (AOp.fieldAddrEp rfl rfl (ltb rfl) rfl fo24_0 ?_)
      first | refine AO.op rfl (AOp.load1 rfl rfl (ltb rfl) rfl agg22 rfl rfl ?_) | refine AO.op rfl (AOp.loadEp rfl rfl (ltb rfl) rfl agg22 rfl ?_)
      refine AO.op rfl (AOp.farith rfl rfl (ltb rfl) rfl rfl (by assumption) ?_)
      first | refine AO.op rfl (AOp.fieldAddr rfl rfl (ltb rfl) rfl fo24_0 ?_) | refine AO.op rfl (AOp.fieldAddrPt rfl rfl (ltb rfl) rfl fo24_0 ?_) | refine AO.op rfl (AOp.fieldAddrEp rfl rfl (ltb rfl) rfl fo24_0 ?_)
      first | refine AO.op rfl (AOp.load1 rfl rfl (ltb rfl) rfl agg22 rfl rfl ?_) | refine AO.op rfl (AOp.loadEp rfl rfl (ltb rfl) rfl agg22 rfl ?_)
      refine AO.op rfl (AOp.fmax rfl rfl (ltb rfl) rfl rfl (by assumption) ?_)
      first | refine AO.op rfl (AOp.fieldAddr rfl rfl (ltb rfl) rfl fo47_1 ?_) | refine AO.op rfl (AOp.fieldAddrPt rfl rfl (ltb rfl) rfl fo47_1 ?_) | refine AO.op rfl (AOp.fieldAddrEp rfl rfl (ltb rfl) rfl fo47_1 ?_)
      first | refine AO.op rfl (AOp.fieldAddr rfl rfl (ltb rfl) rfl fo24_0 ?_) | refine AO.op rfl (AOp.fieldAddrPt rfl rfl (ltb rfl) rfl fo24_0 ?_) | refine AO.op rfl (AOp.fieldAddrEp rfl rfl (ltb rfl) rfl fo24_0 ?_)
      first | refine AO.op rfl (AOp.load1 rfl rfl (ltb rfl) rfl agg22 rfl rfl ?_) | refine AO.op rfl (AOp.loadEp rfl rfl (ltb rfl) rfl agg22 rfl ?_)
      first | refine AO.op rfl (AOp.fieldAddr rfl rfl (ltb rfl) rfl fo47_0 ?_) | refine AO.op rfl (AOp.fieldAddrPt rfl rfl (ltb rfl) rfl fo47_0 ?_) | refine AO.op rfl (AOp.fieldAddrEp rfl rfl (ltb rfl) rfl fo47_0 ?_)
      first | refine AO.op rfl (AOp.fieldAddr rfl rfl (ltb rfl) rfl fo24_0 ?_) | refine AO.op rfl (AOp.fieldAddrPt rfl rfl (ltb rfl) rfl fo24_0 ?_) | refine AO.op rfl (AOp.fieldAddrEp rfl rfl (ltb rfl) rfl fo24_0 ?_)
      first | refine AO.op rfl (AOp.load1 rfl rfl (ltb rfl) rfl agg22 rfl rfl ?_) | refine AO.op rfl (AOp.loadEp rfl rfl (ltb rfl) rfl agg22 rfl ?_)
      refine AO.op rfl (AOp.farith rfl rfl (ltb rfl) rfl rfl (by assumption) ?_)
      refine AO.op rfl (AOp.farith rfl rfl (ltb rfl) rfl rfl (by assumption) ?_)
      refine AO.op rfl (AOp.feql rfl rfl (ltb rfl) rfl rfl ?_)
      refine AO.op rfl (AOp.move rfl rfl (ltb rfl) rfl ?_)
      refine AO.guard rfl rfl rfl (ltb rfl) rfl (fun h3 => ?_) (fun h3 => ?_)
      · first | refine AOp.fieldAddr rfl rfl (ltb rfl) rfl fo47_1 ?_ | refine AOp.fieldAddrPt rfl rfl (ltb rfl) rfl fo47_1 ?_ | refine AOp.fieldAddrEp rfl rfl (ltb rfl) rfl fo47_1 ?_
        first | refine AO.guardY rfl rfl rfl h3 (AOp.fieldAddr rfl rfl (ltb rfl) rfl fo24_0 ?_) | refine AO.guardY rfl rfl rfl h3 (AOp.fieldAddrPt rfl rfl (ltb rfl) rfl fo24_0 ?_) | refine AO.guardY rfl rfl rfl h3 (AOp.fieldAddrEp rfl rfl (ltb rfl) rfl fo24_0 ?_)
        first | refine AO.guardY rfl rfl rfl h3 (AOp.load1 rfl rfl (ltb rfl) rfl agg22 rfl rfl ?_) | refine AO.guardY rfl rfl rfl h3 (AOp.loadEp rfl rfl (ltb rfl) rfl agg22 rfl ?_)
        first | refine AO.guardY rfl rfl rfl h3 (AOp.fieldAddr rfl rfl (ltb rfl) rfl fo47_0 ?_) | refine AO.guardY rfl rfl rfl h3 (AOp.fieldAddrPt rfl rfl (ltb rfl) rfl fo47_0 ?_) | refine AO.guardY rfl rfl rfl h3 (AOp.fieldAddrEp rfl rfl (ltb rfl) rfl fo47_0 ?_)
        first | refine AO.guardY rfl rfl rfl h3 (AOp.fieldAddr rfl rfl (ltb rfl) rfl fo24_0 ?_) | refine AO.guardY rfl rfl rfl h3 (AOp.fieldAddrPt rfl rfl (ltb rfl) rfl fo24_0 ?_) | refine AO.guardY rfl rfl rfl h3 (AOp.fieldAddrEp rfl rfl (ltb rfl) rfl fo24_0 ?_)
        first | refine AO.guardY rfl rfl rfl h3 (AOp.load1 rfl rfl (ltb rfl) rfl agg22 rfl rfl ?_) | refine AO.guardY rfl rfl rfl h3 (AOp.loadEp rfl rfl (ltb rfl) rfl agg22 rfl ?_)
        refine AO.guardY rfl rfl rfl h3 (AOp.farith rfl rfl (ltb rfl) rfl rfl (by assumption) ?_)
        first | refine AO.guardY rfl rfl rfl h3 (AOp.fieldAddr rfl rfl (ltb rfl) rfl fo47_1 ?_) | refine AO.guardY rfl rfl rfl h3 (AOp.fieldAddrPt rfl rfl (ltb rfl) rfl fo47_1 ?_) | refine AO.guardY rfl rfl rfl h3 (AOp.fieldAddrEp rfl rfl (ltb rfl) rfl fo47_1 ?_)
        first | refine AO.guardY rfl rfl rfl h3 (AOp.fieldAddr rfl rfl (ltb rfl) rfl fo24_0 ?_) | refine AO.guardY rfl rfl rfl h3 (AOp.fieldAddrPt rfl rfl (ltb rfl) rfl fo24_0 ?_) | refine AO.guardY rfl rfl rfl h3 (AOp.fieldAddrEp rfl rfl (ltb rfl) rfl fo24_0 ?_)
        first | refine AO.guardY rfl rfl rfl h3 (AOp.load1 rfl rfl (ltb rfl) rfl agg22 rfl rfl ?_) | refine AO.guardY rfl rfl rfl h3 (AOp.loadEp rfl rfl (ltb rfl) rfl agg22 rfl ?_)
        first | refine AO.guardY rfl rfl rfl h3 (AOp.fieldAddr rfl rfl (ltb rfl) rfl fo47_0 ?_) | refine AO.guardY rfl rfl rfl h3 (AOp.fieldAddrPt rfl rfl (ltb rfl) rfl fo47_0 ?_) | refine AO.guardY rfl rfl rfl h3 (AOp.fieldAddrEp rfl rfl (ltb rfl) rfl fo47_0 ?_)
        first | refine AO.guardY rfl rfl rfl h3 (AOp.fieldAddr rfl rfl (ltb rfl) rfl fo24_0 ?_) | refine AO.guardY rfl rfl rfl h3 (AOp.fieldAddrPt rfl rfl (ltb rfl) rfl fo24_0 ?_) | refine AO.guardY rfl rfl rfl h3 (AOp.fieldAddrEp rfl rfl (ltb rfl) rfl fo24_0 ?_)
        first | refine AO.guardY rfl rfl rfl h3 (AOp.load1 rfl rfl (ltb rfl) rfl agg22 rfl rfl ?_) | refine AO.guardY rfl rfl rfl h3 (AOp.loadEp rfl rfl (ltb rfl) rfl agg22 rfl ?_)
        refine AO.guardY rfl rfl rfl h3 (AOp.farith rfl rfl (ltb rfl) rfl rfl (by assumption) ?_)
        refine AO.guardY rfl rfl rfl h3 (AOp.feql rfl rfl (ltb rfl) rfl rfl ?_)
        refine AO.op rfl (AOp.pick rfl rfl (ltb rfl) rfl h3 rfl ?_)
        refine AO.op rfl (AOp.move rfl rfl (ltb rfl) rfl ?_)
        refine AO.guard rfl rfl rfl (ltb rfl) rfl (fun h4 => ?_) (fun h4 => ?_)
        · first | refine AOp.fieldAddr rfl rfl (ltb rfl) rfl fo47_1 ?_ | refine AOp.fieldAddrPt rfl rfl (ltb rfl) rfl fo47_1 ?_ | refine AOp.fieldAddrEp rfl rfl (ltb rfl) rfl fo47_1 ?_
          first | refine AO.guardY rfl rfl rfl h4 (AOp.fieldAddr rfl rfl (ltb rfl) rfl fo24_1 ?_) | refine AO.guardY rfl rfl rfl h4 (AOp.fieldAddrPt rfl rfl (ltb rfl) rfl fo24_1 ?_) | refine AO.guardY rfl rfl rfl h4 (AOp.fieldAddrEp rfl rfl (ltb rfl) rfl fo24_1 ?_)
          first | refine AO.guardY rfl rfl rfl h4 (AOp.load1 rfl rfl (ltb rfl) rfl agg22 rfl rfl ?_) | refine AO.guardY rfl rfl rfl h4 (AOp.loadEp rfl rfl (ltb rfl) rfl agg22 rfl ?_)
          first | refine AO.guardY rfl rfl rfl h4 (AOp.fieldAddr rfl rfl (ltb rfl) rfl fo47_0 ?_) | refine AO.guardY rfl rfl rfl h4 (AOp.fieldAddrPt rfl rfl (ltb rfl) rfl fo47_0 ?_) | refine AO.guardY rfl rfl rfl h4 (AOp.fieldAddrEp rfl rfl (ltb rfl) rfl fo47_0 ?_)
          first | refine AO.guardY rfl rfl rfl h4 (AOp.fieldAddr rfl rfl (ltb rfl) rfl fo24_1 ?_) | refine AO.guardY rfl rfl rfl h4 (AOp.fieldAddrPt rfl rfl (ltb rfl) rfl fo24_1 ?_) | refine AO.guardY rfl rfl rfl h4 (AOp.fieldAddrEp rfl rfl (ltb rfl) rfl fo24_1 ?_)
          first | refine AO.guardY rfl rfl rfl h4 (AOp.load1 rfl rfl (ltb rfl) rfl agg22 rfl rfl ?_) | refine AO.guardY rfl rfl rfl h4 (AOp.loadEp rfl rfl (ltb rfl) rfl agg22 rfl ?_)
          refine AO.guardY rfl rfl rfl h4 (AOp.farith rfl rfl (ltb rfl) rfl rfl (by assumption) ?_)
          first | refine AO.guardY rfl rfl rfl h4 (AOp.fieldAddr rfl rfl (ltb rfl) rfl fo24_1 ?_) | refine AO.guardY rfl rfl rfl h4 (AOp.fieldAddrPt rfl rfl (ltb rfl) rfl fo24_1 ?_) | refine AO.guardY rfl rfl rfl h4 (AOp.fieldAddrEp rfl rfl (ltb rfl) rfl fo24_1 ?_)
          first | refine AO.guardY rfl rfl rfl h4 (AOp.load1 rfl rfl (ltb rfl) rfl agg22 rfl rfl ?_) | refine AO.guardY rfl rfl rfl h4 (AOp.loadEp rfl rfl (ltb rfl) rfl agg22 rfl ?_)
          refine AO.guardY rfl rfl rfl h4 (AOp.fmax rfl rfl (ltb rfl) rfl rfl (by assumption) ?_)
          first | refine AO.guardY rfl rfl rfl h4 (AOp.fieldAddr rfl rfl (ltb rfl) rfl fo47_1 ?_) | refine AO.guardY rfl rfl rfl h4 (AOp.fieldAddrPt rfl rfl (ltb rfl) rfl fo47_1 ?_) | refine AO.guardY rfl rfl rfl h4 (AOp.fieldAddrEp rfl rfl (ltb rfl) rfl fo47_1 ?_)
          first | refine AO.guardY rfl rfl rfl h4 (AOp.fieldAddr rfl rfl (ltb rfl) rfl fo24_1 ?_) | refine AO.guardY rfl rfl rfl h4 (AOp.fieldAddrPt rfl rfl (ltb rfl) rfl fo24_1 ?_) | refine AO.guardY rfl rfl rfl h4 (AOp.fieldAddrEp rfl rfl (ltb rfl) rfl fo24_1 ?_)
          first | refine AO.guardY rfl rfl rfl h4 (AOp.load1 rfl rfl (ltb rfl) rfl agg22 rfl rfl ?_) | refine AO.guardY rfl rfl rfl h4 (AOp.loadEp rfl rfl (ltb rfl) rfl agg22 rfl ?_)
          first | refine AO.guardY rfl rfl rfl h4 (AOp.fieldAddr rfl rfl (ltb rfl) rfl fo47_0 ?_) | refine AO.guardY rfl rfl rfl h4 (AOp.fieldAddrPt rfl rfl (ltb rfl) rfl fo47_0 ?_) | refine AO.guardY rfl rfl rfl h4 (AOp.fieldAddrEp rfl rfl (ltb rfl) rfl fo47_0 ?_)
          first | refine AO.guardY rfl rfl rfl h4 (AOp.fieldAddr rfl rfl (ltb rfl) rfl fo24_1 ?_) | refine AO.guardY rfl rfl rfl h4 (AOp.fieldAddrPt rfl rfl (ltb rfl) rfl fo24_1 ?_) | refine AO.guardY rfl rfl rfl h4 (AOp.fieldAddrEp rfl rfl (ltb rfl) rfl fo24_1 ?_)
          first | refine AO.guardY rfl rfl rfl h4 (AOp.load1 rfl rfl (ltb rfl) rfl agg22 rfl rfl ?_) | refine AO.guardY rfl rfl rfl h4 (AOp.loadEp rfl rfl (ltb rfl) rfl agg22 rfl ?_)
          refine AO.guardY rfl rfl rfl h4 (AOp.farith rfl rfl (ltb rfl) rfl rfl (by assumption) ?_)
          refine AO.guardY rfl rfl rfl h4 (AOp.farith rfl rfl (ltb rfl) rfl rfl (by assumption) ?_)
          refine AO.guardY rfl rfl rfl h4 (AOp.feql rfl rfl (ltb rfl) rfl rfl ?_)
          refine AO.op rfl (AOp.pick rfl rfl (ltb rfl) rfl h4 rfl ?_)
          refine AO.op rfl (AOp.move rfl rfl (ltb rfl) rfl ?_)
          refine AO.guard rfl rfl rfl (ltb rfl) rfl (fun h5 => ?_) (fun h5 => ?_)
          · first | refine AOp.fieldAddr rfl rfl (ltb rfl) rfl fo47_1 ?_ | refine AOp.fieldAddrPt rfl rfl (ltb rfl) rfl fo47_1 ?_ | refine AOp.fieldAddrEp rfl rfl (ltb rfl) rfl fo47_1 ?_
            first | refine AO.guardY rfl rfl rfl h5 (AOp.fieldAddr rfl rfl (ltb rfl) rfl fo24_1 ?_) | refine AO.guardY rfl rfl rfl h5 (AOp.fieldAddrPt rfl rfl (ltb rfl) rfl fo24_1 ?_) | refine AO.guardY rfl rfl rfl h5 (AOp.fieldAddrEp rfl rfl (ltb rfl) rfl fo24_1 ?_)
            first | refine AO.guardY rfl rfl rfl h5 (AOp.load1 rfl rfl (ltb rfl) rfl agg22 rfl rfl ?_) | refine AO.guardY rfl rfl rfl h5 (AOp.loadEp rfl rfl (ltb rfl) rfl agg22 rfl ?_)
            first | refine AO.guardY rfl rfl rfl h5 (AOp.fieldAddr rfl rfl (ltb rfl) rfl fo47_0 ?_) | refine AO.guardY rfl rfl rfl h5 (AOp.fieldAddrPt rfl rfl (ltb rfl) rfl fo47_0 ?_) | refine AO.guardY rfl rfl rfl h5 (AOp.fieldAddrEp rfl rfl (ltb rfl) rfl fo47_0 ?_)
            first | refine AO.guardY rfl rfl rfl h5 (AOp.fieldAddr rfl rfl (ltb rfl) rfl fo24_1 ?_) | refine AO.guardY rfl rfl rfl h5 (AOp.fieldAddrPt rfl rfl (ltb rfl) rfl fo24_1 ?_) | refine AO.guardY rfl rfl rfl h5 (AOp.fieldAddrEp rfl rfl (ltb rfl) rfl fo24_1 ?_)
            first | refine AO.guardY rfl rfl rfl h5 (AOp.load1 rfl rfl (ltb rfl) rfl agg22 rfl rfl ?_) | refine AO.guardY rfl rfl rfl h5 (AOp.loadEp rfl rfl (ltb rfl) rfl agg22 rfl ?_)
            refine AO.guardY rfl rfl rfl h5 (AOp.farith rfl rfl (ltb rfl) rfl rfl (by assumption) ?_)
            first | refine AO.guardY rfl rfl rfl h5 (AOp.fieldAddr rfl rfl (ltb rfl) rfl fo47_1 ?_) | refine AO.guardY rfl rfl rfl h5 (AOp.fieldAddrPt rfl rfl (ltb rfl) rfl fo47_1 ?_) | refine AO.guardY rfl rfl rfl h5 (AOp.fieldAddrEp rfl rfl (ltb rfl) rfl fo47_1 ?_)
            first | refine AO.guardY rfl rfl rfl h5 (AOp.fieldAddr rfl rfl (ltb rfl) rfl fo24_1 ?_) | refine AO.guardY rfl rfl rfl h5 (AOp.fieldAddrPt rfl rfl (ltb rfl) rfl fo24_1 ?_) | refine AO.guardY rfl rfl rfl h5 (AOp.fieldAddrEp rfl rfl (ltb rfl) rfl fo24_1 ?_)
            first | refine AO.guardY rfl rfl rfl h5 (AOp.load1 rfl rfl (ltb rfl) rfl agg22 rfl rfl ?_) | refine AO.guardY rfl rfl rfl h5 (AOp.loadEp rfl rfl (ltb rfl) rfl agg22 rfl ?_)
            first | refine AO.guardY rfl rfl rfl h5 (AOp.fieldAddr rfl rfl (ltb rfl) rfl fo47_0 ?_) | refine AO.guardY rfl rfl rfl h5 (AOp.fieldAddrPt rfl rfl (ltb rfl) rfl fo47_0 ?_) | refine AO.guardY rfl rfl rfl h5 (AOp.fieldAddrEp rfl rfl (ltb rfl) rfl fo47_0 ?_)
            first | refine AO.guardY rfl rfl rfl h5 (AOp.fieldAddr rfl rfl (ltb rfl) rfl fo24_1 ?_) | refine AO.guardY rfl rfl rfl h5 (AOp.fieldAddrPt rfl rfl (ltb rfl) rfl fo24_1 ?_) | refine AO.guardY rfl rfl rfl h5 (AOp.fieldAddrEp rfl rfl (ltb rfl) rfl fo24_1 ?_)
            first | refine AO.guardY rfl rfl rfl h5 (AOp.load1 rfl rfl (ltb rfl) rfl agg22 rfl rfl ?_) | refine AO.guardY rfl rfl rfl h5 (AOp.loadEp rfl rfl (ltb rfl) rfl agg22 rfl ?_)
            refine AO.guardY rfl rfl rfl h5 (AOp.farith rfl rfl (ltb rfl) rfl rfl (by assumption) ?_)
            refine AO.guardY rfl rfl rfl h5 (AOp.feql rfl rfl (ltb rfl) rfl rfl ?_)
            refine AO.op rfl (AOp.pick rfl rfl (ltb rfl) rfl h5 rfl ?_)
            refine AO.op rfl (AOp.assign rfl rfl (ltb rfl) rfl ?_)
            refine AO.nil ?_
            change AC _ _ _ _
            refine AC.ret ?_
            change RetQ _ _ _ .ret _
            refine retq rfl ?_
            first | rfl | (simp_all; done)
          · refine AO.guardN rfl rfl rfl (ltb rfl) rfl h5 ?_
            refine AO.guardN rfl rfl rfl (ltb rfl) rfl h5 ?_
            refine AO.guardN rfl rfl rfl (ltb rfl) rfl h5 ?_
            refine AO.guardN rfl rfl rfl (ltb rfl) rfl h5 ?_
            refine AO.guardN rfl rfl rfl (ltb rfl) rfl h5 ?_
            refine AO.guardN rfl rfl rfl (ltb rfl) rfl h5 ?_
            refine AO.guardN rfl rfl rfl (ltb rfl) rfl h5 ?_
            refine AO.guardN rfl rfl rfl (ltb rfl) rfl h5 ?_
            refine AO.guardN rfl rfl rfl (ltb rfl) rfl h5 ?_
            refine AO.guardN rfl rfl rfl (ltb rfl) rfl h5 ?_
            refine AO.guardN rfl rfl rfl (ltb rfl) rfl h5 ?_
            refine AO.guardN rfl rfl rfl (ltb rfl) rfl h5 ?_
            refine AO.guardN rfl rfl rfl (ltb rfl) rfl h5 ?_
            refine AO.guardN rfl rfl rfl (ltb rfl) rfl h5 ?_
            refine AO.op rfl (AOp.pickN rfl rfl (ltb rfl) rfl h5 rfl ?_)
            refine AO.op rfl (AOp.assign rfl rfl (ltb rfl) rfl ?_)
            refine AO.nil ?_
            change AC _ _ _ _
            refine AC.ret ?_
            change RetQ _ _ _ .ret _
            refine retq rfl ?_
            first | rfl | (simp_all; done)
        · refine AO.guardN rfl rfl rfl (ltb rfl) rfl h4 ?_
          refine AO.guardN rfl rfl rfl (ltb rfl) rfl h4 ?_
          refine AO.guardN rfl rfl rfl (ltb rfl) rfl h4 ?_
          refine AO.guardN rfl rfl rfl (ltb rfl) rfl h4 ?_
          refine AO.guardN rfl rfl rfl (ltb rfl) rfl h4 ?_
          refine AO.guardN rfl rfl rfl (ltb rfl) rfl h4 ?_
          refine AO.guardN rfl rfl rfl (ltb rfl) rfl h4 ?_
          refine AO.guardN rfl rfl rfl (ltb rfl) rfl h4 ?_
          refine AO.guardN rfl rfl rfl (ltb rfl) rfl h4 ?_
          refine AO.guardN rfl rfl rfl (ltb rfl) rfl h4 ?_
          refine AO.guardN rfl rfl rfl (ltb rfl) rfl h4 ?_
          refine AO.guardN rfl rfl rfl (ltb rfl) rfl h4 ?_
          refine AO.guardN rfl rfl rfl (ltb rfl) rfl h4 ?_
          refine AO.guardN rfl rfl rfl (ltb rfl) rfl h4 ?_
          refine AO.guardN rfl rfl rfl (ltb rfl) rfl h4 ?_
          refine AO.guardN rfl rfl rfl (ltb rfl) rfl h4 ?_
          refine AO.guardN rfl rfl rfl (ltb rfl) rfl h4 ?_
          refine AO.guardN rfl rfl rfl (ltb rfl) rfl h4 ?_
          refine AO.op rfl (AOp.pickN rfl rfl (ltb rfl) rfl h4 rfl ?_)
          refine AO.op rfl (AOp.move rfl rfl (ltb rfl) rfl ?_)
          refine AO.guardN rfl rfl rfl (ltb rfl) rfl rfl ?_
          refine AO.guardN rfl rfl rfl (ltb rfl) rfl rfl ?_
          refine AO.guardN rfl rfl rfl (ltb rfl) rfl rfl ?_
          refine AO.guardN rfl rfl rfl (ltb rfl) rfl rfl ?_
          refine AO.guardN rfl rfl rfl (ltb rfl) rfl rfl ?_
          refine AO.guardN rfl rfl rfl (ltb rfl) rfl rfl ?_
          refine AO.guardN rfl rfl rfl (ltb rfl) rfl rfl ?_
          refine AO.guardN rfl rfl rfl (ltb rfl) rfl rfl ?_
          refine AO.guardN rfl rfl rfl (ltb rfl) rfl rfl ?_
          refine AO.guardN rfl rfl rfl (ltb rfl) rfl rfl ?_
          refine AO.guardN rfl rfl rfl (ltb rfl) rfl rfl ?_
          refine AO.guardN rfl rfl rfl (ltb rfl) rfl rfl ?_
          refine AO.guardN rfl rfl rfl (ltb rfl) rfl rfl ?_
          refine AO.guardN rfl rfl rfl (ltb rfl) rfl rfl ?_
          refine AO.guardN rfl rfl rfl (ltb rfl) rfl rfl ?_
          refine AO.op rfl (AOp.pickN rfl rfl (ltb rfl) rfl rfl rfl ?_)
          refine AO.op rfl (AOp.assign rfl rfl (ltb rfl) rfl ?_)
          refine AO.nil ?_
          change AC _ _ _ _
          refine AC.ret ?_
          change RetQ _ _ _ .ret _
          refine retq rfl ?_
          first | rfl | (simp_all; done)
      · refine AO.guardN rfl rfl rfl (ltb rfl) rfl h3 ?_
        refine AO.guardN rfl rfl rfl (ltb rfl) rfl h3 ?_
        refine AO.guardN rfl rfl rfl (ltb rfl) rfl h3 ?_
        refine AO.guardN rfl rfl rfl (ltb rfl) rfl h3 ?_
        refine AO.guardN rfl rfl rfl (ltb rfl) rfl h3 ?_
        refine AO.guardN rfl rfl rfl (ltb rfl) rfl h3 ?_
        refine AO.guardN rfl rfl rfl (ltb rfl) rfl h3 ?_
        refine AO.guardN rfl rfl rfl (ltb rfl) rfl h3 ?_
        refine AO.guardN rfl rfl rfl (ltb rfl) rfl h3 ?_
        refine AO.guardN rfl rfl rfl (ltb rfl) rfl h3 ?_
        refine AO.guardN rfl rfl rfl (ltb rfl) rfl h3 ?_
        refine AO.guardN rfl rfl rfl (ltb rfl) rfl h3 ?_
        refine AO.guardN rfl rfl rfl (ltb rfl) rfl h3 ?_
        refine AO.guardN rfl rfl rfl (ltb rfl) rfl h3 ?_
        refine AO.op rfl (AOp.pickN rfl rfl (ltb rfl) rfl h3 rfl ?_)
        refine AO.op rfl (AOp.move rfl rfl (ltb rfl) rfl ?_)
        refine AO.guardN rfl rfl rfl (ltb rfl) rfl rfl ?_
        refine AO.guardN rfl rfl rfl (ltb rfl) rfl rfl ?_
        refine AO.guardN rfl rfl rfl (ltb rfl) rfl rfl ?_
        refine AO.guardN rfl rfl rfl (ltb rfl) rfl rfl ?_
        refine AO.guardN rfl rfl rfl (ltb rfl) rfl rfl ?_
        refine AO.guardN rfl rfl rfl (ltb rfl) rfl rfl ?_
        refine AO.guardN rfl rfl rfl (ltb rfl) rfl rfl ?_
        refine AO.guardN rfl rfl rfl (ltb rfl) rfl rfl ?_
        refine AO.guardN rfl rfl rfl (ltb rfl) rfl rfl ?_
        refine AO.guardN rfl rfl rfl (ltb rfl) rfl rfl ?_
        refine AO.guardN rfl rfl rfl (ltb rfl) rfl rfl ?_
        refine AO.guardN rfl rfl rfl (ltb rfl) rfl rfl ?_
        refine AO.guardN rfl rfl rfl (ltb rfl) rfl rfl ?_
        refine AO.guardN rfl rfl rfl (ltb rfl) rfl rfl ?_
        refine AO.guardN rfl rfl rfl (ltb rfl) rfl rfl ?_
        refine AO.guardN rfl rfl rfl (ltb rfl) rfl rfl ?_
        refine AO.guardN rfl rfl rfl (ltb rfl) rfl rfl ?_
        refine AO.guardN rfl rfl rfl (ltb rfl) rfl rfl ?_
        refine AO.guardN rfl rfl rfl (ltb rfl) rfl rfl ?_
        refine AO.op rfl (AOp.pickN rfl rfl (ltb rfl) rfl rfl rfl ?_)
        refine AO.op rfl (AOp.move rfl rfl (ltb rfl) rfl ?_)
        refine AO.guardN rfl rfl rfl (ltb rfl) rfl rfl ?_
        refine AO.guardN rfl rfl rfl (ltb rfl) rfl rfl ?_
        refine AO.guardN rfl rfl rfl (ltb rfl) rfl rfl ?_
        refine AO.guardN rfl rfl rfl (ltb rfl) rfl rfl ?_
        refine AO.guardN rfl rfl rfl (ltb rfl) rfl rfl ?_
        refine AO.guardN rfl rfl rfl (ltb rfl) rfl rfl ?_
        refine AO.guardN rfl rfl rfl (ltb rfl) rfl rfl ?_
        refine AO.guardN rfl rfl rfl (ltb rfl) rfl rfl ?_
        refine AO.guardN rfl rfl rfl (ltb rfl) rfl rfl ?_
        refine AO.guardN rfl rfl rfl (ltb rfl) rfl rfl ?_
        refine AO.guardN rfl rfl rfl (ltb rfl) rfl rfl ?_
        refine AO.guardN rfl rfl rfl (ltb rfl) rfl rfl ?_
        refine AO.guardN rfl rfl rfl (ltb rfl) rfl rfl ?_
        refine AO.guardN rfl rfl rfl (ltb rfl) rfl rfl ?_
        refine AO.guardN rfl rfl rfl (ltb rfl) rfl rfl ?_
        refine AO.op rfl (AOp.pickN rfl rfl (ltb rfl) rfl rfl rfl ?_)
        refine AO.op rfl (AOp.assign rfl rfl (ltb rfl) rfl ?_)
        refine AO.nil ?_
        change AC _ _ _ _
        refine AC.ret ?_
        change RetQ _ _ _ .ret _
        refine retq rfl ?_
        first | rfl | (simp_all; done)
  · refine AD.opN rfl rfl rfl (ltb rfl) rfl h1 ?_
    refine AD.opN rfl rfl rfl (ltb rfl) rfl h1 ?_
    refine AD.opN rfl rfl rfl (ltb rfl) rfl h1 ?_
    refine AD.opN rfl rfl rfl (ltb rfl) rfl h1 ?_
    refine AD.opN rfl rfl rfl (ltb rfl) rfl h1 ?_
    refine AD.opN rfl rfl rfl (ltb rfl) rfl h1 ?_
    refine AD.opN rfl rfl rfl (ltb rfl) rfl h1 ?_
    refine AD.opN rfl rfl rfl (ltb rfl) rfl h1 ?_
    refine AD.opN rfl rfl rfl (ltb rfl) rfl h1 ?_
    refine AD.op [18, 27] rfl (by kernel_rfl) rfl rfl (fun _ _ h => AOp.pick rfl rfl (ltb rfl) rfl h1 rfl h) ?_
    refine AD.done ?_
    refine AO.nil ?_
    change AC _ _ _ _
    refine AC.condT rfl rfl ?_
    refine AC.seq ?_
    refine AC.region ?_
    refine AO.op rfl (AOp.assign rfl rfl (ltb rfl) rfl ?_)
    refine AO.nil ?_
    change AC _ _ _ _
    refine AC.ret ?_
    change RetQ _ _ _ .ret _
    refine retq rfl ?_
    first | rfl | (simp_all; done)

end Go.Proofs.Ytljfehlajemhaaa.Wk
