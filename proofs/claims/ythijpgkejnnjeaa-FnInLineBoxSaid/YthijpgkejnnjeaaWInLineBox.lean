/- Proved: what functions of this seat answer, as contracts over the memory view; no conditions beyond those that each theorem names. -/
import Derived.Test.YthijpgkejnnjeaaVmFin
import Derived.Test.YthijpgkejnnjeaaProg
namespace Go.Proofs.Ythijpgkejnnjeaa.Wk
open Go.Vm
set_option linter.unusedVariables false
set_option linter.unusedSimpArgs false
theorem agg40 : aggT Try.prog 40 = some false := by kernel_rfl
theorem agg57 : aggT Try.prog 57 = some true := by kernel_rfl
theorem el22 : elemT Try.prog 22 = some (40, 1) := by kernel_rfl
theorem el60 : elemT Try.prog 60 = some (57, 2) := by kernel_rfl
theorem el80 : elemT Try.prog 80 = some (40, 1) := by kernel_rfl
theorem fo57_0 : fieldOff Try.prog 57 0 = some 0 := by kernel_rfl
theorem fo57_1 : fieldOff Try.prog 57 1 = some 1 := by kernel_rfl
theorem info40 : (Try.prog.info? 40).map (fun i => (i.zero, i.size, i.bytes)) = some (some (.float .f64 0), 1, 8) := by kernel_rfl
theorem mixed : Try.prog.follows .mixedOrders = true := by kernel_rfl
theorem size57 : sizeT Try.prog 57 = some 2 := by kernel_rfl
theorem zero40 : (Try.prog.info? 40).map (·.zero) = some (some (.float .f64 0)) := by kernel_rfl
theorem zero57 : (Try.prog.info? 57).map (·.zero) = some (some (.agg #[.float .f64 0, .float .f64 0])) := by kernel_rfl
def row (l : List Nat) : D := .ds 1 (l.map dfl)
def rows (ls : List (List Nat)) : D := .ds 1 (ls.map row)
theorem map_at {α β : Type} (f : α → β) (l : List α) (k : Nat) (d : α) (h : k < l.length) : (l.map f)[(k : Int).toNat * 1]? = some (f (l.getD k d)) := by
  simp [h]
theorem all_take_succ {α : Type} (p : α → Bool) (l : List α) (k : Nat) (d : α) (h : k < l.length) : (l.take (k + 1)).all p = ((l.take k).all p && p (l.getD k d)) := by
  rw [List.take_succ_eq_append_getElem h, List.all_append]
  simp [h]
theorem all_false_at {α : Type} (p : α → Bool) (l : List α) (j : Nat) (d : α) (h : j < l.length) (hf : p (l.getD j d) = false) : l.all p = false := by
  rw [List.all_eq_false]
  refine ⟨l.getD j d, ?_, by rw [hf]; decide⟩
  rw [List.getD_eq_getElem?_getD, List.getElem?_eq_getElem h]; simp

theorem all_range_succ (p : Nat → Bool) (k : Nat) : (List.range (k + 1)).all p = ((List.range k).all p && p k) := by
  rw [List.range_succ, List.all_append]; simp
theorem all_range_no {p : Nat → Bool} {n k : Nat} (h : k < n) (hp : p k = false) : (List.range n).all p = false := by
  rw [List.all_eq_false]; exact ⟨k, by simpa using h, by rw [hp]; decide⟩
theorem row_at (l : List Nat) (k : Nat) (h : k < l.length) : (l.map dfl)[(k : Int).toNat * 1]? = some (dfl (l.getD k 0)) := map_at dfl l k 0 h

def finAll (l : List Nat) : Bool := (List.range l.length).all fun i => Flt.isFin (l.getD i 0)
def flat2l (pts : List (Nat × Nat)) : List Nat := pts.flatMap fun p => [p.1, p.2]
theorem flat2l_len (pts : List (Nat × Nat)) : (flat2l pts).length = pts.length * 2 := by
  unfold flat2l
  induction pts with
  | nil => rfl
  | cons p r ih => simp [ih]; omega
theorem flat2l_succ (pts : List (Nat × Nat)) (k : Nat) (h : k < pts.length) : flat2l (pts.take (k + 1)) = flat2l (pts.take k) ++ [(pts.getD k (0, 0)).1, (pts.getD k (0, 0)).2] := by
  unfold flat2l
  rw [List.take_succ_eq_append_getElem h, List.flatMap_append]
  simp [h]
theorem dbool_eq' {a b : Bool} (h : a = b) : dbool a = dbool b := by rw [h]
theorem fin_of {x z : Nat} (hz : floatBits .sub .f64 x x = some z ∨ (floatBits .sub .f64 x x = none ∧ Flt.nanB z)) : feq z 0 = Flt.isFin x := by
  cases hf : Flt.isFin x with
  | true =>
    obtain ⟨y, h1, h2⟩ := Flt.sub_self_zero hf
    rcases hz with h3 | ⟨h3, _⟩
    · rw [h1] at h3; cases h3; exact h2
    · rw [h1] at h3; cases h3
  | false =>
    have h1 := Flt.sub_self_none hf
    rcases hz with h3 | ⟨_, h3⟩
    · rw [h1] at h3; cases h3
    · exact Flt.feq_nan h3 _

set_option maxRecDepth 100000 in
/-- pub-orthodrome/spec.Finite -/
theorem finite (x : Nat) : FnD Try.prog 64 [dfl x] (fun r => r = dbool (Flt.isFin x)) := by
  refine FnD.of (by kernel_rfl) Try.func64 rfl Try.ntmps64 rfl (leb rfl) fun W ok => ?_
  refine AC.seq ?_
  refine AC.region ?_
  refine AO.op rfl (AOp.assign rfl rfl (ltb rfl) rfl ?_)
  refine AO.nil ?_
  change AC _ _ _ _
  refine AC.seq ?_
  refine AC.region ?_
  refine AO.op rfl (AOp.move rfl rfl (ltb rfl) rfl ?_)
  refine AO.op rfl (AOp.move rfl rfl (ltb rfl) rfl ?_)
  refine AO.op rfl (AOp.farithA (by simp) rfl rfl (ltb rfl) rfl rfl ?_)
  rintro z1_2 hz1_2
  refine AO.op rfl (AOp.feql rfl rfl (ltb rfl) rfl rfl ?_)
  refine AO.op rfl (AOp.assign rfl rfl (ltb rfl) rfl ?_)
  refine AO.nil ?_
  change AC _ _ _ _
  refine AC.ret ?_
  change RetQ _ _ _ .ret _
  refine retq rfl ?_
  rw [fin_of hz1_2]

set_option maxRecDepth 100000 in
/-- pub-orthodrome/spec.AllFinite -/
theorem allFinite (l : List Nat) (hl : l.length < 4611686018427387904) : FnD Try.prog 31 [row l] (fun r => r = dbool (finAll l)) := by
  refine FnD.of (by kernel_rfl) Try.func31 rfl Try.ntmps31 rfl (leb rfl) fun W ok => ?_
  refine AC.seq ?_
  refine AC.region ?_
  refine AO.op rfl (AOp.assign rfl rfl (ltb rfl) rfl ?_)
  refine AO.nil ?_
  change AC _ _ _ _
  refine AC.seq ?_
  refine AC.seq ?_
  refine AC.region ?_
  refine AO.op rfl (AOp.move rfl rfl (ltb rfl) rfl ?_)
  first | refine AO.op rfl (AOp.lenDs (n := l.length) rfl rfl (ltb rfl) rfl el22 (by decide) (by simp) ?_) | refine AO.op rfl (AOp.lenOwn (n := l.length) rfl rfl (ltb rfl) rfl el22 rfl (by decide) (by simp) ?_)
  refine AO.op rfl (AOp.move rfl rfl (ltb rfl) rfl ?_)
  refine AO.nil ?_
  change AC _ _ _ _
  refine AC.block ?_
  refine AC.loopV (G := Nat) [5, 6] [7] 0 (fun k => [(7, .d (dint (k : Nat)))]) (fun _ => _) (fun k => k ≤ l.length ∧ (List.range k).all (fun i => Flt.isFin (l.getD i 0)) = true) (fun k => l.length - k) (0) rfl rfl rfl rfl ⟨by omega, rfl⟩ ?_
  rintro k ⟨hk, hk2⟩
  refine AC.seq ?_
  refine AC.region ?_
  refine AO.op rfl (AOp.ilss rfl rfl (ltb rfl) rfl rfl ?_)
  refine AO.nil ?_
  change AC _ _ _ _
  refine AC.seq ?_
  refine AC.cond rfl (fun h1 => ?_) (fun h1 => ?_)
  · have hlt : k < l.length := by simpa using h1
    refine AC.skip ?_
    change AC _ _ _ _
    refine AC.seq ?_
    refine AC.block ?_
    refine AC.seq ?_
    refine AC.region ?_
    first | refine AO.op rfl (AOp.indexDs rfl rfl (ltb rfl) rfl rfl el22 (by decide) (by omega) (by simp; omega) ?_) | refine AO.op rfl (AOp.indexSl rfl rfl (ltb rfl) rfl rfl el22 (by omega) (by simp; omega) ?_)
    refine AO.op rfl (AOp.loadEp rfl rfl (ltb rfl) rfl agg40 (y := dfl (l.getD k 0)) (row_at l k hlt) ?_)
    refine AO.op rfl (AOp.assign rfl rfl (ltb rfl) rfl ?_)
    refine AO.nil ?_
    change AC _ _ _ _
    refine AC.seq ?_
    refine AC.region ?_
    refine AO.op rfl (AOp.move rfl rfl (ltb rfl) rfl ?_)
    refine AO.op rfl (AOp.callD rfl rfl (ltb rfl) rfl (finite _) ?_)
    rintro _ rfl
    refine AO.op rfl (AOp.bnot rfl rfl (ltb rfl) rfl ?_)
    refine AO.nil ?_
    change AC _ _ _ _
    refine AC.cond rfl (fun h2 => ?_) (fun h2 => ?_)
    · refine AC.seq ?_
      refine AC.region ?_
      refine AO.op rfl (AOp.assign rfl rfl (ltb rfl) rfl ?_)
      refine AO.nil ?_
      change AC _ _ _ _
      refine AC.ret ?_
      change RetQ _ _ _ .ret _
      refine retq rfl ?_
      refine dbool_eq' ?_
      first | (unfold finAll; rw [all_range_no hlt (by simp_all)]; done) | (have hk3 : k = l.length := (by simp at h1; omega); unfold finAll; rw [← hk3, hk2])
    · refine AC.skip ?_
      change AC _ _ _ _
      refine AC.region ?_
      refine AO.op rfl (AOp.iadd rfl rfl (ltb rfl) rfl rfl rfl (by simp only [lo]; omega) (by simp only [hi]; omega) ?_)
      refine AO.op rfl (AOp.move rfl rfl (ltb rfl) rfl ?_)
      refine AO.nil ?_
      refine ⟨rfl, k + 1, rfl, rfl, rfl, ⟨by omega, by rw [all_range_succ, hk2]; simp_all⟩, (by first | omega | (dsimp only; omega))⟩
  · refine AC.exit ?_
    change AC _ _ _ _
    refine AC.seq ?_
    refine AC.region ?_
    refine AO.op rfl (AOp.assign rfl rfl (ltb rfl) rfl ?_)
    refine AO.nil ?_
    change AC _ _ _ _
    refine AC.ret ?_
    change RetQ _ _ _ .ret _
    refine retq rfl ?_
    refine dbool_eq' ?_
    first | (unfold finAll; rw [all_range_no hlt (by simp_all)]; done) | (have hk3 : k = l.length := (by simp at h1; omega); unfold finAll; rw [← hk3, hk2])

def pts2 (pts : List (Nat × Nat)) : D := .ds 2 (pts.flatMap fun p => [dfl p.1, dfl p.2])
theorem len2 (pts : List (Nat × Nat)) : (pts.flatMap fun p => [dfl p.1, dfl p.2]).length = pts.length * 2 := by
  induction pts with
  | nil => rfl
  | cons p r ih => simp [ih]; omega
theorem flat2 (pts : List (Nat × Nat)) : ∀ (k : Nat), k < pts.length → ((pts.flatMap fun p => [dfl p.1, dfl p.2]).drop ((k : Int).toNat * 2)).take 2 = [dfl (pts.getD k (0, 0)).1, dfl (pts.getD k (0, 0)).2] := by
  induction pts with
  | nil => intro k h; simp at h
  | cons p r ih =>
    intro k h
    cases k with
    | zero => rfl
    | succ k =>
      have := ih k (by simpa using h)
      have e : (((k + 1 : Nat) : Int).toNat) * 2 = ((k : Int).toNat * 2) + 1 + 1 := by omega
      rw [e]
      simpa using this

set_option maxRecDepth 100000 in
/-- pub-orthodrome/laws.bare -/
theorem bare (pts : List (Nat × Nat)) (hpl : pts.length < 1000000) : FnD Try.prog 32 [pts2 pts] (fun r => r = row (flat2l pts)) := by
  refine FnD.of (by kernel_rfl) Try.func32 rfl Try.ntmps32 rfl (leb rfl) fun W ok => ?_
  refine AC.seq ?_
  refine AC.region ?_
  refine AO.op rfl (AOp.assign rfl rfl (ltb rfl) rfl ?_)
  refine AO.nil ?_
  change AC _ _ _ _
  refine AC.seq ?_
  refine AC.region ?_
  refine AO.op rfl (AOp.assign rfl rfl (ltb rfl) rfl ?_)
  refine AO.nil ?_
  change AC _ _ _ _
  refine AC.seq ?_
  refine AC.seq ?_
  refine AC.region ?_
  refine AO.op rfl (AOp.move rfl rfl (ltb rfl) rfl ?_)
  first | refine AO.op rfl (AOp.lenDs (n := pts.length) rfl rfl (ltb rfl) rfl el60 (by decide) (len2 pts) ?_) | refine AO.op rfl (AOp.lenOwn (n := pts.length) rfl rfl (ltb rfl) rfl el60 rfl (by decide) (len2 pts) ?_)
  refine AO.op rfl (AOp.move rfl rfl (ltb rfl) rfl ?_)
  refine AO.nil ?_
  change AC _ _ _ _
  refine AC.adopt 3 40 1 rfl ?_
  refine AC.block ?_
  refine AC.loopV (G := Nat) [6, 7] [3, 8] 1 (fun k => [(3, .own 0), (8, .d (dint (k : Nat)))]) (fun k => [.grow 40 1 ((flat2l (pts.take k)).map dfl)]) (fun k => k ≤ pts.length) (fun k => pts.length - k) (0) rfl rfl rfl rfl (by omega) ?_
  rintro k hk
  refine AC.seq ?_
  refine AC.region ?_
  refine AO.op rfl (AOp.ilss rfl rfl (ltb rfl) rfl rfl ?_)
  refine AO.nil ?_
  change AC _ _ _ _
  refine AC.seq ?_
  refine AC.cond rfl (fun h1 => ?_) (fun h1 => ?_)
  · have hlt : k < pts.length := by simpa using h1
    obtain ⟨p, hp0⟩ : ∃ p, p = pts.getD k (0, 0) := ⟨_, rfl⟩
    refine AC.skip ?_
    change AC _ _ _ _
    refine AC.seq ?_
    refine AC.block ?_
    refine AC.seq ?_
    refine AC.region ?_
    first | refine AO.op rfl (AOp.indexDs rfl rfl (ltb rfl) rfl rfl el60 (by decide) (by omega) (by rw [len2]; omega) ?_) | refine AO.op rfl (AOp.indexSl rfl rfl (ltb rfl) rfl rfl el60 (by omega) (by rw [len2]; omega) ?_)
    refine AO.op rfl (AOp.loadEpN rfl rfl (ltb rfl) rfl agg57 size57 (ys := [dfl p.1, dfl p.2]) (by rw [len2]; omega) (by rw [hp0]; exact flat2 pts k hlt) ?_)
    refine AO.op rfl (AOp.alloc rfl rfl (ltb rfl) zero57 rfl ?_)
    refine AO.op rfl (AOp.store rfl rfl rfl rfl size57 rfl rfl rfl (leb rfl) ?_)
    refine AO.nil ?_
    change AC _ _ _ _
    refine AC.region ?_
    refine AO.op rfl (AOp.move rfl rfl (ltb rfl) rfl ?_)
    first | refine AO.op rfl (AOp.fieldAddr rfl rfl (ltb rfl) rfl fo57_0 ?_) | refine AO.op rfl (AOp.fieldAddrPt rfl rfl (ltb rfl) rfl fo57_0 ?_) | refine AO.op rfl (AOp.fieldAddrEp rfl rfl (ltb rfl) rfl fo57_0 ?_)
    first | refine AO.op rfl (AOp.load1 rfl rfl (ltb rfl) rfl agg40 rfl rfl ?_) | refine AO.op rfl (AOp.loadEp rfl rfl (ltb rfl) rfl agg40 rfl ?_)
    first | refine AO.op rfl (AOp.fieldAddr rfl rfl (ltb rfl) rfl fo57_1 ?_) | refine AO.op rfl (AOp.fieldAddrPt rfl rfl (ltb rfl) rfl fo57_1 ?_) | refine AO.op rfl (AOp.fieldAddrEp rfl rfl (ltb rfl) rfl fo57_1 ?_)
    first | refine AO.op rfl (AOp.load1 rfl rfl (ltb rfl) rfl agg40 rfl rfl ?_) | refine AO.op rfl (AOp.loadEp rfl rfl (ltb rfl) rfl agg40 rfl ?_)
    refine AO.op rfl (AOp.buildSliceD rfl rfl (ltb rfl) el22 zero40 rfl (leb rfl) rfl rfl rfl rfl ?_)
    refine AO.op rfl (AOp.appendOwn (n := 2 * k) (m := 2) rfl rfl (ltb rfl) rfl rfl el22 info40 rfl (by decide) rfl (by simp [flat2l_len]; omega) rfl (by intro x hx; simp at hx; rcases hx with rfl | rfl <;> rfl) (by simp only [maxLen]; omega) (by omega) rfl rfl ?_)
    refine AO.op rfl (AOp.assign rfl rfl (ltb rfl) rfl ?_)
    refine AO.nil ?_
    change AC _ _ _ _
    refine AC.region ?_
    refine AO.op rfl (AOp.iadd rfl rfl (ltb rfl) rfl rfl rfl (by simp only [lo]; omega) (by simp only [hi]; omega) ?_)
    refine AO.op rfl (AOp.move rfl rfl (ltb rfl) rfl ?_)
    refine AO.nil ?_
    refine ⟨rfl, k + 1, rfl, (by show [Ob.grow 40 1 _] = [Ob.grow 40 1 _]; rw [flat2l_succ pts k hlt, ← hp0, List.map_append]; rfl), rfl, (by omega), (by first | omega | (dsimp only; omega))⟩
  · refine AC.exit ?_
    change AC _ _ _ _
    refine AC.seq ?_
    refine AC.region ?_
    refine AO.op rfl (AOp.move rfl rfl (ltb rfl) rfl ?_)
    refine AO.op rfl (AOp.assign rfl rfl (ltb rfl) rfl ?_)
    refine AO.nil ?_
    change AC _ _ _ _
    refine AC.ret ?_
    change RetQ _ _ _ .ret _
    refine retq rfl ?_
    have hk3 : pts.take k = pts := List.take_of_length_le (by simp at h1; omega)
    rw [hk3]
    exact rfl

theorem callAMin (x y : Nat) (w : World) : (callFunc 113 #[.float .f64 x, .float .f64 y]).run Try.prog w = .ok (.value (.float .f64 (Flt.amin x y))) w := by
  rw [run_callFunc_extern Try.func113 (by kernel_rfl) (by kernel_rfl) (by kernel_rfl) (e := Extern.MathDim.pick "math.archMin" true .lt) (by kernel_rfl), Flt.run_archMin Try.prog x y]
  rfl

set_option maxRecDepth 100000 in
/-- math.Min -/
theorem mathMin (x y : Nat) : FnD Try.prog 100 [dfl x, dfl y] (fun r => r = dfl (Flt.amin x y)) := by
  refine FnD.of (by kernel_rfl) Try.func100 rfl Try.ntmps100 rfl (leb rfl) fun W ok => ?_
  refine AC.seq ?_
  refine AC.region ?_
  refine AO.op rfl (AOp.assign rfl rfl (ltb rfl) rfl ?_)
  refine AO.nil ?_
  change AC _ _ _ _
  refine AC.seq ?_
  refine AC.condT rfl rfl ?_
  refine AC.seq ?_
  refine AC.region ?_
  refine AO.op rfl (AOp.move rfl rfl (ltb rfl) rfl ?_)
  refine AO.op rfl (AOp.move rfl rfl (ltb rfl) rfl ?_)
  refine AO.op rfl (AOp.callX [.float .f64 x, .float .f64 y] rfl rfl (ltb rfl) rfl (callAMin x y) ?_)
  refine AO.op rfl (AOp.assign rfl rfl (ltb rfl) rfl ?_)
  refine AO.nil ?_
  change AC _ _ _ _
  refine AC.ret ?_
  change RetQ _ _ _ .ret _
  refine retq rfl ?_
  exact rfl

theorem callAMax (x y : Nat) (w : World) : (callFunc 115 #[.float .f64 x, .float .f64 y]).run Try.prog w = .ok (.value (.float .f64 (Flt.amax x y))) w := by
  rw [run_callFunc_extern Try.func115 (by kernel_rfl) (by kernel_rfl) (by kernel_rfl) (e := Extern.MathDim.pick "math.archMax" false .gt) (by kernel_rfl), Flt.run_archMax Try.prog x y]
  rfl

set_option maxRecDepth 100000 in
/-- math.Max -/
theorem mathMax (x y : Nat) : FnD Try.prog 101 [dfl x, dfl y] (fun r => r = dfl (Flt.amax x y)) := by
  refine FnD.of (by kernel_rfl) Try.func101 rfl Try.ntmps101 rfl (leb rfl) fun W ok => ?_
  refine AC.seq ?_
  refine AC.region ?_
  refine AO.op rfl (AOp.assign rfl rfl (ltb rfl) rfl ?_)
  refine AO.nil ?_
  change AC _ _ _ _
  refine AC.seq ?_
  refine AC.condT rfl rfl ?_
  refine AC.seq ?_
  refine AC.region ?_
  refine AO.op rfl (AOp.move rfl rfl (ltb rfl) rfl ?_)
  refine AO.op rfl (AOp.move rfl rfl (ltb rfl) rfl ?_)
  refine AO.op rfl (AOp.callX [.float .f64 x, .float .f64 y] rfl rfl (ltb rfl) rfl (callAMax x y) ?_)
  refine AO.op rfl (AOp.assign rfl rfl (ltb rfl) rfl ?_)
  refine AO.nil ?_
  change AC _ _ _ _
  refine AC.ret ?_
  change RetQ _ _ _ .ret _
  refine retq rfl ?_
  exact rfl

theorem V_of_flat {l : List Nat} {i : Nat} (h : finAll l = true) (hi : i < l.length) : ∃ p, Flt.V (l.getD i 0) = some p :=
  Flt.isFin_V (List.all_eq_true.1 h i (by simpa using hi))
def lineBox (px py ax ay cx cy : Nat) : Bool := fle (Flt.amin ax cx) px && fge (Flt.amax ax cx) px && fle (Flt.amin ay cy) py && fge (Flt.amax ay cy) py
theorem le_min {p a c : Nat} {P A B : Rat} (hp : Flt.V p = some P) (ha : Flt.V a = some A) (hc : Flt.V c = some B) : fle (Flt.amin a c) p = fge p (bmin a c) := by
  rw [Flt.fle_val (Flt.amin_V ha hc) hp, Flt.fge_val hp (Flt.bmin_V ha hc)]
theorem ge_max {p a c : Nat} {P A B : Rat} (hp : Flt.V p = some P) (ha : Flt.V a = some A) (hc : Flt.V c = some B) : fge (Flt.amax a c) p = fle p (bmax a c) := by
  rw [Flt.fge_val (Flt.amax_V ha hc) hp, Flt.fle_val hp (Flt.bmax_V ha hc)]

set_option maxRecDepth 100000 in
/-- pub-orthodrome/impl.coord -/
theorem coord (x y : Nat) : FnD Try.prog 66 [.ag [dfl x, dfl y]] (fun r => r = .ds 1 [dfl x, dfl y]) := by
  refine FnD.of (by kernel_rfl) Try.func66 rfl Try.ntmps66 rfl (leb rfl) fun W ok => ?_
  refine AC.seq ?_
  refine AC.region ?_
  refine AO.op rfl (AOp.box rfl rfl (ltb rfl) rfl rfl ?_)
  refine AO.op rfl (AOp.assign rfl rfl (ltb rfl) rfl ?_)
  refine AO.nil ?_
  change AC _ _ _ _
  refine AC.seq ?_
  refine AC.region ?_
  first | refine AO.op rfl (AOp.fieldAddr rfl rfl (ltb rfl) rfl fo57_0 ?_) | refine AO.op rfl (AOp.fieldAddrPt rfl rfl (ltb rfl) rfl fo57_0 ?_) | refine AO.op rfl (AOp.fieldAddrEp rfl rfl (ltb rfl) rfl fo57_0 ?_)
  first | refine AO.op rfl (AOp.load1 rfl rfl (ltb rfl) rfl agg40 rfl rfl ?_) | refine AO.op rfl (AOp.loadEp rfl rfl (ltb rfl) rfl agg40 rfl ?_)
  first | refine AO.op rfl (AOp.fieldAddr rfl rfl (ltb rfl) rfl fo57_1 ?_) | refine AO.op rfl (AOp.fieldAddrPt rfl rfl (ltb rfl) rfl fo57_1 ?_) | refine AO.op rfl (AOp.fieldAddrEp rfl rfl (ltb rfl) rfl fo57_1 ?_)
  first | refine AO.op rfl (AOp.load1 rfl rfl (ltb rfl) rfl agg40 rfl rfl ?_) | refine AO.op rfl (AOp.loadEp rfl rfl (ltb rfl) rfl agg40 rfl ?_)
  refine AO.op rfl (AOp.buildSliceD rfl rfl (ltb rfl) el80 zero40 rfl (leb rfl) rfl rfl rfl rfl ?_)
  refine AO.op rfl (AOp.assign rfl rfl (ltb rfl) rfl ?_)
  refine AO.nil ?_
  change AC _ _ _ _
  refine AC.ret ?_
  change RetQ _ _ _ .ret _
  refine retq rfl ?_
  exact rfl

set_option maxRecDepth 100000 in
/-- pub-orthodrome/pub/gogeom/xy/inner.IsPointWithinLineBounds -/
theorem innerBox (px py ax ay cx cy : Nat) : FnD Try.prog 90 [.ds 1 [dfl px, dfl py], .ds 1 [dfl ax, dfl ay], .ds 1 [dfl cx, dfl cy]] (fun r => r = dbool (lineBox px py ax ay cx cy)) := by
  refine FnD.of (by kernel_rfl) Try.func90 rfl Try.ntmps90 rfl (leb rfl) fun W ok => ?_
  refine AC.seq ?_
  refine AC.region ?_
  refine AO.op rfl (AOp.assign rfl rfl (ltb rfl) rfl ?_)
  refine AO.nil ?_
  change AC _ _ _ _
  refine AC.seq ?_
  refine AC.draw 8 mixed (by kernel_rfl) ?_
  refine AD.op [1] rfl (by kernel_rfl) rfl rfl (fun _ _ h => AOp.move rfl rfl (ltb rfl) rfl h) ?_
  first | refine AD.op [11] rfl (by kernel_rfl) rfl rfl (fun _ _ h => AOp.indexDs rfl rfl (ltb rfl) rfl rfl el80 (by decide) (by omega) (by simp) h) ?_ | refine AD.op [11] rfl (by kernel_rfl) rfl rfl (fun _ _ h => AOp.indexSl rfl rfl (ltb rfl) rfl rfl el80 (by omega) (by simp) h) ?_
  refine AD.op [12] rfl (by kernel_rfl) rfl rfl (fun _ _ h => AOp.loadEp rfl rfl (ltb rfl) rfl agg40 (y := dfl ax) rfl h) ?_
  refine AD.op [2] rfl (by kernel_rfl) rfl rfl (fun _ _ h => AOp.move rfl rfl (ltb rfl) rfl h) ?_
  first | refine AD.op [14] rfl (by kernel_rfl) rfl rfl (fun _ _ h => AOp.indexDs rfl rfl (ltb rfl) rfl rfl el80 (by decide) (by omega) (by simp) h) ?_ | refine AD.op [14] rfl (by kernel_rfl) rfl rfl (fun _ _ h => AOp.indexSl rfl rfl (ltb rfl) rfl rfl el80 (by omega) (by simp) h) ?_
  refine AD.op [15] rfl (by kernel_rfl) rfl rfl (fun _ _ h => AOp.loadEp rfl rfl (ltb rfl) rfl agg40 (y := dfl cx) rfl h) ?_
  refine AD.op [13, 16] rfl (by kernel_rfl) rfl rfl (fun _ _ h => AOp.callD rfl rfl (ltb rfl) rfl (mathMin _ _) (by rintro _ rfl; exact h)) ?_
  refine AD.op [17] rfl (by kernel_rfl) rfl rfl (fun _ _ h => AOp.assign rfl rfl (ltb rfl) rfl h) ?_
  refine AD.done ?_
  refine AO.nil ?_
  change AC _ _ _ _
  refine AC.seq ?_
  refine AC.draw 8 mixed (by kernel_rfl) ?_
  refine AD.op [1] rfl (by kernel_rfl) rfl rfl (fun _ _ h => AOp.move rfl rfl (ltb rfl) rfl h) ?_
  first | refine AD.op [18] rfl (by kernel_rfl) rfl rfl (fun _ _ h => AOp.indexDs rfl rfl (ltb rfl) rfl rfl el80 (by decide) (by omega) (by simp) h) ?_ | refine AD.op [18] rfl (by kernel_rfl) rfl rfl (fun _ _ h => AOp.indexSl rfl rfl (ltb rfl) rfl rfl el80 (by omega) (by simp) h) ?_
  refine AD.op [19] rfl (by kernel_rfl) rfl rfl (fun _ _ h => AOp.loadEp rfl rfl (ltb rfl) rfl agg40 (y := dfl ax) rfl h) ?_
  refine AD.op [2] rfl (by kernel_rfl) rfl rfl (fun _ _ h => AOp.move rfl rfl (ltb rfl) rfl h) ?_
  first | refine AD.op [21] rfl (by kernel_rfl) rfl rfl (fun _ _ h => AOp.indexDs rfl rfl (ltb rfl) rfl rfl el80 (by decide) (by omega) (by simp) h) ?_ | refine AD.op [21] rfl (by kernel_rfl) rfl rfl (fun _ _ h => AOp.indexSl rfl rfl (ltb rfl) rfl rfl el80 (by omega) (by simp) h) ?_
  refine AD.op [22] rfl (by kernel_rfl) rfl rfl (fun _ _ h => AOp.loadEp rfl rfl (ltb rfl) rfl agg40 (y := dfl cx) rfl h) ?_
  refine AD.op [20, 23] rfl (by kernel_rfl) rfl rfl (fun _ _ h => AOp.callD rfl rfl (ltb rfl) rfl (mathMax _ _) (by rintro _ rfl; exact h)) ?_
  refine AD.op [24] rfl (by kernel_rfl) rfl rfl (fun _ _ h => AOp.assign rfl rfl (ltb rfl) rfl h) ?_
  refine AD.done ?_
  refine AO.nil ?_
  change AC _ _ _ _
  refine AC.seq ?_
  refine AC.draw 8 mixed (by kernel_rfl) ?_
  refine AD.op [1] rfl (by kernel_rfl) rfl rfl (fun _ _ h => AOp.move rfl rfl (ltb rfl) rfl h) ?_
  first | refine AD.op [25] rfl (by kernel_rfl) rfl rfl (fun _ _ h => AOp.indexDs rfl rfl (ltb rfl) rfl rfl el80 (by decide) (by omega) (by simp) h) ?_ | refine AD.op [25] rfl (by kernel_rfl) rfl rfl (fun _ _ h => AOp.indexSl rfl rfl (ltb rfl) rfl rfl el80 (by omega) (by simp) h) ?_
  refine AD.op [26] rfl (by kernel_rfl) rfl rfl (fun _ _ h => AOp.loadEp rfl rfl (ltb rfl) rfl agg40 (y := dfl ay) rfl h) ?_
  refine AD.op [2] rfl (by kernel_rfl) rfl rfl (fun _ _ h => AOp.move rfl rfl (ltb rfl) rfl h) ?_
  first | refine AD.op [28] rfl (by kernel_rfl) rfl rfl (fun _ _ h => AOp.indexDs rfl rfl (ltb rfl) rfl rfl el80 (by decide) (by omega) (by simp) h) ?_ | refine AD.op [28] rfl (by kernel_rfl) rfl rfl (fun _ _ h => AOp.indexSl rfl rfl (ltb rfl) rfl rfl el80 (by omega) (by simp) h) ?_
  refine AD.op [29] rfl (by kernel_rfl) rfl rfl (fun _ _ h => AOp.loadEp rfl rfl (ltb rfl) rfl agg40 (y := dfl cy) rfl h) ?_
  refine AD.op [27, 30] rfl (by kernel_rfl) rfl rfl (fun _ _ h => AOp.callD rfl rfl (ltb rfl) rfl (mathMin _ _) (by rintro _ rfl; exact h)) ?_
  refine AD.op [31] rfl (by kernel_rfl) rfl rfl (fun _ _ h => AOp.assign rfl rfl (ltb rfl) rfl h) ?_
  refine AD.done ?_
  refine AO.nil ?_
  change AC _ _ _ _
  refine AC.seq ?_
  refine AC.draw 8 mixed (by kernel_rfl) ?_
  refine AD.op [1] rfl (by kernel_rfl) rfl rfl (fun _ _ h => AOp.move rfl rfl (ltb rfl) rfl h) ?_
  first | refine AD.op [32] rfl (by kernel_rfl) rfl rfl (fun _ _ h => AOp.indexDs rfl rfl (ltb rfl) rfl rfl el80 (by decide) (by omega) (by simp) h) ?_ | refine AD.op [32] rfl (by kernel_rfl) rfl rfl (fun _ _ h => AOp.indexSl rfl rfl (ltb rfl) rfl rfl el80 (by omega) (by simp) h) ?_
  refine AD.op [33] rfl (by kernel_rfl) rfl rfl (fun _ _ h => AOp.loadEp rfl rfl (ltb rfl) rfl agg40 (y := dfl ay) rfl h) ?_
  refine AD.op [2] rfl (by kernel_rfl) rfl rfl (fun _ _ h => AOp.move rfl rfl (ltb rfl) rfl h) ?_
  first | refine AD.op [35] rfl (by kernel_rfl) rfl rfl (fun _ _ h => AOp.indexDs rfl rfl (ltb rfl) rfl rfl el80 (by decide) (by omega) (by simp) h) ?_ | refine AD.op [35] rfl (by kernel_rfl) rfl rfl (fun _ _ h => AOp.indexSl rfl rfl (ltb rfl) rfl rfl el80 (by omega) (by simp) h) ?_
  refine AD.op [36] rfl (by kernel_rfl) rfl rfl (fun _ _ h => AOp.loadEp rfl rfl (ltb rfl) rfl agg40 (y := dfl cy) rfl h) ?_
  refine AD.op [34, 37] rfl (by kernel_rfl) rfl rfl (fun _ _ h => AOp.callD rfl rfl (ltb rfl) rfl (mathMax _ _) (by rintro _ rfl; exact h)) ?_
  refine AD.op [38] rfl (by kernel_rfl) rfl rfl (fun _ _ h => AOp.assign rfl rfl (ltb rfl) rfl h) ?_
  refine AD.done ?_
  refine AO.nil ?_
  change AC _ _ _ _
  refine AC.seq ?_
  refine AC.region ?_
  refine AO.op rfl (AOp.move rfl rfl (ltb rfl) rfl ?_)
  refine AO.op rfl (AOp.move rfl rfl (ltb rfl) rfl ?_)
  first | refine AO.op rfl (AOp.indexDs rfl rfl (ltb rfl) rfl rfl el80 (by decide) (by omega) (by simp) ?_) | refine AO.op rfl (AOp.indexSl rfl rfl (ltb rfl) rfl rfl el80 (by omega) (by simp) ?_)
  refine AO.op rfl (AOp.loadEp rfl rfl (ltb rfl) rfl agg40 (y := dfl px) rfl ?_)
  refine AO.op rfl (AOp.fleq rfl rfl (ltb rfl) rfl rfl ?_)
  refine AO.op rfl (AOp.move rfl rfl (ltb rfl) rfl ?_)
  refine AO.guard rfl rfl rfl (ltb rfl) rfl (fun h1 => ?_) (fun h1 => ?_)
  · refine AOp.move rfl rfl (ltb rfl) rfl ?_
    refine AO.guardY rfl rfl rfl h1 (AOp.move rfl rfl (ltb rfl) rfl ?_)
    first | refine AO.guardY rfl rfl rfl h1 (AOp.indexDs rfl rfl (ltb rfl) rfl rfl el80 (by decide) (by omega) (by simp) ?_) | refine AO.guardY rfl rfl rfl h1 (AOp.indexSl rfl rfl (ltb rfl) rfl rfl el80 (by omega) (by simp) ?_)
    refine AO.guardY rfl rfl rfl h1 (AOp.loadEp rfl rfl (ltb rfl) rfl agg40 (y := dfl px) rfl ?_)
    refine AO.guardY rfl rfl rfl h1 (AOp.fgeq rfl rfl (ltb rfl) rfl rfl ?_)
    refine AO.op rfl (AOp.pick rfl rfl (ltb rfl) rfl h1 rfl ?_)
    refine AO.op rfl (AOp.move rfl rfl (ltb rfl) rfl ?_)
    refine AO.guard rfl rfl rfl (ltb rfl) rfl (fun h2 => ?_) (fun h2 => ?_)
    · refine AOp.move rfl rfl (ltb rfl) rfl ?_
      refine AO.guardY rfl rfl rfl h2 (AOp.move rfl rfl (ltb rfl) rfl ?_)
      first | refine AO.guardY rfl rfl rfl h2 (AOp.indexDs rfl rfl (ltb rfl) rfl rfl el80 (by decide) (by omega) (by simp) ?_) | refine AO.guardY rfl rfl rfl h2 (AOp.indexSl rfl rfl (ltb rfl) rfl rfl el80 (by omega) (by simp) ?_)
      refine AO.guardY rfl rfl rfl h2 (AOp.loadEp rfl rfl (ltb rfl) rfl agg40 (y := dfl py) rfl ?_)
      refine AO.guardY rfl rfl rfl h2 (AOp.fleq rfl rfl (ltb rfl) rfl rfl ?_)
      refine AO.op rfl (AOp.pick rfl rfl (ltb rfl) rfl h2 rfl ?_)
      refine AO.op rfl (AOp.move rfl rfl (ltb rfl) rfl ?_)
      refine AO.guard rfl rfl rfl (ltb rfl) rfl (fun h3 => ?_) (fun h3 => ?_)
      · refine AOp.move rfl rfl (ltb rfl) rfl ?_
        refine AO.guardY rfl rfl rfl h3 (AOp.move rfl rfl (ltb rfl) rfl ?_)
        first | refine AO.guardY rfl rfl rfl h3 (AOp.indexDs rfl rfl (ltb rfl) rfl rfl el80 (by decide) (by omega) (by simp) ?_) | refine AO.guardY rfl rfl rfl h3 (AOp.indexSl rfl rfl (ltb rfl) rfl rfl el80 (by omega) (by simp) ?_)
        refine AO.guardY rfl rfl rfl h3 (AOp.loadEp rfl rfl (ltb rfl) rfl agg40 (y := dfl py) rfl ?_)
        refine AO.guardY rfl rfl rfl h3 (AOp.fgeq rfl rfl (ltb rfl) rfl rfl ?_)
        refine AO.op rfl (AOp.pick rfl rfl (ltb rfl) rfl h3 rfl ?_)
        refine AO.op rfl (AOp.assign rfl rfl (ltb rfl) rfl ?_)
        refine AO.nil ?_
        change AC _ _ _ _
        refine AC.ret ?_
        change RetQ _ _ _ .ret _
        refine retq rfl ?_
        first | (refine dbool_eq' ?_; unfold lineBox; simp_all; done) | (unfold lineBox; simp_all)
      · refine AO.guardN rfl rfl rfl (ltb rfl) rfl h3 ?_
        refine AO.guardN rfl rfl rfl (ltb rfl) rfl h3 ?_
        refine AO.guardN rfl rfl rfl (ltb rfl) rfl h3 ?_
        refine AO.guardN rfl rfl rfl (ltb rfl) rfl h3 ?_
        refine AO.op rfl (AOp.pickN rfl rfl (ltb rfl) rfl h3 rfl ?_)
        refine AO.op rfl (AOp.assign rfl rfl (ltb rfl) rfl ?_)
        refine AO.nil ?_
        change AC _ _ _ _
        refine AC.ret ?_
        change RetQ _ _ _ .ret _
        refine retq rfl ?_
        first | (refine dbool_eq' ?_; unfold lineBox; simp_all; done) | (unfold lineBox; simp_all)
    · refine AO.guardN rfl rfl rfl (ltb rfl) rfl h2 ?_
      refine AO.guardN rfl rfl rfl (ltb rfl) rfl h2 ?_
      refine AO.guardN rfl rfl rfl (ltb rfl) rfl h2 ?_
      refine AO.guardN rfl rfl rfl (ltb rfl) rfl h2 ?_
      refine AO.op rfl (AOp.pickN rfl rfl (ltb rfl) rfl h2 rfl ?_)
      refine AO.op rfl (AOp.move rfl rfl (ltb rfl) rfl ?_)
      refine AO.guardN rfl rfl rfl (ltb rfl) rfl rfl ?_
      refine AO.guardN rfl rfl rfl (ltb rfl) rfl rfl ?_
      refine AO.guardN rfl rfl rfl (ltb rfl) rfl rfl ?_
      refine AO.guardN rfl rfl rfl (ltb rfl) rfl rfl ?_
      refine AO.guardN rfl rfl rfl (ltb rfl) rfl rfl ?_
      refine AO.op rfl (AOp.pickN rfl rfl (ltb rfl) rfl rfl rfl ?_)
      refine AO.op rfl (AOp.assign rfl rfl (ltb rfl) rfl ?_)
      refine AO.nil ?_
      change AC _ _ _ _
      refine AC.ret ?_
      change RetQ _ _ _ .ret _
      refine retq rfl ?_
      first | (refine dbool_eq' ?_; unfold lineBox; simp_all; done) | (unfold lineBox; simp_all)
  · refine AO.guardN rfl rfl rfl (ltb rfl) rfl h1 ?_
    refine AO.guardN rfl rfl rfl (ltb rfl) rfl h1 ?_
    refine AO.guardN rfl rfl rfl (ltb rfl) rfl h1 ?_
    refine AO.guardN rfl rfl rfl (ltb rfl) rfl h1 ?_
    refine AO.op rfl (AOp.pickN rfl rfl (ltb rfl) rfl h1 rfl ?_)
    refine AO.op rfl (AOp.move rfl rfl (ltb rfl) rfl ?_)
    refine AO.guardN rfl rfl rfl (ltb rfl) rfl rfl ?_
    refine AO.guardN rfl rfl rfl (ltb rfl) rfl rfl ?_
    refine AO.guardN rfl rfl rfl (ltb rfl) rfl rfl ?_
    refine AO.guardN rfl rfl rfl (ltb rfl) rfl rfl ?_
    refine AO.guardN rfl rfl rfl (ltb rfl) rfl rfl ?_
    refine AO.op rfl (AOp.pickN rfl rfl (ltb rfl) rfl rfl rfl ?_)
    refine AO.op rfl (AOp.move rfl rfl (ltb rfl) rfl ?_)
    refine AO.guardN rfl rfl rfl (ltb rfl) rfl rfl ?_
    refine AO.guardN rfl rfl rfl (ltb rfl) rfl rfl ?_
    refine AO.guardN rfl rfl rfl (ltb rfl) rfl rfl ?_
    refine AO.guardN rfl rfl rfl (ltb rfl) rfl rfl ?_
    refine AO.guardN rfl rfl rfl (ltb rfl) rfl rfl ?_
    refine AO.op rfl (AOp.pickN rfl rfl (ltb rfl) rfl rfl rfl ?_)
    refine AO.op rfl (AOp.assign rfl rfl (ltb rfl) rfl ?_)
    refine AO.nil ?_
    change AC _ _ _ _
    refine AC.ret ?_
    change RetQ _ _ _ .ret _
    refine retq rfl ?_
    first | (refine dbool_eq' ?_; unfold lineBox; simp_all; done) | (unfold lineBox; simp_all)

set_option maxRecDepth 100000 in
/-- pub-orthodrome/pub/gogeom/xy.IsPointWithinLineBounds -/
theorem xyBox (px py ax ay cx cy : Nat) : FnD Try.prog 65 [.ds 1 [dfl px, dfl py], .ds 1 [dfl ax, dfl ay], .ds 1 [dfl cx, dfl cy]] (fun r => r = dbool (lineBox px py ax ay cx cy)) := by
  refine FnD.of (by kernel_rfl) Try.func65 rfl Try.ntmps65 rfl (leb rfl) fun W ok => ?_
  refine AC.seq ?_
  refine AC.region ?_
  refine AO.op rfl (AOp.assign rfl rfl (ltb rfl) rfl ?_)
  refine AO.nil ?_
  change AC _ _ _ _
  refine AC.seq ?_
  refine AC.region ?_
  refine AO.op rfl (AOp.move rfl rfl (ltb rfl) rfl ?_)
  refine AO.op rfl (AOp.move rfl rfl (ltb rfl) rfl ?_)
  refine AO.op rfl (AOp.move rfl rfl (ltb rfl) rfl ?_)
  refine AO.op rfl (AOp.callD rfl rfl (ltb rfl) rfl (innerBox _ _ _ _ _ _) ?_)
  rintro _ rfl
  refine AO.op rfl (AOp.assign rfl rfl (ltb rfl) rfl ?_)
  refine AO.nil ?_
  change AC _ _ _ _
  refine AC.ret ?_
  change RetQ _ _ _ .ret _
  refine retq rfl ?_
  exact rfl

set_option maxRecDepth 100000 in
/-- pub-orthodrome/impl.InLineBox -/
theorem implInLineBox (px py ax ay cx cy : Nat) : FnD Try.prog 33 [.ag [dfl px, dfl py], .ag [dfl ax, dfl ay], .ag [dfl cx, dfl cy]] (fun r => r = dbool (lineBox px py ax ay cx cy)) := by
  refine FnD.of (by kernel_rfl) Try.func33 rfl Try.ntmps33 rfl (leb rfl) fun W ok => ?_
  refine AC.seq ?_
  refine AC.region ?_
  refine AO.op rfl (AOp.box rfl rfl (ltb rfl) rfl rfl ?_)
  refine AO.op rfl (AOp.box rfl rfl (ltb rfl) rfl rfl ?_)
  refine AO.op rfl (AOp.box rfl rfl (ltb rfl) rfl rfl ?_)
  refine AO.op rfl (AOp.assign rfl rfl (ltb rfl) rfl ?_)
  refine AO.nil ?_
  change AC _ _ _ _
  refine AC.seq ?_
  refine AC.draw 8 mixed (by kernel_rfl) ?_
  first | refine AD.op [3] rfl (by kernel_rfl) rfl rfl (fun _ _ h => AOp.loadN rfl rfl (ltb rfl) rfl agg57 size57 rfl (leb rfl) rfl h) ?_ | refine AD.op [3] rfl (by kernel_rfl) rfl rfl (fun _ _ h => AOp.loadEpN rfl rfl (ltb rfl) rfl agg57 size57 (leb rfl) rfl h) ?_
  refine AD.op [7] rfl (by kernel_rfl) rfl rfl (fun _ _ h => AOp.callD rfl rfl (ltb rfl) rfl (coord _ _) (by rintro _ rfl; exact h)) ?_
  first | refine AD.op [4] rfl (by kernel_rfl) rfl rfl (fun _ _ h => AOp.loadN rfl rfl (ltb rfl) rfl agg57 size57 rfl (leb rfl) rfl h) ?_ | refine AD.op [4] rfl (by kernel_rfl) rfl rfl (fun _ _ h => AOp.loadEpN rfl rfl (ltb rfl) rfl agg57 size57 (leb rfl) rfl h) ?_
  refine AD.op [9] rfl (by kernel_rfl) rfl rfl (fun _ _ h => AOp.callD rfl rfl (ltb rfl) rfl (coord _ _) (by rintro _ rfl; exact h)) ?_
  first | refine AD.op [5] rfl (by kernel_rfl) rfl rfl (fun _ _ h => AOp.loadN rfl rfl (ltb rfl) rfl agg57 size57 rfl (leb rfl) rfl h) ?_ | refine AD.op [5] rfl (by kernel_rfl) rfl rfl (fun _ _ h => AOp.loadEpN rfl rfl (ltb rfl) rfl agg57 size57 (leb rfl) rfl h) ?_
  refine AD.op [11] rfl (by kernel_rfl) rfl rfl (fun _ _ h => AOp.callD rfl rfl (ltb rfl) rfl (coord _ _) (by rintro _ rfl; exact h)) ?_
  refine AD.op [8, 10, 12] rfl (by kernel_rfl) rfl rfl (fun _ _ h => AOp.callD rfl rfl (ltb rfl) rfl (xyBox _ _ _ _ _ _) (by rintro _ rfl; exact h)) ?_
  refine AD.op [13] rfl (by kernel_rfl) rfl rfl (fun _ _ h => AOp.assign rfl rfl (ltb rfl) rfl h) ?_
  refine AD.done ?_
  refine AO.nil ?_
  change AC _ _ _ _
  refine AC.ret ?_
  change RetQ _ _ _ .ret _
  refine retq rfl ?_
  exact rfl

set_option maxRecDepth 100000 in
/-- pub-orthodrome/laws.FnInLineBox -/
theorem lawInLineBox (px py ax ay cx cy : Nat) : FnD Try.prog 9 [.ag [dfl px, dfl py], .ag [dfl ax, dfl ay], .ag [dfl cx, dfl cy]] (fun r => r = dbool true) := by
  refine FnD.of (by kernel_rfl) Try.func9 rfl Try.ntmps9 rfl (leb rfl) fun W ok => ?_
  refine AC.seq ?_
  refine AC.region ?_
  refine AO.op rfl (AOp.box rfl rfl (ltb rfl) rfl rfl ?_)
  refine AO.op rfl (AOp.box rfl rfl (ltb rfl) rfl rfl ?_)
  refine AO.op rfl (AOp.box rfl rfl (ltb rfl) rfl rfl ?_)
  refine AO.op rfl (AOp.assign rfl rfl (ltb rfl) rfl ?_)
  refine AO.nil ?_
  change AC _ _ _ _
  refine AC.seq ?_
  refine AC.seq ?_
  refine AC.region ?_
  first | refine AO.op rfl (AOp.loadN rfl rfl (ltb rfl) rfl agg57 size57 rfl (leb rfl) rfl ?_) | refine AO.op rfl (AOp.loadEpN rfl rfl (ltb rfl) rfl agg57 size57 (leb rfl) rfl ?_)
  first | refine AO.op rfl (AOp.loadN rfl rfl (ltb rfl) rfl agg57 size57 rfl (leb rfl) rfl ?_) | refine AO.op rfl (AOp.loadEpN rfl rfl (ltb rfl) rfl agg57 size57 (leb rfl) rfl ?_)
  first | refine AO.op rfl (AOp.loadN rfl rfl (ltb rfl) rfl agg57 size57 rfl (leb rfl) rfl ?_) | refine AO.op rfl (AOp.loadEpN rfl rfl (ltb rfl) rfl agg57 size57 (leb rfl) rfl ?_)
  refine AO.op rfl (AOp.buildSliceD rfl rfl (ltb rfl) el60 zero57 rfl (leb rfl) rfl rfl rfl rfl ?_)
  refine AO.op rfl (AOp.callD rfl rfl (ltb rfl) rfl (bare [(px, py), (ax, ay), (cx, cy)] (by simp)) ?_)
  rintro _ rfl
  refine AO.op rfl (AOp.callD rfl rfl (ltb rfl) rfl (allFinite _ (by simp [flat2l])) ?_)
  rintro _ rfl
  refine AO.op rfl (AOp.bnot rfl rfl (ltb rfl) rfl ?_)
  refine AO.nil ?_
  change AC _ _ _ _
  refine AC.cond rfl (fun h1 => ?_) (fun h1 => ?_)
  · refine AC.seq ?_
    refine AC.region ?_
    refine AO.op rfl (AOp.assign rfl rfl (ltb rfl) rfl ?_)
    refine AO.nil ?_
    change AC _ _ _ _
    refine AC.ret ?_
    change RetQ _ _ _ .ret _
    refine retq rfl ?_
    first | rfl | (refine dbool_eq' ?_; unfold lineBox; simp_all; done) | (unfold lineBox; simp_all)
  · refine AC.skip ?_
    change AC _ _ _ _
    refine AC.seq ?_
    refine AC.region ?_
    have hw : finAll [px, py, ax, ay, cx, cy] = true := by simpa [flat2l] using h1
    obtain ⟨Ppx, ipx⟩ := V_of_flat hw (i := 0) (by simp)
    replace ipx : Flt.V px = some Ppx := ipx
    obtain ⟨Ppy, ipy⟩ := V_of_flat hw (i := 1) (by simp)
    replace ipy : Flt.V py = some Ppy := ipy
    obtain ⟨Pax, iax⟩ := V_of_flat hw (i := 2) (by simp)
    replace iax : Flt.V ax = some Pax := iax
    obtain ⟨Pay, iay⟩ := V_of_flat hw (i := 3) (by simp)
    replace iay : Flt.V ay = some Pay := iay
    obtain ⟨Pcx, icx⟩ := V_of_flat hw (i := 4) (by simp)
    replace icx : Flt.V cx = some Pcx := icx
    obtain ⟨Pcy, icy⟩ := V_of_flat hw (i := 5) (by simp)
    replace icy : Flt.V cy = some Pcy := icy
    have sx := Flt.ord_some iax icx
    have sy := Flt.ord_some iay icy
    have e1 := le_min ipx iax icx
    have e2 := ge_max ipx iax icx
    have e3 := le_min ipy iay icy
    have e4 := ge_max ipy iay icy
    first | refine AO.op rfl (AOp.fieldAddr rfl rfl (ltb rfl) rfl fo57_0 ?_) | refine AO.op rfl (AOp.fieldAddrPt rfl rfl (ltb rfl) rfl fo57_0 ?_) | refine AO.op rfl (AOp.fieldAddrEp rfl rfl (ltb rfl) rfl fo57_0 ?_)
    first | refine AO.op rfl (AOp.load1 rfl rfl (ltb rfl) rfl agg40 rfl rfl ?_) | refine AO.op rfl (AOp.loadEp rfl rfl (ltb rfl) rfl agg40 rfl ?_)
    first | refine AO.op rfl (AOp.fieldAddr rfl rfl (ltb rfl) rfl fo57_0 ?_) | refine AO.op rfl (AOp.fieldAddrPt rfl rfl (ltb rfl) rfl fo57_0 ?_) | refine AO.op rfl (AOp.fieldAddrEp rfl rfl (ltb rfl) rfl fo57_0 ?_)
    first | refine AO.op rfl (AOp.load1 rfl rfl (ltb rfl) rfl agg40 rfl rfl ?_) | refine AO.op rfl (AOp.loadEp rfl rfl (ltb rfl) rfl agg40 rfl ?_)
    first | refine AO.op rfl (AOp.fieldAddr rfl rfl (ltb rfl) rfl fo57_0 ?_) | refine AO.op rfl (AOp.fieldAddrPt rfl rfl (ltb rfl) rfl fo57_0 ?_) | refine AO.op rfl (AOp.fieldAddrEp rfl rfl (ltb rfl) rfl fo57_0 ?_)
    first | refine AO.op rfl (AOp.load1 rfl rfl (ltb rfl) rfl agg40 rfl rfl ?_) | refine AO.op rfl (AOp.loadEp rfl rfl (ltb rfl) rfl agg40 rfl ?_)
    refine AO.op rfl (AOp.fmin rfl rfl (ltb rfl) rfl rfl (by assumption) ?_)
    refine AO.op rfl (AOp.fgeq rfl rfl (ltb rfl) rfl rfl ?_)
    refine AO.op rfl (AOp.move rfl rfl (ltb rfl) rfl ?_)
    refine AO.guard rfl rfl rfl (ltb rfl) rfl (fun h2 => ?_) (fun h2 => ?_)
    · first | refine AOp.fieldAddr rfl rfl (ltb rfl) rfl fo57_0 ?_ | refine AOp.fieldAddrPt rfl rfl (ltb rfl) rfl fo57_0 ?_ | refine AOp.fieldAddrEp rfl rfl (ltb rfl) rfl fo57_0 ?_
      first | refine AO.guardY rfl rfl rfl h2 (AOp.load1 rfl rfl (ltb rfl) rfl agg40 rfl rfl ?_) | refine AO.guardY rfl rfl rfl h2 (AOp.loadEp rfl rfl (ltb rfl) rfl agg40 rfl ?_)
      first | refine AO.guardY rfl rfl rfl h2 (AOp.fieldAddr rfl rfl (ltb rfl) rfl fo57_0 ?_) | refine AO.guardY rfl rfl rfl h2 (AOp.fieldAddrPt rfl rfl (ltb rfl) rfl fo57_0 ?_) | refine AO.guardY rfl rfl rfl h2 (AOp.fieldAddrEp rfl rfl (ltb rfl) rfl fo57_0 ?_)
      first | refine AO.guardY rfl rfl rfl h2 (AOp.load1 rfl rfl (ltb rfl) rfl agg40 rfl rfl ?_) | refine AO.guardY rfl rfl rfl h2 (AOp.loadEp rfl rfl (ltb rfl) rfl agg40 rfl ?_)
      first | refine AO.guardY rfl rfl rfl h2 (AOp.fieldAddr rfl rfl (ltb rfl) rfl fo57_0 ?_) | refine AO.guardY rfl rfl rfl h2 (AOp.fieldAddrPt rfl rfl (ltb rfl) rfl fo57_0 ?_) | refine AO.guardY rfl rfl rfl h2 (AOp.fieldAddrEp rfl rfl (ltb rfl) rfl fo57_0 ?_)
      first | refine AO.guardY rfl rfl rfl h2 (AOp.load1 rfl rfl (ltb rfl) rfl agg40 rfl rfl ?_) | refine AO.guardY rfl rfl rfl h2 (AOp.loadEp rfl rfl (ltb rfl) rfl agg40 rfl ?_)
      refine AO.guardY rfl rfl rfl h2 (AOp.fmax rfl rfl (ltb rfl) rfl rfl (by assumption) ?_)
      refine AO.guardY rfl rfl rfl h2 (AOp.fleq rfl rfl (ltb rfl) rfl rfl ?_)
      refine AO.op rfl (AOp.pick rfl rfl (ltb rfl) rfl h2 rfl ?_)
      refine AO.op rfl (AOp.move rfl rfl (ltb rfl) rfl ?_)
      refine AO.guard rfl rfl rfl (ltb rfl) rfl (fun h3 => ?_) (fun h3 => ?_)
      · first | refine AOp.fieldAddr rfl rfl (ltb rfl) rfl fo57_1 ?_ | refine AOp.fieldAddrPt rfl rfl (ltb rfl) rfl fo57_1 ?_ | refine AOp.fieldAddrEp rfl rfl (ltb rfl) rfl fo57_1 ?_
        first | refine AO.guardY rfl rfl rfl h3 (AOp.load1 rfl rfl (ltb rfl) rfl agg40 rfl rfl ?_) | refine AO.guardY rfl rfl rfl h3 (AOp.loadEp rfl rfl (ltb rfl) rfl agg40 rfl ?_)
        first | refine AO.guardY rfl rfl rfl h3 (AOp.fieldAddr rfl rfl (ltb rfl) rfl fo57_1 ?_) | refine AO.guardY rfl rfl rfl h3 (AOp.fieldAddrPt rfl rfl (ltb rfl) rfl fo57_1 ?_) | refine AO.guardY rfl rfl rfl h3 (AOp.fieldAddrEp rfl rfl (ltb rfl) rfl fo57_1 ?_)
        first | refine AO.guardY rfl rfl rfl h3 (AOp.load1 rfl rfl (ltb rfl) rfl agg40 rfl rfl ?_) | refine AO.guardY rfl rfl rfl h3 (AOp.loadEp rfl rfl (ltb rfl) rfl agg40 rfl ?_)
        first | refine AO.guardY rfl rfl rfl h3 (AOp.fieldAddr rfl rfl (ltb rfl) rfl fo57_1 ?_) | refine AO.guardY rfl rfl rfl h3 (AOp.fieldAddrPt rfl rfl (ltb rfl) rfl fo57_1 ?_) | refine AO.guardY rfl rfl rfl h3 (AOp.fieldAddrEp rfl rfl (ltb rfl) rfl fo57_1 ?_)
        first | refine AO.guardY rfl rfl rfl h3 (AOp.load1 rfl rfl (ltb rfl) rfl agg40 rfl rfl ?_) | refine AO.guardY rfl rfl rfl h3 (AOp.loadEp rfl rfl (ltb rfl) rfl agg40 rfl ?_)
        refine AO.guardY rfl rfl rfl h3 (AOp.fmin rfl rfl (ltb rfl) rfl rfl (by assumption) ?_)
        refine AO.guardY rfl rfl rfl h3 (AOp.fgeq rfl rfl (ltb rfl) rfl rfl ?_)
        refine AO.op rfl (AOp.pick rfl rfl (ltb rfl) rfl h3 rfl ?_)
        refine AO.op rfl (AOp.move rfl rfl (ltb rfl) rfl ?_)
        refine AO.guard rfl rfl rfl (ltb rfl) rfl (fun h4 => ?_) (fun h4 => ?_)
        · first | refine AOp.fieldAddr rfl rfl (ltb rfl) rfl fo57_1 ?_ | refine AOp.fieldAddrPt rfl rfl (ltb rfl) rfl fo57_1 ?_ | refine AOp.fieldAddrEp rfl rfl (ltb rfl) rfl fo57_1 ?_
          first | refine AO.guardY rfl rfl rfl h4 (AOp.load1 rfl rfl (ltb rfl) rfl agg40 rfl rfl ?_) | refine AO.guardY rfl rfl rfl h4 (AOp.loadEp rfl rfl (ltb rfl) rfl agg40 rfl ?_)
          first | refine AO.guardY rfl rfl rfl h4 (AOp.fieldAddr rfl rfl (ltb rfl) rfl fo57_1 ?_) | refine AO.guardY rfl rfl rfl h4 (AOp.fieldAddrPt rfl rfl (ltb rfl) rfl fo57_1 ?_) | refine AO.guardY rfl rfl rfl h4 (AOp.fieldAddrEp rfl rfl (ltb rfl) rfl fo57_1 ?_)
          first | refine AO.guardY rfl rfl rfl h4 (AOp.load1 rfl rfl (ltb rfl) rfl agg40 rfl rfl ?_) | refine AO.guardY rfl rfl rfl h4 (AOp.loadEp rfl rfl (ltb rfl) rfl agg40 rfl ?_)
          first | refine AO.guardY rfl rfl rfl h4 (AOp.fieldAddr rfl rfl (ltb rfl) rfl fo57_1 ?_) | refine AO.guardY rfl rfl rfl h4 (AOp.fieldAddrPt rfl rfl (ltb rfl) rfl fo57_1 ?_) | refine AO.guardY rfl rfl rfl h4 (AOp.fieldAddrEp rfl rfl (ltb rfl) rfl fo57_1 ?_)
          first | refine AO.guardY rfl rfl rfl h4 (AOp.load1 rfl rfl (ltb rfl) rfl agg40 rfl rfl ?_) | refine AO.guardY rfl rfl rfl h4 (AOp.loadEp rfl rfl (ltb rfl) rfl agg40 rfl ?_)
          refine AO.guardY rfl rfl rfl h4 (AOp.fmax rfl rfl (ltb rfl) rfl rfl (by assumption) ?_)
          refine AO.guardY rfl rfl rfl h4 (AOp.fleq rfl rfl (ltb rfl) rfl rfl ?_)
          refine AO.op rfl (AOp.pick rfl rfl (ltb rfl) rfl h4 rfl ?_)
          refine AO.op rfl (AOp.assign rfl rfl (ltb rfl) rfl ?_)
          refine AO.nil ?_
          change AC _ _ _ _
          refine AC.seq ?_
          refine AC.region ?_
          first | refine AO.op rfl (AOp.loadN rfl rfl (ltb rfl) rfl agg57 size57 rfl (leb rfl) rfl ?_) | refine AO.op rfl (AOp.loadEpN rfl rfl (ltb rfl) rfl agg57 size57 (leb rfl) rfl ?_)
          first | refine AO.op rfl (AOp.loadN rfl rfl (ltb rfl) rfl agg57 size57 rfl (leb rfl) rfl ?_) | refine AO.op rfl (AOp.loadEpN rfl rfl (ltb rfl) rfl agg57 size57 (leb rfl) rfl ?_)
          first | refine AO.op rfl (AOp.loadN rfl rfl (ltb rfl) rfl agg57 size57 rfl (leb rfl) rfl ?_) | refine AO.op rfl (AOp.loadEpN rfl rfl (ltb rfl) rfl agg57 size57 (leb rfl) rfl ?_)
          refine AO.op rfl (AOp.callD rfl rfl (ltb rfl) rfl (implInLineBox _ _ _ _ _ _) ?_)
          rintro _ rfl
          refine AO.op rfl (AOp.move rfl rfl (ltb rfl) rfl ?_)
          refine AO.op rfl (AOp.beql Try.underlying4 rfl rfl (ltb rfl) rfl rfl ?_)
          refine AO.op rfl (AOp.assign rfl rfl (ltb rfl) rfl ?_)
          refine AO.nil ?_
          change AC _ _ _ _
          refine AC.ret ?_
          change RetQ _ _ _ .ret _
          refine retq rfl ?_
          first | rfl | (refine dbool_eq' ?_; unfold lineBox; simp_all; done) | (unfold lineBox; simp_all)
        · refine AO.guardN rfl rfl rfl (ltb rfl) rfl h4 ?_
          refine AO.guardN rfl rfl rfl (ltb rfl) rfl h4 ?_
          refine AO.guardN rfl rfl rfl (ltb rfl) rfl h4 ?_
          refine AO.guardN rfl rfl rfl (ltb rfl) rfl h4 ?_
          refine AO.guardN rfl rfl rfl (ltb rfl) rfl h4 ?_
          refine AO.guardN rfl rfl rfl (ltb rfl) rfl h4 ?_
          refine AO.guardN rfl rfl rfl (ltb rfl) rfl h4 ?_
          refine AO.op rfl (AOp.pickN rfl rfl (ltb rfl) rfl h4 rfl ?_)
          refine AO.op rfl (AOp.assign rfl rfl (ltb rfl) rfl ?_)
          refine AO.nil ?_
          change AC _ _ _ _
          refine AC.seq ?_
          refine AC.region ?_
          first | refine AO.op rfl (AOp.loadN rfl rfl (ltb rfl) rfl agg57 size57 rfl (leb rfl) rfl ?_) | refine AO.op rfl (AOp.loadEpN rfl rfl (ltb rfl) rfl agg57 size57 (leb rfl) rfl ?_)
          first | refine AO.op rfl (AOp.loadN rfl rfl (ltb rfl) rfl agg57 size57 rfl (leb rfl) rfl ?_) | refine AO.op rfl (AOp.loadEpN rfl rfl (ltb rfl) rfl agg57 size57 (leb rfl) rfl ?_)
          first | refine AO.op rfl (AOp.loadN rfl rfl (ltb rfl) rfl agg57 size57 rfl (leb rfl) rfl ?_) | refine AO.op rfl (AOp.loadEpN rfl rfl (ltb rfl) rfl agg57 size57 (leb rfl) rfl ?_)
          refine AO.op rfl (AOp.callD rfl rfl (ltb rfl) rfl (implInLineBox _ _ _ _ _ _) ?_)
          rintro _ rfl
          refine AO.op rfl (AOp.move rfl rfl (ltb rfl) rfl ?_)
          refine AO.op rfl (AOp.beql Try.underlying4 rfl rfl (ltb rfl) rfl rfl ?_)
          refine AO.op rfl (AOp.assign rfl rfl (ltb rfl) rfl ?_)
          refine AO.nil ?_
          change AC _ _ _ _
          refine AC.ret ?_
          change RetQ _ _ _ .ret _
          refine retq rfl ?_
          first | rfl | (refine dbool_eq' ?_; unfold lineBox; simp_all; done) | (unfold lineBox; simp_all)
      · refine AO.guardN rfl rfl rfl (ltb rfl) rfl h3 ?_
        refine AO.guardN rfl rfl rfl (ltb rfl) rfl h3 ?_
        refine AO.guardN rfl rfl rfl (ltb rfl) rfl h3 ?_
        refine AO.guardN rfl rfl rfl (ltb rfl) rfl h3 ?_
        refine AO.guardN rfl rfl rfl (ltb rfl) rfl h3 ?_
        refine AO.guardN rfl rfl rfl (ltb rfl) rfl h3 ?_
        refine AO.guardN rfl rfl rfl (ltb rfl) rfl h3 ?_
        refine AO.op rfl (AOp.pickN rfl rfl (ltb rfl) rfl h3 rfl ?_)
        refine AO.op rfl (AOp.move rfl rfl (ltb rfl) rfl ?_)
        refine AO.guardN rfl rfl rfl (ltb rfl) rfl rfl ?_
        refine AO.guardN rfl rfl rfl (ltb rfl) rfl rfl ?_
        refine AO.guardN rfl rfl rfl (ltb rfl) rfl rfl ?_
        refine AO.guardN rfl rfl rfl (ltb rfl) rfl rfl ?_
        refine AO.guardN rfl rfl rfl (ltb rfl) rfl rfl ?_
        refine AO.guardN rfl rfl rfl (ltb rfl) rfl rfl ?_
        refine AO.guardN rfl rfl rfl (ltb rfl) rfl rfl ?_
        refine AO.guardN rfl rfl rfl (ltb rfl) rfl rfl ?_
        refine AO.op rfl (AOp.pickN rfl rfl (ltb rfl) rfl rfl rfl ?_)
        refine AO.op rfl (AOp.assign rfl rfl (ltb rfl) rfl ?_)
        refine AO.nil ?_
        change AC _ _ _ _
        refine AC.seq ?_
        refine AC.region ?_
        first | refine AO.op rfl (AOp.loadN rfl rfl (ltb rfl) rfl agg57 size57 rfl (leb rfl) rfl ?_) | refine AO.op rfl (AOp.loadEpN rfl rfl (ltb rfl) rfl agg57 size57 (leb rfl) rfl ?_)
        first | refine AO.op rfl (AOp.loadN rfl rfl (ltb rfl) rfl agg57 size57 rfl (leb rfl) rfl ?_) | refine AO.op rfl (AOp.loadEpN rfl rfl (ltb rfl) rfl agg57 size57 (leb rfl) rfl ?_)
        first | refine AO.op rfl (AOp.loadN rfl rfl (ltb rfl) rfl agg57 size57 rfl (leb rfl) rfl ?_) | refine AO.op rfl (AOp.loadEpN rfl rfl (ltb rfl) rfl agg57 size57 (leb rfl) rfl ?_)
        refine AO.op rfl (AOp.callD rfl rfl (ltb rfl) rfl (implInLineBox _ _ _ _ _ _) ?_)
        rintro _ rfl
        refine AO.op rfl (AOp.move rfl rfl (ltb rfl) rfl ?_)
        refine AO.op rfl (AOp.beql Try.underlying4 rfl rfl (ltb rfl) rfl rfl ?_)
        refine AO.op rfl (AOp.assign rfl rfl (ltb rfl) rfl ?_)
        refine AO.nil ?_
        change AC _ _ _ _
        refine AC.ret ?_
        change RetQ _ _ _ .ret _
        refine retq rfl ?_
        first | rfl | (refine dbool_eq' ?_; unfold lineBox; simp_all; done) | (unfold lineBox; simp_all)
    · refine AO.guardN rfl rfl rfl (ltb rfl) rfl h2 ?_
      refine AO.guardN rfl rfl rfl (ltb rfl) rfl h2 ?_
      refine AO.guardN rfl rfl rfl (ltb rfl) rfl h2 ?_
      refine AO.guardN rfl rfl rfl (ltb rfl) rfl h2 ?_
      refine AO.guardN rfl rfl rfl (ltb rfl) rfl h2 ?_
      refine AO.guardN rfl rfl rfl (ltb rfl) rfl h2 ?_
      refine AO.guardN rfl rfl rfl (ltb rfl) rfl h2 ?_
      refine AO.op rfl (AOp.pickN rfl rfl (ltb rfl) rfl h2 rfl ?_)
      refine AO.op rfl (AOp.move rfl rfl (ltb rfl) rfl ?_)
      refine AO.guardN rfl rfl rfl (ltb rfl) rfl rfl ?_
      refine AO.guardN rfl rfl rfl (ltb rfl) rfl rfl ?_
      refine AO.guardN rfl rfl rfl (ltb rfl) rfl rfl ?_
      refine AO.guardN rfl rfl rfl (ltb rfl) rfl rfl ?_
      refine AO.guardN rfl rfl rfl (ltb rfl) rfl rfl ?_
      refine AO.guardN rfl rfl rfl (ltb rfl) rfl rfl ?_
      refine AO.guardN rfl rfl rfl (ltb rfl) rfl rfl ?_
      refine AO.guardN rfl rfl rfl (ltb rfl) rfl rfl ?_
      refine AO.op rfl (AOp.pickN rfl rfl (ltb rfl) rfl rfl rfl ?_)
      refine AO.op rfl (AOp.move rfl rfl (ltb rfl) rfl ?_)
      refine AO.guardN rfl rfl rfl (ltb rfl) rfl rfl ?_
      refine AO.guardN rfl rfl rfl (ltb rfl) rfl rfl ?_
      refine AO.guardN rfl rfl rfl (ltb rfl) rfl rfl ?_
      refine AO.guardN rfl rfl rfl (ltb rfl) rfl rfl ?_
      refine AO.guardN rfl rfl rfl (ltb rfl) rfl rfl ?_
      refine AO.guardN rfl rfl rfl (ltb rfl) rfl rfl ?_
      refine AO.guardN rfl rfl rfl (ltb rfl) rfl rfl ?_
      refine AO.guardN rfl rfl rfl (ltb rfl) rfl rfl ?_
      refine AO.op rfl (AOp.pickN rfl rfl (ltb rfl) rfl rfl rfl ?_)
      refine AO.op rfl (AOp.assign rfl rfl (ltb rfl) rfl ?_)
      refine AO.nil ?_
      change AC _ _ _ _
      refine AC.seq ?_
      refine AC.region ?_
      first | refine AO.op rfl (AOp.loadN rfl rfl (ltb rfl) rfl agg57 size57 rfl (leb rfl) rfl ?_) | refine AO.op rfl (AOp.loadEpN rfl rfl (ltb rfl) rfl agg57 size57 (leb rfl) rfl ?_)
      first | refine AO.op rfl (AOp.loadN rfl rfl (ltb rfl) rfl agg57 size57 rfl (leb rfl) rfl ?_) | refine AO.op rfl (AOp.loadEpN rfl rfl (ltb rfl) rfl agg57 size57 (leb rfl) rfl ?_)
      first | refine AO.op rfl (AOp.loadN rfl rfl (ltb rfl) rfl agg57 size57 rfl (leb rfl) rfl ?_) | refine AO.op rfl (AOp.loadEpN rfl rfl (ltb rfl) rfl agg57 size57 (leb rfl) rfl ?_)
      refine AO.op rfl (AOp.callD rfl rfl (ltb rfl) rfl (implInLineBox _ _ _ _ _ _) ?_)
      rintro _ rfl
      refine AO.op rfl (AOp.move rfl rfl (ltb rfl) rfl ?_)
      refine AO.op rfl (AOp.beql Try.underlying4 rfl rfl (ltb rfl) rfl rfl ?_)
      refine AO.op rfl (AOp.assign rfl rfl (ltb rfl) rfl ?_)
      refine AO.nil ?_
      change AC _ _ _ _
      refine AC.ret ?_
      change RetQ _ _ _ .ret _
      refine retq rfl ?_
      first | rfl | (refine dbool_eq' ?_; unfold lineBox; simp_all; done) | (unfold lineBox; simp_all)

end Go.Proofs.Ythijpgkejnnjeaa.Wk
