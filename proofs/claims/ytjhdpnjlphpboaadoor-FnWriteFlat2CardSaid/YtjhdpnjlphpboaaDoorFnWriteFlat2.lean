/- Proved: the law FnWriteFlat2 answers true at every input, and its input reads as it did. No condition beyond the statement's own. -/
import Derived.Test.YtjhdpnjlphpboaaDoorRows
import Derived.Test.YtjhdpnjlphpboaaDoorLibC
import Derived.Test.YtjhdpnjlphpboaaDoorWWt
import Derived.Test.YtjhdpnjlphpboaaDoorWtAll
import Derived.Test.YtjhdpnjlphpboaaDoorChecked
import Derived.Test.YtjhdpnjlphpboaaDoorCards
import Derived.Test.YtjhdpnjlphpboaaDoorTie
import Derived.WalkKit
import Derived.ProofKit
import Derived.OpenShut
import Derived.ShutString
import Derived.ChangeOld
import Derived.Below
namespace Go.Proofs.YtjhdpnjlphpboaaDoor.fnWriteFlat2
open Go.Vm
open Go.ChangeShapes Go.WideShapes Go.ChangeAt Go.RowKit
open Go.ChangeMaps (open_string shut_string)
set_option linter.unusedVariables false
theorem own : ownKnob Tryd.prog.godebug = none := by kernel_rfl
theorem laidOut : laidOutB Tryd.prog = true := by kernel_rfl
theorem flat1 {α : Type} (g : α → D) (l : List α) : (l.map fun z => [g z]).flatten = l.map g := by
  induction l with
  | nil => rfl
  | cons a l ih => simp [ih]
theorem cells3 : Tryd.prog.cellsOf 3 = 1 := by kernel_rfl
theorem cells63 : Tryd.prog.cellsOf 63 = 1 := by kernel_rfl
set_option maxRecDepth 100000 in
theorem lifted (os : Os) (started : os.Started) (H : Type) (enc : TypeId × Value → H) :
    ReturnsInHanded {} Tryd.checked os 4 .any (fun w args => (Rows.fnWriteFlat2Spec.pre enc Tryd.prog Tryd.f4 [] false w args ∧ laidMetH Tryd.prog Rows.fnWriteFlat2Row.laid w) ∧ sizedMet enc Tryd.prog Tryd.f4 (OpenSpec.ofChange Rows.fnWriteFlat2Spec) false w args) (Rows.fnWriteFlat2Spec.post enc Tryd.prog Tryd.f4 false true false false) := by
  refine returnsInHanded_of_change_and (C := Tryd.checked) (X := fun w _ => laidMetH Tryd.prog Rows.fnWriteFlat2Row.laid w) (fun _ _ _ hh h => h.of_heap hh) own started (by kernel_rfl) Tryd.func4
    (ChangeSpec.witness_shaped (enc := enc) (C := Tryd.checked) (os := os) (X := fun w _ => laidMetH Tryd.prog Rows.fnWriteFlat2Row.laid w) false (World.laidAll Tryd.prog os Rows.fnWriteFlat2Row.laid) #[.slice none 0 0, .slice none 0 0, .int .i64 0, .bool false] 8 (World.laidAll_os _ _ _)
      (World.shaped_of_ZipB (by kernel_rfl) (by kernel_rfl)) (by kernel_rfl) (by kernel_rfl) (by kernel_rfl)
      (by rw [MakeChecks.laidMetH_plain _ _ _ (by kernel_rfl)]; exact laidMet_laidAll _ (by kernel_rfl) (by kernel_rfl))) ?_
  intro W base args ds gs before hval0 hW _ _ hL _
  have hcnd := True.intro
  have hval : ∀ (j : Nat) t v, Tryd.f4.params[j]? = some t → args[j]? = some v → Value.okWide Tryd.prog W .any base t v := hval0
  have hW' := hW
  obtain ⟨p, q, hA0, hV, rfl, hfz, hnd⟩ := hW
  have hA : DataW.TrodAll enc Tryd.prog W 0 (fun _ => true) true Tryd.f4.params.toList args.toList ds p := hA0
  rw [Tryd.params4] at hA hval
  obtain ⟨v0, vs0, d0, ds0, p0, q0, hargs, rfl, rfl, h0, r0⟩ := trodAll_cons hA
  obtain ⟨v1, vs1, d1, ds1, p1, q1, rfl, rfl, rfl, h1, r1⟩ := trodAll_cons r0
  obtain ⟨v2, vs2, d2, ds2, p2, q2, rfl, rfl, rfl, h2, r2⟩ := trodAll_cons r1
  obtain ⟨v3, vs3, d3, ds3, p3, q3, rfl, rfl, rfl, h3, r3⟩ := trodAll_cons r2
  obtain ⟨rfl, rfl, rfl⟩ := trodAll_nil r3
  obtain rfl : args = #[v0, v1, v2, v3] := by cases args; simp_all
  obtain ⟨rfl, rfl⟩ := trodVars_none hV
  rw [MakeChecks.laidMetH_plain _ _ _ (by kernel_rfl)] at hL
  have star : "*errors.errorString" = "*" ++ "errors.errorString" := by decide
  have hrow : ∀ u, Tryd.prog.typeName? 3 u = some "*errors.errorString" → u = 119 := fun u h => typeName_ptr_named (nm := "errors.errorString") (by rw [← star]; kernel_rfl) (by kernel_rfl) (by decide) u (by rw [← star]; exact h)
  have hg0 := laid_errP hrow hL (n := "io.ErrShortBuffer") (.head _) (by kernel_rfl : Tryd.prog.globalNamed "io.ErrShortBuffer" = some 4) (by kernel_rfl : (Tryd.prog.globals[4]?).map (·.type) = some 57) (by kernel_rfl : Tryd.prog.underlying 57 = some (.interface (Tryd.prog.methodsAt 57))) (by kernel_rfl : Tryd.prog.underlying 119 = some (.pointer 142)) Tryd.underlying142 (ts := 9) rfl rfl (by kernel_rfl) (by kernel_rfl) (by kernel_rfl)
  have hg1 := laid_errP hrow hL (n := "io.EOF") (.tail _ (.head _)) (by kernel_rfl : Tryd.prog.globalNamed "io.EOF" = some 5) (by kernel_rfl : (Tryd.prog.globals[5]?).map (·.type) = some 57) (by kernel_rfl : Tryd.prog.underlying 57 = some (.interface (Tryd.prog.methodsAt 57))) (by kernel_rfl : Tryd.prog.underlying 119 = some (.pointer 142)) Tryd.underlying142 (ts := 9) rfl rfl (by kernel_rfl) (by kernel_rfl) (by kernel_rfl)
  have hg2 := laid_errP hrow hL (n := "io.ErrUnexpectedEOF") (.tail _ (.tail _ (.head _))) (by kernel_rfl : Tryd.prog.globalNamed "io.ErrUnexpectedEOF" = some 6) (by kernel_rfl : (Tryd.prog.globals[6]?).map (·.type) = some 57) (by kernel_rfl : Tryd.prog.underlying 57 = some (.interface (Tryd.prog.methodsAt 57))) (by kernel_rfl : Tryd.prog.underlying 119 = some (.pointer 142)) Tryd.underlying142 (ts := 9) rfl rfl (by kernel_rfl) (by kernel_rfl) (by kernel_rfl)
  have hg3 := laid_ints hL (n := "pub-orthodrome/pub/gogeom/encoding/wkbcommon.MaxGeometryElements") (bs := [(0), (-1), (-1), (-1)]) (.tail _ (.tail _ (.tail _ (.head _)))) (by kernel_rfl : Tryd.prog.globalNamed "pub-orthodrome/pub/gogeom/encoding/wkbcommon.MaxGeometryElements" = some 0) (by kernel_rfl : (Tryd.prog.globals[0]?).map (·.type) = some 89) (by kernel_rfl : Tryd.prog.underlying 89 = some (.array 4 3)) (by kernel_rfl : Tryd.prog.underlying 3 = some (.int .i64)) (by kernel_rfl : Tryd.prog.cellsOf 3 = 1)
  have hG : HoldsG W := by
   refine ⟨fun p hp => ?_, fun p hp => ?_, fun p hp => ?_⟩
   · skip
     simp only [Globs, List.mem_cons, List.mem_nil_iff, or_false] at hp
     rcases hp with hp | hp
     · subst hp; exact (hg3 0 _ rfl)
     rcases hp with hp | hp
     · subst hp; exact (hg3 1 _ rfl)
     rcases hp with hp | hp
     · subst hp; exact (hg3 2 _ rfl)
     subst hp; exact (hg3 3 _ rfl)
   · skip
     exact absurd hp (by simp [GlobsE])
   · skip
     simp only [GlobsP, List.mem_cons, List.mem_nil_iff, or_false] at hp
     rcases hp with hp | hp
     · subst hp; exact hg0
     rcases hp with hp | hp
     · subst hp; exact hg1
     subst hp; exact hg2
  have lt0 : ∀ x ∈ p0, x.block < W.heap.size := by obtain ⟨m, hm⟩ := h0; exact DataW.trod_lt m _ _ _ hm
  obtain ⟨n0, x0, rep0, sh0⟩ := arg_one (k := 9) (by kernel_rfl) (by kernel_rfl) (hval 0 24 v0 rfl rfl) h0
  obtain ⟨m1, rows2, hx0, hl3, hr4⟩ := shape_slice Tryd.underlying24 sh0
  simp only [List.cons.injEq, and_true] at hx0; subst hx0
  obtain ⟨zs5, rfl, hz6⟩ := rows_choose (f := fun z : Nat => [.v (.float .f64 z)]) (Q := fun z => ((Lit.float .f64 z).wf = true)) (fun r hr => by
    have y7 := hr4 r hr
    obtain ⟨a8, rfl, fa8⟩ := shape_float Tryd.underlying63 y7
    exact ⟨a8, rfl, fa8⟩)
  simp only [List.length_map] at hl3
  have F9 := And.intro hl3 hz6
  try simp only [cells63, flat1] at rep0
  have lt1 : ∀ x ∈ p1, x.block < W.heap.size := by obtain ⟨m, hm⟩ := h1; exact DataW.trod_lt m _ _ _ hm
  obtain ⟨n1, x1, rep1, sh1⟩ := arg_one (k := 9) (by kernel_rfl) (by kernel_rfl) (hval 1 31 v1 rfl rfl) h1
  obtain ⟨m10, rows11, hx1, hl12, hr13⟩ := shape_slice Tryd.underlying31 sh1
  simp only [List.cons.injEq, and_true] at hx1; subst hx1
  obtain ⟨zs14, rfl, hz15⟩ := rows_choose (f := fun z : Int => [di .i64 z]) (Q := fun z => (lo .i64 ≤ z ∧ z ≤ hi .i64)) (fun r hr => by
    have y16 := hr13 r hr
    obtain ⟨a17, rfl, fa17⟩ := shape_int Tryd.underlying3 y16
    exact ⟨a17, rfl, fa17⟩)
  simp only [List.length_map] at hl12
  have F18 := And.intro hl12 hz15
  try simp only [cells3, cells63, flat1] at rep1
  have lt2 : ∀ x ∈ p2, x.block < W.heap.size := by obtain ⟨m, hm⟩ := h2; exact DataW.trod_lt m _ _ _ hm
  obtain ⟨n2, x2, rep2, sh2⟩ := arg_one (k := 9) (by kernel_rfl) (by kernel_rfl) (hval 2 3 v2 rfl rfl) h2
  obtain ⟨a19, hx2, fa19⟩ := shape_int Tryd.underlying3 sh2
  simp only [List.cons.injEq, and_true] at hx2; subst hx2
  try simp only [cells3, cells63, flat1] at rep2
  have lt3 : ∀ x ∈ p3, x.block < W.heap.size := by obtain ⟨m, hm⟩ := h3; exact DataW.trod_lt m _ _ _ hm
  obtain ⟨n3, x3, rep3, sh3⟩ := arg_one (k := 9) (by kernel_rfl) (by kernel_rfl) (hval 3 4 v3 rfl rfl) h3
  obtain ⟨a20, hx3⟩ := shape_bool Tryd.underlying4 sh3
  simp only [List.cons.injEq, and_true] at hx3; subst hx3
  try simp only [cells3, cells63, flat1] at rep3
  clear hA0 hval0
  refine (FnD.law (vs := [v0, v1, v2, v3]) (Wk.w_FnWriteFlat2 (List.length zs14 + 1073741826) zs5 zs14 a19 a20 true (Wk.law_wt _ _ _ _ (fun z hz => wf64 (F9.2 z hz)) (fun x hx => F18.2 x hx))) hG rfl (rep_cons rep0 (rep_cons rep1 (rep_cons rep2 (rep_cons rep3 rep_nil))))).mono fun e W' ⟨he, bel⟩ => ?_
  subst he
  exact ⟨_, rfl, _, _, _, [], _, [], hW', trodAll_mk1 (shut_bool Tryd.underlying4 _), (trodAll_cons_mk (Below.trod laidOut (by kernel_rfl) (of_decide_eq_true (by kernel_rfl)) h0 bel lt0) (trodAll_cons_mk (Below.trod laidOut (by kernel_rfl) (of_decide_eq_true (by kernel_rfl)) h1 bel lt1) (trodAll_cons_mk (Below.trod laidOut (by kernel_rfl) (of_decide_eq_true (by kernel_rfl)) h2 bel lt2) (trodAll_cons_mk (Below.trod laidOut (by kernel_rfl) (of_decide_eq_true (by kernel_rfl)) h3 bel lt3) trodAll_mk0)))), rfl, bel.frame _, fun h => by cases h⟩
theorem over : Rows.fnWriteFlat2Row.holds Tryd.pinned (OpenSpec.ofChange Rows.fnWriteFlat2Spec) :=
  OpenClaim.holds_of_wide 4 Tryd.f4 rfl rfl rfl rfl rfl rfl rfl ⟨rfl, rfl, rfl, rfl, rfl⟩ rfl rfl rfl rfl rfl (by kernel_rfl) Tryd.func4 (by kernel_rfl)
    (of_decide_eq_true (by kernel_rfl)) (by unfold Func.isWrapper; first | (rw [if_pos (by decide +kernel)]; kernel_rfl) | (rw [if_neg (by decide +kernel)]; exact ⟨rfl, rfl⟩))
    (fun os started H enc _ => lifted os started H enc)
theorem proved : Rows.FnWriteFlat2CardSaid :=
  Claim7.holds_tied_plain_at .later [] [.sentinel, .sentinel, .sentinel, .data] true (true, "a823e38f1452f21f402000872acf668e7851b1da8695341ba64384584bc0aaa2") true over (fun _ h => by cases h) (by kernel_rfl) (fun _ h => by cases h) fnWriteFlat2_row_tie rfl ⟨rfl, rfl⟩ (by kernel_rfl) rfl
    (fun f fn hf hfn => by
      obtain rfl : f = 4 := Option.some.inj ((show Tryd.prog.funcNamed "pub-orthodrome/laws.FnWriteFlat2" = some 4 by kernel_rfl).symm.trans hf) |>.symm
      obtain rfl : fn = Tryd.f4 := (Option.some.inj (Tryd.func4.symm.trans hfn)).symm
      exact ⟨by kernel_rfl, fun j t ht => by
        rw [Tryd.params4] at ht
        have hm : t ∈ [24, 31, 3, 4] := by simpa using Array.mem_of_getElem? ht
        have hall : ([24, 31, 3, 4].all fun u => !Tryd.prog.wantsStandIn u) = true := by kernel_rfl
        exact (show Tryd.prog.wantsStandIn t = false by simpa using List.all_eq_true.1 hall t hm)⟩)
    (by kernel_rfl)
#print axioms proved
end Go.Proofs.YtjhdpnjlphpboaaDoor.fnWriteFlat2
namespace Go.Proofs.YtjhdpnjlphpboaaDoor
/-- The row, under a short name, for the claim. -/
theorem fnWriteFlat2_holds : Rows.FnWriteFlat2CardSaid := fnWriteFlat2.proved
end Go.Proofs.YtjhdpnjlphpboaaDoor
