/- Struct values are compared field by field; min and max of floats. -/
import Derived.Test.YtbgdonedjgkhiaaVmDraw
import Derived.Laws.StructEq
import Derived.BigFrame
import Derived.ChangeKeysEq
namespace Go.Vm
set_option linter.unusedVariables false
set_option linter.unusedSimpArgs false

def eq1 (k : TypeDesc) (xs ys : List Value) : Option Bool := match k, xs, ys with
  | .bool, [.bool a], [.bool b] => some (a == b)
  | .int k, [.int j a], [.int l b] => if j = k ∧ l = k then some (decide (a = b)) else none
  | .float .f64, [.float .f64 a], [.float .f64 b] => some (feq a b)
  | _, _, _ => none
def and2 : Option Bool → Option Bool → Option Bool
  | some a, some b => some (a && b)
  | _, _ => none
/-- Are the cells those of equal values of type t? -/
def eqT (P : Program) : Nat → TypeId → List Value → List Value → Option Bool
  | 0, _, _, _ => none
  | n + 1, t, xs, ys => match P.underlying t with
    | some (.struct fs) => if P.stoodInHeld t = true then none else
        fs.toList.foldr (fun f r => if f.name ≠ "_" then
          match sizeT P f.type with
          | some s => and2 (eqT P n f.type ((xs.drop f.offset).take s) ((ys.drop f.offset).take s)) r
          | none => none
        else r) (some true)
    | some (.array len e) => match sizeT P e with
        | some s => (List.range len).foldr (fun i r => and2 (eqT P n e ((xs.drop (i * s)).take s) ((ys.drop (i * s)).take s)) r) (some true)
        | none => none
    | some k => eq1 k xs ys
    | none => none

def valT (P : Program) (t : TypeId) (xs : List Value) : Value := if aggT P t = some true then .agg xs.toArray else xs.getD 0 undef

theorem eq1_one {k : TypeDesc} {xs ys : List Value} {b : Bool} (h : eq1 k xs ys = some b) : (∃ x, xs = [x]) ∧ (∃ y, ys = [y]) := by
  unfold eq1 at h
  split at h <;> first | exact ⟨⟨_, rfl⟩, _, rfl⟩ | cases h
theorem eqT_one {P : Program} {n : Nat} {t : TypeId} {xs ys : List Value} {b c : Bool} (h : eqT P n t xs ys = some b) (ha : aggT P t = some c) : c = true ∨ ((∃ x, xs = [x]) ∧ (∃ y, ys = [y])) := by
  cases n with
  | zero => cases h
  | succ n =>
    unfold eqT at h
    unfold aggT at ha
    split at h
    · rename_i fs hu; rw [hu] at ha; cases ha; exact .inl rfl
    · rename_i len e hu; rw [hu] at ha; cases ha; exact .inl rfl
    · exact .inr (eq1_one h)
    · cases h

theorem run_part {P : Program} {t : TypeId} {s off : Nat} {b : Bool} (ha : aggT P t = some b) (hs : sizeT P t = some s) {xs : List Value} (hb : b = true ∨ ∃ x, (xs.drop off).take s = [x]) (w : World) :
    (part t xs.toArray off).run P w = .ok (valT P t ((xs.drop off).take s)) w := by
  unfold part valT
  simp only [Sem.run_bind, run_isAgg ha, Result.andThen_ok, Sem.run_ite]
  cases b with
  | true =>
    simp only [if_true, Sem.run_bind, run_sizeOf hs, Result.andThen_ok, Sem.run_pure, ha]
    congr 2
    simp [List.extract_eq_take_drop]
  | false =>
    rcases hb with hb | ⟨x, hx⟩
    · cases hb
    · have : xs[off]? = some x := by
        have h0 : ((xs.drop off).take s)[0]? = some x := by rw [hx]; rfl
        rw [List.getElem?_take] at h0
        split at h0
        · simpa using h0
        · cases h0
      simp [ha, hx, this]

theorem run_eqT {P : Program} : ∀ (n : Nat) (t : TypeId) (xs ys : List Value) (b : Bool), eqT P n t xs ys = some b → ∀ (m : Nat) (w : World), (Op.equalIn (m + n) t (valT P t xs) (valT P t ys)).run P w = .ok b w := by
  intro n
  induction n with
  | zero => intro t xs ys b h; cases h
  | succ n ih =>
    intro t xs ys b h m w
    unfold eqT at h
    split at h
    · rename_i fs hu
      split at h
      · cases h
      · rename_i hst
        have hfs : P.fieldsOf t = fs := by simp [Program.fieldsOf, hu]
        have hag : aggT P t = some true := by unfold aggT; rw [hu]
        unfold valT
        rw [if_pos hag, if_pos hag, show m + (n + 1) = (m + n) + 1 from rfl, run_equalIn_struct w (m + n) t _ _ (by rw [hfs]; exact hu) (by simpa using hst), hfs]
        clear hu hfs
        generalize fs.toList = l at h
        induction l generalizing b w with
        | nil => cases h; rfl
        | cons f l ihl =>
          simp only [List.foldr_cons] at h
          unfold Op.eqFields
          split at h
          · rename_i hn
            rw [if_pos hn]
            split at h
            · rename_i s hs
              unfold and2 at h
              split at h
              · rename_i p q hp hq
                cases h
                have hagg : ∃ c, aggT P f.type = some c := by
                  cases n with
                  | zero => cases hp
                  | succ n =>
                    unfold eqT at hp
                    unfold aggT
                    split at hp
                    · rename_i fs hu; rw [hu]; exact ⟨_, rfl⟩
                    · rename_i l2 e2 hu; rw [hu]; exact ⟨_, rfl⟩
                    · rename_i k hk hk2 hu; rw [hu]; cases k <;> exact ⟨_, rfl⟩
                    · cases hp
                obtain ⟨c, hc⟩ := hagg
                have h1 := eqT_one hp hc
                simp only [Sem.run_bind]
                rw [run_part hc hs (h1.imp id (·.1)), Result.andThen_ok, run_part hc hs (h1.imp id (·.2)), Result.andThen_ok, ih _ _ _ _ hp m w, Result.andThen_ok, Sem.run_ite]
                cases p with
                | false => rfl
                | true => simpa using ihl q w hq
              · cases h
            · cases h
          · rename_i hn
            rw [if_neg hn]
            exact ihl b w h
    · rename_i len e hu
      have hag : aggT P t = some true := by unfold aggT; rw [hu]
      split at h
      · rename_i s hs
        obtain ⟨i, hi⟩ : ∃ i, P.info? e = some i := by
          unfold sizeT at hs
          cases hq : P.info? e with
          | none => rw [hq] at hs; cases hs
          | some i => exact ⟨i, rfl⟩
        have hce : P.cellsOf e = s := by
          unfold sizeT at hs
          rw [hi] at hs
          cases hs
          simp [Program.cellsOf, hi]
        unfold valT
        rw [if_pos hag, if_pos hag, show m + (n + 1) = (m + n) + 1 from rfl, run_equalIn_array w (m + n) _ _ hu hi, hce]
        clear hu hi hce
        generalize List.range len = l at h
        induction l generalizing b w with
        | nil => cases h; rfl
        | cons j l ihl =>
          simp only [List.foldr_cons] at h
          unfold Op.eqItems
          unfold and2 at h
          split at h
          · rename_i p q hp hq
            cases h
            have hagg : ∃ c, aggT P e = some c := by
              cases n with
              | zero => cases hp
              | succ n =>
                unfold eqT at hp
                unfold aggT
                split at hp
                · rename_i fs hu; rw [hu]; exact ⟨_, rfl⟩
                · rename_i l2 e2 hu; rw [hu]; exact ⟨_, rfl⟩
                · rename_i k hk hk2 hu; rw [hu]; cases k <;> exact ⟨_, rfl⟩
                · cases hp
            obtain ⟨c, hc⟩ := hagg
            have h1 := eqT_one hp hc
            simp only [Sem.run_bind]
            rw [run_part hc hs (h1.imp id (·.1)), Result.andThen_ok, run_part hc hs (h1.imp id (·.2)), Result.andThen_ok, ih _ _ _ _ hp m w, Result.andThen_ok, Sem.run_ite]
            cases p with
            | false => rfl
            | true => simpa using ihl q w hq
          · cases h
      · cases h
    · rename_i k hk hk2 hu
      have hag : aggT P t ≠ some true := by
        intro ha
        unfold aggT at ha
        rw [hu] at ha
        cases k <;> first | (cases ha; done) | exact hk _ rfl | exact hk2 _ _ rfl | (simp [eq1] at h; done)
      unfold valT
      rw [if_neg hag, if_neg hag]
      unfold eq1 at h
      split at h
      · cases h; exact run_equalIn_bool' w (m + n) t _ _ hu
      · split at h
        · rename_i hkk; obtain ⟨rfl, rfl⟩ := hkk; cases h
          show (Op.equalIn ((m + n) + 1) t _ _).run P w = _
          rw [List.getD_cons_zero, List.getD_cons_zero, run_equalIn_int w (m + n) t _ _ _ _ hu]
          congr 1
        · cases h
      · cases h
        show (Op.equalIn ((m + n) + 1) t _ _).run P w = _
        simp [Op.equalIn, run_underlying hu]
        rfl
      · cases h
    · cases h

/-- The cells of a struct of plain values. -/
def plD : D → Option Value
  | .v v => some v
  | _ => none
def plS : SV → Option Value
  | .d (.v v) => some v
  | _ => none
def flatA : SV → Option (List Value)
  | .d (.ag l) => mapO plD l
  | .ag l => mapO plS l
  | _ => none
theorem flatA_rep {w : World} {ok : Nat → Prop} {Ω : List Value} {x : SV} {xs : List Value} {v : Value} (hx : flatA x = some xs) (hr : RepS w ok Ω x v) : v = .agg xs.toArray := by
  unfold flatA at hx
  split at hx
  · rename_i l
    cases hr with
    | d _ _ hd =>
      cases hd with
      | ag _ vs hl hrr =>
        obtain ⟨h1, h2⟩ := mapO_get hx
        congr 2
        refine List.ext_getElem? fun i => ?_
        by_cases hi : i < l.length
        · have e1 : l[i]? = some l[i] := List.getElem?_eq_getElem hi
          have e2 : vs[i]? = some (vs[i]'(by omega)) := List.getElem?_eq_getElem _
          have e3 : xs[i]? = some (xs[i]'(by omega)) := List.getElem?_eq_getElem _
          have := h2 i _ _ e1 e3
          have hrep := hrr i _ _ e1 e2
          rw [e2, e3]
          unfold plD at this
          split at this
          · rename_i u hu
            cases this
            rw [hu] at hrep
            rw [hrep.valv]
          · cases this
        · rw [List.getElem?_eq_none (by omega), List.getElem?_eq_none (by omega)]
  · rename_i l
    cases hr with
    | ag _ vs hl hrr =>
      obtain ⟨h1, h2⟩ := mapO_get hx
      congr 2
      refine List.ext_getElem? fun i => ?_
      by_cases hi : i < l.length
      · have e1 : l[i]? = some l[i] := List.getElem?_eq_getElem hi
        have e2 : vs[i]? = some (vs[i]'(by omega)) := List.getElem?_eq_getElem _
        have e3 : xs[i]? = some (xs[i]'(by omega)) := List.getElem?_eq_getElem _
        have := h2 i _ _ e1 e3
        have hrep := hrr i _ _ e1 e2
        rw [e2, e3]
        unfold plS at this
        split at this
        · rename_i u hu
          cases this
          rw [hu] at hrep
          rw [hrep.val]
        · cases this
      · rw [List.getElem?_eq_none (by omega), List.getElem?_eq_none (by omega)]
  · cases hx

section
variable {C : Ctx} {Q : Exit → St → Prop} {ops : Array Oper} {rest : List Oper} {o : Oper} {e : List (Nat × SV)} {obs : List Ob} {d : Nat} {t ty : TypeId} {x y : Operand}
theorem AOp.seql {n : Nat} {xs ys : List Value} {b : Bool} (ho : o.op = .binOp .eql t x y ty) (hd : o.dst = some d) (hn : d < C.n) (hx : (opS ⟨e, obs⟩ x).bind flatA = some xs) (hy : (opS ⟨e, obs⟩ y).bind flatA = some ys)
    (ha : aggT C.P t = some true) (hg : C.P.eqGuardType C.P.depth t = false) (hnn : n ≤ 10000) (hE : eqT C.P n t xs ys = some b)
    (h : AO C ops rest ⟨(d, .d (dbool b)) :: e, obs⟩ Q) : AOp C ops rest o ⟨e, obs⟩ Q :=
  AOp.value hd hn (fun Ω a w hr => ⟨.bool b, by
    rw [Option.bind_eq_some_iff] at hx hy
    obtain ⟨sx, hx1, hx2⟩ := hx
    obtain ⟨sy, hy1, hy2⟩ := hy
    have h1 := flatA_rep hx2 (hr.eval hx1)
    have h2 := flatA_rep hy2 (hr.eval hy1)
    have hrun := run_eqT n t xs ys b hE (10000 - n) w
    unfold valT at hrun
    rw [if_pos ha, if_pos ha, show 10000 - n + n = 10000 by omega] at hrun
    simp only [execOp, ho, h1, h2, Sem.run_bind, run_eqGuard_agg w _ _ _ _ _ _ hg, Result.andThen_ok, run_eql_struct, hrun, Sem.run_pure], .d _ _ (.v _)⟩) h
theorem AOp.sneq {n : Nat} {xs ys : List Value} {b : Bool} (ho : o.op = .binOp .neq t x y ty) (hd : o.dst = some d) (hn : d < C.n) (hx : (opS ⟨e, obs⟩ x).bind flatA = some xs) (hy : (opS ⟨e, obs⟩ y).bind flatA = some ys)
    (ha : aggT C.P t = some true) (hg : C.P.eqGuardType C.P.depth t = false) (hnn : n ≤ 10000) (hE : eqT C.P n t xs ys = some b)
    (h : AO C ops rest ⟨(d, .d (dbool (!b))) :: e, obs⟩ Q) : AOp C ops rest o ⟨e, obs⟩ Q :=
  AOp.value hd hn (fun Ω a w hr => ⟨.bool (!b), by
    rw [Option.bind_eq_some_iff] at hx hy
    obtain ⟨sx, hx1, hx2⟩ := hx
    obtain ⟨sy, hy1, hy2⟩ := hy
    have h1 := flatA_rep hx2 (hr.eval hx1)
    have h2 := flatA_rep hy2 (hr.eval hy1)
    have hrun := run_eqT n t xs ys b hE (10000 - n) w
    unfold valT at hrun
    rw [if_pos ha, if_pos ha, show 10000 - n + n = 10000 by omega] at hrun
    simp only [execOp, ho, h1, h2, Sem.run_bind, run_eqGuard_agg w _ _ _ _ _ _ hg, Result.andThen_ok, run_neq_struct, hrun, Sem.run_pure], .d _ _ (.v _)⟩) h

/-- min and max of two floats of which neither is no number. -/
def bmin (a b : Nat) : Nat := match FloatKind.f64.format.order a b with
  | some .lt => a
  | some .gt => b
  | _ => if (FloatKind.f64.decode a).neg then a else b
def bmax (a b : Nat) : Nat := match FloatKind.f64.format.order a b with
  | some .lt => b
  | some .gt => a
  | _ => if (FloatKind.f64.decode a).neg then b else a
theorem run_fmin {P : Program} {a b : Nat} (hm : (FloatKind.f64.format.order a b).isSome = true) (ts : Array TypeId) (t : TypeId) (w : World) :
    (Builtin.min_ ts t #[.float .f64 a, .float .f64 b]).run P w = .ok (.float .f64 (bmin a b)) w := by
  unfold bmin
  cases ho' : FloatKind.f64.format.order a b with
  | none => rw [ho'] at hm; cases hm
  | some r => cases r <;> simp [Builtin.min_, Builtin.min2, ho']
theorem AOp.fmin {a b : Nat} {ts : Array TypeId} (ho : o.op = .call { callee := .builtin .min, args := #[x, y], argTypes := ts }) (hd : o.dst = some d) (hn : d < C.n)
    (hx : opS ⟨e, obs⟩ x = some (.d (dfl a))) (hy : opS ⟨e, obs⟩ y = some (.d (dfl b))) (hm : (FloatKind.f64.format.order a b).isSome = true)
    (h : AO C ops rest ⟨(d, .d (dfl (bmin a b))) :: e, obs⟩ Q) : AOp C ops rest o ⟨e, obs⟩ Q :=
  AOp.value hd hn (fun Ω a' w hr => ⟨.float .f64 (bmin a b), by simp [execOp, ho, hr.evalV hx, hr.evalV hy, resolve, invoke, builtin, run_fmin hm], .d _ _ (.v _)⟩) h
theorem run_imin {P : Program} {k : IntKind} {a b : Int} (ts : Array TypeId) (t : TypeId) (w : World) :
    (Builtin.min_ ts t #[.int k a, .int k b]).run P w = .ok (.int k (if b < a then b else a)) w := by
  simp [Builtin.min_, Builtin.min2]
theorem AOp.imin {k : IntKind} {a b : Int} {ts : Array TypeId} (ho : o.op = .call { callee := .builtin .min, args := #[x, y], argTypes := ts }) (hd : o.dst = some d) (hn : d < C.n)
    (hx : opS ⟨e, obs⟩ x = some (.d (di k a))) (hy : opS ⟨e, obs⟩ y = some (.d (di k b)))
    (h : AO C ops rest ⟨(d, .d (di k (if b < a then b else a))) :: e, obs⟩ Q) : AOp C ops rest o ⟨e, obs⟩ Q :=
  AOp.value hd hn (fun Ω a' w hr => ⟨_, by simp [execOp, ho, hr.evalV hx, hr.evalV hy, resolve, invoke, builtin, run_imin], .d _ _ (.v _)⟩) h
theorem run_fmax {P : Program} {a b : Nat} (hm : (FloatKind.f64.format.order a b).isSome = true) (ts : Array TypeId) (t : TypeId) (w : World) :
    (Builtin.max_ ts t #[.float .f64 a, .float .f64 b]).run P w = .ok (.float .f64 (bmax a b)) w := by
  unfold bmax
  cases ho' : FloatKind.f64.format.order a b with
  | none => rw [ho'] at hm; cases hm
  | some r => cases r <;> simp [Builtin.max_, Builtin.max2, ho']
theorem AOp.fmax {a b : Nat} {ts : Array TypeId} (ho : o.op = .call { callee := .builtin .max, args := #[x, y], argTypes := ts }) (hd : o.dst = some d) (hn : d < C.n)
    (hx : opS ⟨e, obs⟩ x = some (.d (dfl a))) (hy : opS ⟨e, obs⟩ y = some (.d (dfl b))) (hm : (FloatKind.f64.format.order a b).isSome = true)
    (h : AO C ops rest ⟨(d, .d (dfl (bmax a b))) :: e, obs⟩ Q) : AOp C ops rest o ⟨e, obs⟩ Q :=
  AOp.value hd hn (fun Ω a' w hr => ⟨.float .f64 (bmax a b), by simp [execOp, ho, hr.evalV hx, hr.evalV hy, resolve, invoke, builtin, run_fmax hm], .d _ _ (.v _)⟩) h
theorem run_imax {P : Program} {k : IntKind} {a b : Int} (ts : Array TypeId) (t : TypeId) (w : World) :
    (Builtin.max_ ts t #[.int k a, .int k b]).run P w = .ok (.int k (if a < b then b else a)) w := by
  simp [Builtin.max_, Builtin.max2]
theorem AOp.imax {k : IntKind} {a b : Int} {ts : Array TypeId} (ho : o.op = .call { callee := .builtin .max, args := #[x, y], argTypes := ts }) (hd : o.dst = some d) (hn : d < C.n)
    (hx : opS ⟨e, obs⟩ x = some (.d (di k a))) (hy : opS ⟨e, obs⟩ y = some (.d (di k b)))
    (h : AO C ops rest ⟨(d, .d (di k (if a < b then b else a))) :: e, obs⟩ Q) : AOp C ops rest o ⟨e, obs⟩ Q :=
  AOp.value hd hn (fun Ω a' w hr => ⟨_, by simp [execOp, ho, hr.evalV hx, hr.evalV hy, resolve, invoke, builtin, run_imax], .d _ _ (.v _)⟩) h
end
end Go.Vm
