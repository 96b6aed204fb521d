/- The rules by which a function's code is gone through, over the view of the memory. -/
import Derived.Test.YtbgdonedjgkhiaaVmCore
namespace Go.Vm
set_option linter.unusedVariables false

def Lift (C : Ctx) (Q : Exit → St → Prop) : Exit → Act → World → Prop := fun e a w => ∃ s Ω, Rel C s Ω a w ∧ Q e s

/-- The code c, begun at s, ends as Q says. -/
def AC (C : Ctx) (c : Code) (s : St) (Q : Exit → St → Prop) : Prop := ∀ Ω a w, Rel C s Ω a w → c.wp C.P (Lift C Q) a w
/-- The operations l of a region. -/
def AO (C : Ctx) (ops : Array Oper) (l : List Oper) (s : St) (Q : Exit → St → Prop) : Prop := ∀ Ω a w, Rel C s Ω a w → wpList C.P ops (Lift C Q) l a w

def SeqQ (C : Ctx) (y : Code) (Q : Exit → St → Prop) : Exit → St → Prop
  | .normal, s => AC C y s Q
  | e, s => Q e s
def BlkQ (id : Nat) (Q : Exit → St → Prop) : Exit → St → Prop
  | .exit id', s => if id' = id then Q .normal s else Q (.exit id') s
  | e, s => Q e s
def LoopQ (ks : List Nat) (m : Nat) (Head : St → Prop) (Q : Exit → St → Prop) : Exit → St → Prop
  | .normal, s => ∃ r, keep ks s.env = some r ∧ keepOK m r (s.obs.take m) = true ∧ Head ⟨r, s.obs.take m⟩
  | e, s => Q e s

section
variable {C : Ctx} {s : St} {Q : Exit → St → Prop}

theorem AC.seq {x y : Code} (h : AC C x s (SeqQ C y Q)) : AC C (.seq x y) s Q := fun Ω a w hr =>
  wp_seq (wp_mono (h Ω a w hr) fun e a w ⟨s, Ω, hr, hq⟩ => by
    cases e with
    | normal => exact hq Ω a w hr
    | _ => exact ⟨s, Ω, hr, hq⟩)
theorem AC.skip (h : Q .normal s) : AC C .skip s Q := fun Ω _ _ hr => wp_skip ⟨s, Ω, hr, h⟩
theorem AC.ret (h : Q .ret s) : AC C .ret s Q := fun Ω _ _ hr => wp_ret ⟨s, Ω, hr, h⟩
theorem AC.exit {id : Nat} (h : Q (.exit id) s) : AC C (.exit id) s Q := fun Ω _ _ hr => wp_exit ⟨s, Ω, hr, h⟩
theorem AC.block {id : Nat} {c : Code} (h : AC C c s (BlkQ id Q)) : AC C (.block id c) s Q := fun Ω a w hr =>
  wp_block (wp_mono (h Ω a w hr) fun e a w ⟨s, Ω, hr, hq⟩ => by
    cases e with
    | exit id' =>
      simp only [BlkQ] at hq
      simp only [Exit.inBlock]
      split
      · rename_i e; rw [if_pos e] at hq; exact ⟨s, Ω, hr, hq⟩
      · rename_i e; rw [if_neg e] at hq; exact ⟨s, Ω, hr, hq⟩
    | _ => exact ⟨s, Ω, hr, hq⟩)
theorem AC.region {id : Nat} {l : List Oper} (h : AO C l.toArray l s Q) : AC C (.region id l.toArray false) s Q := fun Ω a w hr => wp_region_lit (h Ω a w hr)
theorem AO.nil {ops : Array Oper} (h : Q .normal s) : AO C ops [] s Q := fun Ω _ _ hr => wpList_nil ⟨s, Ω, hr, h⟩

/-- What an operand stands for. -/
def opS (s : St) : Operand → Option SV
  | .tmp t => get s.env t
  | .const v => some (.d (.v v))
  | .global g => some (.d (.v (.pointer (some ⟨g, 0, none⟩))))
  | .func f => some (.d (.v (.func (.func f) #[] #[])))

theorem Rel.eval {Ω : List Value} {a : Act} {w : World} (h : Rel C s Ω a w) {x : Operand} {sv : SV} (hx : opS s x = some sv) : RepS w (okB C s.obs Ω w) Ω sv (a.eval x) := by
  cases x with
  | tmp t =>
    obtain ⟨v, hv, hr⟩ := h.env t sv hx
    have : a.eval (.tmp t) = v := by simp [Act.eval, Array.getD_eq_getD_getElem?, hv]
    rw [this]; exact hr
  | const v => cases hx; exact .d _ _ (.v v)
  | global g => cases hx; exact .d _ _ (.v _)
  | func f => cases hx; exact .d _ _ (.v _)

theorem RepS.val {w : World} {ok : Nat → Prop} {Ω : List Value} {x v : Value} (h : RepS w ok Ω (.d (.v x)) v) : v = x := by
  cases h with | d _ _ h => cases h; rfl

theorem Rel.evalV {Ω : List Value} {a : Act} {w : World} (h : Rel C s Ω a w) {x : Operand} {v : Value} (hx : opS s x = some (.d (.v v))) : a.eval x = v := (h.eval hx).val

theorem AC.cond {c : Operand} {x y : Code} {b : Bool} (hc : opS s c = some (.d (.v (.bool b)))) (ht : b = true → AC C x s Q) (hf : b = false → AC C y s Q) : AC C (.cond c x y) s Q :=
  fun Ω a w hr => wp_cond_split (hr.evalV hc) (fun e => ht e Ω a w hr) (fun e => hf e Ω a w hr)

theorem AC.condT {c : Operand} {x y : Code} {b : Bool} (hc : opS s c = some (.d (.v (.bool b)))) (hb : b = true) (h : AC C x s Q) : AC C (.cond c x y) s Q :=
  fun Ω a w hr => by subst hb; exact wp_cond_true (hr.evalV hc) (h Ω a w hr)
theorem AC.condF {c : Operand} {x y : Code} {b : Bool} (hc : opS s c = some (.d (.v (.bool b)))) (hb : b = false) (h : AC C y s Q) : AC C (.cond c x y) s Q :=
  fun Ω a w hr => by subst hb; exact wp_cond_false (hr.evalV hc) (h Ω a w hr)

/-- A loop over states st g. -/
theorem AC.loop {G : Type} (ks : List Nat) (m : Nat) (st : G → St) (inv : G → Prop) (μ : G → Nat) (g0 : G) {c : Code} {r0 : List (Nat × SV)}
    (hk : keep ks s.env = some r0) (hb : keepOK m r0 (s.obs.take m) = true) (h0 : (⟨r0, s.obs.take m⟩ : St) = st g0) (hi : inv g0)
    (round : ∀ g, inv g → AC C c (st g) (LoopQ ks m (fun s' => ∃ g', s' = st g' ∧ inv g' ∧ μ g' < μ g) Q)) : AC C (.loop c) s Q := by
  have key : ∀ n g, μ g = n → inv g → ∀ Ω a w, Rel C (st g) Ω a w → ∀ b k cs,
      ∃ e a' w', Lift C Q e a' w' ∧ Arrives C.P (lone (b.at a (.code c :: .inLoop c :: k)) cs w) b k cs e a' w' := by
    intro n
    induction n using Nat.strongRecOn with
    | _ n ih =>
      intro g hn hg Ω a w hr b k cs
      obtain ⟨e, a₁, w₁, ⟨s₁, Ω₁, hr₁, hq⟩, harr⟩ := round g hg Ω a w hr b (.inLoop c :: k) cs
      cases e with
      | normal =>
        obtain ⟨r, hkr, hbr, g', he, hg', hlt⟩ := hq
        have hr₂ := hr₁.keep hkr hbr
        rw [he] at hr₂
        obtain ⟨e₂, a₂, w₂, hq₂, harr₂⟩ := ih (μ g') (hn ▸ hlt) g' rfl hg' _ _ _ hr₂ b k cs
        exact ⟨e₂, a₂, w₂, hq₂, .of_steps (Steps.trans harr (.one step_inLoop)) harr₂⟩
      | exit id => exact ⟨_, a₁, w₁, ⟨s₁, Ω₁, hr₁, hq⟩, .pass (x := .inLoop c) rfl (fun _ _ => .inl (by simp)) harr⟩
      | goto l => exact ⟨_, a₁, w₁, ⟨s₁, Ω₁, hr₁, hq⟩, .pass (x := .inLoop c) rfl (fun _ _ => .inl (by simp)) harr⟩
      | ret => exact ⟨_, a₁, w₁, ⟨s₁, Ω₁, hr₁, hq⟩, .pass (x := .inLoop c) rfl (fun _ _ => .inl (by simp)) harr⟩
      | panic ch => exact ⟨_, a₁, w₁, ⟨s₁, Ω₁, hr₁, hq⟩, .pass (x := .inLoop c) rfl (fun _ _ => .inl (by simp)) harr⟩
      | outgrown => exact ⟨_, a₁, w₁, ⟨s₁, Ω₁, hr₁, hq⟩, .pass (x := .inLoop c) rfl (fun _ _ => .inl (by simp)) harr⟩
  intro Ω a w hr b k cs
  have hr0 := hr.keep hk hb
  rw [h0] at hr0
  obtain ⟨e, a', w', hq, harr⟩ := key _ g0 rfl hi _ a w hr0 b k cs
  exact ⟨e, a', w', hq, .of_steps (.one step_loop) harr⟩

/-- A loop: cenv: what stays; venv: what turns. -/
def LoopV {G : Type} (ksC ksV : List Nat) (m : Nat) (cenv : List (Nat × SV)) (venv : G → List (Nat × SV)) (ob : G → List Ob) (inv : G → Prop) (μ : G → Nat) (n : Nat) (Q : Exit → St → Prop) : Exit → St → Prop
  | .normal, s => Vm.keep ksC s.env = some cenv ∧ ∃ g', Vm.keep ksV s.env = some (venv g') ∧ s.obs.take m = ob g' ∧ keepOK m (cenv ++ venv g') (ob g') = true ∧ inv g' ∧ μ g' < n
  | e, s => Q e s
theorem keep_append {ks ls : List Nat} {e r q : List (Nat × SV)} (h1 : Vm.keep ks e = some r) (h2 : Vm.keep ls e = some q) : Vm.keep (ks ++ ls) e = some (r ++ q) := by
  induction ks generalizing r with
  | nil => cases h1; exact h2
  | cons k ks ih =>
    simp only [Vm.keep] at h1
    split at h1
    · rename_i x hx
      split at h1
      · rename_i t ht
        cases h1
        simp only [List.cons_append, Vm.keep, hx, ih ht]
      · cases h1
    · cases h1
theorem AC.loopV {G : Type} (ksC ksV : List Nat) (m : Nat) (venv : G → List (Nat × SV)) (ob : G → List Ob) (inv : G → Prop) (μ : G → Nat) (g0 : G) {c : Code} {cenv : List (Nat × SV)}
    (hC : Vm.keep ksC s.env = some cenv) (hV : Vm.keep ksV s.env = some (venv g0)) (hO : s.obs.take m = ob g0) (hb : keepOK m (cenv ++ venv g0) (ob g0) = true) (hi : inv g0)
    (round : ∀ g, inv g → AC C c ⟨cenv ++ venv g, ob g⟩ (LoopV ksC ksV m cenv venv ob inv μ (μ g) Q)) : AC C (.loop c) s Q :=
  AC.loop (ksC ++ ksV) m (fun g => ⟨cenv ++ venv g, ob g⟩) inv μ g0 (keep_append hC hV) (by rw [hO]; exact hb) (by rw [hO]) hi (fun g hg Ω a w hr => wp_mono (round g hg Ω a w hr) fun ed a w ⟨s', Ω', hr', hq⟩ => ⟨s', Ω', hr', by
    cases ed with
    | normal =>
      obtain ⟨h1, g', h2, h3, h4, h5, h6⟩ := hq
      exact ⟨_, keep_append h1 h2, by rw [h3]; exact h4, g', by rw [h3], h5, h6⟩
    | _ => exact hq⟩)

/-- Slots are forgotten ahead of a piece of code. -/
theorem AC.keep (ks : List Nat) (m : Nat) {c : Code} {r : List (Nat × SV)} (hk : Vm.keep ks s.env = some r) (hb : keepOK m r (s.obs.take m) = true) (h : AC C c ⟨r, s.obs.take m⟩ Q) : AC C c s Q :=
  fun Ω a w hr => h _ a w (hr.keep hk hb)

/-! ### Operations -/
variable {ops : Array Oper} {rest : List Oper} {o : Oper}

/-- One operation, ahead of the others. -/
def AOp (C : Ctx) (ops : Array Oper) (rest : List Oper) (o : Oper) (s : St) (Q : Exit → St → Prop) : Prop :=
  ∀ Ω a w, Rel C s Ω a w → o.wp C.P a w (wpList C.P ops (Lift C Q) rest) (Lift C Q)

theorem AO.op (hg : o.guard = none) (h : AOp C ops rest o s Q) : AO C ops (o :: rest) s Q := fun Ω a w hr => by
  unfold wpList
  rw [if_pos (by simp [Region.wanted, hg])]
  exact .inl (h Ω a w hr)

theorem wanted_eq {a : Act} {j : Nat} {want b : Bool} (hg : o.guard = some (j, want)) {dj : Nat} (hj : ((ops[j]?).bind (·.dst)) = some dj) (hv : a.tmps[dj]? = some (.bool b)) :
    Region.wanted o (yielded ops a.tmps) = (b == want) := by
  unfold Region.wanted
  rw [hg]
  simp only [yielded, hj, Option.bind_some, hv]
  cases b <;> cases want <;> rfl

/-- A guarded operation: done, or passed over. -/
theorem AO.guard {e : List (Nat × SV)} {obs : List Ob} {j dj d : Nat} {want b : Bool} (hg : o.guard = some (j, want)) (hj : ((ops[j]?).bind (·.dst)) = some dj) (hd : o.dst = some d) (hn : d < C.n)
    (hx : get e dj = some (.d (.v (.bool b)))) (hyes : b = want → AOp C ops rest o ⟨e, obs⟩ Q) (hno : b = (!want) → AO C ops rest ⟨(d, .d (.v undef)) :: e, obs⟩ Q) : AO C ops (o :: rest) ⟨e, obs⟩ Q := fun Ω a w hr => by
  obtain ⟨v, hv, hrep⟩ := hr.env dj _ hx
  have hvb := hrep.val
  subst hvb
  unfold wpList
  rw [wanted_eq hg hj hv]
  by_cases hb : b = want
  · rw [if_pos (by simp [hb])]
    exact .inl (hyes hb Ω a w hr)
  · rw [if_neg (by simp [hb]), hd]
    exact hno (by cases b <;> cases want <;> simp_all) Ω _ w (hr.put hn (.d _ _ (.v _)))
theorem AO.guard0 {e : List (Nat × SV)} {obs : List Ob} {j dj : Nat} {want b : Bool} (hg : o.guard = some (j, want)) (hj : ((ops[j]?).bind (·.dst)) = some dj) (hd : o.dst = none)
    (hx : get e dj = some (.d (.v (.bool b)))) (hyes : b = want → AOp C ops rest o ⟨e, obs⟩ Q) (hno : b = (!want) → AO C ops rest ⟨e, obs⟩ Q) : AO C ops (o :: rest) ⟨e, obs⟩ Q := fun Ω a w hr => by
  obtain ⟨v, hv, hrep⟩ := hr.env dj _ hx
  have hvb := hrep.val
  subst hvb
  unfold wpList
  rw [wanted_eq hg hj hv]
  by_cases hb : b = want
  · rw [if_pos (by simp [hb])]
    exact .inl (hyes hb Ω a w hr)
  · rw [if_neg (by simp [hb]), hd]
    exact hno (by cases b <;> cases want <;> simp_all) Ω _ w hr

/-- An operation that gives a value (the memory may turn). -/
theorem AOp.step {e e1 : List (Nat × SV)} {obs obs1 : List Ob} {d : Nat} {x : SV} (hd : o.dst = some d) (hn : d < C.n)
    (hv : ∀ Ω a w, Rel C ⟨e, obs⟩ Ω a w → ∃ v w' Ω', (execOp a.eval o).run C.P w = .ok (.value v) w' ∧ Rel C ⟨e1, obs1⟩ Ω' a w' ∧ RepS w' (okB C obs1 Ω' w') Ω' x v)
    (h : AO C ops rest ⟨(d, x) :: e1, obs1⟩ Q) : AOp C ops rest o ⟨e, obs⟩ Q := fun Ω a w hr => by
  obtain ⟨v, w', Ω', hrun, hr', hrep⟩ := hv Ω a w hr
  unfold Oper.wp
  rw [hrun, Oper.upon_value, hd]
  exact h Ω' _ w' (hr'.put hn hrep)
theorem AOp.skip {e e1 : List (Nat × SV)} {obs obs1 : List Ob} (hd : o.dst = none)
    (hv : ∀ Ω a w, Rel C ⟨e, obs⟩ Ω a w → ∃ w' Ω', (execOp a.eval o).run C.P w = .ok .skip w' ∧ Rel C ⟨e1, obs1⟩ Ω' a w')
    (h : AO C ops rest ⟨e1, obs1⟩ Q) : AOp C ops rest o ⟨e, obs⟩ Q := fun Ω a w hr => by
  obtain ⟨w', Ω', hrun, hr'⟩ := hv Ω a w hr
  unfold Oper.wp
  rw [hrun, Oper.upon_skip, hd]
  exact h Ω' _ w' hr'
theorem AOp.value {e : List (Nat × SV)} {obs : List Ob} {d : Nat} {x : SV} (hd : o.dst = some d) (hn : d < C.n)
    (hv : ∀ Ω a w, Rel C ⟨e, obs⟩ Ω a w → ∃ v, (execOp a.eval o).run C.P w = .ok (.value v) w ∧ RepS w (okB C obs Ω w) Ω x v)
    (h : AO C ops rest ⟨(d, x) :: e, obs⟩ Q) : AOp C ops rest o ⟨e, obs⟩ Q :=
  AOp.step hd hn (fun Ω a w hr => let ⟨v, h1, h2⟩ := hv Ω a w hr; ⟨v, w, Ω, h1, hr, h2⟩) h

variable {e : List (Nat × SV)} {obs : List Ob} {d : Nat}

theorem AOp.move {x : Operand} {sv : SV} (ho : o.op = .move x) (hd : o.dst = some d) (hn : d < C.n) (hx : opS ⟨e, obs⟩ x = some sv) (h : AO C ops rest ⟨(d, sv) :: e, obs⟩ Q) : AOp C ops rest o ⟨e, obs⟩ Q :=
  AOp.value hd hn (fun _ a w hr => ⟨a.eval x, by simp only [execOp, ho]; rfl, hr.eval hx⟩) h
theorem AOp.assign {x : Operand} {sv : SV} (ho : o.op = .assign x) (hd : o.dst = some d) (hn : d < C.n) (hx : opS ⟨e, obs⟩ x = some sv) (h : AO C ops rest ⟨(d, sv) :: e, obs⟩ Q) : AOp C ops rest o ⟨e, obs⟩ Q :=
  AOp.value hd hn (fun _ a w hr => ⟨a.eval x, by simp only [execOp, ho]; rfl, hr.eval hx⟩) h

/-- Small numbers are compared by looking. -/
theorem ltb {a b : Nat} (h : Nat.blt a b = true) : a < b := by simpa [Nat.blt_eq] using h
theorem leb {a b : Nat} (h : Nat.ble a b = true) : a ≤ b := Nat.le_of_ble_eq_true h

theorem AO.guardY {j dj : Nat} {want b : Bool} (hg : o.guard = some (j, want)) (hj : ((ops[j]?).bind (·.dst)) = some dj)
    (hx : get e dj = some (.d (.v (.bool b)))) (hb : b = want) (hyes : AOp C ops rest o ⟨e, obs⟩ Q) : AO C ops (o :: rest) ⟨e, obs⟩ Q := fun Ω a w hr => by
  obtain ⟨v, hv, hrep⟩ := hr.env dj _ hx
  have hvb := hrep.val
  subst hvb
  unfold wpList
  rw [wanted_eq hg hj hv, if_pos (by simp [hb])]
  exact .inl (hyes Ω a w hr)
theorem AO.guardN {j dj : Nat} {want b : Bool} (hg : o.guard = some (j, want)) (hj : ((ops[j]?).bind (·.dst)) = some dj) (hd : o.dst = some d) (hn : d < C.n)
    (hx : get e dj = some (.d (.v (.bool b)))) (hb : b = (!want)) (hno : AO C ops rest ⟨(d, .d (.v undef)) :: e, obs⟩ Q) : AO C ops (o :: rest) ⟨e, obs⟩ Q := fun Ω a w hr => by
  obtain ⟨v, hv, hrep⟩ := hr.env dj _ hx
  have hvb := hrep.val
  subst hvb
  unfold wpList
  rw [wanted_eq hg hj hv, if_neg (by simp [hb]), hd]
  exact hno Ω _ w (hr.put hn (.d _ _ (.v _)))
theorem AO.guardN0 {j dj : Nat} {want b : Bool} (hg : o.guard = some (j, want)) (hj : ((ops[j]?).bind (·.dst)) = some dj) (hd : o.dst = none)
    (hx : get e dj = some (.d (.v (.bool b)))) (hb : b = (!want)) (hno : AO C ops rest ⟨e, obs⟩ Q) : AO C ops (o :: rest) ⟨e, obs⟩ Q := fun Ω a w hr => by
  obtain ⟨v, hv, hrep⟩ := hr.env dj _ hx
  have hvb := hrep.val
  subst hvb
  unfold wpList
  rw [wanted_eq hg hj hv, if_neg (by simp [hb]), hd]
  exact hno Ω _ w hr

/-- A guard looks at what was itself passed over. -/
theorem AO.guardU {j dj : Nat} {want : Bool} (hg : o.guard = some (j, want)) (hj : ((ops[j]?).bind (·.dst)) = some dj) (hd : o.dst = some d) (hn : d < C.n)
    (hx : get e dj = some (.d (.v undef))) (hno : AO C ops rest ⟨(d, .d (.v undef)) :: e, obs⟩ Q) : AO C ops (o :: rest) ⟨e, obs⟩ Q := fun Ω a w hr => by
  obtain ⟨v, hv, hrep⟩ := hr.env dj _ hx
  have hvb := hrep.val
  subst hvb
  have hw : Region.wanted o (yielded ops a.tmps) = false := by
    unfold Region.wanted
    rw [hg]
    simp [yielded, hj, hv, undef]
  unfold wpList
  rw [if_neg (by rw [hw]; simp), hd]
  exact hno Ω _ w (hr.put hn (.d _ _ (.v _)))
theorem AO.guardU0 {j dj : Nat} {want : Bool} (hg : o.guard = some (j, want)) (hj : ((ops[j]?).bind (·.dst)) = some dj) (hd : o.dst = none)
    (hx : get e dj = some (.d (.v undef))) (hno : AO C ops rest ⟨e, obs⟩ Q) : AO C ops (o :: rest) ⟨e, obs⟩ Q := fun Ω a w hr => by
  obtain ⟨v, hv, hrep⟩ := hr.env dj _ hx
  have hvb := hrep.val
  subst hvb
  have hw : Region.wanted o (yielded ops a.tmps) = false := by
    unfold Region.wanted
    rw [hg]
    simp [yielded, hj, hv, undef]
  unfold wpList
  rw [if_neg (by rw [hw]; simp), hd]
  exact hno Ω _ w hr

theorem AOp.pick {c x y : Operand} {sv : SV} {b : Bool} (ho : o.op = .pick c x y) (hd : o.dst = some d) (hn : d < C.n) (hc : opS ⟨e, obs⟩ c = some (.d (.v (.bool b)))) (hb : b = true) (hx : opS ⟨e, obs⟩ x = some sv)
    (h : AO C ops rest ⟨(d, sv) :: e, obs⟩ Q) : AOp C ops rest o ⟨e, obs⟩ Q :=
  AOp.value hd hn (fun _ a w hr => ⟨a.eval x, by subst hb; simp only [execOp, ho, hr.evalV hc]; rfl, hr.eval hx⟩) h
theorem AOp.pickN {c x y : Operand} {sv : SV} {b : Bool} (ho : o.op = .pick c x y) (hd : o.dst = some d) (hn : d < C.n) (hc : opS ⟨e, obs⟩ c = some (.d (.v (.bool b)))) (hb : b = false) (hx : opS ⟨e, obs⟩ y = some sv)
    (h : AO C ops rest ⟨(d, sv) :: e, obs⟩ Q) : AOp C ops rest o ⟨e, obs⟩ Q :=
  AOp.value hd hn (fun _ a w hr => ⟨a.eval y, by subst hb; simp only [execOp, ho, hr.evalV hc]; rfl, hr.eval hx⟩) h
theorem AOp.pickT {c x y : Operand} {sv : SV} (ho : o.op = .pick c x y) (hd : o.dst = some d) (hn : d < C.n) (hc : opS ⟨e, obs⟩ c = some (.d (.v (.bool true)))) (hx : opS ⟨e, obs⟩ x = some sv)
    (h : AO C ops rest ⟨(d, sv) :: e, obs⟩ Q) : AOp C ops rest o ⟨e, obs⟩ Q :=
  AOp.value hd hn (fun _ a w hr => ⟨a.eval x, by simp only [execOp, ho, hr.evalV hc]; rfl, hr.eval hx⟩) h
theorem AOp.pickF {c x y : Operand} {sv : SV} (ho : o.op = .pick c x y) (hd : o.dst = some d) (hn : d < C.n) (hc : opS ⟨e, obs⟩ c = some (.d (.v (.bool false)))) (hx : opS ⟨e, obs⟩ y = some sv)
    (h : AO C ops rest ⟨(d, sv) :: e, obs⟩ Q) : AOp C ops rest o ⟨e, obs⟩ Q :=
  AOp.value hd hn (fun _ a w hr => ⟨a.eval y, by simp only [execOp, ho, hr.evalV hc]; rfl, hr.eval hx⟩) h

/-- x op y on plain values. -/
theorem AOp.bin {b : BinOp} {t ty : TypeId} {x y : Operand} {u v r : Value} (ho : o.op = .binOp b t x y ty) (hd : o.dst = some d) (hn : d < C.n)
    (hx : opS ⟨e, obs⟩ x = some (.d (.v u))) (hy : opS ⟨e, obs⟩ y = some (.d (.v v))) (hg : eqGuard b t x y u v = pure ()) (hrun : ∀ w, (binOp b t u v).run C.P w = .ok r w)
    (h : AO C ops rest ⟨(d, .d (.v r)) :: e, obs⟩ Q) : AOp C ops rest o ⟨e, obs⟩ Q :=
  AOp.value hd hn (fun _ a w hr => ⟨r, by
    simp only [execOp, ho, hr.evalV hx, hr.evalV hy, hg, Sem.run_bind, Sem.run_pure, Result.andThen_ok, hrun w], .d _ _ (.v _)⟩) h
theorem AOp.un {b : UnOp} {t : TypeId} {x : Operand} {u r : Value} (ho : o.op = .unOp b t x) (hd : o.dst = some d) (hn : d < C.n)
    (hx : opS ⟨e, obs⟩ x = some (.d (.v u))) (hrun : ∀ w, (Op.unary b u).run C.P w = .ok r w)
    (h : AO C ops rest ⟨(d, .d (.v r)) :: e, obs⟩ Q) : AOp C ops rest o ⟨e, obs⟩ Q :=
  AOp.value hd hn (fun _ a w hr => ⟨r, by
    simp only [execOp, ho, hr.evalV hx, Sem.run_bind, Sem.run_pure, Result.andThen_ok, hrun w], .d _ _ (.v _)⟩) h
theorem AOp.conv {t ty : TypeId} {x : Operand} {u r : Value} (ho : o.op = .convert t ty x) (hd : o.dst = some d) (hn : d < C.n)
    (hx : opS ⟨e, obs⟩ x = some (.d (.v u))) (hrun : ∀ w, (convert t ty u).run C.P w = .ok r w)
    (h : AO C ops rest ⟨(d, .d (.v r)) :: e, obs⟩ Q) : AOp C ops rest o ⟨e, obs⟩ Q :=
  AOp.value hd hn (fun _ a w hr => ⟨r, by
    simp only [execOp, ho, hr.evalV hx, Sem.run_bind, Sem.run_pure, Result.andThen_ok, hrun w], .d _ _ (.v _)⟩) h

end
end Go.Vm
